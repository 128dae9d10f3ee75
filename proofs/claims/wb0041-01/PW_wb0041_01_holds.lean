import PyProof.Rows.All
import Wide.All
import OpenK.AllK
import Wide.FinOn
import PySem.Challenge.RW_wb0041_01
set_option Elab.async false

section
open PySem PySem.W PyProof.Rows
set_option maxRecDepth 100000
set_option maxHeartbeats 8000000
namespace Mine.PySem.W
/-- the library's head, the view of the text written as its kept lines; open_top, which names the head in full, takes this one inside namespace Mine -/
theorem holds_open {r : OpenRow} {q : Program} {loose : List Str} {Xt : Shared → Bool} {XP : (Str → Option Value) → Heap → Prop} {α : Type} {Yf : Shared → α} {Ya : World → α} {YP : World → Heap → Prop} {d : DefRec} {kwd : List (Str × Expr)} {N : Nat}
    (left : LeftO r.prog (view r.prog [1, 2, 4, 5, 6, 8, 9, 10, 11, 12, 14, 15, 16]) loose (fun s => xlAt (view r.prog [1, 2, 4, 5, 6, 8, 9, 10, 11, 12, 14, 15, 16]) [] s && recOk r.records s) Yf Ya N)
    (hY : ∀ w s, Yf s = Ya w → YP w s.heap) (hYk : ∀ w h h', YP w h → (∀ b o, h.get? b = some o → h'.get? b = some o) → YP w h')
    (hX : ∀ s, Xt s = true → XP (s.heap.nsMap mainGlobals) s.heap) (hXk : ∀ mg h h', XP mg h → (∀ b o, h.get? b = some o → h'.get? b = some o) → XP mg h')
    (hdef : defOf q r.name = some (d, kwd)) (hp : r.prog.theDef r.name = some (d.params, d.body, d.scope)) (hk : kwWritten? d.params.kwonlyargs d.params.kw_defaults = some kwd) (hRf : ∀ s, Xt s = true → RecFacts r.records s.heap) (hwr : (!r.writes || r.records.isEmpty) = true)
    (k1 : r.wellSaid = true) (ok : (chainsOk q && opensWell r.prog && (frees r.toRowW && r.within.isEmpty)) = true) (hb : r.prog.bare) (hw : r.toRowW.promised)
    (call : WalkO q loose XP YP r.toRowW d kwd fun f vs => PySem.call f vs)
    (hq : q = view r.prog [1, 2, 4, 5, 6, 8, 9, 10, 11, 12, 14, 15, 16] := by rfl) (hXt : Xt = (fun s => xlAt q [] s && recOk r.records s) := by rfl) : r.Holds := by
  subst hq
  subst hXt
  exact _root_.PySem.W.holds_open left hY hYk hX hXk hdef hp hk hRf hwr k1 ok hb hw call
end Mine.PySem.W
namespace Mine
open_top wtop for PySem.Challenge.rw_wb0041_01
end Mine
end

section
open PySem PySem.W PyProof.Rows PySem.Calls
set_option maxRecDepth 100000
set_option linter.all false
namespace Mine
theorem one_of {α : Type} {l : List α} (h : l.length = 1) : ∃ a, l = [a] := List.length_eq_one_iff.mp h
theorem two_of {α : Type} {l : List α} (h : l.length = 2) : ∃ a b, l = [a, b] := by
  cases l with
  | nil => cases h
  | cons a l => exact ⟨a, let ⟨b, e⟩ := one_of (Nat.succ.inj h); ⟨b, by rw [e]⟩⟩
theorem three_of {α : Type} {l : List α} (h : l.length = 3) : ∃ a b c, l = [a, b, c] := by
  cases l with
  | nil => cases h
  | cons a l => exact ⟨a, let ⟨b, c, e⟩ := two_of (Nat.succ.inj h); ⟨b, c, by rw [e]⟩⟩

/-- what a name holds: a datum, or a plain value -/
inductive AV where
  | dat (d : Dat)
  | raw (v : Value)

noncomputable abbrev AEnv := List (Str × AV)
noncomputable abbrev Tmp := List (Value × Dat)
noncomputable abbrev Mu := List (Addr × Obj)
noncomputable abbrev P0 : Program := PySem.Challenge.rw_wb0041_01.row.prog

/-- where we stand: the frame and what lies under it -/
structure Cx where
  w : World
  env : Env
  A : Around
  h₀ : Heap
  opq : Mu
  keep : Mu
  os : OsState
  lvl : Nat
  gp : List (Nat × GenState)

structure Cx.Ok (C : Cx) : Prop where
  kind : C.env.scope.kind = .function
  glob : C.env.globals = mainGlobals
  blt : C.env.builtins = builtinsNs
  hand : C.A.handled = none
  dep : C.A.depth + 8 + C.lvl < recursionLimit
  uni : C.A.units + 64 + 8 * C.lvl < cLine
  K : (wtop.heap_39 C.w.params).In C.h₀
  top : ∃ mean mg mb, Top wtop.view_39 (looseW wtop.view_39 []) mean mg mb C.h₀

noncomputable def VarIs (env : Env) (m : Str → Option Value) (nd : Mu) (x : Str) (a : AV) : Prop :=
  (env.kindOf x = some .local ∧ match a with
    | .raw v => m x = some v
    | .dat d => ∃ v, m x = some v ∧ DatIn nd v d) ∨
  ((env.kindOf x = some .cell ∨ env.kindOf x = some .free) ∧ ∃ c o v, env.cells.lookup x = some c ∧ (c, o) ∈ nd ∧ o.data = .cell (some v) ∧ match a with
    | .raw u => u = v
    | .dat d => DatIn nd v d)

structure StW (C : Cx) (ρ : AEnv) (τ : Tmp) (μ : Mu) (m : Str → Option Value) (nd : Mu) (s : Shared) : Prop where
  F : Fr C.h₀ C.env.locals s.heap m
  N : News C.h₀ C.env.locals s.heap (μ ++ (C.opq ++ nd))
  sep : ∀ p ∈ μ ++ C.opq, ∀ q ∈ nd, p.1 ≠ q.1
  dis : ∀ p ∈ μ, ∀ q ∈ C.opq, p.1 ≠ q.1
  nodup : (μ.map (·.1)).Nodup
  keep : ∀ p ∈ C.keep, p ∈ nd
  gens : AllBare s.gens ∧ ∀ p ∈ C.gp, s.gens[p.1]? = some p.2
  vars : ∀ x a, ρ.lookup x = some a → VarIs C.env m nd x a
  tmps : ∀ p ∈ τ, DatIn nd p.1 p.2
  os : s.os = C.os

noncomputable def St (C : Cx) (ρ : AEnv) (τ : Tmp) (μ : Mu) (s : Shared) : Prop := ∃ m nd, StW C ρ τ μ m nd s

section
variable {C : Cx} {ρ : AEnv} {τ : Tmp} {μ : Mu} {s : Shared} {m : Str → Option Value} {nd : Mu}

theorem StW.st (h : StW C ρ τ μ m nd s) : St C ρ τ μ s := ⟨m, nd, h⟩

theorem VarIs.mono {env : Env} {nd' : Mu} {x : Str} {a : AV} (hs : ∀ p ∈ nd, p ∈ nd') (h : VarIs env m nd x a) : VarIs env m nd' x a := by
  rcases h with ⟨hk, h⟩ | ⟨hk, c, o, v, h1, h2, h3, h4⟩
  · refine .inl ⟨hk, ?_⟩
    cases a with
    | raw v => exact h
    | dat d => obtain ⟨v, e, i⟩ := h; exact ⟨v, e, i.mono hs⟩
  · refine .inr ⟨hk, c, o, v, h1, hs _ h2, h3, ?_⟩
    cases a with
    | raw v => exact h4
    | dat d => exact DatIn.mono hs h4

theorem StW.toks (h : StW C ρ τ μ m nd s) (t : Tok) : StW C ρ τ μ m nd { s with toks := t } := ⟨h.F, h.N, h.sep, h.dis, h.nodup, h.keep, h.gens, h.vars, h.tmps, h.os⟩
theorem St.toks (h : St C ρ τ μ s) (t : Tok) : St C ρ τ μ { s with toks := t } := let ⟨_, _, h⟩ := h; ⟨_, _, h.toks t⟩

/-- the same, at a heap that keeps all -/
theorem StW.heap (h : StW C ρ τ μ m nd s) {h' : Heap} (F : Fr C.h₀ C.env.locals h' m) (N : News C.h₀ C.env.locals h' (μ ++ (C.opq ++ nd))) (t : Tok) : StW C ρ τ μ m nd { s with heap := h', toks := t } :=
  ⟨F, N, h.sep, h.dis, h.nodup, h.keep, h.gens, h.vars, h.tmps, h.os⟩

theorem StW.push (h : StW C ρ τ μ m nd s) {v : Value} {d : Dat} (hd : DatIn nd v d) : StW C ρ ((v, d) :: τ) μ m nd s :=
  ⟨h.F, h.N, h.sep, h.dis, h.nodup, h.keep, h.gens, h.vars, fun p hp => by
    rcases List.mem_cons.mp hp with rfl | hp
    · exact hd
    · exact h.tmps p hp, h.os⟩
theorem St.pop {p : Value × Dat} (h : St C ρ (p :: τ) μ s) : St C ρ τ μ s :=
  let ⟨m, nd, h⟩ := h; ⟨m, nd, h.F, h.N, h.sep, h.dis, h.nodup, h.keep, h.gens, h.vars, fun q hq => h.tmps q (.tail _ hq), h.os⟩
theorem St.tmpsOf {τ' : Tmp} (h : St C ρ τ μ s) (hs : ∀ p ∈ τ', p ∈ τ) : St C ρ τ' μ s :=
  let ⟨m, nd, h⟩ := h; ⟨m, nd, h.F, h.N, h.sep, h.dis, h.nodup, h.keep, h.gens, h.vars, fun q hq => h.tmps q (hs q hq), h.os⟩
theorem St.env {ρ' : AEnv} (h : St C ρ τ μ s) (hs : ∀ x a, ρ'.lookup x = some a → ρ.lookup x = some a) : St C ρ' τ μ s :=
  let ⟨m, nd, h⟩ := h; ⟨m, nd, h.F, h.N, h.sep, h.dis, h.nodup, h.keep, h.gens, fun x a e => h.vars x a (hs x a e), h.tmps, h.os⟩

/-- the scalars -/
theorem St.int {v : Value} {i : Int} (h : St C ρ ((v, .int i) :: τ) μ s) : (∃ t, v = .int i t) ∧ St C ρ τ μ s := by
  refine ⟨?_, h.pop⟩
  obtain ⟨m, nd, h⟩ := h
  have := h.tmps _ (.head _)
  cases this with | int i t => exact ⟨t, rfl⟩
theorem St.str {v : Value} {x : Str} (h : St C ρ ((v, .str x) :: τ) μ s) : (∃ t, v = .str x t) ∧ St C ρ τ μ s := by
  refine ⟨?_, h.pop⟩
  obtain ⟨m, nd, h⟩ := h
  have := h.tmps _ (.head _)
  cases this with | str x t => exact ⟨t, rfl⟩
theorem St.bool {v : Value} {b : Bool} (h : St C ρ ((v, .bool b) :: τ) μ s) : v = .bool b ∧ St C ρ τ μ s := by
  refine ⟨?_, h.pop⟩
  obtain ⟨m, nd, h⟩ := h
  have := h.tmps _ (.head _)
  cases this with | bool b => rfl
theorem St.none {v : Value} (h : St C ρ ((v, .none) :: τ) μ s) : v = .none ∧ St C ρ τ μ s := by
  refine ⟨?_, h.pop⟩
  obtain ⟨m, nd, h⟩ := h
  have := h.tmps _ (.head _)
  cases this with | none => rfl
theorem St.pushInt (h : St C ρ τ μ s) (i : Int) (t : Tok) : St C ρ ((.int i t, .int i) :: τ) μ s := let ⟨_, _, h⟩ := h; ⟨_, _, h.push (.int i t)⟩
theorem St.pushStr (h : St C ρ τ μ s) (x : Str) (t : Tok) : St C ρ ((.str x t, .str x) :: τ) μ s := let ⟨_, _, h⟩ := h; ⟨_, _, h.push (.str x t)⟩
theorem St.pushBool (h : St C ρ τ μ s) (b : Bool) : St C ρ ((.bool b, .bool b) :: τ) μ s := let ⟨_, _, h⟩ := h; ⟨_, _, h.push (.bool b)⟩
theorem St.pushNone (h : St C ρ τ μ s) : St C ρ ((.none, .none) :: τ) μ s := let ⟨_, _, h⟩ := h; ⟨_, _, h.push .none⟩

/-- a new entry of the data ledger -/
theorem StW.more (h : StW C ρ τ μ m nd s) (o : Obj) (hf : o.isFreed = false := by rfl) : StW C ρ τ μ m ((s.heap.objs.size, o) :: nd) { s with heap := s.heap.push o } := by
  have N' := News.push h.F h.N o hf
  have hlt : ∀ p ∈ μ ++ (C.opq ++ nd), p.1 < s.heap.objs.size := fun p hp => Heap.lt_size (h.N p hp).1
  have hsub : ∀ p ∈ nd, p ∈ (s.heap.objs.size, o) :: nd := fun p hp => .tail _ hp
  refine ⟨h.F.push o, fun p hp => ?_, fun p hp q hq => ?_, h.dis, h.nodup, fun p hp => .tail _ (h.keep p hp), h.gens, fun x a e => (h.vars x a e).mono hsub, fun p hp => (h.tmps p hp).mono hsub, h.os⟩
  · refine N' p ?_
    rcases List.mem_append.mp hp with hp | hp
    · exact .tail _ (List.mem_append.mpr (.inl hp))
    · rcases List.mem_append.mp hp with hp | hp
      · exact .tail _ (List.mem_append.mpr (.inr (List.mem_append.mpr (.inl hp))))
      · rcases List.mem_cons.mp hp with rfl | hp
        · exact .head _
        · exact .tail _ (List.mem_append.mpr (.inr (List.mem_append.mpr (.inr hp))))
  · have hp' : p ∈ μ ++ (C.opq ++ nd) := by
      rcases List.mem_append.mp hp with hp | hp
      · exact List.mem_append.mpr (.inl hp)
      · exact List.mem_append.mpr (.inr (List.mem_append.mpr (.inl hp)))
    rcases List.mem_cons.mp hq with rfl | hq
    · exact Nat.ne_of_lt (hlt p hp')
    · exact h.sep p hp q hq
end

/-- an expression yields a datum, and turns nothing -/
structure Ev (C : Cx) (ρ : AEnv) (μ : Mu) (e : Expr) (d : Dat) : Prop where
  of ::
  run : ∀ (τ : Tmp) (s : Shared) (Q : Value → Shared → Prop) (E : Value → Shared → Prop), St C ρ τ μ s → (∀ v s', St C ρ ((v, d) :: τ) μ s' → Q v s') → wpAny (model P0 C.w) C.A (eval e C.env) Q E s

/-- a test -/
structure Tr (C : Cx) (ρ : AEnv) (μ : Mu) (e : Expr) (b : Bool) : Prop where
  of ::
  run : ∀ (τ : Tmp) (s : Shared) (Q : Bool → Shared → Prop) (E : Value → Shared → Prop), St C ρ τ μ s → (∀ s', St C ρ τ μ s' → Q b s') → wpAny (model P0 C.w) C.A (isTrue e C.env (eval e C.env)) Q E s

section
variable {C : Cx} {ρ : AEnv} {μ : Mu}

theorem ev_int {i : Int} {k pos} : Ev C ρ μ (.Constant (.int i) k pos) (.int i) := .of fun τ s Q E h hQ => wpAny_Constant_int (hQ _ _ ((h.toks _).pushInt i _))
theorem ev_str {x : Str} {k pos} : Ev C ρ μ (.Constant (.str x) k pos) (.str x) := .of fun τ s Q E h hQ => wpAny_Constant_str (hQ _ _ ((h.toks _).pushStr x _))
theorem ev_bool {b : Bool} {k pos} : Ev C ρ μ (.Constant (.bool b) k pos) (.bool b) := .of fun τ s Q E h hQ => wpAny_Constant_bool (hQ _ _ (h.pushBool b))
theorem ev_none {k pos} : Ev C ρ μ (.Constant .none k pos) .none := .of fun τ s Q E h hQ => wpAny_Constant_none (hQ _ _ h.pushNone)

/-- a name of the frame's -/
theorem ev_name {x : Str} {pos : Pos} {d : Dat} (ok : C.Ok) (hx : ρ.lookup x = some (.dat d)) (hd : (x == ("__debug__" : Str)) = false := by decide) (hn : (x == ("__classdict__" : Str)) = false := by decide) :
    Ev C ρ μ (.Name x pos) d := .of fun τ s Q E h hQ => by
  obtain ⟨m, nd, h⟩ := h
  rcases h.vars x _ hx with ⟨hk, v, e, i⟩ | ⟨hk, c, o, v, h1, h2, h3, h4⟩
  · exact wpAny_Name (wpAny_loadName_local ok.kind hk h.F.ns e (hQ _ _ (h.push i).st)) hd
  · have hc : s.heap.IsCell c (some v) := ⟨o, h.N.get (List.mem_append.mpr (.inr (List.mem_append.mpr (.inr h2)))), h3⟩
    rcases hk with hk | hk
    · exact wpAny_Name (wpAny_loadName_cell ok.kind hk h1 hc (hQ _ _ (h.push h4).st)) hd
    · exact wpAny_Name (wpAny_loadName_free ok.kind hk h1 hc (hQ _ _ (h.push h4).st) hn) hd
/-- a name that holds a plain value -/
theorem wp_name_raw {x : Str} {pos : Pos} {v : Value} {τ : Tmp} {s : Shared} {Q : Value → Shared → Prop} {E : Value → Shared → Prop} (ok : C.Ok) (hx : ρ.lookup x = some (.raw v)) (h : St C ρ τ μ s) (hQ : Q v s)
    (hd : (x == ("__debug__" : Str)) = false := by decide) (hn : (x == ("__classdict__" : Str)) = false := by decide) :
    wpAny (model P0 C.w) C.A (eval (.Name x pos) C.env) Q E s := by
  obtain ⟨m, nd, h⟩ := h
  rcases h.vars x _ hx with ⟨hk, e⟩ | ⟨hk, c, o, u, h1, h2, h3, rfl⟩
  · exact wpAny_Name (wpAny_loadName_local ok.kind hk h.F.ns e hQ) hd
  · have hc : s.heap.IsCell c (some v) := ⟨o, h.N.get (List.mem_append.mpr (.inr (List.mem_append.mpr (.inr h2)))), h3⟩
    rcases hk with hk | hk
    · exact wpAny_Name (wpAny_loadName_cell ok.kind hk h1 hc hQ) hd
    · exact wpAny_Name (wpAny_loadName_free ok.kind hk h1 hc hQ hn) hd

/-- a name of the top's, and a built-in -/
theorem wp_name_global {x : Str} {pos : Pos} {v : Value} {τ : Tmp} {s : Shared} {Q : Value → Shared → Prop} {E : Value → Shared → Prop} (ok : C.Ok) (hx : C.env.kindOf x = some .globalImplicit) (e : nsIn (wtop.heap_39 C.w.params) mainGlobals x = some (some v))
    (h : St C ρ τ μ s) (hQ : Q v s) (hd : (x == ("__debug__" : Str)) = false := by decide) : wpAny (model P0 C.w) C.A (eval (.Name x pos) C.env) Q E s := by
  obtain ⟨m, nd, h⟩ := h
  obtain ⟨mean, mg, mb, T⟩ := ok.top
  exact Name_function_global ok.kind hx (loadGlobal_global (by rw [ok.glob]; exact T.g.keeps h.F.keep) (mg_of ok.K T.g e) hQ) hd
theorem wp_name_builtin {x : Str} {pos : Pos} {v : Value} {τ : Tmp} {s : Shared} {Q : Value → Shared → Prop} {E : Value → Shared → Prop} (ok : C.Ok) (hx : C.env.kindOf x = some .globalImplicit) (e : nsIn (wtop.heap_39 C.w.params) mainGlobals x = some none)
    (hv : bootBuiltins x = some v) (h : St C ρ τ μ s) (hQ : Q v s) (hn : x ≠ "__name__" := by decide) (hd : (x == ("__debug__" : Str)) = false := by decide) : wpAny (model P0 C.w) C.A (eval (.Name x pos) C.env) Q E s := by
  obtain ⟨m, nd, h⟩ := h
  obtain ⟨mean, mg, mb, T⟩ := ok.top
  exact Name_function_global ok.kind hx (loadGlobal_builtin (by rw [ok.glob]; exact T.g.keeps h.F.keep) (mg_none_of ok.K T.g e) (by rw [ok.blt]; exact T.b.keeps h.F.keep) ((T.builtins x hn).trans hv) hQ) hd

section
variable {l r : Expr} {pos : Pos} {a b : Int} {x y : Str}
theorem ev_bin {op : Operator} {d₁ d₂ d : Dat} (h1 : Ev C ρ μ l d₁) (h2 : Ev C ρ μ r d₂)
    (h : ∀ (τ : Tmp) (v u : Value) (s : Shared) (Q : Value → Shared → Prop) (E : Value → Shared → Prop), St C ρ ((u, d₂) :: (v, d₁) :: τ) μ s → (∀ v s', St C ρ ((v, d) :: τ) μ s' → Q v s') → wpAny (model P0 C.w) C.A (binaryOp op v u) Q E s) :
    Ev C ρ μ (.BinOp l op r pos) d := .of fun τ s Q E st hQ =>
  wpAny_BinOp (h1.run τ s _ E st fun v s₁ st₁ => h2.run _ s₁ _ E st₁ fun u s₂ st₂ => h τ v u s₂ Q E st₂ hQ)
theorem St.int2 {τ : Tmp} {v u : Value} {s : Shared} (h : St C ρ ((u, .int b) :: (v, .int a) :: τ) μ s) : ∃ t t', v = .int a t ∧ u = .int b t' ∧ St C ρ τ μ s := by
  obtain ⟨⟨t', e'⟩, h1⟩ := h.int
  obtain ⟨⟨t, e⟩, h2⟩ := h1.int
  exact ⟨t, t', e, e', h2⟩
theorem St.str2 {τ : Tmp} {v u : Value} {s : Shared} (h : St C ρ ((u, .str y) :: (v, .str x) :: τ) μ s) : ∃ t t', v = .str x t ∧ u = .str y t' ∧ St C ρ τ μ s := by
  obtain ⟨⟨t', e'⟩, h1⟩ := h.str
  obtain ⟨⟨t, e⟩, h2⟩ := h1.str
  exact ⟨t, t', e, e', h2⟩
theorem ev_add (h1 : Ev C ρ μ l (.int a)) (h2 : Ev C ρ μ r (.int b)) : Ev C ρ μ (.BinOp l .Add r pos) (.int (a + b)) := ev_bin h1 h2 fun τ v u s Q E st hQ => by
  obtain ⟨t, t', rfl, rfl, st'⟩ := st.int2
  exact add_int (hQ _ _ ((st'.toks _).pushInt _ _))
theorem ev_sub (h1 : Ev C ρ μ l (.int a)) (h2 : Ev C ρ μ r (.int b)) : Ev C ρ μ (.BinOp l .Sub r pos) (.int (a - b)) := ev_bin h1 h2 fun τ v u s Q E st hQ => by
  obtain ⟨t, t', rfl, rfl, st'⟩ := st.int2
  exact sub_int (hQ _ _ ((st'.toks _).pushInt _ _))
theorem ev_mul (h1 : Ev C ρ μ l (.int a)) (h2 : Ev C ρ μ r (.int b)) (hm : IntMulOk a b) : Ev C ρ μ (.BinOp l .Mult r pos) (.int (a * b)) := ev_bin h1 h2 fun τ v u s Q E st hQ => by
  obtain ⟨t, t', rfl, rfl, st'⟩ := st.int2
  exact mul_int (hQ _ _ ((st'.toks _).pushInt _ _)) hm
theorem ev_mod (h1 : Ev C ρ μ l (.int a)) (h2 : Ev C ρ μ r (.int b)) (hb : b ≠ 0) : Ev C ρ μ (.BinOp l .Mod r pos) (.int (a.fmod b)) := ev_bin h1 h2 fun τ v u s Q E st hQ => by
  obtain ⟨t, t', rfl, rfl, st'⟩ := st.int2
  exact mod_int' hb (hQ _ _ ((st'.toks _).pushInt _ _))
theorem ev_cat (h1 : Ev C ρ μ l (.str x)) (h2 : Ev C ρ μ r (.str y)) (hs : x.length + y.length ≤ sizeLine) : Ev C ρ μ (.BinOp l .Add r pos) (.str (x ++ y)) := ev_bin h1 h2 fun τ v u s Q E st hQ => by
  obtain ⟨t, t', rfl, rfl, st'⟩ := st.str2
  exact add_str (fun t' tk => hQ _ _ ((st'.toks tk).pushStr _ _)) hs

theorem ev_cmp {op : CmpOp} {d₁ d₂ d : Dat} (h1 : Ev C ρ μ l d₁) (h2 : Ev C ρ μ r d₂)
    (h : ∀ (τ : Tmp) (v u : Value) (s : Shared) (Q : Value → Shared → Prop) (E : Value → Shared → Prop), St C ρ ((u, d₂) :: (v, d₁) :: τ) μ s → (∀ v s', St C ρ ((v, d) :: τ) μ s' → Q v s') → wpAny (model P0 C.w) C.A (compareOp op v u) Q E s)
    (hm : behindInMarks op r = false := by with_unfolding_all rfl) : Ev C ρ μ (.Compare l [op] [r] pos) d := .of fun τ s Q E st hQ =>
  wpAny_Compare1 (h1.run τ s _ E st fun v s₁ st₁ => h2.run _ s₁ _ E st₁ fun u s₂ st₂ => h τ v u s₂ Q E st₂ hQ) hm
theorem tr_cmp {op : CmpOp} {d₁ d₂ : Dat} {c : Bool} (h1 : Ev C ρ μ l d₁) (h2 : Ev C ρ μ r d₂)
    (h : ∀ (τ : Tmp) (v u : Value) (s : Shared) (Q : Value → Shared → Prop) (E : Value → Shared → Prop), St C ρ ((u, d₂) :: (v, d₁) :: τ) μ s → (∀ v s', St C ρ ((v, .bool c) :: τ) μ s' → Q v s') → wpAny (model P0 C.w) C.A (compareOp op v u) Q E s)
    (hm : behindInMarks op r = false := by with_unfolding_all rfl) : Tr C ρ μ (.Compare l [op] [r] pos) c := .of fun τ s Q E st hQ =>
  wpAny_isTrue_Compare1 (h1.run τ s _ E st fun v s₁ st₁ => h2.run _ s₁ _ E st₁ fun u s₂ st₂ => h τ v u s₂ _ E st₂ fun b s₃ st₃ => by
    obtain ⟨rfl, st'⟩ := st₃.bool
    exact wpAny_truthy_bool (hQ _ st')) hm
end
end
end Mine
end

section
open PySem PySem.W PyProof.Rows PySem.Calls
set_option maxRecDepth 100000
set_option linter.all false
namespace Mine

section
variable {C : Cx} {ρ : AEnv} {τ : Tmp} {μ : Mu} {s : Shared} {m : Str → Option Value} {nd : Mu}

theorem StW.keeps (h : StW C ρ τ μ m nd s) {h' : Heap} (hk : ∀ b o, s.heap.get? b = some o → h'.get? b = some o) (t : Tok) : StW C ρ τ μ m nd { s with heap := h', toks := t } :=
  h.heap ⟨h.F.ns.keeps hk, fun b o e => hk b o (h.F.keep b o e), h.F.above⟩ (fun p hp => ⟨hk _ _ (h.N p hp).1, (h.N p hp).2⟩) t
theorem St.keeps (h : St C ρ τ μ s) {h' : Heap} (hk : ∀ b o, s.heap.get? b = some o → h'.get? b = some o) (t : Tok) : St C ρ τ μ { s with heap := h', toks := t } :=
  let ⟨_, _, h⟩ := h; ⟨_, _, h.keeps hk t⟩
theorem extNew {h h' : Heap} (x : Heap.ExtBut h.objs.size h h') : ∀ b o, h.get? b = some o → h'.get? b = some o := fun b o e => x b o (Nat.ne_of_lt (Heap.lt_size e)) e

/-- a thing of the frame's own is turned -/
theorem StW.upd {a : Addr} {o o' : Obj} (h : StW C ρ τ ((a, o) :: μ) m nd s) {h' : Heap} (hk : Heap.ExtBut a s.heap h') (ha : h'.get? a = some o') (t : Tok) : StW C ρ τ ((a, o') :: μ) m nd { s with heap := h', toks := t } := by
  have h0 := h.N (a, o) (.head _)
  have hL : a ≠ C.env.locals := h0.2.1
  refine ⟨⟨h.F.ns.extBut hk (Ne.symm hL), fun b ob e => hk b ob (fun q => ?_) (h.F.keep b ob e), h.F.above⟩, fun p hp => ?_, fun p hp q hq => ?_, fun p hp q hq => ?_, h.nodup, h.keep, h.gens, h.vars, h.tmps, h.os⟩
  · rw [q, h0.2.2] at e; cases e
  · rcases List.mem_cons.mp hp with rfl | hp
    · exact ⟨ha, h0.2⟩
    · have hN := h.N p (.tail _ hp)
      refine ⟨hk _ _ ?_ hN.1, hN.2⟩
      rcases List.mem_append.mp hp with hp | hp
      · intro q
        have := h.nodup
        simp only [List.map_cons, List.nodup_cons] at this
        exact this.1 (q ▸ List.mem_map_of_mem hp)
      · rcases List.mem_append.mp hp with hp | hp
        · exact fun q => h.dis _ (.head _) p hp q.symm
        · exact fun q => h.sep _ (.head _) p hp q.symm
  · rcases List.mem_cons.mp hp with rfl | hp
    · exact h.sep _ (.head _) q hq
    · exact h.sep p (.tail _ hp) q hq
  · rcases List.mem_cons.mp hp with rfl | hp
    · exact h.dis _ (.head _) q hq
    · exact h.dis p (.tail _ hp) q hq
theorem St.upd {a : Addr} {o o' : Obj} (h : St C ρ τ ((a, o) :: μ) s) {h' : Heap} (hk : Heap.ExtBut a s.heap h') (ha : h'.get? a = some o') (t : Tok) : St C ρ τ ((a, o') :: μ) { s with heap := h', toks := t } :=
  let ⟨_, _, h⟩ := h; ⟨_, _, h.upd hk ha t⟩

/-- a new thing of the frame's own -/
theorem StW.own (h : StW C ρ τ μ m nd s) (o : Obj) (hf : o.isFreed = false := by rfl) : StW C ρ τ ((s.heap.objs.size, o) :: μ) m nd { s with heap := s.heap.push o } := by
  have N' := News.push h.F h.N o hf
  have hlt : ∀ p ∈ μ ++ (C.opq ++ nd), p.1 < s.heap.objs.size := fun p hp => Heap.lt_size (h.N p hp).1
  refine ⟨h.F.push o, N', fun p hp q hq => ?_, fun p hp q hq => ?_, ?_, h.keep, h.gens, h.vars, h.tmps, h.os⟩
  · rcases List.mem_cons.mp hp with rfl | hp
    · exact Nat.ne_of_gt (hlt q (List.mem_append.mpr (.inr (List.mem_append.mpr (.inr hq)))))
    · exact h.sep p hp q hq
  · rcases List.mem_cons.mp hp with rfl | hp
    · exact Nat.ne_of_gt (hlt q (List.mem_append.mpr (.inr (List.mem_append.mpr (.inl hq)))))
    · exact h.dis p hp q hq
  · simp only [List.map_cons, List.nodup_cons]
    refine ⟨fun hm => ?_, h.nodup⟩
    obtain ⟨p, hp, e⟩ := List.mem_map.mp hm
    exact absurd (e ▸ hlt p (List.mem_append.mpr (.inl hp))) (Nat.lt_irrefl _)
theorem St.own (h : St C ρ τ μ s) (o : Obj) (hf : o.isFreed = false := by rfl) : St C ρ τ ((s.heap.objs.size, o) :: μ) { s with heap := s.heap.push o } := let ⟨_, _, h⟩ := h; ⟨_, _, h.own o hf⟩

/-- fewer things of the frame's own -/
theorem St.mu {μ' : Mu} (h : St C ρ τ μ s) (hs : μ'.Sublist μ) : St C ρ τ μ' s := by
  obtain ⟨m, nd, h⟩ := h
  refine ⟨m, nd, h.F, fun p hp => h.N p ?_, fun p hp q hq => h.sep p ?_ q hq, fun p hp => h.dis p (hs.mem hp), h.nodup.sublist (hs.map _), h.keep, h.gens, h.vars, h.tmps, h.os⟩
  · exact (List.mem_append.mp hp).elim (fun e => List.mem_append.mpr (.inl (hs.mem e))) fun e => List.mem_append.mpr (.inr e)
  · exact (List.mem_append.mp hp).elim (fun e => List.mem_append.mpr (.inl (hs.mem e))) fun e => List.mem_append.mpr (.inr e)
theorem St.drop {p : Addr × Obj} (h : St C ρ τ (p :: μ) s) : St C ρ τ μ s := h.mu (List.sublist_cons_self _ _)
theorem St.perm {μ' : Mu} (h : St C ρ τ μ s) (hp : μ.Perm μ') : St C ρ τ μ' s := by
  obtain ⟨m, nd, h⟩ := h
  refine ⟨m, nd, h.F, fun p q => h.N p ?_, fun p q => h.sep p ?_, fun p q => h.dis p (hp.mem_iff.mpr q), (hp.map _).nodup_iff.mp h.nodup, h.keep, h.gens, h.vars, h.tmps, h.os⟩
  · exact (List.mem_append.mp q).elim (fun e => List.mem_append.mpr (.inl (hp.mem_iff.mpr e))) fun e => List.mem_append.mpr (.inr e)
  · exact (List.mem_append.mp q).elim (fun e => List.mem_append.mpr (.inl (hp.mem_iff.mpr e))) fun e => List.mem_append.mpr (.inr e)
theorem St.muGet {p : Addr × Obj} (h : St C ρ τ μ s) (hp : p ∈ μ) : s.heap.get? p.1 = some p.2 := let ⟨_, _, h⟩ := h; h.N.get (List.mem_append.mpr (.inl hp))

theorem zip_data : ∀ {vs : List Value} {ds : List Dat}, DatAll nd vs ds → ∀ p ∈ vs.zip ds, DatIn nd p.1 p.2
  | [], _, _, _, hp => by simp at hp
  | _ :: _, [], h, _, _ => by cases h
  | v :: vs, d :: ds, h, p, hp => by
    cases h with
    | cons hd hr =>
      rcases List.mem_cons.mp hp with rfl | hp
      · exact hd
      · exact zip_data hr p hp
/-- what stands in the data ledger, of a tuple or a list among the temporaries -/
theorem St.tuple {v : Value} {ds : List Dat} (h : St C ρ τ μ s) (hv : (v, .tuple ds) ∈ τ) : ∃ (a : Addr) (vs : List Value), v = .ref a ∧ IsTup s.heap a vs.toArray ∧ vs.length = ds.length ∧ St C ρ (vs.zip ds ++ τ) μ s := by
  obtain ⟨m, nd, h⟩ := h
  have := h.tmps _ hv
  cases this with
  | @tuple a vs n ds hm hall =>
    refine ⟨a, vs, rfl, ⟨_, h.N.get (List.mem_append.mpr (.inr (List.mem_append.mpr (.inr hm)))), rfl, n, rfl⟩, hall.length, m, nd, h.F, h.N, h.sep, h.dis, h.nodup, h.keep, h.gens, h.vars, fun p hp => ?_, h.os⟩
    rcases List.mem_append.mp hp with hp | hp
    · exact zip_data hall p hp
    · exact h.tmps p hp
theorem St.list {v : Value} {ds : List Dat} (h : St C ρ τ μ s) (hv : (v, .list ds) ∈ τ) : ∃ (a : Addr) (vs : List Value), v = .ref a ∧ s.heap.IsList a vs.toArray ∧ vs.length = ds.length ∧ St C ρ (vs.zip ds ++ τ) μ s := by
  obtain ⟨m, nd, h⟩ := h
  have := h.tmps _ hv
  cases this with
  | @list a vs n ds hm hall =>
    refine ⟨a, vs, rfl, ⟨_, h.N.get (List.mem_append.mpr (.inr (List.mem_append.mpr (.inr hm)))), rfl, n, rfl⟩, hall.length, m, nd, h.F, h.N, h.sep, h.dis, h.nodup, h.keep, h.gens, h.vars, fun p hp => ?_, h.os⟩
    rcases List.mem_append.mp hp with hp | hp
    · exact zip_data hall p hp
    · exact h.tmps p hp
/-- all of the values of a list are told by the temporaries -/
noncomputable def AllIn (τ : Tmp) : List Value → List Dat → Prop
  | [], [] => True
  | v :: vs, d :: ds => (v, d) ∈ τ ∧ AllIn τ vs ds
  | _, _ => False
theorem AllIn.mono {τ' : Tmp} (hs : ∀ p ∈ τ, p ∈ τ') : ∀ {vs : List Value} {ds : List Dat}, AllIn τ vs ds → AllIn τ' vs ds
  | [], [], _ => trivial
  | _ :: _, _ :: _, h => ⟨hs _ h.1, AllIn.mono hs h.2⟩
  | [], _ :: _, h => h.elim
  | _ :: _, [], h => h.elim
theorem AllIn.data (h : ∀ p ∈ τ, DatIn nd p.1 p.2) : ∀ {vs : List Value} {ds : List Dat}, AllIn τ vs ds → DatAll nd vs ds
  | [], [], _ => .nil
  | _ :: _, _ :: _, q => .cons (h _ q.1) (AllIn.data h q.2)
  | [], _ :: _, q => q.elim
  | _ :: _, [], q => q.elim
theorem AllIn.zip : ∀ {vs : List Value} {ds : List Dat}, vs.length = ds.length → AllIn (vs.zip ds ++ τ) vs ds
  | [], [], _ => trivial
  | _ :: _, _ :: _, h => ⟨.head _, (AllIn.zip (Nat.succ.inj h)).mono fun _ hp => .tail _ hp⟩
theorem AllIn.length : ∀ {vs : List Value} {ds : List Dat}, AllIn τ vs ds → vs.length = ds.length
  | [], [], _ => rfl
  | _ :: _, _ :: _, h => congrArg Nat.succ (AllIn.length h.2)
  | [], _ :: _, h => h.elim
  | _ :: _, [], h => h.elim
theorem AllIn.get : ∀ {vs : List Value} {ds : List Dat} {i : Nat} {d : Dat}, AllIn τ vs ds → ds[i]? = some d → ∃ v, vs[i]? = some v ∧ (v, d) ∈ τ
  | v :: vs, d :: ds, 0, d', h, e => ⟨v, rfl, by cases e; exact h.1⟩
  | v :: vs, d :: ds, i + 1, d', h, e => AllIn.get (vs := vs) (ds := ds) (i := i) h.2 (by simpa using e)
  | [], [], i, d, _, e => by simp at e
  | [], _ :: _, _, _, h, _ => h.elim
  | _ :: _, [], _, _, h, _ => h.elim
theorem AllIn.append : ∀ {vs us : List Value} {ds es : List Dat}, AllIn τ vs ds → AllIn τ us es → AllIn τ (vs ++ us) (ds ++ es)
  | [], _, [], _, _, h => h
  | _ :: _, _, _ :: _, _, h, k => ⟨h.1, AllIn.append h.2 k⟩
  | [], _, _ :: _, _, h, _ => h.elim
  | _ :: _, _, [], _, h, _ => h.elim

/-- a new tuple, a new list -/
theorem St.newTuple {vs : List Value} {ds : List Dat} {τ₀ : Tmp} (h : St C ρ τ μ s) (ha : AllIn τ vs ds) (hs : ∀ p ∈ τ₀, p ∈ τ) :
    St C ρ ((.ref s.heap.objs.size, .tuple ds) :: τ₀) μ { s with heap := s.heap.push { cls := .type "tuple", data := .seq vs.toArray } } := by
  obtain ⟨m, nd, h⟩ := h
  have h' := h.more { cls := .type "tuple", data := .seq vs.toArray }
  have i := h'.push (DatIn.tuple (n := 0) (List.Mem.head _) ((ha.data h.tmps).mono fun _ hp => .tail _ hp))
  exact St.tmpsOf i.st fun p hp => by
    rcases List.mem_cons.mp hp with rfl | hp
    · exact .head _
    · exact .tail _ (hs p hp)
theorem St.newList {vs : List Value} {ds : List Dat} {τ₀ : Tmp} (h : St C ρ τ μ s) (ha : AllIn τ vs ds) (hs : ∀ p ∈ τ₀, p ∈ τ) :
    St C ρ ((.ref s.heap.objs.size, .list ds) :: τ₀) μ { s with heap := s.heap.push { cls := .type "list", data := .seq vs.toArray } } := by
  obtain ⟨m, nd, h⟩ := h
  have h' := h.more { cls := .type "list", data := .seq vs.toArray }
  have i := h'.push (DatIn.list (n := 0) (List.Mem.head _) ((ha.data h.tmps).mono fun _ hp => .tail _ hp))
  exact St.tmpsOf i.st fun p hp => by
    rcases List.mem_cons.mp hp with rfl | hp
    · exact .head _
    · exact .tail _ (hs p hp)

/-- a store into a local -/
theorem wp_store {x : Str} {v : Value} {a : AV} {τ' : Tmp} {Q : Unit → Shared → Prop} {E : Value → Shared → Prop} {M : Model} {A : Around} (ok : C.Ok) (hl : C.env.kindOf x = some .local) (h : St C ρ τ μ s) (hs : ∀ p ∈ τ', p ∈ τ)
    (ha : match a with | .raw u => u = v | .dat d => (v, d) ∈ τ) (hQ : ∀ s', St C ((x, a) :: ρ) τ' μ s' → Q () s') : wpAny M A (storeName C.env x v) Q E s := by
  obtain ⟨m, nd, h⟩ := h
  have hp : (C.env.scope.kind == .class || (C.env.scope.kind == .module && C.env.locals != C.env.globals)) = false := by rw [ok.kind]; rfl
  refine wpAny_storeName_local hl h.F.ns (fun h' hn hsb => hQ _ ?_) hp
  refine ⟨_, nd, h.F.set hn hsb, h.N.set hsb, h.sep, h.dis, h.nodup, h.keep, h.gens, fun y b e => ?_, fun p hp => h.tmps p (hs p hp), h.os⟩
  by_cases hy : y = x
  · subst hy
    rw [List.lookup_cons, beq_self_eq_true] at e
    cases e
    refine .inl ⟨hl, ?_⟩
    cases a with
    | raw u => simpa using ha.symm
    | dat d => exact ⟨v, by simp, h.tmps _ ha⟩
  · have hb : (y == x) = false := by simpa using hy
    rw [List.lookup_cons, hb] at e
    rcases h.vars y b e with ⟨hk, q⟩ | q
    · refine .inl ⟨hk, ?_⟩
      cases b with
      | raw u => simpa [hy] using q
      | dat d => obtain ⟨u, q1, q2⟩ := q; exact ⟨u, by simpa [hy] using q1, q2⟩
    · exact .inr q
end

/-- statements: from the state told, to what Φ wants -/
structure Ex (C : Cx) (ρ : AEnv) (τ : Tmp) (μ : Mu) (b : List Stmt) (Φ : Flow → Shared → Prop) : Prop where
  of ::
  run : ∀ (s : Shared) (E : Value → Shared → Prop), St C ρ τ μ s → wpAny (model P0 C.w) C.A (execs b C.env) Φ E s
/-- first this, then the rest -/
noncomputable def Thn (C : Cx) (rest : List Stmt) (Φ : Flow → Shared → Prop) (f : Flow) (s : Shared) : Prop := match f with
  | .next => ∀ E, wpAny (model P0 C.w) C.A (execs rest C.env) Φ E s
  | f => Φ f s

section
variable {C : Cx} {ρ : AEnv} {τ : Tmp} {μ : Mu} {rest body orelse : List Stmt} {Φ : Flow → Shared → Prop} {e t : Expr} {pos tpos : Pos} {x : Str} {d : Dat}

theorem ex_nil (h : ∀ s, St C ρ τ μ s → Φ .next s) : Ex C ρ τ μ [] Φ := .of fun s E st => wpAny_execs_nil (h s st)
theorem ex_end (h : Ex C ρ τ μ rest Φ) : Ex C ρ τ μ [] (Thn C rest Φ) := ex_nil fun s st E => h.run s E st
theorem ex_weak {ρ' : AEnv} {τ' : Tmp} {μ' : Mu} (hw : ∀ s, St C ρ τ μ s → St C ρ' τ' μ' s) (h : Ex C ρ' τ' μ' body Φ) : Ex C ρ τ μ body Φ := .of fun s E st => h.run s E (hw s st)
theorem ex_cons {st : Stmt} (h : ∀ s E, St C ρ τ μ s → wpAny (model P0 C.w) C.A (exec st C.env) (Thn C rest Φ) E s) : Ex C ρ τ μ (st :: rest) Φ := .of fun s E hs =>
  wpAny_execs_cons (wpAny_mono (h s E hs) (fun f s' q => by cases f <;> first | exact q E | exact q) fun _ _ q => q)

theorem ex_assign (ok : C.Ok) (he : Ev C ρ μ e d) (hl : C.env.kindOf x = some .local) (h : Ex C ((x, .dat d) :: ρ) τ μ rest Φ)
    (hs : swapsWith e (some (.Name x tpos)) pos.line C.env = pure false := by rfl) : Ex C ρ τ μ (.Assign [.Name x tpos] e pos :: rest) Φ :=
  ex_cons fun s E st => wpAny_Assign_Name (he.run τ s _ E st fun v s' st' => wp_store ok hl st' (fun p hp => .tail _ hp) (a := .dat d) (.head _) fun s'' st'' E' => h.run s'' E' st'') hs

theorem ex_if {b : Bool} (ht : Tr C ρ μ t b) (h1 : b = true → Ex C ρ τ μ body (Thn C rest Φ)) (h2 : b = false → Ex C ρ τ μ orelse (Thn C rest Φ)) : Ex C ρ τ μ (.If t body orelse pos :: rest) Φ :=
  ex_cons fun s E st => wpAny_If (ht.run τ s _ E st fun s' st' => by
    cases b with
    | true => exact (h1 rfl).run s' E st'
    | false => exact (h2 rfl).run s' E st')
theorem ex_if_no (ht : Tr C ρ μ t false) (h : Ex C ρ τ μ rest Φ) : Ex C ρ τ μ (.If t body [] pos :: rest) Φ := ex_if ht (fun e => by cases e) fun _ => ex_end h
theorem ex_if_yes (ht : Tr C ρ μ t true) (h : Ex C ρ τ μ body (Thn C rest Φ)) : Ex C ρ τ μ (.If t body orelse pos :: rest) Φ := ex_if ht (fun _ => h) fun e => by cases e

theorem ex_return (he : Ev C ρ μ e d) (h : ∀ v s, St C ρ ((v, d) :: τ) μ s → Φ (.ret v) s) : Ex C ρ τ μ (.Return (some e) pos :: rest) Φ :=
  ex_cons fun s E st => wpAny_Return_some (he.run τ s _ E st fun v s' st' => h v s' st')
theorem ex_assert {msg : Option Expr} (ht : Tr C ρ μ t true) (h : Ex C ρ τ μ rest Φ) : Ex C ρ τ μ (.Assert t msg pos :: rest) Φ :=
  ex_cons fun s E st => wpAny_Assert_holds (ht.run τ s _ E st fun s' st' => ⟨rfl, fun E' => h.run s' E' st'⟩)
theorem ex_break (h : ∀ s, St C ρ τ μ s → Φ .brk s) : Ex C ρ τ μ (.Break pos :: rest) Φ := ex_cons fun s E st => wpAny_Break (h s st)
theorem ex_pass (h : Ex C ρ τ μ rest Φ) : Ex C ρ τ μ (.Pass pos :: rest) Φ := ex_cons fun s E st => wpAny_Pass fun E' => h.run s E' st
/-- a target is bound -/
structure Bnd (C : Cx) (ρ : AEnv) (tgt : Expr) (d : Dat) (ρ' : AEnv) : Prop where
  of ::
  run : ∀ (τ : Tmp) (μ : Mu) (v : Value) (s : Shared) (Q : Unit → Shared → Prop) (E : Value → Shared → Prop), St C ρ ((v, d) :: τ) μ s → (∀ s', St C ρ' τ μ s' → Q () s') → wpAny (model P0 C.w) C.A (assign tgt C.env v) Q E s
theorem bnd_name (ok : C.Ok) (hl : C.env.kindOf x = some .local) : Bnd C ρ (.Name x tpos) d ((x, .dat d) :: ρ) := .of fun τ μ v s Q E st hQ =>
  PySem.wpAny_assign_Name (wp_store ok hl st (fun p hp => .tail _ hp) (a := .dat d) (.head _) hQ)
theorem bnd_pair (ok : C.Ok) {y : Str} {d₁ d₂ : Dat} {p1 p2 : Pos} {k : Nat} (hx : C.env.kindOf x = some .local) (hy : C.env.kindOf y = some .local) :
    Bnd C ρ (.Tuple [.Name x p1, .Name y p2] k tpos) (.tuple [d₁, d₂]) ((y, .dat d₂) :: (x, .dat d₁) :: ρ) := .of fun τ μ v s Q E st hQ => by
  obtain ⟨a, vs, rfl, ht, hlen, st₁⟩ := st.tuple (.head _)
  obtain ⟨u₁, u₂, rfl⟩ := two_of hlen
  refine assign_Tuple_tuple ok.hand ht rfl rfl fun h' hx' => ?_
  have st₂ := st₁.keeps (extNew hx') s.toks
  show wpAny _ _ (assignInOrder [assign (.Name x p1) C.env, assign (.Name y p2) C.env] [u₁, u₂]) Q E _
  refine wpAny_bind (wpAny_holding (PySem.wpAny_assign_Name (wp_store ok hx st₂ (τ' := (u₂, d₂) :: τ) (fun p hp => ?_) (a := .dat d₁) (.head _) fun s₃ st₃ => ?_)))
  · rcases List.mem_cons.mp hp with rfl | hp
    · exact .tail _ (.head _)
    · exact .tail _ (.tail _ (.tail _ hp))
  · refine wpAny_bind (wpAny_holding (PySem.wpAny_assign_Name (wp_store ok hy st₃ (τ' := τ) (fun p hp => .tail _ hp) (a := .dat d₂) (.head _) fun s₄ st₄ => ?_)))
    exact wpAny_pure (hQ _ st₄)
theorem bnd_three (ok : C.Ok) {y z : Str} {d₁ d₂ d₃ : Dat} {p1 p2 p3 : Pos} {k : Nat} (hx : C.env.kindOf x = some .local) (hy : C.env.kindOf y = some .local) (hz : C.env.kindOf z = some .local) :
    Bnd C ρ (.Tuple [.Name x p1, .Name y p2, .Name z p3] k tpos) (.tuple [d₁, d₂, d₃]) ((z, .dat d₃) :: (y, .dat d₂) :: (x, .dat d₁) :: ρ) := .of fun τ μ v s Q E st hQ => by
  obtain ⟨a, vs, rfl, ht, hlen, st₁⟩ := st.tuple (.head _)
  obtain ⟨u₁, u₂, u₃, rfl⟩ := three_of hlen
  refine assign_Tuple_tuple ok.hand ht rfl rfl fun h' hx' => ?_
  have st₂ := st₁.keeps (extNew hx') s.toks
  show wpAny _ _ (assignInOrder [assign (.Name x p1) C.env, assign (.Name y p2) C.env, assign (.Name z p3) C.env] [u₁, u₂, u₃]) Q E _
  refine wpAny_bind (wpAny_holding (PySem.wpAny_assign_Name (wp_store ok hx st₂ (τ' := (u₂, d₂) :: (u₃, d₃) :: τ) (fun p hp => ?_) (a := .dat d₁) (.head _) fun s₃ st₃ => ?_)))
  · rcases List.mem_cons.mp hp with rfl | hp
    · exact .tail _ (.head _)
    · rcases List.mem_cons.mp hp with rfl | hp
      · exact .tail _ (.tail _ (.head _))
      · exact .tail _ (.tail _ (.tail _ (.tail _ hp)))
  · refine wpAny_bind (wpAny_holding (PySem.wpAny_assign_Name (wp_store ok hy st₃ (τ' := (u₃, d₃) :: τ) (fun p hp => .tail _ hp) (a := .dat d₂) (.head _) fun s₄ st₄ => ?_)))
    refine wpAny_bind (wpAny_holding (PySem.wpAny_assign_Name (wp_store ok hz st₄ (τ' := τ) (fun p hp => .tail _ hp) (a := .dat d₃) (.head _) fun s₅ st₅ => ?_)))
    exact wpAny_pure (hQ _ st₅)
/-- a tuple is taken apart -/
theorem ex_assign_tuple {ρ' : AEnv} {elts : List Expr} {k : Nat} (he : Ev C ρ μ e d) (hb : Bnd C ρ (.Tuple elts k tpos) d ρ') (h : Ex C ρ' τ μ rest Φ)
    (hs : swapsWithSole [.Tuple elts k tpos] e pos.line C.env = pure false := by rfl)
    (hw : swappedStores [.Tuple elts k tpos] e C.env = pure none := by rfl) : Ex C ρ τ μ (.Assign [.Tuple elts k tpos] e pos :: rest) Φ :=
  ex_cons fun s E st => PyProof.Rows.Assign_Tuple (he.run τ s _ E st fun v s' st' => hb.run τ μ v s' _ E st' fun s'' st'' E' => h.run s'' E' st'') hs hw

theorem ex_aug {op : Operator} {d₀ d₁ d₂ : Dat} (ok : C.Ok) (hl : C.env.kindOf x = some .local) (hn : ρ.lookup x = some (.dat d₀)) (he : Ev C ρ μ e d₁)
    (ho : ∀ (τ : Tmp) (v u : Value) (s : Shared) (Q : Value → Shared → Prop) (E : Value → Shared → Prop), St C ρ ((u, d₁) :: (v, d₀) :: τ) μ s → (∀ v s', St C ρ ((v, d₂) :: τ) μ s' → Q v s') → wpAny (model P0 C.w) C.A (inplaceOp op v u) Q E s)
    (h : Ex C ((x, .dat d₂) :: ρ) τ μ rest Φ) : Ex C ρ τ μ (.AugAssign (.Name x tpos) op e pos :: rest) Φ :=
  ex_cons fun s E st => by
    refine wpAny_AugAssign_Name ?_
    obtain ⟨m, nd, hW⟩ := st
    rcases hW.vars x _ hn with ⟨hk, v, ev, i⟩ | ⟨hk, _⟩
    · refine wpAny_loadName_local ok.kind hk hW.F.ns ev (he.run _ s _ E (hW.push i).st fun u s₂ st₂ => ho τ v u s₂ _ E st₂ fun r s₃ st₃ => ?_)
      exact wp_store ok hl st₃ (fun p hp => .tail _ hp) (a := .dat d₂) (.head _) fun s₄ st₄ E' => h.run s₄ E' st₄
    · rw [hl] at hk; rcases hk with hk | hk <;> cases hk
end
end Mine
end

section
open PySem PySem.W PyProof.Rows PySem.Calls
set_option maxRecDepth 100000
set_option linter.all false
namespace Mine

/-- an iterator at I that hands out ds; P i o: its object o when i were taken -/
structure Iter (C : Cx) (τ₀ : Tmp) (I : Addr) (ds : List Dat) (P : Nat → Obj → Prop) : Prop where
  item : ∀ (i : Nat) (d : Dat) (ρ : AEnv) (τ : Tmp) (μ : Mu) (s : Shared) (Q : Option Value → Shared → Prop) (E : Value → Shared → Prop) (o : Obj), ds[i]? = some d → P i o → (∀ p ∈ τ₀, p ∈ τ) → St C ρ τ ((I, o) :: μ) s →
    (∀ v o' s', P (i + 1) o' → St C ρ ((v, d) :: τ) ((I, o') :: μ) s' → Q (some v) s') → wpAny (model P0 C.w) C.A (pyNext (.ref I)) Q E s
  done : ∀ (ρ : AEnv) (τ : Tmp) (μ : Mu) (s : Shared) (Q : Option Value → Shared → Prop) (E : Value → Shared → Prop) (o : Obj), P ds.length o → (∀ p ∈ τ₀, p ∈ τ) → St C ρ τ ((I, o) :: μ) s →
    (∀ s', St C ρ τ μ s' → Q none s') → wpAny (model P0 C.w) C.A (pyNext (.ref I)) Q E s
  cls : ∀ i o, P i o → ∃ n, o.cls = .type n ∧ (["enumerate", "zip", "dict_itemiterator", "dict_reverseitemiterator", "odict_iterator", "itertools.zip_longest", "itertools.pairwise"].contains n) = false
  self : ∀ (i : Nat) (ρ : AEnv) (τ : Tmp) (μ : Mu) (s : Shared) (Q : Value → Shared → Prop) (E : Value → Shared → Prop) (o : Obj), P i o → (∀ p ∈ τ₀, p ∈ τ) → St C ρ τ ((I, o) :: μ) s → Q (.ref I) s → wpAny (model P0 C.w) C.A (pyIter (.ref I)) Q E s

/-- an expression over which a for goes -/
structure Itb (C : Cx) (ρ : AEnv) (μ : Mu) (iter : Expr) (ds : List Dat) : Prop where
  of ::
  run : ∀ (τ : Tmp) (s : Shared) (Q : Value → Shared → Prop) (E : Value → Shared → Prop), St C ρ τ μ s →
    (∀ (I : Addr) (o : Obj) (τ₀ : Tmp) (P : Nat → Obj → Prop) (s' : Shared), Iter C τ₀ I ds P → P 0 o → St C ρ (τ₀ ++ τ) ((I, o) :: μ) s' → Q (.ref I) s') →
    wpAny (model P0 C.w) C.A (eval iter C.env) (fun x s₁ => wpAny (model P0 C.w) C.A (pyIter x) Q E s₁) E s

section
variable {M : Model} {A : Around} {E : Value → Shared → Prop} {s : Shared}
theorem wp_lets {tgt : Expr} {I : Addr} {v : Value} {o : Obj} {n : String} {Q : Unit → Shared → Prop} (ho : s.heap.get? I = some o) (hc : o.cls = .type n)
    (hn : (["enumerate", "zip", "dict_itemiterator", "dict_reverseitemiterator", "odict_iterator", "itertools.zip_longest", "itertools.pairwise"].contains n) = false) (hQ : Q () s) : wpAny M A (letOwnedTupleGo tgt (.ref I) v) Q E s := by
  unfold letOwnedTupleGo
  split
  · cases v <;> first | exact wpAny_pure hQ | skip
    refine wpAny_bind (wpAny_load ho ?_)
    rw [hc]
    split
    · rename_i n' vs e1 e2
      cases e1
      simp only [hn, Bool.false_and, Bool.false_eq_true, if_false]
      exact wpAny_pure hQ
    · exact wpAny_pure hQ
  · cases v <;> first | exact wpAny_pure hQ | skip
    refine wpAny_bind (wpAny_load ho ?_)
    rw [hc]
    split
    · rename_i n' vs e1 e2
      cases e1
      simp only [hn, Bool.false_and, Bool.false_eq_true, if_false]
      exact wpAny_pure hQ
    · exact wpAny_pure hQ
  · exact wpAny_pure hQ
end

section
variable {prog : Program} {w : World} {A : Around}
theorem codeAny_forLoopL {R : Result → Shared → Prop} {s : Shared} {target : Expr} {it : Value} {body orelse : List Stmt} {env : Env} (I : Nat → Shared → Prop)
    (turn : ∀ n s, I n s → wpAny (model prog w) A (pyNext it) (fun r s₁ => match r with
      | none => wpAny (model prog w) A (execs orelse env) (fun f s₃ => R (.ok f) s₃) (notedBy (model prog w) A env fun e s' => R (.error e) s') s₁
      | some v => wpAny (model prog w) A (letOwnedTupleGo target it v) (fun _ s₁ => wpAny (model prog w) A (assign target env v) (fun _ s₂ => wpAny (model prog w) A (execs body env) (fun f s₃ => match f with
          | .next | .cont => ∃ m, m < n ∧ I m s₃
          | .brk => R (.ok .next) s₃
          | .ret v => R (.ok (.ret v)) s₃) (notedBy (model prog w) A env fun e s' => R (.error e) s') s₂) (notedBy (model prog w) A env fun e s' => R (.error e) s') s₁) (notedBy (model prog w) A env fun e s' => R (.error e) s') s₁) (notedBy (model prog w) A env fun e s' => R (.error e) s') s)
    (n : Nat) (h : I n s) : codeAny (model prog w) A (.forLoop target it body orelse env) R s := by
  refine codeAny_loop' rfl I (fun n s hI => ?_) n h
  show wpAny _ _ ((forTurn target it body orelse env).onRaise (fun x => do noteFrame x env; theTreesLotGoes x)) _ _ s
  refine wpAny_noted ?_
  simp only [forTurn]
  refine wpAny_bind (wpAny_standAt (wpAny_bind (wpAny_onRaise (wpAny_mono (turn n s hI) (fun r s₁ h₁ => ?_) fun _ _ h' => wpAny_standAt h'))))
  cases r with
  | none => exact wpAny_pure (.inr ⟨rfl, codeAny_block h₁⟩)
  | some v =>
    refine wpAny_bind (wpAny_mono h₁ (fun _ s₁' h₁' => ?_) fun _ _ h' => h')
    refine wpAny_bind (wpAny_mono h₁' (fun _ s₂ h₂ => wpAny_bind (wpAny_mono h₂ (fun f s₃ h₃ => ?_) fun _ _ h' => h')) fun _ _ h' => h')
    cases f with
    | next => exact wpAny_pure (.inl ⟨rfl, h₃⟩)
    | cont => exact wpAny_pure (.inl ⟨rfl, h₃⟩)
    | brk => exact wpAny_pure h₃
    | ret v => exact wpAny_pure h₃
end

/-- what a turn of a for is to end in -/
noncomputable def TurnP {σ : Type} (C : Cx) (R : σ → AEnv) (T : σ → Tmp) (U : σ → Mu) (J : σ → Prop) (τ : Tmp) (P : Obj → Prop) (I : Addr) (Φ : Flow → Shared → Prop) (f : Flow) (s : Shared) : Prop := match f with
  | .next | .cont => ∃ a o, J a ∧ P o ∧ St C (R a) (T a ++ τ) ((I, o) :: U a) s
  | .brk => False
  | .ret v => Φ (.ret v) s

section
variable {C : Cx} {ρ : AEnv} {τ : Tmp} {μ : Mu} {rest body : List Stmt} {Φ : Flow → Shared → Prop} {iter tgt : Expr} {pos : Pos} {ds : List Dat}

theorem ex_for {σ : Type} (R : σ → AEnv) (T : σ → Tmp) (U : σ → Mu) (J : Nat → σ → Prop) (a₀ : σ) (ok : C.Ok) (hI : Itb C ρ μ iter ds) (h0 : J 0 a₀) (hρ : ∀ x a, (R a₀).lookup x = some a → ρ.lookup x = some a)
    (hτ : ∀ p ∈ T a₀, p ∈ τ) (hμ : U a₀ = μ)
    (turn : ∀ (i : Nat) (a : σ) (d : Dat) (τ' : Tmp) (I : Addr) (o : Obj) (P : Obj → Prop), ds[i]? = some d → J i a → (∀ p ∈ τ, p ∈ τ') → P o →
      ∃ ρ', Bnd C (R a) tgt d ρ' ∧ Ex C ρ' (T a ++ τ') ((I, o) :: U a) body (TurnP C R T U (J (i + 1)) τ' P I (Thn C rest Φ)))
    (done : ∀ a, J ds.length a → Ex C (R a) (T a ++ τ) (U a) rest Φ)
    (hs : ∀ x, foldedSetIterable iter C.env x = pure x := by intro _; rfl) :
    Ex C ρ τ μ (.For tgt iter body [] pos :: rest) Φ := by
  refine ex_cons fun s E st => wpAny_For (hI.run τ s _ E st fun I o τ₀ P s₁ X hP st₁ => ?_) hs
  refine codeAny_forLoopL (fun n s' => ∃ i a o, n = ds.length + 1 - i ∧ i ≤ ds.length ∧ J i a ∧ P i o ∧ St C (R a) (T a ++ (τ₀ ++ τ)) ((I, o) :: U a) s') ?_ (ds.length + 1)
    ⟨0, a₀, o, rfl, Nat.zero_le _, h0, hP, hμ ▸ (st₁.env hρ).tmpsOf fun p hp => (List.mem_append.mp hp).elim (fun q => List.mem_append.mpr (.inr (hτ p q))) id⟩
  rintro n s' ⟨i, a, o, rfl, hi, hJ, hPi, st'⟩
  have hsub : ∀ p ∈ τ₀, p ∈ T a ++ (τ₀ ++ τ) := fun p hp => List.mem_append.mpr (.inr (List.mem_append.mpr (.inl hp)))
  cases hd : ds[i]? with
  | none =>
    have hin : i = ds.length := Nat.le_antisymm hi (by simpa using hd)
    subst hin
    refine X.done _ _ _ s' _ _ o hPi hsub st' fun s₂ st₂ => wpAny_execs_nil ?_
    exact fun E' => (done a hJ).run s₂ E' (st₂.tmpsOf fun p hp => (List.mem_append.mp hp).elim (fun q => List.mem_append.mpr (.inl q)) fun q => List.mem_append.mpr (.inr (List.mem_append.mpr (.inr q))))
  | some d =>
    have hlt : i < ds.length := (List.getElem?_eq_some_iff.mp hd).1
    refine X.item i d _ _ _ s' _ _ o hd hPi hsub st' fun v o' s₂ hP' st₂ => ?_
    obtain ⟨nm, hc, hn⟩ := X.cls _ _ hP'
    refine wp_lets (st₂.muGet (.head _)) hc hn ?_
    obtain ⟨ρ', hb, hx⟩ := turn i a d (τ₀ ++ τ) I o' (P (i + 1)) hd hJ (fun p hp => List.mem_append.mpr (.inr hp)) hP'
    refine hb.run _ _ v s₂ _ _ st₂ fun s₃ st₃ => ?_
    refine wpAny_mono (hx.run s₃ _ st₃) (fun f s₄ h₄ => ?_) fun _ _ q => q
    cases f with
    | next =>
      obtain ⟨a', o'', hJ', hP'', st₄⟩ := h₄
      exact ⟨ds.length + 1 - (i + 1), by (first | assumption | decide | exact Nat.le_trans (by assumption) (by decide) | exact Nat.le_trans (Nat.add_le_add (by assumption) (by assumption)) (by decide) | exact Nat.lt_of_le_of_lt (by assumption) (by decide) | exact Nat.lt_of_lt_of_le (by assumption) (by decide) | lia | omega), i + 1, a', o'', rfl, hlt, hJ', hP'', st₄⟩
    | cont =>
      obtain ⟨a', o'', hJ', hP'', st₄⟩ := h₄
      exact ⟨ds.length + 1 - (i + 1), by (first | assumption | decide | exact Nat.le_trans (by assumption) (by decide) | exact Nat.le_trans (Nat.add_le_add (by assumption) (by assumption)) (by decide) | exact Nat.lt_of_le_of_lt (by assumption) (by decide) | exact Nat.lt_of_lt_of_le (by assumption) (by decide) | lia | omega), i + 1, a', o'', rfl, hlt, hJ', hP'', st₄⟩
    | brk => exact h₄.elim
    | ret v => exact h₄

/-- a for that turns nothing that we name -/
theorem ex_for0 (ok : C.Ok) (hI : Itb C ρ μ iter ds)
    (turn : ∀ (i : Nat) (d : Dat) (τ' : Tmp) (I : Addr) (o : Obj) (P : Obj → Prop), ds[i]? = some d → (∀ p ∈ τ, p ∈ τ') → P o →
      ∃ ρ', Bnd C ρ tgt d ρ' ∧ Ex C ρ' τ' ((I, o) :: μ) body (TurnP C (fun _ : Unit => ρ) (fun _ => []) (fun _ => μ) (fun _ => True) τ' P I (Thn C rest Φ)))
    (done : Ex C ρ τ μ rest Φ) (hs : ∀ x, foldedSetIterable iter C.env x = pure x := by intro _; rfl) : Ex C ρ τ μ (.For tgt iter body [] pos :: rest) Φ :=
  ex_for (fun _ : Unit => ρ) (fun _ => []) (fun _ => μ) (fun _ _ => True) () ok hI trivial (fun _ _ e => e) (fun _ hp => nomatch hp) rfl (fun i _ d τ' I o P hd _ hs hp => turn i d τ' I o P hd hs hp) (fun _ _ => done) hs
theorem turn_end {σ : Type} {R : σ → AEnv} {T : σ → Tmp} {U : σ → Mu} {J : σ → Prop} {P : Obj → Prop} {I : Addr} {o : Obj} {τ' : Tmp} (a : σ) (hJ : J a) (hP : P o) (hρ : ∀ x b, (R a).lookup x = some b → ρ.lookup x = some b) (hτ : ∀ p ∈ T a ++ τ', p ∈ τ) (hμ : (I, o) :: U a = μ) :
    Ex C ρ τ μ [] (TurnP C R T U J τ' P I Φ) := ex_nil fun s st => ⟨a, o, hJ, hP, hμ ▸ (st.env hρ).tmpsOf hτ⟩
theorem turn_end0 {ρ' : AEnv} {μ' : Mu} {P : Obj → Prop} {I : Addr} {o : Obj} (hP : P o) (hρ : ∀ x b, ρ'.lookup x = some b → ρ.lookup x = some b) (hμ : (I, o) :: μ' = μ) :
    Ex C ρ τ μ [] (TurnP C (fun _ : Unit => ρ') (fun _ => []) (fun _ => μ') (fun _ => True) τ P I Φ) := turn_end () trivial hP hρ (fun _ hp => hp) hμ

/-- a while -/
noncomputable def WhileP {σ : Type} (C : Cx) (R : σ → AEnv) (T : σ → Tmp) (U : σ → Mu) (J : σ → Prop) (Φ : Flow → Shared → Prop) (f : Flow) (s : Shared) : Prop := match f with
  | .next | .cont => ∃ a, J a ∧ St C (R a) (T a) (U a) s
  | .brk => Φ .next s
  | .ret v => Φ (.ret v) s
theorem ex_while {σ : Type} (R : σ → AEnv) (T : σ → Tmp) (U : σ → Mu) (J : Nat → σ → Prop) (n₀ : Nat) (a₀ : σ) {test : Expr} (h0 : J n₀ a₀) (hρ : ∀ x a, (R a₀).lookup x = some a → ρ.lookup x = some a)
    (hτ : ∀ p ∈ T a₀, p ∈ τ) (hμ : U a₀ = μ)
    (turn : ∀ n a, J n a → ∃ b, Tr C (R a) (U a) test b ∧ (b = true → Ex C (R a) (T a) (U a) body (WhileP C R T U (fun a' => ∃ m, m < n ∧ J m a') (Thn C rest Φ))) ∧ (b = false → Ex C (R a) (T a) (U a) rest Φ)) :
    Ex C ρ τ μ (.While test body [] pos :: rest) Φ := by
  refine ex_cons fun s E st => wpAny_While ?_
  refine codeAny_whileLoop (fun n s' => ∃ a, J n a ∧ St C (R a) (T a) (U a) s') ?_ n₀ ⟨a₀, h0, hμ ▸ (st.env hρ).tmpsOf hτ⟩
  rintro n s' ⟨a, hJ, st'⟩
  obtain ⟨b, ht, h1, h2⟩ := turn n a hJ
  refine ht.run _ s' _ _ st' fun s₂ st₂ => ?_
  cases b with
  | true =>
    refine wpAny_mono ((h1 rfl).run s₂ _ st₂) (fun f s₃ h₃ => ?_) fun _ _ q => q
    cases f with
    | next => obtain ⟨a', ⟨k, hk, hJ'⟩, st₃⟩ := h₃; exact ⟨k, hk, a', hJ', st₃⟩
    | cont => obtain ⟨a', ⟨k, hk, hJ'⟩, st₃⟩ := h₃; exact ⟨k, hk, a', hJ', st₃⟩
    | brk => exact h₃
    | ret v => exact h₃
  | false => exact wpAny_execs_nil fun E' => (h2 rfl).run s₂ E' st₂
theorem while_end {σ : Type} {R : σ → AEnv} {T : σ → Tmp} {U : σ → Mu} {J : σ → Prop} (a : σ) (hJ : J a) (hρ : ∀ x b, (R a).lookup x = some b → ρ.lookup x = some b) (hτ : ∀ p ∈ T a, p ∈ τ) (hμ : U a = μ) :
    Ex C ρ τ μ [] (WhileP C R T U J Φ) := ex_nil fun s st => ⟨a, hJ, hμ ▸ (st.env hρ).tmpsOf hτ⟩
end

section
variable {C : Cx} {ρ : AEnv} {τ : Tmp} {μ : Mu} {iter : Expr} {ds : List Dat} {s : Shared}
/-- the head of the own things is let go, whatever became of it -/
theorem St.gone {a : Addr} {o : Obj} (st : St C ρ τ ((a, o) :: μ) s) {h' : Heap} (hx : Heap.ExtBut a s.heap h') (t : Tok) : St C ρ τ μ { s with heap := h', toks := t } := by
  obtain ⟨m, nd, st'⟩ := st
  have e0 := st'.N _ (.head _)
  refine ⟨m, nd, ⟨st'.F.ns.extBut hx (Ne.symm e0.2.1), fun b ob e => hx b ob (fun q => ?_) (st'.F.keep b ob e), st'.F.above⟩, fun p hp => ?_, fun p hp => st'.sep p (.tail _ hp), fun p hp => st'.dis p (.tail _ hp), ?_, st'.keep, st'.gens, st'.vars, st'.tmps, st'.os⟩
  · rw [q, e0.2.2] at e; cases e
  · have hN := st'.N p (.tail _ hp)
    refine ⟨hx _ _ ?_ hN.1, hN.2⟩
    rcases List.mem_append.mp hp with hp | hp
    · intro q
      have := st'.nodup
      simp only [List.map_cons, List.nodup_cons] at this
      exact this.1 (q ▸ List.mem_map_of_mem hp)
    · rcases List.mem_append.mp hp with hp | hp
      · exact fun q => st'.dis _ (.head _) p hp q.symm
      · exact fun q => st'.sep _ (.head _) p hp q.symm
  · have := st'.nodup
    simp only [List.map_cons, List.nodup_cons] at this
    exact this.2
theorem iter_list {I l : Addr} (ok : C.Ok) : Iter C [(.ref l, .list ds)] I ds (fun i o => o.cls = .type "list_iterator" ∧ o.data = .fields #[.ref l, .int i 0]) where
  item := fun i d ρ τ μ s Q E o hd hP hs st hQ => by
    obtain ⟨a, vs, e, hl, hlen, st₁⟩ := st.list (hs _ (.head _))
    cases e
    obtain ⟨v, hv, hin⟩ := (AllIn.zip (τ := τ) hlen).get hd
    refine wpAny_pyNext_list_item ⟨o, st.muGet (.head _), hP.1, hP.2⟩ hl (x := v) (by simpa using hv) fun h' hit hsb => ?_
    obtain ⟨o', ho', hc, hdt⟩ := hit
    obtain ⟨m, nd, st'⟩ := st₁.upd hsb.extBut ho' s.toks
    exact hQ v o' _ ⟨hc, hdt⟩ ((st'.push (st'.tmps _ hin)).st.tmpsOf fun p hp => by
      rcases List.mem_cons.mp hp with rfl | hp
      · exact .head _
      · exact .tail _ (List.mem_append.mpr (.inr hp)))
  done := fun ρ τ μ s Q E o hP hs st hQ => by
    obtain ⟨a, vs, e, hl, hlen, st₁⟩ := st.list (hs _ (.head _))
    cases e
    exact wpAny_pyNext_list_end ok.hand ⟨o, st.muGet (.head _), hP.1, hP.2⟩ hl (by simp [hlen]) fun h' hx => hQ _ (st.gone hx s.toks)
  cls := fun i o hP => ⟨_, hP.1, by decide⟩
  self := fun i ρ τ μ s Q E o hP hs st hQ => wpAny_pyIter_listiter (show s.heap.IsListIter I l i from ⟨o, st.muGet (.head _), hP.1, hP.2⟩) hQ
theorem iter_tuple {I l : Addr} (ok : C.Ok) : Iter C [(.ref l, .tuple ds)] I ds (fun i o => o.cls = .type "tuple_iterator" ∧ o.data = .fields #[.ref l, .int i 0]) where
  item := fun i d ρ τ μ s Q E o hd hP hs st hQ => by
    obtain ⟨a, vs, e, hl, hlen, st₁⟩ := st.tuple (hs _ (.head _))
    cases e
    obtain ⟨v, hv, hin⟩ := (AllIn.zip (τ := τ) hlen).get hd
    refine wpAny_pyNext_tuple_item ⟨o, st.muGet (.head _), hP.1, hP.2⟩ (show s.heap.IsTuple l vs.toArray from hl) (x := v) (by simpa using hv) fun h' hit hsb => ?_
    obtain ⟨o', ho', hc, hdt⟩ := hit
    obtain ⟨m, nd, st'⟩ := st₁.upd hsb.extBut ho' s.toks
    exact hQ v o' _ ⟨hc, hdt⟩ ((st'.push (st'.tmps _ hin)).st.tmpsOf fun p hp => by
      rcases List.mem_cons.mp hp with rfl | hp
      · exact .head _
      · exact .tail _ (List.mem_append.mpr (.inr hp)))
  done := fun ρ τ μ s Q E o hP hs st hQ => by
    obtain ⟨a, vs, e, hl, hlen, st₁⟩ := st.tuple (hs _ (.head _))
    cases e
    exact wpAny_pyNext_tuple_end ok.hand ⟨o, st.muGet (.head _), hP.1, hP.2⟩ (show s.heap.IsTuple l vs.toArray from hl) (by simp [hlen]) fun h' hx => hQ _ (st.gone hx s.toks)
  cls := fun i o hP => ⟨_, hP.1, by decide⟩
  self := fun i ρ τ μ s Q E o hP hs st hQ => wpAny_pyIter_tupleiter (show s.heap.IsTupleIter I l i from ⟨o, st.muGet (.head _), hP.1, hP.2⟩) hQ

/-- the ints from a on, n of them -/
noncomputable def intsFrom (a : Int) : Nat → List Dat
  | 0 => []
  | n + 1 => .int a :: intsFrom (a + 1) n
theorem intsFrom_length : ∀ (n : Nat) (a : Int), (intsFrom a n).length = n
  | 0, _ => rfl
  | n + 1, a => congrArg (· + 1) (intsFrom_length n (a + 1))
theorem intsFrom_get : ∀ (n : Nat) (a : Int) (i : Nat) (d : Dat), (intsFrom a n)[i]? = some d → d = .int (a + i) ∧ i < n
  | 0, _, _, _, h => by simp [intsFrom] at h
  | n + 1, a, 0, d, h => by
    simp only [intsFrom, List.getElem?_cons_zero, Option.some.injEq] at h
    exact ⟨by rw [← h]; simp, Nat.succ_pos _⟩
  | n + 1, a, i + 1, d, h => by
    simp only [intsFrom, List.getElem?_cons_succ] at h
    obtain ⟨e, hlt⟩ := intsFrom_get n (a + 1) i d h
    refine ⟨?_, Nat.succ_lt_succ hlt⟩
    rw [e]; congr 1; push_cast; (first | assumption | decide | exact Nat.le_trans (by assumption) (by decide) | exact Nat.le_trans (Nat.add_le_add (by assumption) (by assumption)) (by decide) | exact Nat.lt_of_le_of_lt (by assumption) (by decide) | exact Nat.lt_of_lt_of_le (by assumption) (by decide) | lia | omega)
theorem iter_range {I : Addr} {a : Int} {n : Nat} (ok : C.Ok) : Iter C [] I (intsFrom a n) (fun i o => o = { cls := .type "range_iterator", dict := none, data := .fields #[rawInt (a + i), rawInt ((n : Int) - i), rawInt 1], slots := #[] }) where
  item := fun i d ρ τ μ s Q E o hd hP hs st hQ => by
    obtain ⟨rfl, hlt⟩ := intsFrom_get n a i d hd
    subst hP
    refine wpAny_pyNext_range_item (st.muGet (.head _)) (by (first | assumption | decide | exact Nat.le_trans (by assumption) (by decide) | exact Nat.le_trans (Nat.add_le_add (by assumption) (by assumption)) (by decide) | exact Nat.lt_of_le_of_lt (by assumption) (by decide) | exact Nat.lt_of_lt_of_le (by assumption) (by decide) | lia | omega)) fun h' hit hsb => ?_
    refine hQ _ _ _ ?_ ((St.upd st hsb.extBut hit (s.toks + 1)).pushInt _ _)
    congr 1
    rw [show a + (i : Int) + 1 = a + ((i + 1 : Nat) : Int) by push_cast; (first | assumption | decide | exact Nat.le_trans (by assumption) (by decide) | exact Nat.le_trans (Nat.add_le_add (by assumption) (by assumption)) (by decide) | exact Nat.lt_of_le_of_lt (by assumption) (by decide) | exact Nat.lt_of_lt_of_le (by assumption) (by decide) | lia | omega), show (n : Int) - (i : Int) - 1 = (n : Int) - ((i + 1 : Nat) : Int) by push_cast; (first | assumption | decide | exact Nat.le_trans (by assumption) (by decide) | exact Nat.le_trans (Nat.add_le_add (by assumption) (by assumption)) (by decide) | exact Nat.lt_of_le_of_lt (by assumption) (by decide) | exact Nat.lt_of_lt_of_le (by assumption) (by decide) | lia | omega)]
  done := fun ρ τ μ s Q E o hP hs st hQ => by
    rw [intsFrom_length] at hP
    subst hP
    exact wpAny_pyNext_range_end ok.hand (st.muGet (.head _)) (by (first | assumption | decide | exact Nat.le_trans (by assumption) (by decide) | exact Nat.le_trans (Nat.add_le_add (by assumption) (by assumption)) (by decide) | exact Nat.lt_of_le_of_lt (by assumption) (by decide) | exact Nat.lt_of_lt_of_le (by assumption) (by decide) | lia | omega)) fun h' hx => hQ _ (st.gone hx s.toks)
  cls := fun i o hP => ⟨"range_iterator", by rw [hP], by decide⟩
  self := fun i ρ τ μ s Q E o hP hs st hQ => by
    subst hP
    exact wpAny_pyIter_rangeiter (st.muGet (.head _)) hQ

theorem itb_list (ok : C.Ok) (he : Ev C ρ μ iter (.list ds)) : Itb C ρ μ iter ds := .of fun τ s Q E st hQ => he.run τ s _ E st fun v s₁ st₁ => by
  obtain ⟨a, vs, rfl, hl, hlen, st₂⟩ := st₁.list (.head _)
  refine wpAny_pyIter_list hl ?_
  exact hQ _ _ [(.ref a, .list ds)] _ _ (iter_list ok) ⟨rfl, rfl⟩ (st₁.own _)
theorem itb_tuple (ok : C.Ok) (he : Ev C ρ μ iter (.tuple ds)) : Itb C ρ μ iter ds := .of fun τ s Q E st hQ => he.run τ s _ E st fun v s₁ st₁ => by
  obtain ⟨a, vs, rfl, hl, hlen, st₂⟩ := st₁.tuple (.head _)
  refine PySem.wpAny_pyIter_tuple (show s₁.heap.IsTuple a vs.toArray from hl) ?_
  exact hQ _ _ [(.ref a, .tuple ds)] _ _ (iter_tuple ok) ⟨rfl, rfl⟩ (st₁.own _)
theorem itb_range {e : Expr} {np pos : Pos} {n : Int} (ok : C.Ok) (hx : C.env.kindOf "range" = some .globalImplicit) (hm : ∀ P, nsIn (wtop.heap_39 P) mainGlobals "range" = some none) (he : Ev C ρ μ e (.int n)) (hlo : 0 ≤ n) (hhi : n < 2 ^ 62)
    (hse : starEach [e] C.env = [(false, eval e C.env)] := by rfl) :
    Itb C ρ μ (.Call (.Name "range" np) [e] [] pos) (intsFrom 0 n.toNat) := .of fun τ s Q E st hQ => by
  refine Call_name1 hse (wp_name_builtin ok hx (hm _) rfl st ?_)
  refine callWith_type1 (he.run τ s _ E st fun v s₁ st₁ => ?_)
  obtain ⟨⟨t, rfl⟩, st₂⟩ := st₁.int
  refine call_range_1 ?_
  refine wpAny_pyIter_range (IsRange.new ..) (small_one (by decide) (by decide) (by (first | assumption | decide | exact Nat.le_trans (by assumption) (by decide) | exact Nat.le_trans (Nat.add_le_add (by assumption) (by assumption)) (by decide) | exact Nat.lt_of_le_of_lt (by assumption) (by decide) | exact Nat.lt_of_lt_of_le (by assumption) (by decide) | lia | omega)) (by (first | assumption | decide | exact Nat.le_trans (by assumption) (by decide) | exact Nat.le_trans (Nat.add_le_add (by assumption) (by assumption)) (by decide) | exact Nat.lt_of_le_of_lt (by assumption) (by decide) | exact Nat.lt_of_lt_of_le (by assumption) (by decide) | lia | omega))) ?_
  have hsz : Builtin.Range.rangeSize 0 n 1 = (n.toNat : Int) := by rw [rangeSize_one]; split <;> (first | assumption | decide | exact Nat.le_trans (by assumption) (by decide) | exact Nat.le_trans (Nat.add_le_add (by assumption) (by assumption)) (by decide) | exact Nat.lt_of_le_of_lt (by assumption) (by decide) | exact Nat.lt_of_lt_of_le (by assumption) (by decide) | lia | omega)
  have st₃ := (st₂.keeps (fun b o e => Heap.get?_push_of_some { cls := .type "range", data := .fields #[.int 0 s₁.toks, .int n t, .int 1 (s₁.toks + 1)] } e) (s₁.toks + 1 + 1)).own { cls := .type "range_iterator", data := .fields #[rawInt 0, rawInt (Builtin.Range.rangeSize 0 n 1), rawInt 1] }
  exact hQ _ _ [] _ _ (iter_range ok) (by rw [hsz]; simp) st₃
theorem itb_range2 {e e' : Expr} {np pos : Pos} {n k : Int} (ok : C.Ok) (hx : C.env.kindOf "range" = some .globalImplicit) (hm : ∀ P, nsIn (wtop.heap_39 P) mainGlobals "range" = some none) (he' : Ev C ρ μ e' (.int k)) (he : Ev C ρ μ e (.int n)) (hlo : 0 ≤ k) (hkn : k ≤ n) (hhi : n < 2 ^ 62)
    (hse : starEach [e', e] C.env = [(false, eval e' C.env), (false, eval e C.env)] := by rfl) :
    Itb C ρ μ (.Call (.Name "range" np) [e', e] [] pos) (intsFrom k (n - k).toNat) := .of fun τ s Q E st hQ => by
  refine wpAny_Call_NameR (wp_name_builtin ok hx (hm _) rfl st ?_)
  rw [hse]
  refine PyProof.Rows.callWith_type rfl (Calls.evalArgs_plain (Calls.spliced_cons (he'.run τ s _ E st fun u s₀ st₀ => Calls.spliced_cons (he.run _ s₀ _ E st₀ fun v s₁ st₁ => Calls.spliced_nil ?_))))
  obtain ⟨t, t', rfl, rfl, st₂⟩ := st₁.int2
  refine call_range_2 ?_
  refine wpAny_pyIter_range (IsRange.new ..) (small_one (by (first | assumption | decide | exact Nat.le_trans (by assumption) (by decide) | exact Nat.le_trans (Nat.add_le_add (by assumption) (by assumption)) (by decide) | exact Nat.lt_of_le_of_lt (by assumption) (by decide) | exact Nat.lt_of_lt_of_le (by assumption) (by decide) | lia | omega)) (by (first | assumption | decide | exact Nat.le_trans (by assumption) (by decide) | exact Nat.le_trans (Nat.add_le_add (by assumption) (by assumption)) (by decide) | exact Nat.lt_of_le_of_lt (by assumption) (by decide) | exact Nat.lt_of_lt_of_le (by assumption) (by decide) | lia | omega)) (by (first | assumption | decide | exact Nat.le_trans (by assumption) (by decide) | exact Nat.le_trans (Nat.add_le_add (by assumption) (by assumption)) (by decide) | exact Nat.lt_of_le_of_lt (by assumption) (by decide) | exact Nat.lt_of_lt_of_le (by assumption) (by decide) | lia | omega)) (by (first | assumption | decide | exact Nat.le_trans (by assumption) (by decide) | exact Nat.le_trans (Nat.add_le_add (by assumption) (by assumption)) (by decide) | exact Nat.lt_of_le_of_lt (by assumption) (by decide) | exact Nat.lt_of_lt_of_le (by assumption) (by decide) | lia | omega))) ?_
  have hsz : Builtin.Range.rangeSize k n 1 = ((n - k).toNat : Int) := by rw [rangeSize_one]; split <;> (first | assumption | decide | exact Nat.le_trans (by assumption) (by decide) | exact Nat.le_trans (Nat.add_le_add (by assumption) (by assumption)) (by decide) | exact Nat.lt_of_le_of_lt (by assumption) (by decide) | exact Nat.lt_of_lt_of_le (by assumption) (by decide) | lia | omega)
  have st₃ := (st₂.keeps (fun b o e => Heap.get?_push_of_some { cls := .type "range", data := .fields #[.int k t, .int n t', .int 1 s₁.toks] } e) (s₁.toks + 1)).own { cls := .type "range_iterator", data := .fields #[rawInt k, rawInt (Builtin.Range.rangeSize k n 1), rawInt 1] }
  exact hQ _ _ [] _ _ (iter_range ok) (by rw [hsz]; simp) st₃
end
end Mine
end

section
open PySem PySem.W PyProof.Rows PySem.Calls
set_option maxRecDepth 100000
set_option linter.all false
namespace Mine

section
variable {C : Cx} {ρ : AEnv} {τ : Tmp} {μ : Mu} {s : Shared} {x : Str}
/-- a list of the frame's own is kept from here on -/
theorem St.freeze {a : Addr} {vs : List Value} {ds : List Dat} {n : Nat} {τ' : Tmp} (h : St C ((x, .raw (.ref a)) :: ρ) τ ((a, listOf vs.toArray n) :: μ) s) (ha : AllIn τ vs ds) (hs : ∀ p ∈ τ', p ∈ τ) : St C ((x, .dat (.list ds)) :: ρ) τ' μ s := by
  obtain ⟨m, nd, h⟩ := h
  have hsub : ∀ p ∈ nd, p ∈ (a, listOf vs.toArray n) :: nd := fun p hp => .tail _ hp
  have hnd := h.nodup
  simp only [List.map_cons, List.nodup_cons] at hnd
  refine ⟨m, (a, listOf vs.toArray n) :: nd, h.F, fun p hp => h.N p ?_, fun p hp q hq => ?_, fun p hp => h.dis p (.tail _ hp), hnd.2, fun p hp => .tail _ (h.keep p hp), h.gens, fun y b e => ?_, fun p hp => (h.tmps p (hs p hp)).mono hsub, h.os⟩
  · rcases List.mem_append.mp hp with hp | hp
    · exact .tail _ (List.mem_append.mpr (.inl hp))
    · rcases List.mem_append.mp hp with hp | hp
      · exact .tail _ (List.mem_append.mpr (.inr (List.mem_append.mpr (.inl hp))))
      · rcases List.mem_cons.mp hp with rfl | hp
        · exact .head _
        · exact .tail _ (List.mem_append.mpr (.inr (List.mem_append.mpr (.inr hp))))
  · rcases List.mem_cons.mp hq with rfl | hq
    · rcases List.mem_append.mp hp with hp | hp
      · exact fun e => hnd.1 (by have := List.mem_map_of_mem (f := (·.1)) hp; rw [show p.1 = a from e] at this; exact this)
      · exact fun e => h.dis _ (.head _) p hp e.symm
    · refine h.sep p ?_ q hq
      exact (List.mem_append.mp hp).elim (fun e => List.mem_append.mpr (.inl (.tail _ e))) fun e => List.mem_append.mpr (.inr e)
  · rw [List.lookup_cons] at e
    by_cases hy : (y == x) = true
    · rw [hy] at e
      cases e
      obtain rfl := eq_of_beq hy
      have h0 := h.vars y (.raw (.ref a)) (by rw [List.lookup_cons, beq_self_eq_true])
      have hd : DatIn ((a, listOf vs.toArray n) :: nd) (.ref a) (.list ds) := DatIn.list (List.Mem.head _) ((ha.data h.tmps).mono hsub)
      rcases h0 with ⟨hk, e0⟩ | ⟨hk, c, o, v, h1, h2, h3, h4⟩
      · exact .inl ⟨hk, _, e0, hd⟩
      · exact .inr ⟨hk, c, o, v, h1, .tail _ h2, h3, h4 ▸ hd⟩
    · have hb : (y == x) = false := by simpa using hy
      rw [hb] at e
      exact (h.vars y b (by rw [List.lookup_cons, hb]; exact e)).mono hsub
end

/-- we may call: the frame stands where the stack says -/
structure Cx.Cal (C : Cx) : Prop where
  below : ∃ A₀ base outer, Below A₀ base outer C.h₀ ∧ C.A.frames = some (C.env :: outer)
  frame : C.env.frame = some C.env.locals

/-- a def hands back a datum -/
structure Fn (k : Nat) (f : Addr) (ds : List Dat) (d : Dat) : Prop where
  of ::
  run : ∀ (C : Cx) (ρ : AEnv) (τ : Tmp) (μ : Mu) (s : Shared) (Q : Value → Shared → Prop) (E : Value → Shared → Prop) (vs : List Value), C.Ok → C.Cal → k ≤ C.lvl → AllIn τ vs ds → St C ρ τ μ s →
    (∀ v s', St C ρ ((v, d) :: τ) μ s' → Q v s') → wpAny (model P0 C.w) C.A (call (.ref f) vs) Q E s

/-- the frame of a def -/
noncomputable abbrev frm (name : Str) (scope : Scope) (f : Addr) (cd : Value) (w : World) (L : Addr) (A : Around) (g : Heap) (opq keep : Mu) (os : OsState) (lvl : Nat) (gp : List (Nat × GenState)) : Cx :=
  ⟨w, envOf name scope L f cd, A, g, opq, keep, os, lvl, gp⟩
/-- how a def's body is to end -/
noncomputable def RetP (C : Cx) (d : Dat) (fl : Flow) (s : Shared) : Prop :=
  ∃ v ρ τ μ, (fl = .ret v ∨ (fl = .next ∧ v = .none)) ∧ St C ρ ((v, d) :: τ) μ s
theorem retP {C : Cx} {d : Dat} {ρ : AEnv} {τ : Tmp} {μ : Mu} {v : Value} {s : Shared} (st : St C ρ ((v, d) :: τ) μ s) : RetP C d (.ret v) s := ⟨v, ρ, τ, μ, .inl rfl, st⟩

theorem ex_ret {C : Cx} {ρ : AEnv} {τ : Tmp} {μ : Mu} {rest : List Stmt} {e : Expr} {pos : Pos} {d : Dat} (he : Ev C ρ μ e d) : Ex C ρ τ μ (.Return (some e) pos :: rest) (RetP C d) :=
  ex_return he fun _ _ st => retP st
theorem ex_retT {C : Cx} {ρ : AEnv} {τ : Tmp} {μ : Mu} {rest r2 : List Stmt} {e : Expr} {pos : Pos} {d : Dat} (he : Ev C ρ μ e d) : Ex C ρ τ μ (.Return (some e) pos :: rest) (Thn C r2 (RetP C d)) :=
  ex_return he fun _ _ st => retP st

theorem fn_intro {k : Nat} {f : Addr} {ds : List Dat} {d : Dat} {name qual : Str} {params : Arguments} {body : List Stmt} {scope : Scope} {dV kV doc pm cdv ct oc : Value} {an od : Option Addr} {osl : Array (Option Value)} (binds : List Value → List (Str × Value)) (ρ₀ : AEnv)
    (ho : ∀ P, List.lookup f (wtop.heap_39 P) = some ⟨oc, od, .func (fnOf name qual params body scope dV kV doc pm an cdv ct), osl⟩) (hcd : ∀ P, codeIn (wtop.heap_39 P) cdv qual = true)
    (hbind : ∀ vs, vs.length = ds.length → bindArgs (fnOf name qual params body scope dV kV doc pm an cdv ct) ⟨vs, []⟩ = pure (binds vs))
    (hloc : ∀ vs, vs.length = ds.length → ∀ y ∈ binds vs, scope.names.lookup y.1 = some .local)
    (hρ : ∀ vs τ, AllIn τ vs ds → ∀ x a, ρ₀.lookup x = some a → ∃ v e, a = .dat e ∧ scope.names.lookup x = some .local ∧ (binds vs).reverse.lookup x = some v ∧ (v, e) ∈ τ)
    (hk : 1 ≤ k) (hcell : ∀ x ∈ scope.names, x.2 ≠ .cell) (hco : scope.isCoroutine = false := by rfl) (hgen : scope.isGenerator = false := by rfl) (hkind : scope.kind = .function := by rfl)
    (h : ∀ (w : World) (L : Addr) (A : Around) (g : Heap) (opq keep : Mu) (os : OsState) (lvl : Nat) (gp : List (Nat × GenState)), (frm qual scope f cdv w L A g opq keep os lvl gp).Ok → (frm qual scope f cdv w L A g opq keep os lvl gp).Cal → k ≤ lvl + 1 →
      Ex (frm qual scope f cdv w L A g opq keep os lvl gp) ρ₀ [] [] body (RetP (frm qual scope f cdv w L A g opq keep os lvl gp) d)) : Fn k f ds d := by
  refine .of fun C ρ τ μ s Q E vs ok cal hlvl hall st hQ => ?_
  obtain ⟨m, nd, st⟩ := st
  obtain ⟨A₀, base, outer, B, hA⟩ := cal.below
  obtain ⟨mean, mg, mb, T⟩ := ok.top
  have hlen := hall.length
  refine wpAny_call (code_def B st.F ok.K st.N T hA cal.frame ok.kind (ho _) (hcd _) (by have := ok.dep; (first | assumption | decide | exact Nat.le_trans (by assumption) (by decide) | exact Nat.le_trans (Nat.add_le_add (by assumption) (by assumption)) (by decide) | exact Nat.lt_of_le_of_lt (by assumption) (by decide) | exact Nat.lt_of_lt_of_le (by assumption) (by decide) | lia | omega)) (BindsTo.of_eq (hbind vs hlen)) (hloc vs hlen) (fun g L' h₁ _ F' N' B' X' T' => ?_) hco hgen hkind hcell)
  have hl1 : 1 ≤ C.lvl := Nat.le_trans hk hlvl
  have okC : (frm qual scope f cdv C.w L' (C.A.deeper (envOf qual scope L' f cdv)) g (μ ++ C.opq) nd C.os (C.lvl - 1) C.gp).Ok :=
    { kind := hkind, glob := rfl, blt := rfl, hand := ok.hand, K := X', top := ⟨mean, mg, mb, T'⟩
      dep := by have := ok.dep; show C.A.depth + 1 + 8 + (C.lvl - 1) < recursionLimit; (first | assumption | decide | exact Nat.le_trans (by assumption) (by decide) | exact Nat.le_trans (Nat.add_le_add (by assumption) (by assumption)) (by decide) | exact Nat.lt_of_le_of_lt (by assumption) (by decide) | exact Nat.lt_of_lt_of_le (by assumption) (by decide) | lia | omega)
      uni := by have := ok.uni; show C.A.units + 3 + 64 + 8 * (C.lvl - 1) < cLine; (first | assumption | decide | exact Nat.le_trans (by assumption) (by decide) | exact Nat.le_trans (Nat.add_le_add (by assumption) (by assumption)) (by decide) | exact Nat.lt_of_le_of_lt (by assumption) (by decide) | exact Nat.lt_of_lt_of_le (by assumption) (by decide) | lia | omega) }
  have calC : (frm qual scope f cdv C.w L' (C.A.deeper (envOf qual scope L' f cdv)) g (μ ++ C.opq) nd C.os (C.lvl - 1) C.gp).Cal := ⟨⟨_, base, _, B', Around.frames_deeper hA⟩, rfl⟩
  refine wpAny_mono ((h C.w L' _ g (μ ++ C.opq) nd C.os (C.lvl - 1) C.gp okC calC (by (first | assumption | decide | exact Nat.le_trans (by assumption) (by decide) | exact Nat.le_trans (Nat.add_le_add (by assumption) (by assumption)) (by decide) | exact Nat.lt_of_le_of_lt (by assumption) (by decide) | exact Nat.lt_of_lt_of_le (by assumption) (by decide) | lia | omega))).run _ _ ⟨_, nd, F', fun p hp => N' p (by simpa using hp), fun p hp q hq => st.sep p (by simpa using hp) q hq, (fun _ hp => nomatch hp), .nil, fun _ hp => hp, st.gens, fun x a e => ?_, (fun _ hp => nomatch hp), st.os⟩) (fun fl s' hr => ?_) fun _ _ q => q
  · obtain ⟨v, e', rfl, h1, h2, h3⟩ := hρ vs τ hall x a e
    exact .inl ⟨h1, v, h2, st.tmps _ h3⟩
  · obtain ⟨v, ρ', τ', μ', hfl, m', nd', st'⟩ := hr
    have hv : ∃ z, z = v ∧ (match fl with | .ret v => v | _ => .none) = z := by rcases hfl with rfl | ⟨rfl, rfl⟩ <;> exact ⟨_, rfl, rfl⟩
    obtain ⟨z, rfl, hv⟩ := hv
    suffices hs : LeaveK C.h₀ C.env.locals m g (fun r s' => match r with | .ok (.ret v) => Q v s' | .ok _ => False | .error e => E e s') z s' by
      rcases hfl with rfl | ⟨rfl, rfl⟩ <;> exact hs
    clear hfl hv
    refine leaveK_ st'.F st'.N fun F₂ N₂ => ?_
    refine hQ z s' ⟨m, nd', F₂, fun p hp => N₂ p ?_, fun p hp q hq => st'.sep p (List.mem_append.mpr (.inr hp)) q hq, st.dis, st.nodup, fun p hp => st'.keep p (st.keep p hp), st'.gens, fun x a e => (st.vars x a e).mono st'.keep, fun p hp => ?_, st'.os⟩
    · rcases List.mem_append.mp hp with hp | hp
      · exact List.mem_append.mpr (.inr (List.mem_append.mpr (.inl (List.mem_append.mpr (.inl hp)))))
      · rcases List.mem_append.mp hp with hp | hp
        · exact List.mem_append.mpr (.inr (List.mem_append.mpr (.inl (List.mem_append.mpr (.inr hp)))))
        · exact List.mem_append.mpr (.inr (List.mem_append.mpr (.inr hp)))
    · rcases List.mem_cons.mp hp with rfl | hp
      · exact st'.tmps _ (.head _)
      · exact (st.tmps p hp).mono st'.keep

/-- one parameter -/
theorem fn_intro1 {k : Nat} {f : Addr} {d₁ d : Dat} {name qual x : Str} {params : Arguments} {body : List Stmt} {scope : Scope} {dV kV doc pm cdv ct oc : Value} {an od : Option Addr} {osl : Array (Option Value)}
    (ho : ∀ P, List.lookup f (wtop.heap_39 P) = some ⟨oc, od, .func (fnOf name qual params body scope dV kV doc pm an cdv ct), osl⟩) (hcd : ∀ P, codeIn (wtop.heap_39 P) cdv qual = true)
    (hbind : ∀ u, bindArgs (fnOf name qual params body scope dV kV doc pm an cdv ct) ⟨[u], []⟩ = pure [(x, u)])
    (hx : scope.names.lookup x = some .local) (hk : 1 ≤ k) (hcell : ∀ x ∈ scope.names, x.2 ≠ .cell) (hco : scope.isCoroutine = false := by rfl) (hgen : scope.isGenerator = false := by rfl) (hkind : scope.kind = .function := by rfl)
    (h : ∀ (w : World) (L : Addr) (A : Around) (g : Heap) (opq keep : Mu) (os : OsState) (lvl : Nat) (gp : List (Nat × GenState)), (frm qual scope f cdv w L A g opq keep os lvl gp).Ok → (frm qual scope f cdv w L A g opq keep os lvl gp).Cal → k ≤ lvl + 1 →
      Ex (frm qual scope f cdv w L A g opq keep os lvl gp) [(x, .dat d₁)] [] [] body (RetP (frm qual scope f cdv w L A g opq keep os lvl gp) d)) : Fn k f [d₁] d := by
  refine fn_intro (fun vs => match vs with | [u] => [(x, u)] | _ => []) [(x, .dat d₁)] ho hcd ?_ ?_ ?_ hk hcell hco hgen hkind h
  · intro vs hl
    obtain ⟨u, rfl⟩ := one_of hl
    exact hbind u
  · intro vs hl y hy
    obtain ⟨u, rfl⟩ := one_of hl
    rw [List.mem_singleton.mp hy]; exact hx
  · intro vs τ hall y a e
    obtain ⟨u, rfl⟩ := one_of hall.length
    rw [List.lookup_cons] at e
    split at e
    · rename_i q
      cases e
      obtain rfl := eq_of_beq q
      exact ⟨u, d₁, rfl, hx, by simp, hall.1⟩
    · cases e
/-- two parameters -/
theorem fn_intro2 {k : Nat} {f : Addr} {d₁ d₂ d : Dat} {name qual x y : Str} {params : Arguments} {body : List Stmt} {scope : Scope} {dV kV doc pm cdv ct oc : Value} {an od : Option Addr} {osl : Array (Option Value)}
    (ho : ∀ P, List.lookup f (wtop.heap_39 P) = some ⟨oc, od, .func (fnOf name qual params body scope dV kV doc pm an cdv ct), osl⟩) (hcd : ∀ P, codeIn (wtop.heap_39 P) cdv qual = true)
    (hbind : ∀ u v, bindArgs (fnOf name qual params body scope dV kV doc pm an cdv ct) ⟨[u, v], []⟩ = pure [(x, u), (y, v)])
    (hx : scope.names.lookup x = some .local) (hy : scope.names.lookup y = some .local) (hxy : (x == y) = false) (hk : 1 ≤ k) (hcell : ∀ x ∈ scope.names, x.2 ≠ .cell) (hco : scope.isCoroutine = false := by rfl) (hgen : scope.isGenerator = false := by rfl) (hkind : scope.kind = .function := by rfl)
    (h : ∀ (w : World) (L : Addr) (A : Around) (g : Heap) (opq keep : Mu) (os : OsState) (lvl : Nat) (gp : List (Nat × GenState)), (frm qual scope f cdv w L A g opq keep os lvl gp).Ok → (frm qual scope f cdv w L A g opq keep os lvl gp).Cal → k ≤ lvl + 1 →
      Ex (frm qual scope f cdv w L A g opq keep os lvl gp) [(x, .dat d₁), (y, .dat d₂)] [] [] body (RetP (frm qual scope f cdv w L A g opq keep os lvl gp) d)) : Fn k f [d₁, d₂] d := by
  refine fn_intro (fun vs => match vs with | [u, v] => [(x, u), (y, v)] | _ => []) [(x, .dat d₁), (y, .dat d₂)] ho hcd ?_ ?_ ?_ hk hcell hco hgen hkind h
  · intro vs hl
    obtain ⟨u, v, rfl⟩ := two_of hl
    exact hbind u v
  · intro vs hl z hz
    obtain ⟨u, v, rfl⟩ := two_of hl
    rcases List.mem_cons.mp hz with rfl | hz
    · exact hx
    · rcases List.mem_cons.mp hz with rfl | hz
      · exact hy
      · cases hz
  · intro vs τ hall z a e
    obtain ⟨u, v, rfl⟩ := two_of hall.length
    rw [List.lookup_cons] at e
    split at e
    · rename_i q
      cases e
      obtain rfl := eq_of_beq q
      refine ⟨u, d₁, rfl, hx, ?_, hall.1⟩
      show [(y, v), (z, u)].lookup z = _
      rw [List.lookup_cons, hxy, List.lookup_cons, beq_self_eq_true]
    · rw [List.lookup_cons] at e
      split at e
      · rename_i q
        cases e
        obtain rfl := eq_of_beq q
        refine ⟨v, d₂, rfl, hy, ?_, hall.2.1⟩
        show [(z, v), (x, u)].lookup z = _
        rw [List.lookup_cons, beq_self_eq_true]
      · cases e

section
variable {C : Cx} {ρ : AEnv} {μ : Mu} {e e₁ e₂ : Expr} {np pos : Pos} {g : Str} {f k : Nat} {d d₁ d₂ : Dat}
/-- a call of a def by its name -/
theorem ev_call1 (ok : C.Ok) (cal : C.Cal) (hf : Fn k f [d₁] d) (hk : k ≤ C.lvl) (hx : C.env.kindOf g = some .globalImplicit) (hg : ∀ P, nsIn (wtop.heap_39 P) mainGlobals g = some (some (.ref f)))
    {oc : Value} {od : Option Addr} {osl : Array (Option Value)} {fd : FuncData} (ho : ∀ P, List.lookup f (wtop.heap_39 P) = some ⟨oc, od, .func fd, osl⟩)
    (h1 : Ev C ρ μ e₁ d₁) (hse : starEach [e₁] C.env = [(false, eval e₁ C.env)] := by rfl) (hd : (g == ("__debug__" : Str)) = false := by decide) : Ev C ρ μ (.Call (.Name g np) [e₁] [] pos) d := .of fun τ s Q E st hQ => by
  refine Call_name1 hse (wp_name_global ok hx (hg _) st ?_ hd)
  refine Calls.callWith_function (Calls.evalArgs_plain (Calls.spliced_cons (h1.run τ s _ E st fun v s₁ st₁ => Calls.spliced_nil ⟨⟨?_, (rfl : (Obj.mk oc od (.func fd) osl).data = .func fd)⟩, ?_⟩)))
  · obtain ⟨m, nd, hW⟩ := st₁
    exact (ok.K.keeps hW.F.keep) _ _ (ho _)
  · refine hf.run C ρ _ μ s₁ Q E [v] ok cal hk ⟨.head _, trivial⟩ st₁ fun v' s' st' => hQ v' s' (st'.tmpsOf fun p hp => ?_)
    rcases List.mem_cons.mp hp with rfl | hp
    · exact .head _
    · exact .tail _ (.tail _ hp)
theorem ev_call2 (ok : C.Ok) (cal : C.Cal) (hf : Fn k f [d₁, d₂] d) (hk : k ≤ C.lvl) (hx : C.env.kindOf g = some .globalImplicit) (hg : ∀ P, nsIn (wtop.heap_39 P) mainGlobals g = some (some (.ref f)))
    {oc : Value} {od : Option Addr} {osl : Array (Option Value)} {fd : FuncData} (ho : ∀ P, List.lookup f (wtop.heap_39 P) = some ⟨oc, od, .func fd, osl⟩)
    (h1 : Ev C ρ μ e₁ d₁) (h2 : Ev C ρ μ e₂ d₂) (hse : starEach [e₁, e₂] C.env = [(false, eval e₁ C.env), (false, eval e₂ C.env)] := by rfl) (hd : (g == ("__debug__" : Str)) = false := by decide) : Ev C ρ μ (.Call (.Name g np) [e₁, e₂] [] pos) d := .of fun τ s Q E st hQ => by
  refine wpAny_Call_NameR (wp_name_global ok hx (hg _) st ?_ hd)
  rw [hse]
  refine Calls.callWith_function (Calls.evalArgs_plain (Calls.spliced_cons (h1.run τ s _ E st fun v s₁ st₁ => Calls.spliced_cons (h2.run _ s₁ _ E st₁ fun u s₂ st₂ => Calls.spliced_nil ⟨⟨?_, (rfl : (Obj.mk oc od (.func fd) osl).data = .func fd)⟩, ?_⟩))))
  · obtain ⟨m, nd, hW⟩ := st₂
    exact (ok.K.keeps hW.F.keep) _ _ (ho _)
  · refine hf.run C ρ _ μ s₂ Q E [v, u] ok cal hk ⟨.tail _ (.head _), .head _, trivial⟩ st₂ fun v' s' st' => hQ v' s' (st'.tmpsOf fun p hp => ?_)
    rcases List.mem_cons.mp hp with rfl | hp
    · exact .head _
    · exact .tail _ (.tail _ (.tail _ hp))
end
end Mine
end

section
open PySem PySem.W PyProof.Rows PySem.Calls
set_option maxRecDepth 100000
set_option linter.all false
namespace Mine

section
variable {C : Cx} {ρ : AEnv} {τ : Tmp} {μ : Mu} {s : Shared} {l r e e₁ e₂ e₃ : Expr} {pos np apos : Pos} {a b : Int} {x y : Str} {c c' : Bool} {d d₁ d₂ : Dat} {Q : Value → Shared → Prop} {E : Value → Shared → Prop}

/-- comparisons of values -/
noncomputable abbrev Cmp (C : Cx) (ρ : AEnv) (μ : Mu) (op : CmpOp) (d₁ d₂ : Dat) (c : Bool) : Prop :=
  ∀ (τ : Tmp) (v u : Value) (s : Shared) (Q : Value → Shared → Prop) (E : Value → Shared → Prop), St C ρ ((u, d₂) :: (v, d₁) :: τ) μ s → (∀ v s', St C ρ ((v, .bool c) :: τ) μ s' → Q v s') → wpAny (model P0 C.w) C.A (compareOp op v u) Q E s

theorem cmp_lt : Cmp C ρ μ .Lt (.int a) (.int b) (decide (a < b)) := fun τ v u s Q E st hQ => by
  obtain ⟨t, t', rfl, rfl, st'⟩ := st.int2
  exact lt_int (hQ _ _ (st'.pushBool _))
theorem cmp_gt : Cmp C ρ μ .Gt (.int a) (.int b) (decide (b < a)) := fun τ v u s Q E st hQ => by
  obtain ⟨t, t', rfl, rfl, st'⟩ := st.int2
  exact gt_int (hQ _ _ (st'.pushBool _))
theorem cmp_le : Cmp C ρ μ .LtE (.int a) (.int b) (decide (a ≤ b)) := fun τ v u s Q E st hQ => by
  obtain ⟨t, t', rfl, rfl, st'⟩ := st.int2
  exact PyProof.Rows.le_int (hQ _ _ (st'.pushBool _))
theorem cmp_ge : Cmp C ρ μ .GtE (.int a) (.int b) (decide (b ≤ a)) := fun τ v u s Q E st hQ => by
  obtain ⟨t, t', rfl, rfl, st'⟩ := st.int2
  exact PyProof.Rows.ge_int (hQ _ _ (st'.pushBool _))
theorem cmp_eq : Cmp C ρ μ .Eq (.int a) (.int b) (a == b) := fun τ v u s Q E st hQ => by
  obtain ⟨t, t', rfl, rfl, st'⟩ := st.int2
  exact eq_int (hQ _ _ (st'.pushBool _))
theorem cmp_ne : Cmp C ρ μ .NotEq (.int a) (.int b) (a != b) := fun τ v u s Q E st hQ => by
  obtain ⟨t, t', rfl, rfl, st'⟩ := st.int2
  exact ne_int (hQ _ _ (st'.pushBool _))
theorem cmp_eqS : Cmp C ρ μ .Eq (.str x) (.str y) (x == y) := fun τ v u s Q E st hQ => by
  obtain ⟨t, t', rfl, rfl, st'⟩ := st.str2
  exact eq_str (hQ _ _ (st'.pushBool _))
theorem cmp_neS : Cmp C ρ μ .NotEq (.str x) (.str y) (x != y) := fun τ v u s Q E st hQ => by
  obtain ⟨t, t', rfl, rfl, st'⟩ := st.str2
  exact ne_str (hQ _ _ (st'.pushBool _))
theorem cmp_inS : Cmp C ρ μ .In (.str x) (.str y) (Txt.contains y x) := fun τ v u s Q E st hQ => by
  obtain ⟨t, t', rfl, rfl, st'⟩ := st.str2
  exact SB.contains (hQ _ _ (st'.pushBool _))
theorem cmp_ninS : Cmp C ρ μ .NotIn (.str x) (.str y) (!Txt.contains y x) := fun τ v u s Q E st hQ => by
  obtain ⟨t, t', rfl, rfl, st'⟩ := st.str2
  exact SB.notContains (hQ _ _ (st'.pushBool _))
theorem cmp_isNotB : Cmp C ρ μ .IsNot (.bool c) (.bool c') (c != c') := fun τ v u s Q E st hQ => by
  obtain ⟨rfl, st₁⟩ := st.bool
  obtain ⟨rfl, st₂⟩ := st₁.bool
  refine wpAny_isNot_plain (by cases c <;> cases c' <;> rfl) ?_
  have e : (!(Value.bool c == Value.bool c')) = (c != c') := by cases c <;> cases c' <;> rfl
  rw [e]
  exact hQ _ _ (st₂.pushBool _)
/-- is None -/
noncomputable def isNoneD : Dat → Bool
  | .none => true
  | _ => false
theorem cmp_isNone_int : Cmp C ρ μ .Is (.int a) .none false := fun τ v u s Q E st hQ => by
  obtain ⟨rfl, st₁⟩ := st.none
  obtain ⟨⟨t, rfl⟩, st₂⟩ := st₁.int
  exact is_none (hQ _ _ (st₂.pushBool false))
theorem cmp_isNone_none : Cmp C ρ μ .Is .none .none true := fun τ v u s Q E st hQ => by
  obtain ⟨rfl, st₁⟩ := st.none
  obtain ⟨rfl, st₂⟩ := st₁.none
  exact is_none (hQ _ _ (st₂.pushBool true))

/-- truth of a text -/
theorem tr_str (he : Ev C ρ μ e (.str x)) (hx : x.length ≤ sizeLine) (ht : isTrue e C.env (eval e C.env) = (do let v ← eval e C.env; standAt e.pos; holding [v] (truthy v)) := by rfl) : Tr C ρ μ e (x.length != 0) := .of fun τ s Q E st hQ => by
  refine wpAny_isTrue_value (he.run τ s _ E st fun v s₁ st₁ => ?_) ht
  obtain ⟨⟨t, rfl⟩, st₂⟩ := st₁.str
  have hx' : x.length ≤ 16777216 := hx
  refine P.truthy_str (by (first | assumption | decide | exact Nat.le_trans (by assumption) (by decide) | exact Nat.le_trans (Nat.add_le_add (by assumption) (by assumption)) (by decide) | exact Nat.lt_of_le_of_lt (by assumption) (by decide) | exact Nat.lt_of_lt_of_le (by assumption) (by decide) | lia | omega)) ?_
  have e1 : ((x.length : Int) != 0) = (x.length != 0) := by
    cases hl : x.length <;> simp [bne]
    (first | assumption | decide | exact Nat.le_trans (by assumption) (by decide) | exact Nat.le_trans (Nat.add_le_add (by assumption) (by assumption)) (by decide) | exact Nat.lt_of_le_of_lt (by assumption) (by decide) | exact Nat.lt_of_lt_of_le (by assumption) (by decide) | lia | omega)
  rw [e1]
  exact hQ _ (st₂.toks _)
theorem tr_bool (he : Ev C ρ μ e (.bool c)) (ht : isTrue e C.env (eval e C.env) = (do let v ← eval e C.env; standAt e.pos; holding [v] (truthy v)) := by rfl) : Tr C ρ μ e c := .of fun τ s Q E st hQ => by
  refine wpAny_isTrue_value (he.run τ s _ E st fun v s₁ st₁ => ?_) ht
  obtain ⟨rfl, st₂⟩ := st₁.bool
  exact wpAny_truthy_bool (hQ _ st₂)
theorem tr_not (he : Tr C ρ μ e c) : Tr C ρ μ (.UnaryOp .Not e pos) (!c) := .of fun τ s Q E st hQ => wpAny_isTrue_Not (he.run τ s _ E st fun s' st' => hQ s' st')
theorem tr_or (h1 : Tr C ρ μ e₁ c) (h2 : c = false → Tr C ρ μ e₂ c') : Tr C ρ μ (.BoolOp .Or [e₁, e₂] pos) (c || c') := .of fun τ s Q E st hQ => by
  refine wpAny_isTrue_BoolOp (wpAny_allTrue_Or_cons (h1.run τ s _ E st fun s' st' => ?_))
  cases c with
  | true => exact hQ s' st'
  | false =>
    refine wpAny_allTrue_Or_cons ((h2 rfl).run τ s' _ E st' fun s₂ st₂ => ?_)
    cases c' with
    | true => exact hQ s₂ st₂
    | false => exact wpAny_allTrue_Or_nil (hQ s₂ st₂)
theorem tr_and (h1 : Tr C ρ μ e₁ c) (h2 : c = true → Tr C ρ μ e₂ c') : Tr C ρ μ (.BoolOp .And [e₁, e₂] pos) (c && c') := .of fun τ s Q E st hQ => by
  refine wpAny_isTrue_BoolOp (wpAny_allTrue_And_cons (h1.run τ s _ E st fun s' st' => ?_))
  cases c with
  | false => exact hQ s' st'
  | true =>
    refine wpAny_allTrue_And_cons ((h2 rfl).run τ s' _ E st' fun s₂ st₂ => ?_)
    cases c' with
    | false => exact hQ s₂ st₂
    | true => exact wpAny_allTrue_And_nil (hQ s₂ st₂)
theorem ev_or (h1 : Ev C ρ μ e₁ (.bool c)) (h2 : c = false → Ev C ρ μ e₂ (.bool c')) : Ev C ρ μ (.BoolOp .Or [e₁, e₂] pos) (.bool (c || c')) := .of fun τ s Q E st hQ => by
  refine wpAny_Or2 (h1.run τ s _ E st fun v s' st' => ?_)
  obtain ⟨rfl, st₁⟩ := st'.bool
  refine wpAny_truthy_bool ?_
  cases c with
  | true => exact hQ _ s' (st₁.pushBool _)
  | false => exact (h2 rfl).run τ s' _ E st₁ hQ
theorem ev_ifexp {d' : Dat} (ht : Tr C ρ μ e c) (h1 : c = true → Ev C ρ μ e₁ d') (h2 : c = false → Ev C ρ μ e₂ d') : Ev C ρ μ (.IfExp e e₁ e₂ pos) d' := .of fun τ s Q E st hQ =>
  wpAny_IfExp (ht.run τ s _ E st fun s' st' => by
    cases c with
    | true => exact (h1 rfl).run τ s' Q E st' hQ
    | false => exact (h2 rfl).run τ s' Q E st' hQ)

/-- arithmetic -/
theorem mulOk (h1 : -(2 ^ 64) < a) (h2 : a < 2 ^ 64) : IntMulOk a b := IntMulOk.of_left (intBits_le_64 h1 h2)
theorem ev_fdiv (h1 : Ev C ρ μ l (.int a)) (h2 : Ev C ρ μ r (.int b)) (hb : b ≠ 0) (hs : b.natAbs < 1073741824) : Ev C ρ μ (.BinOp l .FloorDiv r pos) (.int (a.fdiv b)) := ev_bin h1 h2 fun τ v u s Q E st hQ => by
  obtain ⟨t, t', rfl, rfl, st'⟩ := st.int2
  exact floordiv_int hb (hQ _ _ ((st'.toks _).pushInt _ _)) (.inl (PyProof.noPylong_small hs))
theorem ev_neg (h1 : Ev C ρ μ e (.int a)) : Ev C ρ μ (.UnaryOp .USub e pos) (.int (-a)) := .of fun τ s Q E st hQ =>
  wpAny_UnaryOp (h1.run τ s _ E st fun v s' st' => by
    obtain ⟨⟨t, rfl⟩, st₁⟩ := st'.int
    exact PyProof.Rows.neg_int (hQ _ _ ((st₁.toks _).pushInt _ _)))
theorem ev_mulS (h1 : Ev C ρ μ l (.str x)) (h2 : Ev C ρ μ r (.int a)) (hok : MulOk x a) : Ev C ρ μ (.BinOp l .Mult r pos) (.str (Txt.mul x a)) := ev_bin h1 h2 fun τ v u s Q E st hQ => by
  obtain ⟨⟨t, rfl⟩, st₁⟩ := st.int
  obtain ⟨⟨t', rfl⟩, st₂⟩ := st₁.str
  exact SB.mul hok fun t' k => hQ _ _ ((st₂.toks k).pushStr _ _)
theorem aug_add : ∀ (τ : Tmp) (v u : Value) (s : Shared) (Q : Value → Shared → Prop) (E : Value → Shared → Prop), St C ρ ((u, .int b) :: (v, .int a) :: τ) μ s → (∀ v s', St C ρ ((v, .int (a + b)) :: τ) μ s' → Q v s') → wpAny (model P0 C.w) C.A (inplaceOp .Add v u) Q E s := fun τ v u s Q E st hQ => by
  obtain ⟨t, t', rfl, rfl, st'⟩ := st.int2
  exact iadd_int (hQ _ _ ((st'.toks _).pushInt _ _))

/-- the items of a display, one after another -/
noncomputable def Evs (C : Cx) (ρ : AEnv) (μ : Mu) : List Expr → List Dat → Prop
  | [], [] => True
  | e :: es, d :: ds => Ev C ρ μ e d ∧ (starEach (e :: es) C.env = (false, eval e C.env) :: starEach es C.env) ∧ Evs C ρ μ es ds
  | _, _ => False
theorem wp_items {pos : Pos} : ∀ {es : List Expr} {ds : List Dat} {τ : Tmp} {s : Shared} {Q : List Value → Shared → Prop} {E : Value → Shared → Prop}, Evs C ρ μ es ds → St C ρ τ μ s →
    (∀ vs s' τ', AllIn τ' vs ds → (∀ p ∈ τ, p ∈ τ') → St C ρ τ' μ s' → Q vs s') → wpAny (model P0 C.w) C.A (spliced (backTo pos (starEach es C.env))) Q E s
  | [], [], τ, s, Q, E, _, st, hQ => wpAny_items_nil (hQ [] s τ trivial (fun _ hp => hp) st)
  | e :: es, d :: ds, τ, s, Q, E, h, st, hQ => wpAny_items_cons (h.1.run τ s _ E st fun v s₁ st₁ => wp_items h.2.2 st₁ fun vs s₂ τ' ha hs st₂ => hQ (v :: vs) s₂ τ' ⟨hs _ (.head _), ha⟩ (fun p hp => hs p (.tail _ hp)) st₂) h.2.1
  | [], _ :: _, _, _, _, _, h, _, _ => h.elim
  | _ :: _, [], _, _, _, _, h, _, _ => h.elim
theorem ev_tuple {es : List Expr} {ds : List Dat} {k : Nat} (h : Evs C ρ μ es ds) (hn : ds.length ≤ 100) : Ev C ρ μ (.Tuple es k pos) (.tuple ds) := .of fun τ s Q E st hQ => by
  refine PyProof.Rows.Tuple_ (wp_items h st fun vs s' τ' ha hs st' => ?_)
  refine wpAny_newObj_type (hQ _ _ (st'.newTuple ha hs)) ?_
  show vs.toArray.size ≤ sizeLine
  rw [List.size_toArray, ha.length]; exact Nat.le_trans hn (by decide)
theorem ev_list {es : List Expr} {ds : List Dat} (h : Evs C ρ μ es ds) (hn : ds.length ≤ 100) : Ev C ρ μ (.List es pos) (.list ds) := .of fun τ s Q E st hQ => by
  refine PyProof.Rows.List_ (wp_items h st fun vs s' τ' ha hs st' => ?_)
  refine wpAny_newObj_type (hQ _ _ (st'.newList ha hs)) ?_
  show vs.toArray.size ≤ sizeLine
  rw [List.size_toArray, ha.length]; exact Nat.le_trans hn (by decide)

/-- an item at a place -/
theorem ev_itemT {ds : List Dat} {j : Nat} (hv : Ev C ρ μ e (.tuple ds)) (hi : Ev C ρ μ e₁ (.int a)) (hlo : -(2 ^ 63) ≤ a) (hhi : a < 2 ^ 63) (hj : seqIndex? a ds.length = some j) (hx : ds[j]? = some d)
    (hs : ∀ t k u, subscripted e₁ false (.ref t) (.int k u) = operate [.ref t, .int k u] (getItem (.ref t) (.int k u)) := by intro _ _ _; rfl) : Ev C ρ μ (.Subscript e e₁ pos) d := .of fun τ s Q E st hQ => by
  refine Subscript_ (hv.run τ s _ E st fun v s₁ st₁ => hi.run _ s₁ _ E st₁ fun i s₂ st₂ => ?_)
  obtain ⟨⟨t, rfl⟩, st₃⟩ := st₂.int
  obtain ⟨tt, vs, rfl, ht, hlen, st₄⟩ := st₃.tuple (.head _)
  obtain ⟨u, hu, hin⟩ := (AllIn.zip (τ := (.ref tt, .tuple ds) :: τ) hlen).get hx
  refine item_tupleT ht hlo hhi (by rw [hlen]; exact hj) hu ?_ (hs _ _ _)
  obtain ⟨m, nd, w⟩ := st₄
  exact hQ _ _ ((w.push (w.tmps _ hin)).st.tmpsOf fun p hp => by
    rcases List.mem_cons.mp hp with rfl | hp
    · exact .head _
    · exact .tail _ (List.mem_append.mpr (.inr (.tail _ hp))))
end
end Mine
end

section
open PySem PySem.W PyProof.Rows PySem.Calls
set_option maxRecDepth 100000
set_option linter.all false
namespace Mine
open Builtin Builtin.Str in
/-- find with two bounds -/
noncomputable def findTo (x y : PySem.Str) (i j : Int) : Int := match occurrences x y (fromIndex x.length i) (min (fromIndex x.length j) x.length) 1 with | k :: _ => (k : Int) | [] => -1
open Builtin Builtin.Str in
theorem gives_find_to (x y : PySem.Str) (i j : Int) (t u v v' : Tok) : Gives («str.find» ⟨[.str x t, .str y u, .int i v, .int j v'], []⟩) (.int (findTo x y i j)) := by
  show Gives (match occurrences x y (fromIndex x.length i) (min (fromIndex x.length j) x.length) 1 with | k :: _ => retInt k | [] => (do rule "str.find.not-found"; retInt (-1))) (.int (match occurrences x y (fromIndex x.length i) (min (fromIndex x.length j) x.length) 1 with | k :: _ => (k : Int) | [] => -1))
  cases occurrences x y (fromIndex x.length i) (min (fromIndex x.length j) x.length) 1 with
  | nil => exact .rule (.of_eq rfl)
  | cons k _ => exact .of_eq rfl
theorem args_find_4 (a b c d : Value) : argsOk "str.find" ⟨[a, b, c, d], []⟩ := by unfold argsOk; kernel_rfl

section
variable {C : Cx} {ρ : AEnv} {τ : Tmp} {μ : Mu} {s : Shared} {l r o e e₁ e₂ e₃ : Expr} {pos np apos : Pos} {a b : Int} {x y : Str} {c c' : Bool} {d d₁ d₂ : Dat} {Q : Value → Shared → Prop} {E : Value → Shared → Prop}

theorem ev_startswith (ho : Ev C ρ μ o (.str x)) (he : Ev C ρ μ e (.str y)) (hbase : attributeBase o "startswith" C.env (eval o C.env) = eval o C.env := by rfl) (hs : starEach [e] C.env = [(false, eval e C.env)] := by rfl) (hline : (apos.endLine == pos.line) = true := by rfl) :
    Ev C ρ μ (.Call (.Attribute o "startswith" apos) [e] [] pos) (.bool (Txt.startswith x y)) := .of fun τ s Q E st hQ => by
  refine Call_method1 hbase hs hline (ho.run τ s _ E st fun ov s₁ st₁ => ?_)
  obtain ⟨⟨t, rfl⟩, st₂⟩ := st₁.str
  refine SB.startswith (he.run τ s₁ _ E st₂ fun v s₂ st₃ => ?_)
  obtain ⟨⟨u, rfl⟩, st₄⟩ := st₃.str
  exact ⟨y, u, rfl, hQ _ _ (st₄.pushBool _)⟩
theorem ev_endswith (ho : Ev C ρ μ o (.str x)) (he : Ev C ρ μ e (.str y)) (hbase : attributeBase o "endswith" C.env (eval o C.env) = eval o C.env := by rfl) (hs : starEach [e] C.env = [(false, eval e C.env)] := by rfl) (hline : (apos.endLine == pos.line) = true := by rfl) :
    Ev C ρ μ (.Call (.Attribute o "endswith" apos) [e] [] pos) (.bool (Txt.endswith x y)) := .of fun τ s Q E st hQ => by
  refine Call_method1 hbase hs hline (ho.run τ s _ E st fun ov s₁ st₁ => ?_)
  obtain ⟨⟨t, rfl⟩, st₂⟩ := st₁.str
  refine SB.endswith (he.run τ s₁ _ E st₂ fun v s₂ st₃ => ?_)
  obtain ⟨⟨u, rfl⟩, st₄⟩ := st₃.str
  exact ⟨y, u, rfl, hQ _ _ (st₄.pushBool _)⟩
theorem ev_find (ho : Ev C ρ μ o (.str x)) (he : Ev C ρ μ e (.str y)) (hbase : attributeBase o "find" C.env (eval o C.env) = eval o C.env := by rfl) (hs : starEach [e] C.env = [(false, eval e C.env)] := by rfl) (hline : (apos.endLine == pos.line) = true := by rfl) :
    Ev C ρ μ (.Call (.Attribute o "find" apos) [e] [] pos) (.int (Txt.find x y)) := .of fun τ s Q E st hQ => by
  refine Call_method1 hbase hs hline (ho.run τ s _ E st fun ov s₁ st₁ => ?_)
  obtain ⟨⟨t, rfl⟩, st₂⟩ := st₁.str
  refine SB.find (he.run τ s₁ _ E st₂ fun v s₂ st₃ => ?_)
  obtain ⟨⟨u, rfl⟩, st₄⟩ := st₃.str
  exact ⟨y, u, rfl, hQ _ _ ((st₄.toks _).pushInt _ _)⟩
theorem ev_index (ho : Ev C ρ μ o (.str x)) (he : Ev C ρ μ e (.str y)) {i : Nat} {rest : List Nat} (hi : Builtin.Str.occurrences x y 0 x.length 1 = i :: rest) (hbase : attributeBase o "index" C.env (eval o C.env) = eval o C.env := by rfl) (hs : starEach [e] C.env = [(false, eval e C.env)] := by rfl) (hline : (apos.endLine == pos.line) = true := by rfl) :
    Ev C ρ μ (.Call (.Attribute o "index" apos) [e] [] pos) (.int i) := .of fun τ s Q E st hQ => by
  refine Call_method1 hbase hs hline (ho.run τ s _ E st fun ov s₁ st₁ => ?_)
  obtain ⟨⟨t, rfl⟩, st₂⟩ := st₁.str
  refine SB.index (he.run τ s₁ _ E st₂ fun v s₂ st₃ => ?_)
  obtain ⟨⟨u, rfl⟩, st₄⟩ := st₃.str
  exact ⟨y, u, rfl, i, rest, hi, hQ _ _ ((st₄.toks _).pushInt _ _)⟩
/-- a method of a text with the arguments told -/
theorem methodOn_str {name : Str} {id : String} {t : Tok} {args : List (Bool × Sem Value)} (slot : Slot "str" name id) (hty : typeOf (.builtin id) = pure (.type "method_descriptor"))
    (h : wpAny (model P0 C.w) C.A (callWith pos (.builtin id) [.str x t] args []) Q E s) : MethodOnS P0 C.w C.A E name (.str x t) pos args Q s :=
  ⟨"str", id, F.plainAttrs_str, slot, hty, typeIs_str _ _ _, (fun _ q => nomatch q), h⟩
theorem ev_find3 (ho : Ev C ρ μ o (.str x)) (he : Ev C ρ μ e (.str y)) (h1 : Ev C ρ μ e₁ (.int a)) (hbase : attributeBase o "find" C.env (eval o C.env) = eval o C.env := by rfl) (hs : starEach [e, e₁] C.env = [(false, eval e C.env), (false, eval e₁ C.env)] := by rfl) (hline : (apos.endLine == pos.line) = true := by rfl) :
    Ev C ρ μ (.Call (.Attribute o "find" apos) [e, e₁] [] pos) (.int (Txt.find3 x y a)) := .of fun τ s Q E st hQ => by
  refine wpAny_Call_method_lateS hbase (by rw [hs]; rfl) hline (ho.run τ s _ E st fun ov s₁ st₁ => ?_)
  obtain ⟨⟨t, rfl⟩, st₂⟩ := st₁.str
  rw [hs]
  refine methodOn_str F.slot_str_find F.type_str_find (Calls.callWith_builtin rfl (Calls.evalArgs_plain (Calls.spliced_cons (he.run τ s₁ _ E st₂ fun v s₂ st₃ => Calls.spliced_cons (h1.run _ s₂ _ E st₃ fun i s₃ st₄ => Calls.spliced_nil ?_)))))
  obtain ⟨⟨u, rfl⟩, st₅⟩ := st₄.int
  obtain ⟨⟨u', rfl⟩, st₆⟩ := st₅.str
  exact SC.find3 (hQ _ _ ((st₆.toks _).pushInt _ _))
theorem ev_find4 (ho : Ev C ρ μ o (.str x)) (he : Ev C ρ μ e (.str y)) (h1 : Ev C ρ μ e₁ (.int a)) (h2 : Ev C ρ μ e₂ (.int b)) (hbase : attributeBase o "find" C.env (eval o C.env) = eval o C.env := by rfl) (hs : starEach [e, e₁, e₂] C.env = [(false, eval e C.env), (false, eval e₁ C.env), (false, eval e₂ C.env)] := by rfl) (hline : (apos.endLine == pos.line) = true := by rfl) :
    Ev C ρ μ (.Call (.Attribute o "find" apos) [e, e₁, e₂] [] pos) (.int (findTo x y a b)) := .of fun τ s Q E st hQ => by
  refine wpAny_Call_method_lateS hbase (by rw [hs]; rfl) hline (ho.run τ s _ E st fun ov s₁ st₁ => ?_)
  obtain ⟨⟨t, rfl⟩, st₂⟩ := st₁.str
  rw [hs]
  refine methodOn_str F.slot_str_find F.type_str_find (Calls.callWith_builtin rfl (Calls.evalArgs_plain (Calls.spliced_cons (he.run τ s₁ _ E st₂ fun v s₂ st₃ => Calls.spliced_cons (h1.run _ s₂ _ E st₃ fun i s₃ st₄ => Calls.spliced_cons (h2.run _ s₃ _ E st₄ fun j s₄ st₅ => Calls.spliced_nil ?_))))))
  obtain ⟨u1, u2, rfl, rfl, st₆⟩ := st₅.int2
  obtain ⟨⟨u', rfl⟩, st₇⟩ := st₆.str
  exact call_gives F.slot_str_find (typeIs_str _ _ _) F.entry_str_find (args_find_4 _ _ _ _) (gives_find_to x y a b t u' _ _) (hQ _ _ ((st₇.toks _).pushInt _ _))
/-- split by a text: a new list of the frame's own -/
theorem strs_all : ∀ {l : List (Str × Tok)} {τ : Tmp}, (∀ p ∈ l, ((.str p.1 p.2 : Value), Dat.str p.1) ∈ τ) → AllIn τ (strValues l) ((l.map (·.1)).map Dat.str)
  | [], _, _ => trivial
  | p :: l, τ, h => ⟨h p (.head _), strs_all (l := l) fun q hq => h q (.tail _ hq)⟩
theorem St.strs (h : St C ρ τ μ s) (l : List (Str × Tok)) : St C ρ (l.map (fun p => ((.str p.1 p.2 : Value), Dat.str p.1)) ++ τ) μ s := by
  obtain ⟨m, nd, h⟩ := h
  refine ⟨m, nd, h.F, h.N, h.sep, h.dis, h.nodup, h.keep, h.gens, h.vars, fun p hp => ?_, h.os⟩
  rcases List.mem_append.mp hp with hp | hp
  · obtain ⟨q, _, rfl⟩ := List.mem_map.mp hp
    exact .str _ _
  · exact h.tmps p hp
theorem wp_split (ho : Ev C ρ μ o (.str x)) (he : Ev C ρ μ e (.str y)) (hy : (y.length == 0) = false) (hsz : x.length + 2 ≤ sizeLine) (st : St C ρ τ μ s)
    (hQ : ∀ (D : Addr) (l : List (Str × Tok)) s', l.map (·.1) = Txt.split x y → St C ρ τ ((D, { cls := .type "list", data := .seq (strValues l).toArray }) :: μ) s' → Q (.ref D) s')
    (hbase : attributeBase o "split" C.env (eval o C.env) = eval o C.env := by rfl) (hs : starEach [e] C.env = [(false, eval e C.env)] := by rfl) (hline : (apos.endLine == pos.line) = true := by rfl) :
    wpAny (model P0 C.w) C.A (eval (.Call (.Attribute o "split" apos) [e] [] pos) C.env) Q E s := by
  refine Call_method1 hbase hs hline (ho.run τ s _ E st fun ov s₁ st₁ => ?_)
  obtain ⟨⟨t, rfl⟩, st₂⟩ := st₁.str
  refine methodOn_str F.slot_str_split F.type_str_split (Calls.callWith_builtin rfl (Calls.evalArgs_plain (Calls.spliced_cons (he.run τ s₁ _ E st₂ fun v s₂ st₃ => Calls.spliced_nil ?_))))
  obtain ⟨⟨u, rfl⟩, st₄⟩ := st₃.str
  obtain ⟨m, nd, w⟩ := st₄
  have ho' : ∀ p ∈ μ ++ (C.opq ++ nd), p.1 < s₂.heap.objs.size := fun p hp => Heap.lt_size (w.N p hp).1
  refine splitN1 w.F w.N hy (fun l h' k hl F' N' => ?_) hsz
  refine hQ _ l _ hl ⟨m, nd, F', fun p hp => N' p hp, fun p hp q hq => ?_, fun p hp q hq => ?_, ?_, w.keep, w.gens, w.vars, w.tmps, w.os⟩
  · rcases List.mem_cons.mp hp with rfl | hp
    · exact Nat.ne_of_gt (ho' q (List.mem_append.mpr (.inr (List.mem_append.mpr (.inr hq)))))
    · exact w.sep p hp q hq
  · rcases List.mem_cons.mp hp with rfl | hp
    · exact Nat.ne_of_gt (ho' q (List.mem_append.mpr (.inr (List.mem_append.mpr (.inl hq)))))
    · exact w.dis p hp q hq
  · simp only [List.map_cons, List.nodup_cons]
    refine ⟨fun hm => ?_, w.nodup⟩
    obtain ⟨p, hp, e⟩ := List.mem_map.mp hm
    have := ho' p (List.mem_append.mpr (.inl hp))
    rw [e] at this
    exact Nat.lt_irrefl _ this
theorem ev_split (ho : Ev C ρ μ o (.str x)) (he : Ev C ρ μ e (.str y)) (hy : (y.length == 0) = false) (hsz : x.length + 2 ≤ sizeLine)
    (hbase : attributeBase o "split" C.env (eval o C.env) = eval o C.env := by rfl) (hs : starEach [e] C.env = [(false, eval e C.env)] := by rfl) (hline : (apos.endLine == pos.line) = true := by rfl) :
    Ev C ρ μ (.Call (.Attribute o "split" apos) [e] [] pos) (.list ((Txt.split x y).map Dat.str)) := .of fun τ s Q E st hQ => by
  refine Call_method1 hbase hs hline (ho.run τ s _ E st fun ov s₁ st₁ => ?_)
  obtain ⟨⟨t, rfl⟩, st₂⟩ := st₁.str
  refine methodOn_str F.slot_str_split F.type_str_split (Calls.callWith_builtin rfl (Calls.evalArgs_plain (Calls.spliced_cons (he.run τ s₁ _ E st₂ fun v s₂ st₃ => Calls.spliced_nil ?_))))
  obtain ⟨⟨u, rfl⟩, st₄⟩ := st₃.str
  obtain ⟨m, nd, w⟩ := st₄
  refine splitN1 w.F w.N hy (fun l h' k hl F' N' => ?_) hsz
  have hsub : ∀ p ∈ nd, p ∈ (s₂.heap.objs.size, ({ cls := .type "list", data := .seq (strValues l).toArray } : Obj)) :: nd := fun p hp => .tail _ hp
  refine hQ _ _ ⟨m, (s₂.heap.objs.size, ({ cls := .type "list", data := .seq (strValues l).toArray } : Obj)) :: nd, F', fun p hp => N' p ?_, fun p hp q hq => ?_, w.dis, w.nodup, fun p hp => .tail _ (w.keep p hp), w.gens, fun x a e => (w.vars x a e).mono hsub, fun p hp => ?_, w.os⟩
  · rcases List.mem_append.mp hp with hp | hp
    · exact .tail _ (List.mem_append.mpr (.inl hp))
    · rcases List.mem_append.mp hp with hp | hp
      · exact .tail _ (List.mem_append.mpr (.inr (List.mem_append.mpr (.inl hp))))
      · rcases List.mem_cons.mp hp with rfl | hp
        · exact .head _
        · exact .tail _ (List.mem_append.mpr (.inr (List.mem_append.mpr (.inr hp))))
  · rcases List.mem_cons.mp hq with rfl | hq
    · refine Nat.ne_of_lt (Heap.lt_size (w.N p ?_).1)
      exact (List.mem_append.mp hp).elim (fun q => List.mem_append.mpr (.inl q)) fun q => List.mem_append.mpr (.inr (List.mem_append.mpr (.inl q)))
    · exact w.sep p hp q hq
  · rcases List.mem_cons.mp hp with rfl | hp
    · refine DatIn.list (n := 0) (List.Mem.head _) ?_
      rw [← hl]
      clear N' hl
      generalize (s₂.heap.objs.size, ({ cls := .type "list", data := .seq (strValues l).toArray } : Obj)) :: nd = nn
      clear F' hsub
      induction l with
      | nil => exact .nil
      | cons p l ih => exact .cons (.str _ _) (ih)
    · exact (w.tmps p hp).mono hsub

/-- slices of a text -/
theorem ev_slice_ss (hv : Ev C ρ μ e (.str x)) (h1 : Ev C ρ μ e₁ (.int a)) (h2 : Ev C ρ μ e₂ (.int b)) (hsz : x.length ≤ sizeLine) (hl : ∀ t k r, letTemporaryGo e (.str t k) r = pure () := by intro _ _ _; rfl) :
    Ev C ρ μ (.Subscript e (.Slice (some e₁) (some e₂) none np) pos) (.str (Txt.slice x (some a) (some b))) := .of fun τ s Q E st hQ => by
  refine Subscript_ (hv.run τ s _ E st fun v s₁ st₁ => wpAny_Slice (h1.run _ s₁ _ E st₁ fun i s₂ st₂ => h2.run _ s₂ _ E st₂ fun j s₃ st₃ => wpAny_pure ?_))
  obtain ⟨u1, u2, rfl, rfl, st₄⟩ := st₃.int2
  obtain ⟨⟨t, rfl⟩, m, nd, w⟩ := st₄.str
  exact slice_strN_ss w.F w.N (fun h' t' k F' N' => hQ _ _ ((w.heap F' N' k).st.pushStr _ _)) rfl (hl _ _) hsz
theorem ev_slice_sn (hv : Ev C ρ μ e (.str x)) (h1 : Ev C ρ μ e₁ (.int a)) (hsz : x.length ≤ sizeLine) (hl : ∀ t k r, letTemporaryGo e (.str t k) r = pure () := by intro _ _ _; rfl) :
    Ev C ρ μ (.Subscript e (.Slice (some e₁) none none np) pos) (.str (Txt.slice x (some a) none)) := .of fun τ s Q E st hQ => by
  refine Subscript_ (hv.run τ s _ E st fun v s₁ st₁ => wpAny_Slice (h1.run _ s₁ _ E st₁ fun i s₂ st₂ => wpAny_pure (wpAny_pure ?_)))
  obtain ⟨⟨u1, rfl⟩, st₃⟩ := st₂.int
  obtain ⟨⟨t, rfl⟩, m, nd, w⟩ := st₃.str
  exact slice_strN_sn w.F w.N (fun h' t' k F' N' => hQ _ _ ((w.heap F' N' k).st.pushStr _ _)) rfl (hl _ _) hsz
theorem ev_slice_ns (hv : Ev C ρ μ e (.str x)) (h1 : Ev C ρ μ e₁ (.int a)) (hsz : x.length ≤ sizeLine) (hl : ∀ t k r, letTemporaryGo e (.str t k) r = pure () := by intro _ _ _; rfl) :
    Ev C ρ μ (.Subscript e (.Slice none (some e₁) none np) pos) (.str (Txt.slice x none (some a))) := .of fun τ s Q E st hQ => by
  refine Subscript_ (hv.run τ s _ E st fun v s₁ st₁ => wpAny_Slice (wpAny_pure (h1.run _ s₁ _ E st₁ fun i s₂ st₂ => wpAny_pure ?_)))
  obtain ⟨⟨u1, rfl⟩, st₃⟩ := st₂.int
  obtain ⟨⟨t, rfl⟩, m, nd, w⟩ := st₃.str
  exact slice_strN_ns w.F w.N (fun h' t' k F' N' => hQ _ _ ((w.heap F' N' k).st.pushStr _ _)) rfl (hl _ _) hsz
/-- a sign of a text -/
theorem ev_itemS {n : Nat} (hv : Ev C ρ μ e (.str x)) (hi : Ev C ρ μ e₁ (.int a)) (hlo : 0 ≤ a) (hhi : a < 2 ^ 62) (hx : x.cps[a.toNat]? = some n)
    (hs : ∀ y t k u, subscripted e₁ false (.str y t) (.int k u) = operate [.str y t, .int k u] (getItem (.str y t) (.int k u)) := by intro _ _ _ _; rfl) : Ev C ρ μ (.Subscript e e₁ pos) (.str ⟨#[n]⟩) := .of fun τ s Q E st hQ => by
  refine Subscript_ (hv.run τ s _ E st fun v s₁ st₁ => hi.run _ s₁ _ E st₁ fun i s₂ st₂ => ?_)
  obtain ⟨⟨t, rfl⟩, st₃⟩ := st₂.int
  obtain ⟨⟨t', rfl⟩, st₄⟩ := st₃.str
  refine tail_any (typeIs_str _ _ _) slot_str_getitem.lookup (PyProof.Rows.getItem_str ?_ (StrLaws.at_nonneg hlo hx) (hQ _ _ ((st₄.toks _).pushStr _ _))) (hs _ _ _ _)
  have h1 : decide (a < -(2 ^ 63 : Int)) = false := decide_eq_false (by (first | assumption | decide | exact Nat.le_trans (by assumption) (by decide) | exact Nat.le_trans (Nat.add_le_add (by assumption) (by assumption)) (by decide) | exact Nat.lt_of_le_of_lt (by assumption) (by decide) | exact Nat.lt_of_lt_of_le (by assumption) (by decide) | lia | omega))
  have h2 : decide (a ≥ (2 ^ 63 : Int)) = false := decide_eq_false (by (first | assumption | decide | exact Nat.le_trans (by assumption) (by decide) | exact Nat.le_trans (Nat.add_le_add (by assumption) (by assumption)) (by decide) | exact Nat.lt_of_le_of_lt (by assumption) (by decide) | exact Nat.lt_of_lt_of_le (by assumption) (by decide) | lia | omega))
  rw [h1, h2]; rfl
/-- an item of a list -/
theorem ev_itemL {ds : List Dat} (hv : Ev C ρ μ e (.list ds)) (hi : Ev C ρ μ e₁ (.int a)) (hlo : 0 ≤ a) (hhi : a < 2 ^ 63) (hx : ds[a.toNat]? = some d)
    (hs : ∀ t k u, subscripted e₁ false (.ref t) (.int k u) = operate [.ref t, .int k u] (getItem (.ref t) (.int k u)) := by intro _ _ _; rfl) : Ev C ρ μ (.Subscript e e₁ pos) d := .of fun τ s Q E st hQ => by
  refine Subscript_ (hv.run τ s _ E st fun v s₁ st₁ => hi.run _ s₁ _ E st₁ fun i s₂ st₂ => ?_)
  obtain ⟨⟨t, rfl⟩, st₃⟩ := st₂.int
  obtain ⟨tt, vs, rfl, ht, hlen, st₄⟩ := st₃.list (.head _)
  obtain ⟨u, hu, hin⟩ := (AllIn.zip (τ := (.ref tt, .list ds) :: τ) hlen).get hx
  refine tail_any ht.typeIs slot_list_getitem.lookup (wpAny_getItem_list ht hlo hhi (by simpa using hu) ?_) (hs _ _ _)
  obtain ⟨m, nd, w⟩ := st₄
  exact hQ _ _ ((w.push (w.tmps _ hin)).st.tmpsOf fun p hp => by
    rcases List.mem_cons.mp hp with rfl | hp
    · exact .head _
    · exact .tail _ (List.mem_append.mpr (.inr (.tail _ hp))))

/-- built-ins of one argument -/
theorem ev_builtin1 {g : Str} {id : String} (ok : C.Ok) (hx : C.env.kindOf g = some .globalImplicit) (hm : ∀ P, nsIn (wtop.heap_39 P) mainGlobals g = some none) (hv : bootBuiltins g = some (.builtin id)) (h1 : Ev C ρ μ e d₁)
    (hc : ∀ (τ : Tmp) (v : Value) (s : Shared) (Q : Value → Shared → Prop) (E : Value → Shared → Prop), St C ρ ((v, d₁) :: τ) μ s → (∀ v' s', St C ρ ((v', d) :: τ) μ s' → Q v' s') → wpAny (model P0 C.w) C.A (call (.builtin id) [v]) Q E s)
    (hn : g ≠ "__name__" := by decide) (hd : (g == ("__debug__" : Str)) = false := by decide) (hse : starEach [e] C.env = [(false, eval e C.env)] := by rfl) : Ev C ρ μ (.Call (.Name g np) [e] [] pos) d := .of fun τ s Q E st hQ =>
  Call_name1 hse (wp_name_builtin ok hx (hm _) hv st (callWith_builtin1 (h1.run τ s _ E st fun v s₁ st₁ => hc τ v s₁ Q E st₁ hQ)) hn hd)
theorem ev_type1 {g : Str} {T : String} (ok : C.Ok) (hx : C.env.kindOf g = some .globalImplicit) (hm : ∀ P, nsIn (wtop.heap_39 P) mainGlobals g = some none) (hv : bootBuiltins g = some (.type T)) (h1 : Ev C ρ μ e d₁)
    (hc : ∀ (τ : Tmp) (v : Value) (s : Shared) (Q : Value → Shared → Prop) (E : Value → Shared → Prop), St C ρ ((v, d₁) :: τ) μ s → (∀ v' s', St C ρ ((v', d) :: τ) μ s' → Q v' s') → wpAny (model P0 C.w) C.A (call (.type T) [v]) Q E s)
    (hn : g ≠ "__name__" := by decide) (hd : (g == ("__debug__" : Str)) = false := by decide) (hse : starEach [e] C.env = [(false, eval e C.env)] := by rfl) : Ev C ρ μ (.Call (.Name g np) [e] [] pos) d := .of fun τ s Q E st hQ =>
  Call_name1 hse (wp_name_builtin ok hx (hm _) hv st (callWith_type1 (h1.run τ s _ E st fun v s₁ st₁ => hc τ v s₁ Q E st₁ hQ)) hn hd)
theorem ev_lenS (ok : C.Ok) (hx : C.env.kindOf "len" = some .globalImplicit) (hm : ∀ P, nsIn (wtop.heap_39 P) mainGlobals "len" = some none) (h1 : Ev C ρ μ e (.str x)) (hs : x.length ≤ sizeLine) (hse : starEach [e] C.env = [(false, eval e C.env)] := by rfl) :
    Ev C ρ μ (.Call (.Name "len" np) [e] [] pos) (.int x.length) := ev_builtin1 ok hx hm (id := "len") rfl h1 (fun τ v s Q E st hQ => by
  obtain ⟨⟨t, rfl⟩, st₁⟩ := st.str
  have hs' : x.length ≤ 16777216 := hs
  exact len_str (by (first | assumption | decide | exact Nat.le_trans (by assumption) (by decide) | exact Nat.le_trans (Nat.add_le_add (by assumption) (by assumption)) (by decide) | exact Nat.lt_of_le_of_lt (by assumption) (by decide) | exact Nat.lt_of_lt_of_le (by assumption) (by decide) | lia | omega)) (hQ _ _ ((st₁.toks _).pushInt _ _))) (by decide) (by decide) hse
theorem ev_lenL {ds : List Dat} (ok : C.Ok) (hx : C.env.kindOf "len" = some .globalImplicit) (hm : ∀ P, nsIn (wtop.heap_39 P) mainGlobals "len" = some none) (h1 : Ev C ρ μ e (.list ds)) (hs : ds.length < 2 ^ 62) (hse : starEach [e] C.env = [(false, eval e C.env)] := by rfl) :
    Ev C ρ μ (.Call (.Name "len" np) [e] [] pos) (.int ds.length) := ev_builtin1 ok hx hm (id := "len") rfl h1 (fun τ v s Q E st hQ => by
  obtain ⟨a, vs, rfl, hl, hlen, st₁⟩ := st.list (.head _)
  refine Calls.call_len_list hl (by simp only [List.size_toArray]; (first | assumption | decide | exact Nat.le_trans (by assumption) (by decide) | exact Nat.le_trans (Nat.add_le_add (by assumption) (by assumption)) (by decide) | exact Nat.lt_of_le_of_lt (by assumption) (by decide) | exact Nat.lt_of_lt_of_le (by assumption) (by decide) | lia | omega)) ?_
  rw [List.size_toArray, hlen]
  exact hQ _ _ ((st.pop.toks _).pushInt _ _)) (by decide) (by decide) hse
theorem ev_chr (ok : C.Ok) (hx : C.env.kindOf "chr" = some .globalImplicit) (hm : ∀ P, nsIn (wtop.heap_39 P) mainGlobals "chr" = some none) (h1 : Ev C ρ μ e (.int a)) (h0 : 0 ≤ a) (h2 : a ≤ 0x10FFFF) (hse : starEach [e] C.env = [(false, eval e C.env)] := by rfl) :
    Ev C ρ μ (.Call (.Name "chr" np) [e] [] pos) (.str ⟨#[a.toNat]⟩) := ev_builtin1 ok hx hm (id := "chr") rfl h1 (fun τ v s Q E st hQ => by
  obtain ⟨⟨t, rfl⟩, st₁⟩ := st.int
  refine P.chr_of_int ?_ (hQ _ _ ((st₁.toks _).pushStr _ _))
  have : ¬ a < 0 := by (first | assumption | decide | exact Nat.le_trans (by assumption) (by decide) | exact Nat.le_trans (Nat.add_le_add (by assumption) (by assumption)) (by decide) | exact Nat.lt_of_le_of_lt (by assumption) (by decide) | exact Nat.lt_of_lt_of_le (by assumption) (by decide) | lia | omega)
  have : ¬ a > 0x10FFFF := by (first | assumption | decide | exact Nat.le_trans (by assumption) (by decide) | exact Nat.le_trans (Nat.add_le_add (by assumption) (by assumption)) (by decide) | exact Nat.lt_of_le_of_lt (by assumption) (by decide) | exact Nat.lt_of_lt_of_le (by assumption) (by decide) | lia | omega)
  simp [*]) (by decide) (by decide) hse
theorem ev_strI (ok : C.Ok) (hx : C.env.kindOf "str" = some .globalImplicit) (hm : ∀ P, nsIn (wtop.heap_39 P) mainGlobals "str" = some none) (h1 : Ev C ρ μ e (.int a)) (h0 : a.natAbs < 10 ^ 4300) (hse : starEach [e] C.env = [(false, eval e C.env)] := by rfl) :
    Ev C ρ μ (.Call (.Name "str" np) [e] [] pos) (.str (Str.ofString (toString a))) := ev_type1 ok hx hm (T := "str") rfl h1 (fun τ v s Q E st hQ => by
  obtain ⟨⟨t, rfl⟩, st₁⟩ := st.int
  obtain ⟨m, nd, w⟩ := id st₁
  obtain ⟨mean, mg, mb, T⟩ := ok.top
  refine str_of_int_or ok.hand ?_ (fun _ => hQ _ _ ((st₁.toks _).pushStr _ _)) (fun h => absurd h0 (by (first | assumption | decide | exact Nat.le_trans (by assumption) (by decide) | exact Nat.le_trans (Nat.add_le_add (by assumption) (by assumption)) (by decide) | exact Nat.lt_of_le_of_lt (by assumption) (by decide) | exact Nat.lt_of_lt_of_le (by assumption) (by decide) | lia | omega)))
  obtain ⟨mc, hn, hz⟩ := T.nodigits
  exact ⟨mc, hn.keeps w.F.keep, hz⟩) (by decide) (by decide) hse
theorem ev_intS (ok : C.Ok) (hx : C.env.kindOf "int" = some .globalImplicit) (hm : ∀ P, nsIn (wtop.heap_39 P) mainGlobals "int" = some none) (h1 : Ev C ρ μ e (.str x)) (h2 : PySem.intText? x = some a) (hl : x.length ≤ 640) (hse : starEach [e] C.env = [(false, eval e C.env)] := by rfl) :
    Ev C ρ μ (.Call (.Name "int" np) [e] [] pos) (.int a) := ev_type1 ok hx hm (T := "int") rfl h1 (fun τ v s Q E st hQ => by
  obtain ⟨⟨t, rfl⟩, st₁⟩ := st.str
  exact KIN.call_text h2 hl (hQ _ _ ((st₁.toks _).pushInt _ _))) (by decide) (by decide) hse
end
end Mine
end

section
open PySem PySem.W PyProof.Rows PySem.Calls
set_option maxRecDepth 100000
set_option linter.all false
namespace Mine
open Builtin Builtin.Str
noncomputable abbrev S (l : List Nat) : PySem.Str := ⟨l.toArray⟩
theorem S_length (l : List Nat) : (S l).length = l.length := by show l.toArray.size = _; simp
theorem S_list (l : List Nat) : (S l).cps.toList = l := rfl
theorem S_of (x : PySem.Str) : x = S x.cps.toList := by cases x; rfl
theorem S_inj {a b : List Nat} (h : S a = S b) : a = b := by have := congrArg (fun x : PySem.Str => x.cps.toList) h; exact this
theorem S_append (a b : List Nat) : S a ++ S b = S (a ++ b) := by
  rw [S_of (S a ++ S b)]
  show S ((S a).cps ++ (S b).cps).toList = _
  simp [S]
theorem S_beq (a b : List Nat) : (S a == S b) = decide (a = b) := by
  by_cases h : a = b
  · subst h; simp
  · have : S a ≠ S b := fun e => h (S_inj e)
    simp [h, this]

/-- the first place of y in x -/
noncomputable def fnd (y : List Nat) : List Nat → Option Nat
  | [] => if y.isPrefixOf [] then some 0 else none
  | c :: r => if y.isPrefixOf (c :: r) then some 0 else (fnd y r).map (· + 1)
theorem fnd_spec (y : List Nat) : ∀ x : List Nat, (fnd y x = none ∧ ∀ k, k ≤ x.length → ¬ y <+: x.drop k) ∨ ∃ i, fnd y x = some i ∧ i ≤ x.length ∧ y <+: x.drop i ∧ ∀ k, k < i → ¬ y <+: x.drop k
  | [] => by
    unfold fnd
    by_cases h : y.isPrefixOf [] = true
    · rw [if_pos h]; exact .inr ⟨0, rfl, Nat.le_refl _, List.isPrefixOf_iff_prefix.mp h, fun k hk => absurd hk (Nat.not_lt_zero _)⟩
    · rw [if_neg h]; refine .inl ⟨rfl, fun k _ hp => h (List.isPrefixOf_iff_prefix.mpr (by simpa using hp))⟩
  | c :: r => by
    unfold fnd
    by_cases h : y.isPrefixOf (c :: r) = true
    · rw [if_pos h]; exact .inr ⟨0, rfl, Nat.zero_le _, List.isPrefixOf_iff_prefix.mp h, fun k hk => absurd hk (Nat.not_lt_zero _)⟩
    · rw [if_neg h]
      have h0 : ¬ y <+: c :: r := fun hp => h (List.isPrefixOf_iff_prefix.mpr hp)
      rcases fnd_spec y r with ⟨e, hn⟩ | ⟨i, e, hi, hp, hn⟩
      · refine .inl ⟨by rw [e]; rfl, fun k hk => ?_⟩
        cases k with
        | zero => exact h0
        | succ k => exact hn k (Nat.le_of_succ_le_succ hk)
      · refine .inr ⟨i + 1, by rw [e]; rfl, Nat.succ_le_succ hi, hp, fun k hk => ?_⟩
        cases k with
        | zero => exact h0
        | succ k => exact hn k (Nat.lt_of_succ_lt_succ hk)
theorem fnd_none {y x : List Nat} (h : ∀ k, k ≤ x.length → ¬ y <+: x.drop k) : fnd y x = none := by
  rcases fnd_spec y x with ⟨e, _⟩ | ⟨i, e, hi, hp, _⟩
  · exact e
  · exact absurd hp (h i hi)
theorem fnd_some {y x : List Nat} {i : Nat} (hi : i ≤ x.length) (hp : y <+: x.drop i) (hn : ∀ k, k < i → ¬ y <+: x.drop k) : fnd y x = some i := by
  rcases fnd_spec y x with ⟨_, hn'⟩ | ⟨j, e, hj, hpj, hnj⟩
  · exact absurd hp (hn' i hi)
  · rw [e]
    rcases Nat.lt_trichotomy i j with h | h | h
    · exact absurd hp (hnj i h)
    · rw [h]
    · exact absurd hpj (hn j h)

theorem pre_iff {y x : List Nat} {i : Nat} : (x.drop i).take y.length = y ↔ y <+: x.drop i := by
  rw [List.prefix_iff_eq_take]
  exact ⟨fun h => h.symm, fun h => h.symm⟩
theorem pre_fits {y x : List Nat} {i : Nat} (hi : i ≤ x.length) (h : y <+: x.drop i) : i + y.length ≤ x.length := by
  have := h.length_le
  rw [List.length_drop] at this
  (first | assumption | decide | exact Nat.le_trans (by assumption) (by decide) | exact Nat.le_trans (Nat.add_le_add (by assumption) (by assumption)) (by decide) | exact Nat.lt_of_le_of_lt (by assumption) (by decide) | exact Nat.lt_of_lt_of_le (by assumption) (by decide) | lia | omega)
theorem at_iff {x y : List Nat} {hi i : Nat} (hh : hi ≤ x.length) : StrLaws.At (S x) (S y) hi i ↔ i ≤ hi ∧ y <+: (x.take hi).drop i := by
  unfold StrLaws.At
  rw [StrLaws.subAt_eq, S_length, S_list, S_list, beq_iff_eq]
  constructor
  · rintro ⟨h1, h2⟩
    refine ⟨by (first | assumption | decide | exact Nat.le_trans (by assumption) (by decide) | exact Nat.le_trans (Nat.add_le_add (by assumption) (by assumption)) (by decide) | exact Nat.lt_of_le_of_lt (by assumption) (by decide) | exact Nat.lt_of_lt_of_le (by assumption) (by decide) | lia | omega), ?_⟩
    rw [List.drop_take]
    rw [List.prefix_iff_eq_take, List.take_take, Nat.min_eq_left (by (first | assumption | decide | exact Nat.le_trans (by assumption) (by decide) | exact Nat.le_trans (Nat.add_le_add (by assumption) (by assumption)) (by decide) | exact Nat.lt_of_le_of_lt (by assumption) (by decide) | exact Nat.lt_of_lt_of_le (by assumption) (by decide) | lia | omega))]
    exact h2.symm
  · rintro ⟨h1, h2⟩
    have hl := h2.length_le
    rw [List.length_drop, List.length_take, Nat.min_eq_left hh] at hl
    refine ⟨by (first | assumption | decide | exact Nat.le_trans (by assumption) (by decide) | exact Nat.le_trans (Nat.add_le_add (by assumption) (by assumption)) (by decide) | exact Nat.lt_of_le_of_lt (by assumption) (by decide) | exact Nat.lt_of_lt_of_le (by assumption) (by decide) | lia | omega), ?_⟩
    rw [List.drop_take, List.prefix_iff_eq_take, List.take_take, Nat.min_eq_left (by (first | assumption | decide | exact Nat.le_trans (by assumption) (by decide) | exact Nat.le_trans (Nat.add_le_add (by assumption) (by assumption)) (by decide) | exact Nat.lt_of_le_of_lt (by assumption) (by decide) | exact Nat.lt_of_lt_of_le (by assumption) (by decide) | lia | omega))] at h2
    exact h2.symm

/-- the first of the places -/
theorem occ_fnd (x y : List Nat) (lo hi limit : Nat) (hl : 1 ≤ limit) (hlo : lo ≤ hi) (hh : hi ≤ x.length) :
    (fnd y ((x.take hi).drop lo) = none ∧ occurrences (S x) (S y) lo hi limit = []) ∨ ∃ i r, fnd y ((x.take hi).drop lo) = some i ∧ occurrences (S x) (S y) lo hi limit = (lo + i) :: r := by
  rw [StrLaws.occ_eq]
  have hlen : ((x.take hi).drop lo).length = hi - lo := by rw [List.length_drop, List.length_take, Nat.min_eq_left hh]
  have hd : ∀ k, ((x.take hi).drop lo).drop k = (x.take hi).drop (lo + k) := fun k => by rw [List.drop_drop]
  rcases StrLaws.occ_first (S x) (S y) hi limit hl (List.range' lo (hi + 1 - lo)) lo (fun i hi => by have := List.mem_range'_1.mp hi; (first | assumption | decide | exact Nat.le_trans (by assumption) (by decide) | exact Nat.le_trans (Nat.add_le_add (by assumption) (by assumption)) (by decide) | exact Nat.lt_of_le_of_lt (by assumption) (by decide) | exact Nat.lt_of_lt_of_le (by assumption) (by decide) | lia | omega)) with ⟨h0, hn⟩ | ⟨pre, a, post, e, h0, ha, hn⟩
  · refine .inl ⟨fnd_none fun k hk hp => ?_, by rw [h0]⟩
    rw [hlen] at hk
    refine hn (lo + k) (List.mem_range'_1.mpr (by (first | assumption | decide | exact Nat.le_trans (by assumption) (by decide) | exact Nat.le_trans (Nat.add_le_add (by assumption) (by assumption)) (by decide) | exact Nat.lt_of_le_of_lt (by assumption) (by decide) | exact Nat.lt_of_lt_of_le (by assumption) (by decide) | lia | omega))) ((at_iff hh).mpr ⟨by (first | assumption | decide | exact Nat.le_trans (by assumption) (by decide) | exact Nat.le_trans (Nat.add_le_add (by assumption) (by assumption)) (by decide) | exact Nat.lt_of_le_of_lt (by assumption) (by decide) | exact Nat.lt_of_lt_of_le (by assumption) (by decide) | lia | omega), ?_⟩)
    rw [← hd]; exact hp
  · have hs := StrLaws.range'_split_from e
    obtain ⟨h1, h2⟩ := (at_iff hh).mp ha
    refine .inr ⟨a - lo, ((forIn (List.range' lo (hi + 1 - lo)) ((#[] : Array Nat), lo) (StrLaws.occBody (S x) (S y) hi limit)).run.fst.toList).tail, ?_, ?_⟩
    · have ea : lo + (a - lo) = a := by (first | assumption | decide | exact Nat.le_trans (by assumption) (by decide) | exact Nat.le_trans (Nat.add_le_add (by assumption) (by assumption)) (by decide) | exact Nat.lt_of_le_of_lt (by assumption) (by decide) | exact Nat.lt_of_lt_of_le (by assumption) (by decide) | lia | omega)
      refine fnd_some (by rw [hlen]; (first | assumption | decide | exact Nat.le_trans (by assumption) (by decide) | exact Nat.le_trans (Nat.add_le_add (by assumption) (by assumption)) (by decide) | exact Nat.lt_of_le_of_lt (by assumption) (by decide) | exact Nat.lt_of_lt_of_le (by assumption) (by decide) | lia | omega)) (by rw [hd, ea]; exact h2) fun k hk hp => ?_
      refine hn (lo + k) (hs.2 _ (by (first | assumption | decide | exact Nat.le_trans (by assumption) (by decide) | exact Nat.le_trans (Nat.add_le_add (by assumption) (by assumption)) (by decide) | exact Nat.lt_of_le_of_lt (by assumption) (by decide) | exact Nat.lt_of_lt_of_le (by assumption) (by decide) | lia | omega)) (by (first | assumption | decide | exact Nat.le_trans (by assumption) (by decide) | exact Nat.le_trans (Nat.add_le_add (by assumption) (by assumption)) (by decide) | exact Nat.lt_of_le_of_lt (by assumption) (by decide) | exact Nat.lt_of_lt_of_le (by assumption) (by decide) | lia | omega))) ((at_iff hh).mpr ⟨by (first | assumption | decide | exact Nat.le_trans (by assumption) (by decide) | exact Nat.le_trans (Nat.add_le_add (by assumption) (by assumption)) (by decide) | exact Nat.lt_of_le_of_lt (by assumption) (by decide) | exact Nat.lt_of_lt_of_le (by assumption) (by decide) | lia | omega), ?_⟩)
      rw [← hd]; exact hp
    · generalize (forIn (List.range' lo (hi + 1 - lo)) ((#[] : Array Nat), lo) (StrLaws.occBody (S x) (S y) hi limit)).run.fst = arr at h0
      have h1 : arr.toList[0]? = some a := by simpa using h0
      have ea : lo + (a - lo) = a := by (first | assumption | decide | exact Nat.le_trans (by assumption) (by decide) | exact Nat.le_trans (Nat.add_le_add (by assumption) (by assumption)) (by decide) | exact Nat.lt_of_le_of_lt (by assumption) (by decide) | exact Nat.lt_of_lt_of_le (by assumption) (by decide) | lia | omega)
      cases hL : arr.toList with
      | nil => rw [hL] at h1; cases h1
      | cons b t => rw [hL] at h1; simp at h1; rw [h1, ea]; rfl
theorem occ_whole (x y : List Nat) (limit : Nat) (hl : 1 ≤ limit) :
    (fnd y x = none ∧ occurrences (S x) (S y) 0 x.length limit = []) ∨ ∃ i r, fnd y x = some i ∧ occurrences (S x) (S y) 0 x.length limit = i :: r := by
  have := occ_fnd x y 0 x.length limit hl (Nat.zero_le _) (Nat.le_refl _)
  simpa using this

theorem contains_S (x y : List Nat) : Txt.contains (S x) (S y) = (fnd y x).isSome := by
  unfold Txt.contains
  rw [S_length]
  rcases occ_whole x y 1 (Nat.le_refl _) with ⟨e1, e2⟩ | ⟨i, r, e1, e2⟩ <;> rw [e1, e2] <;> rfl
noncomputable def fndI (o : Option Nat) : Int := match o with | some i => (i : Int) | none => -1
theorem find_S (x y : List Nat) : Txt.find (S x) (S y) = fndI (fnd y x) := by
  unfold Txt.find
  rw [S_length]
  rcases occ_whole x y 1 (Nat.le_refl _) with ⟨e1, e2⟩ | ⟨i, r, e1, e2⟩ <;> rw [e1, e2] <;> rfl
theorem fromIndex_nat (n a : Nat) : fromIndex n (a : Int) = a := by
  unfold fromIndex
  have : ¬ ((a : Int) < 0) := by (first | assumption | decide | exact Nat.le_trans (by assumption) (by decide) | exact Nat.le_trans (Nat.add_le_add (by assumption) (by assumption)) (by decide) | exact Nat.lt_of_le_of_lt (by assumption) (by decide) | exact Nat.lt_of_lt_of_le (by assumption) (by decide) | lia | omega)
  simp [this]
theorem find3_S (x y : List Nat) (a : Nat) (ha : a ≤ x.length) : Txt.find3 (S x) (S y) a = fndI ((fnd y (x.drop a)).map (· + a)) := by
  unfold Txt.find3
  rw [S_length, fromIndex_nat]
  have h := occ_fnd x y a x.length 1 (Nat.le_refl _) ha (Nat.le_refl _)
  rw [List.take_length] at h
  rcases h with ⟨e1, e2⟩ | ⟨i, r, e1, e2⟩ <;> rw [e1, e2]
  · rfl
  · show ((a + i : Nat) : Int) = ((i + a : Nat) : Int); rw [Nat.add_comm]
theorem findTo_S (x y : List Nat) (a b : Nat) (hab : a ≤ b) (hb : b ≤ x.length) : findTo (S x) (S y) a b = fndI ((fnd y ((x.take b).drop a)).map (· + a)) := by
  unfold findTo
  rw [S_length, fromIndex_nat, fromIndex_nat, Nat.min_eq_left hb]
  rcases occ_fnd x y a b 1 (Nat.le_refl _) hab hb with ⟨e1, e2⟩ | ⟨i, r, e1, e2⟩ <;> rw [e1, e2]
  · rfl
  · show ((a + i : Nat) : Int) = ((i + a : Nat) : Int); rw [Nat.add_comm]
theorem index_S {x y : List Nat} {i : Nat} (h : fnd y x = some i) : ∃ r, occurrences (S x) (S y) 0 (S x).length 1 = i :: r := by
  rw [S_length]
  rcases occ_whole x y 1 (Nat.le_refl _) with ⟨e1, e2⟩ | ⟨j, r, e1, e2⟩
  · rw [e1] at h; cases h
  · rw [e1] at h; cases h; exact ⟨r, e2⟩
theorem startswith_S (x y : List Nat) : Txt.startswith (S x) (S y) = y.isPrefixOf x := by
  unfold Txt.startswith
  rw [StrLaws.subAt_eq, S_length, S_length, S_list, S_list, List.drop_zero, Bool.eq_iff_iff, Bool.and_eq_true, decide_eq_true_eq, beq_iff_eq, List.isPrefixOf_iff_prefix]
  constructor
  · rintro ⟨_, h⟩; exact List.prefix_iff_eq_take.mpr h.symm
  · intro h; exact ⟨by have := h.length_le; (first | assumption | decide | exact Nat.le_trans (by assumption) (by decide) | exact Nat.le_trans (Nat.add_le_add (by assumption) (by assumption)) (by decide) | exact Nat.lt_of_le_of_lt (by assumption) (by decide) | exact Nat.lt_of_lt_of_le (by assumption) (by decide) | lia | omega), (List.prefix_iff_eq_take.mp h).symm⟩
theorem endswith_S (x y : List Nat) : Txt.endswith (S x) (S y) = y.isSuffixOf x := by
  unfold Txt.endswith
  rw [StrLaws.subAt_eq, S_length, S_length, S_list, S_list, Bool.eq_iff_iff, Bool.and_eq_true, decide_eq_true_eq, beq_iff_eq, List.isSuffixOf_iff_suffix]
  constructor
  · rintro ⟨h0, h⟩
    rw [List.suffix_iff_eq_drop]
    rw [List.take_of_length_le (by rw [List.length_drop]; (first | assumption | decide | exact Nat.le_trans (by assumption) (by decide) | exact Nat.le_trans (Nat.add_le_add (by assumption) (by assumption)) (by decide) | exact Nat.lt_of_le_of_lt (by assumption) (by decide) | exact Nat.lt_of_lt_of_le (by assumption) (by decide) | lia | omega))] at h
    exact h.symm
  · intro h
    have h1 := h.length_le
    refine ⟨by (first | assumption | decide | exact Nat.le_trans (by assumption) (by decide) | exact Nat.le_trans (Nat.add_le_add (by assumption) (by assumption)) (by decide) | exact Nat.lt_of_le_of_lt (by assumption) (by decide) | exact Nat.lt_of_lt_of_le (by assumption) (by decide) | lia | omega), ?_⟩
    rw [List.take_of_length_le (by rw [List.length_drop]; (first | assumption | decide | exact Nat.le_trans (by assumption) (by decide) | exact Nat.le_trans (Nat.add_le_add (by assumption) (by assumption)) (by decide) | exact Nat.lt_of_le_of_lt (by assumption) (by decide) | exact Nat.lt_of_lt_of_le (by assumption) (by decide) | lia | omega))]
    exact (List.suffix_iff_eq_drop.mp h).symm
theorem slice_ss {x : List Nat} {a b : Int} (h0 : 0 ≤ a) (hab : a ≤ b) (hb : b ≤ x.length) : Txt.slice (S x) (some a) (some b) = S ((x.drop a.toNat).take (b - a).toNat) :=
  StrLaws.sliceText_plain (x := S x) ⟨h0, hab, hb⟩
theorem slice_ns {x : List Nat} {b : Int} (h0 : 0 ≤ b) (hb : b ≤ x.length) : Txt.slice (S x) none (some b) = S (x.take b.toNat) := by
  have := StrLaws.sliceText_to (x := S x) (j := b) ⟨h0, hb⟩
  rw [show Txt.slice (S x) none (some b) = StrLaws.sliceText (S x) none (some b) from rfl, this, S_list, List.drop_zero, Int.sub_zero]
theorem slice_sn {x : List Nat} {a : Int} (h0 : 0 ≤ a) (hb : a ≤ x.length) : Txt.slice (S x) (some a) none = S (x.drop a.toNat) := by
  have := StrLaws.sliceText_from (x := S x) (i := a) ⟨h0, hb⟩
  rw [show Txt.slice (S x) (some a) none = StrLaws.sliceText (S x) (some a) none from rfl, this, S_list, List.take_of_length_le (by rw [List.length_drop]; (first | assumption | decide | exact Nat.le_trans (by assumption) (by decide) | exact Nat.le_trans (Nat.add_le_add (by assumption) (by assumption)) (by decide) | exact Nat.lt_of_le_of_lt (by assumption) (by decide) | exact Nat.lt_of_lt_of_le (by assumption) (by decide) | lia | omega))]

/-- cut at each y -/
noncomputable def cutF (y : List Nat) : Nat → List Nat → List (List Nat)
  | 0, x => [x]
  | n + 1, x => match fnd y x with
    | none => [x]
    | some i => x.take i :: cutF y n (x.drop (i + y.length))
noncomputable def cutL (y x : List Nat) : List (List Nat) := cutF y (x.length + 1) x
theorem strSub_S (x : List Nat) (a b : Nat) : strSub (S x) a b = S ((x.drop a).take (b - a)) := by
  rw [S_of (strSub (S x) a b), StrLaws.strSub_toList]
theorem parts_cut (x y : List Nat) (hy : 1 ≤ y.length) : ∀ (cuts : List Nat) (a f n : Nat), StrLaws.ChainG (S x) (S y) x.length a cuts f → (∀ k, f ≤ k → ¬ StrLaws.At (S x) (S y) x.length k) → x.length < a + n → a ≤ x.length →
    StrLaws.partsFrom (S x) y.length a cuts = (cutF y n (x.drop a)).map S
  | [], a, f, n, h, hn, hlt, ha => by
    have e : f = a := h
    subst e
    have h0 : fnd y (x.drop f) = none := fnd_none fun k hk hp => hn (f + k) (by (first | assumption | decide | exact Nat.le_trans (by assumption) (by decide) | exact Nat.le_trans (Nat.add_le_add (by assumption) (by assumption)) (by decide) | exact Nat.lt_of_le_of_lt (by assumption) (by decide) | exact Nat.lt_of_lt_of_le (by assumption) (by decide) | lia | omega)) ((at_iff (Nat.le_refl _)).mpr ⟨by rw [List.length_drop] at hk; (first | assumption | decide | exact Nat.le_trans (by assumption) (by decide) | exact Nat.le_trans (Nat.add_le_add (by assumption) (by assumption)) (by decide) | exact Nat.lt_of_le_of_lt (by assumption) (by decide) | exact Nat.lt_of_lt_of_le (by assumption) (by decide) | lia | omega), by rw [List.take_length, ← List.drop_drop]; exact hp⟩)
    have h1 : cutF y n (x.drop f) = [x.drop f] := by cases n <;> simp [cutF, h0]
    rw [h1]
    show [strSub (S x) f (S x).length] = _
    rw [strSub_S, S_length, List.take_of_length_le (by rw [List.length_drop]; (first | assumption | decide | exact Nat.le_trans (by assumption) (by decide) | exact Nat.le_trans (Nat.add_le_add (by assumption) (by assumption)) (by decide) | exact Nat.lt_of_le_of_lt (by assumption) (by decide) | exact Nat.lt_of_lt_of_le (by assumption) (by decide) | lia | omega))]; rfl
  | c :: r, a, f, n, h, hn, hlt, ha => by
    obtain ⟨h1, h2, h3, h4⟩ := h
    obtain ⟨g1, g2⟩ := (at_iff (Nat.le_refl _)).mp h2
    rw [List.take_length] at g2
    have hfit := pre_fits g1 g2
    have ea : a + (c - a) = c := by (first | assumption | decide | exact Nat.le_trans (by assumption) (by decide) | exact Nat.le_trans (Nat.add_le_add (by assumption) (by assumption)) (by decide) | exact Nat.lt_of_le_of_lt (by assumption) (by decide) | exact Nat.lt_of_lt_of_le (by assumption) (by decide) | lia | omega)
    have h0 : fnd y (x.drop a) = some (c - a) := fnd_some (by rw [List.length_drop]; (first | assumption | decide | exact Nat.le_trans (by assumption) (by decide) | exact Nat.le_trans (Nat.add_le_add (by assumption) (by assumption)) (by decide) | exact Nat.lt_of_le_of_lt (by assumption) (by decide) | exact Nat.lt_of_lt_of_le (by assumption) (by decide) | lia | omega)) (by rw [List.drop_drop, ea]; exact g2) fun k hk hp =>
      h3 (a + k) (by (first | assumption | decide | exact Nat.le_trans (by assumption) (by decide) | exact Nat.le_trans (Nat.add_le_add (by assumption) (by assumption)) (by decide) | exact Nat.lt_of_le_of_lt (by assumption) (by decide) | exact Nat.lt_of_lt_of_le (by assumption) (by decide) | lia | omega)) (by (first | assumption | decide | exact Nat.le_trans (by assumption) (by decide) | exact Nat.le_trans (Nat.add_le_add (by assumption) (by assumption)) (by decide) | exact Nat.lt_of_le_of_lt (by assumption) (by decide) | exact Nat.lt_of_lt_of_le (by assumption) (by decide) | lia | omega)) ((at_iff (Nat.le_refl _)).mpr ⟨by (first | assumption | decide | exact Nat.le_trans (by assumption) (by decide) | exact Nat.le_trans (Nat.add_le_add (by assumption) (by assumption)) (by decide) | exact Nat.lt_of_le_of_lt (by assumption) (by decide) | exact Nat.lt_of_lt_of_le (by assumption) (by decide) | lia | omega), by rw [List.take_length, ← List.drop_drop]; exact hp⟩)
    cases n with
    | zero => (first | assumption | decide | exact Nat.le_trans (by assumption) (by decide) | exact Nat.le_trans (Nat.add_le_add (by assumption) (by assumption)) (by decide) | exact Nat.lt_of_le_of_lt (by assumption) (by decide) | exact Nat.lt_of_lt_of_le (by assumption) (by decide) | lia | omega)
    | succ n =>
      show strSub (S x) a c :: StrLaws.partsFrom (S x) y.length (c + y.length) r = _
      rw [S_length] at h4
      rw [parts_cut x y hy r (c + y.length) f n h4 hn (by (first | assumption | decide | exact Nat.le_trans (by assumption) (by decide) | exact Nat.le_trans (Nat.add_le_add (by assumption) (by assumption)) (by decide) | exact Nat.lt_of_le_of_lt (by assumption) (by decide) | exact Nat.lt_of_lt_of_le (by assumption) (by decide) | lia | omega)) (by (first | assumption | decide | exact Nat.le_trans (by assumption) (by decide) | exact Nat.le_trans (Nat.add_le_add (by assumption) (by assumption)) (by decide) | exact Nat.lt_of_le_of_lt (by assumption) (by decide) | exact Nat.lt_of_lt_of_le (by assumption) (by decide) | lia | omega)), strSub_S]
      simp only [cutF, h0, List.map_cons, List.drop_drop]
      congr 4
      (first | assumption | decide | exact Nat.le_trans (by assumption) (by decide) | exact Nat.le_trans (Nat.add_le_add (by assumption) (by assumption)) (by decide) | exact Nat.lt_of_le_of_lt (by assumption) (by decide) | exact Nat.lt_of_lt_of_le (by assumption) (by decide) | lia | omega)
theorem split_S (x y : List Nat) (hy : 1 ≤ y.length) (hs : ∀ c ∈ y, c < 256) : Txt.split (S x) (S y) = (cutL y x).map S := by
  have key : partsBetween (S x) (occurrences (S x) (S y) 0 (S x).length ((S x).length + 1)) (S y).length = (cutL y x).map S := by
    obtain ⟨f, h1, h2⟩ := StrLaws.occ_tight (S x) (S y) (by rw [S_length]; exact hy)
    rw [StrLaws.partsBetween_eq]
    have := parts_cut x y hy _ 0 f (x.length + 1) (by rw [S_length] at h1; exact h1) (by rw [S_length] at h2; exact h2) (by (first | assumption | decide | exact Nat.le_trans (by assumption) (by decide) | exact Nat.le_trans (Nat.add_le_add (by assumption) (by assumption)) (by decide) | exact Nat.lt_of_le_of_lt (by assumption) (by decide) | exact Nat.lt_of_lt_of_le (by assumption) (by decide) | lia | omega)) (by (first | assumption | decide | exact Nat.le_trans (by assumption) (by decide) | exact Nat.le_trans (Nat.add_le_add (by assumption) (by assumption)) (by decide) | exact Nat.lt_of_le_of_lt (by assumption) (by decide) | exact Nat.lt_of_lt_of_le (by assumption) (by decide) | lia | omega))
    rw [List.drop_zero] at this
    rw [S_length, S_length] at *
    exact this
  have hk : decide (Str.strKind (S x) < Str.strKind (S y)) = false := by
    refine decide_eq_false ?_
    have : Str.strKind (S y) = 1 := by
      unfold Str.strKind
      rw [if_pos]
      rw [← Array.all_toList]
      exact List.all_eq_true.mpr fun c hc => decide_eq_true (hs c hc)
    rw [this]
    unfold Str.strKind
    split
    · (first | assumption | decide | exact Nat.le_trans (by assumption) (by decide) | exact Nat.le_trans (Nat.add_le_add (by assumption) (by assumption)) (by decide) | exact Nat.lt_of_le_of_lt (by assumption) (by decide) | exact Nat.lt_of_lt_of_le (by assumption) (by decide) | lia | omega)
    · split <;> (first | assumption | decide | exact Nat.le_trans (by assumption) (by decide) | exact Nat.le_trans (Nat.add_le_add (by assumption) (by assumption)) (by decide) | exact Nat.lt_of_le_of_lt (by assumption) (by decide) | exact Nat.lt_of_lt_of_le (by assumption) (by decide) | lia | omega)
  unfold Txt.split
  rw [hk, Bool.or_false]
  split
  · rename_i hlt
    rw [decide_eq_true_eq, S_length, S_length] at hlt
    have h0 : fnd y x = none := fnd_none fun k hk hp => by have := pre_fits hk hp; (first | assumption | decide | exact Nat.le_trans (by assumption) (by decide) | exact Nat.le_trans (Nat.add_le_add (by assumption) (by assumption)) (by decide) | exact Nat.lt_of_le_of_lt (by assumption) (by decide) | exact Nat.lt_of_lt_of_le (by assumption) (by decide) | lia | omega)
    unfold cutL cutF
    rw [h0]; rfl
  · split
    · rename_i hz
      unfold cutL cutF
      rcases occ_whole x y (x.length + 1) (by (first | assumption | decide | exact Nat.le_trans (by assumption) (by decide) | exact Nat.le_trans (Nat.add_le_add (by assumption) (by assumption)) (by decide) | exact Nat.lt_of_le_of_lt (by assumption) (by decide) | exact Nat.lt_of_lt_of_le (by assumption) (by decide) | lia | omega)) with ⟨e1, e2⟩ | ⟨i, r, e1, e2⟩
      · rw [e1]; rfl
      · rw [S_length, e2] at hz; cases hz
    · exact key
noncomputable abbrev AllS (ρ ρ' : AEnv) : Prop := ρ'.map (fun p => ρ.lookup p.1) = ρ'.map (fun p => some p.2)
theorem sub_of {ρ : AEnv} : ∀ {ρ' : AEnv}, AllS ρ ρ' → ∀ x a, ρ'.lookup x = some a → ρ.lookup x = some a
  | [], _, x, a, e => by cases e
  | p :: r, h, x, a, e => by
    rw [List.lookup_cons] at e
    split at e
    · rename_i q; cases e; rw [eq_of_beq q]; exact (List.cons.inj h).1
    · exact sub_of (List.cons.inj h).2 x a e
theorem tmp_nil {τ : Tmp} : ∀ p ∈ ([] : Tmp), p ∈ τ := fun _ h => nomatch h
theorem tr_of {C : Cx} {ρ : AEnv} {μ : Mu} {e : Expr} {c c' : Bool} (h : Tr C ρ μ e c) (e' : c = c') : Tr C ρ μ e c' := e' ▸ h
theorem ev_of {C : Cx} {ρ : AEnv} {μ : Mu} {e : Expr} {c c' : Dat} (h : Ev C ρ μ e c) (e' : c = c') : Ev C ρ μ e c' := e' ▸ h
theorem line_eq : sizeLine = 16777216 := rfl

theorem drop_cons {l : List Nat} {k : Nat} (h : k < l.length) : ∃ c, l.drop k = c :: l.drop (k + 1) ∧ l[k]? = some c := ⟨l[k], List.drop_eq_getElem_cons h, List.getElem?_eq_getElem h⟩
end Mine
end

section
open PySem PySem.W PyProof.Rows PySem.Calls
set_option maxRecDepth 100000
set_option linter.all false
set_option maxHeartbeats 4000000
namespace Mine
theorem fmodN (a b : Nat) : Int.fmod (a : Int) (b : Int) = ((a % b : Nat) : Int) := by rw [Int.fmod_eq_emod_of_nonneg _ (Int.natCast_nonneg b)]; rfl
theorem fdivN (a b : Nat) : Int.fdiv (a : Int) (b : Int) = ((a / b : Nat) : Int) := by rw [Int.fdiv_eq_ediv_of_nonneg _ (Int.natCast_nonneg b)]; rfl
section
variable {C : Cx} {ρ : AEnv} {μ : Mu} {l r : Expr} {pos : Pos}
theorem ev_modN {a : Nat} (b : Nat) (h1 : Ev C ρ μ l (.int (a : Nat))) (h2 : Ev C ρ μ r (.int (b : Nat))) (hb : 0 < b) : Ev C ρ μ (.BinOp l .Mod r pos) (.int ((a % b : Nat) : Int)) :=
  ev_of (ev_mod h1 h2 (by (first | assumption | decide | exact Nat.le_trans (by assumption) (by decide) | exact Nat.le_trans (Nat.add_le_add (by assumption) (by assumption)) (by decide) | exact Nat.lt_of_le_of_lt (by assumption) (by decide) | exact Nat.lt_of_lt_of_le (by assumption) (by decide) | lia | omega))) (by rw [fmodN])
theorem ev_fdivN {a : Nat} (b : Nat) (h1 : Ev C ρ μ l (.int (a : Nat))) (h2 : Ev C ρ μ r (.int (b : Nat))) (hb : 0 < b) (hs : b < 1073741824) : Ev C ρ μ (.BinOp l .FloorDiv r pos) (.int ((a / b : Nat) : Int)) :=
  ev_of (ev_fdiv h1 h2 (by (first | assumption | decide | exact Nat.le_trans (by assumption) (by decide) | exact Nat.le_trans (Nat.add_le_add (by assumption) (by assumption)) (by decide) | exact Nat.lt_of_le_of_lt (by assumption) (by decide) | exact Nat.lt_of_lt_of_le (by assumption) (by decide) | lia | omega)) (by (first | assumption | decide | exact Nat.le_trans (by assumption) (by decide) | exact Nat.le_trans (Nat.add_le_add (by assumption) (by assumption)) (by decide) | exact Nat.lt_of_le_of_lt (by assumption) (by decide) | exact Nat.lt_of_lt_of_le (by assumption) (by decide) | lia | omega))) (by rw [fdivN])
theorem ev_addN {a : Nat} (b : Nat) (h1 : Ev C ρ μ l (.int (a : Nat))) (h2 : Ev C ρ μ r (.int (b : Nat))) : Ev C ρ μ (.BinOp l .Add r pos) (.int ((a + b : Nat) : Int)) :=
  ev_of (ev_add h1 h2) (by push_cast; rfl)
theorem ev_mulN {a : Nat} (b : Nat) (h1 : Ev C ρ μ l (.int (a : Nat))) (h2 : Ev C ρ μ r (.int (b : Nat))) (ha : a < 2 ^ 60) : Ev C ρ μ (.BinOp l .Mult r pos) (.int ((a * b : Nat) : Int)) :=
  ev_of (ev_mul h1 h2 (mulOk (by (first | assumption | decide | exact Nat.le_trans (by assumption) (by decide) | exact Nat.le_trans (Nat.add_le_add (by assumption) (by assumption)) (by decide) | exact Nat.lt_of_le_of_lt (by assumption) (by decide) | exact Nat.lt_of_lt_of_le (by assumption) (by decide) | lia | omega)) (by (first | assumption | decide | exact Nat.le_trans (by assumption) (by decide) | exact Nat.le_trans (Nat.add_le_add (by assumption) (by assumption)) (by decide) | exact Nat.lt_of_le_of_lt (by assumption) (by decide) | exact Nat.lt_of_lt_of_le (by assumption) (by decide) | lia | omega)))) (by push_cast; rfl)
theorem seqN {a n : Nat} (h : a < n) : seqIndex? (a : Int) n = some a := by rw [StrLaws.seqIndex_nonneg (by (first | assumption | decide | exact Nat.le_trans (by assumption) (by decide) | exact Nat.le_trans (Nat.add_le_add (by assumption) (by assumption)) (by decide) | exact Nat.lt_of_le_of_lt (by assumption) (by decide) | exact Nat.lt_of_lt_of_le (by assumption) (by decide) | lia | omega)) (by (first | assumption | decide | exact Nat.le_trans (by assumption) (by decide) | exact Nat.le_trans (Nat.add_le_add (by assumption) (by assumption)) (by decide) | exact Nat.lt_of_le_of_lt (by assumption) (by decide) | exact Nat.lt_of_lt_of_le (by assumption) (by decide) | lia | omega))]; simp
theorem ev_itemTN {e e₁ : Expr} {ds : List Dat} {d : Dat} {a : Nat} (hv : Ev C ρ μ e (.tuple ds)) (hi : Ev C ρ μ e₁ (.int (a : Nat))) (hx : ds[a]? = some d) (hn : ds.length ≤ 100)
    (hs : ∀ t k u, subscripted e₁ false (.ref t) (.int k u) = operate [.ref t, .int k u] (getItem (.ref t) (.int k u)) := by intro _ _ _; rfl) : Ev C ρ μ (.Subscript e e₁ pos) d :=
  have hlt : a < ds.length := (List.getElem?_eq_some_iff.mp hx).1
  ev_itemT hv hi (by (first | assumption | decide | exact Nat.le_trans (by assumption) (by decide) | exact Nat.le_trans (Nat.add_le_add (by assumption) (by assumption)) (by decide) | exact Nat.lt_of_le_of_lt (by assumption) (by decide) | exact Nat.lt_of_lt_of_le (by assumption) (by decide) | lia | omega)) (by (first | assumption | decide | exact Nat.le_trans (by assumption) (by decide) | exact Nat.le_trans (Nat.add_le_add (by assumption) (by assumption)) (by decide) | exact Nat.lt_of_le_of_lt (by assumption) (by decide) | exact Nat.lt_of_lt_of_le (by assumption) (by decide) | lia | omega)) (seqN hlt) hx hs
theorem flat_rep (l : List Nat) : ∀ (n : Nat) (acc : Array Nat), ((List.replicate n l.toArray).foldl (· ++ ·) acc) = (acc.toList ++ (List.replicate n l).flatten).toArray
  | 0, acc => by simp
  | n + 1, acc => by
    rw [List.replicate_succ, List.foldl_cons, flat_rep l n, List.replicate_succ, List.flatten_cons]
    simp
theorem mul_S (l : List Nat) (n : Nat) : Txt.mul (S l) n = S (List.replicate n l).flatten := by
  unfold Txt.mul
  split
  · have : n = 0 := by (first | assumption | decide | exact Nat.le_trans (by assumption) (by decide) | exact Nat.le_trans (Nat.add_le_add (by assumption) (by assumption)) (by decide) | exact Nat.lt_of_le_of_lt (by assumption) (by decide) | exact Nat.lt_of_lt_of_le (by assumption) (by decide) | lia | omega)
    subst this; rfl
  · split
    · rename_i h0 h
      simp only [Bool.or_eq_true, beq_iff_eq] at h
      rcases h with h | h
      · have : n = 1 := by (first | assumption | decide | exact Nat.le_trans (by assumption) (by decide) | exact Nat.le_trans (Nat.add_le_add (by assumption) (by assumption)) (by decide) | exact Nat.lt_of_le_of_lt (by assumption) (by decide) | exact Nat.lt_of_lt_of_le (by assumption) (by decide) | lia | omega)
        subst this
        show S l = _
        simp
      · rw [S_length] at h
        have : l = [] := List.eq_nil_of_length_eq_zero h
        subst this
        have : (List.replicate n ([] : List Nat)).flatten = [] := by simp
        rw [this]
    · show S _ = _
      have := flat_rep l n #[]
      simp only [Int.toNat_natCast]
      show S ((List.replicate n l.toArray).foldl (· ++ ·) #[]).toList = _
      rw [this]; simp
theorem mulOkS {x : Str} {n : Nat} (hx : x.length ≤ 1000) (hn : n ≤ 1000) : MulOk x n := by
  have hm : x.length * n ≤ 1000 * 1000 := Nat.mul_le_mul hx hn
  refine ⟨?_, fun h1 h2 => ?_, fun _ _ => ?_⟩
  · rw [decide_eq_false (by (first | assumption | decide | exact Nat.le_trans (by assumption) (by decide) | exact Nat.le_trans (Nat.add_le_add (by assumption) (by assumption)) (by decide) | exact Nat.lt_of_le_of_lt (by assumption) (by decide) | exact Nat.lt_of_lt_of_le (by assumption) (by decide) | lia | omega)), decide_eq_false (by (first | assumption | decide | exact Nat.le_trans (by assumption) (by decide) | exact Nat.le_trans (Nat.add_le_add (by assumption) (by assumption)) (by decide) | exact Nat.lt_of_le_of_lt (by assumption) (by decide) | exact Nat.lt_of_lt_of_le (by assumption) (by decide) | lia | omega))]; rfl
  · have h : (x.length : Int) * n ≤ 1000000 := by have := Int.ofNat_le.mpr hm; rw [Int.natCast_mul] at this; exact this
    have hp : (0 : Int) < n := by (first | assumption | decide | exact Nat.le_trans (by assumption) (by decide) | exact Nat.le_trans (Nat.add_le_add (by assumption) (by assumption)) (by decide) | exact Nat.lt_of_le_of_lt (by assumption) (by decide) | exact Nat.lt_of_lt_of_le (by assumption) (by decide) | lia | omega)
    have : (x.length : Int) ≤ (2 ^ 63 - 1) / n := (Int.le_ediv_iff_mul_le hp).mpr (Int.le_trans h (by decide))
    (first | assumption | decide | exact Nat.le_trans (by assumption) (by decide) | exact Nat.le_trans (Nat.add_le_add (by assumption) (by assumption)) (by decide) | exact Nat.lt_of_le_of_lt (by assumption) (by decide) | exact Nat.lt_of_lt_of_le (by assumption) (by decide) | lia | omega)
  · unfold Builtin.Str.tooLong
    simp only [Int.toNat_natCast]
    exact decide_eq_false (by rw [line_eq]; (first | assumption | decide | exact Nat.le_trans (by assumption) (by decide) | exact Nat.le_trans (Nat.add_le_add (by assumption) (by assumption)) (by decide) | exact Nat.lt_of_le_of_lt (by assumption) (by decide) | exact Nat.lt_of_lt_of_le (by assumption) (by decide) | lia | omega))
theorem ev_mulSN {x : List Nat} (n : Nat) (h1 : Ev C ρ μ l (.str (S x))) (h2 : Ev C ρ μ r (.int (n : Nat))) (hx : x.length ≤ 1000) (hn : n ≤ 1000) : Ev C ρ μ (.BinOp l .Mult r pos) (.str (S (List.replicate n x).flatten)) :=
  ev_of (ev_mulS h1 h2 (mulOkS (by rw [S_length]; exact hx) hn)) (by rw [mul_S])
theorem ev_catS {x y : List Nat} (h1 : Ev C ρ μ l (.str (S x))) (h2 : Ev C ρ μ r (.str (S y))) (hx : x.length ≤ 8000) (hy : y.length ≤ 8000) : Ev C ρ μ (.BinOp l .Add r pos) (.str (S (x ++ y))) :=
  ev_of (ev_cat h1 h2 (by rw [S_length, S_length, line_eq]; (first | assumption | decide | exact Nat.le_trans (by assumption) (by decide) | exact Nat.le_trans (Nat.add_le_add (by assumption) (by assumption)) (by decide) | exact Nat.lt_of_le_of_lt (by assumption) (by decide) | exact Nat.lt_of_lt_of_le (by assumption) (by decide) | lia | omega))) (by rw [S_append])
theorem ev_strS {C : Cx} {ρ : AEnv} {μ : Mu} {x : Str} {k pos} (y : List Nat) (e : x = S y) : Ev C ρ μ (.Constant (.str x) k pos) (.str (S y)) := e ▸ ev_str
end

theorem digs_ex : ∃ f : Nat → List Nat, ∀ p : Nat, f p = (Str.ofString (toString (p : Int))).cps.toList := ⟨_, fun _ => rfl⟩
/-- the figures of a number; chosen, so that nothing unfolds them -/
noncomputable def digs : Nat → List Nat := Classical.choose digs_ex
theorem digs_eq (p : Nat) : digs p = (Str.ofString (toString (p : Int))).cps.toList := Classical.choose_spec digs_ex p
theorem digs_S (p : Nat) : Str.ofString (toString (p : Int)) = S (digs p) := (S_of _).trans (by rw [digs_eq])
noncomputable def markOf (k : Nat) : Nat := [124, 33, 58, 120].getD (k % 4) 0
noncomputable def figOf (k : Nat) : List Nat := [[], [48], [43], [32]].getD (k / 4 % 4) []
noncomputable def hostOf (k : Nat) : List Nat := [[], [49], [104]].getD (k / 16 % 3) []
noncomputable def insideOf (p k : Nat) : List Nat := [markOf k] ++ hostOf k ++ [markOf k, markOf k] ++ (figOf k ++ digs p) ++ [markOf k]
noncomputable def replyOf (p k : Nat) : List Nat := [50, 50, 57, 32] ++ (List.replicate (k / 48 % 2) [41]).flatten ++ [40] ++ insideOf p k ++ [41] ++ (List.replicate (k / 96 % 2) [32, 40, 120, 41]).flatten

theorem digs_len {p : Nat} (hp : p < 10 ^ 9) : (digs p).length ≤ 10 := by
  have hn : (p : Int).natAbs < 10 ^ 9 := by
    have : (p : Int).natAbs = p := by (first | assumption | decide | exact Nat.le_trans (by assumption) (by decide) | exact Nat.le_trans (Nat.add_le_add (by assumption) (by assumption)) (by decide) | exact Nat.lt_of_le_of_lt (by assumption) (by decide) | exact Nat.lt_of_lt_of_le (by assumption) (by decide) | lia | omega)
    rw [this]; exact hp
  have h := int_text_length_le10 (a := (p : Int)) (k := 9) (by decide) hn
  have h2 : (Str.ofString (toString (p : Int))).length = (toString (p : Int)).length := PySem.ofString_length _
  rw [digs_S, S_length] at h2
  (first | assumption | decide | exact Nat.le_trans (by assumption) (by decide) | exact Nat.le_trans (Nat.add_le_add (by assumption) (by assumption)) (by decide) | exact Nat.lt_of_le_of_lt (by assumption) (by decide) | exact Nat.lt_of_lt_of_le (by assumption) (by decide) | lia | omega)
theorem figOf_len (k : Nat) : (figOf k).length ≤ 1 := by
  unfold figOf
  have : k / 4 % 4 < 4 := Nat.mod_lt _ (by decide)
  generalize k / 4 % 4 = j at this
  match j, this with
  | 0, _ | 1, _ | 2, _ | 3, _ => decide
theorem hostOf_len (k : Nat) : (hostOf k).length ≤ 1 := by
  unfold hostOf
  have : k / 16 % 3 < 3 := Nat.mod_lt _ (by decide)
  generalize k / 16 % 3 = j at this
  match j, this with
  | 0, _ | 1, _ | 2, _ => decide
theorem rep_len (n : Nat) (x : List Nat) : ((List.replicate n x).flatten).length = n * x.length := by simp

theorem fnReply (p k : Nat) (hp : p < 10 ^ 9) (hk : k < 10 ^ 9) : Fn 1 100 [.int (p : Nat), .int (k : Nat)] (.str (S (replyOf p k))) := by
  refine fn_intro2 (fun _ => rfl) (fun _ => rfl) (fun _ _ => rfl) rfl rfl rfl (by decide) (by decide) rfl rfl rfl ?_
  intro w L A g opq keep os lvl gp ok cal hl
  have hd := digs_len hp
  have hf := figOf_len k
  have hh := hostOf_len k
  have h2 : k / 48 % 2 < 2 := Nat.mod_lt _ (by decide)
  have h3 : k / 96 % 2 < 2 := Nat.mod_lt _ (by decide)
  refine ex_assign ok (ev_itemS (n := markOf k) ev_str (ev_modN 4 (ev_name ok rfl) ev_int (by decide)) (by (first | assumption | decide | exact Nat.le_trans (by assumption) (by decide) | exact Nat.le_trans (Nat.add_le_add (by assumption) (by assumption)) (by decide) | exact Nat.lt_of_le_of_lt (by assumption) (by decide) | exact Nat.lt_of_lt_of_le (by assumption) (by decide) | lia | omega)) (by (first | assumption | decide | exact Nat.le_trans (by assumption) (by decide) | exact Nat.le_trans (Nat.add_le_add (by assumption) (by assumption)) (by decide) | exact Nat.lt_of_le_of_lt (by assumption) (by decide) | exact Nat.lt_of_lt_of_le (by assumption) (by decide) | lia | omega)) ?_) rfl ?_
  · rw [Int.toNat_natCast]
    unfold markOf
    have : k % 4 < 4 := Nat.mod_lt _ (by decide)
    generalize k % 4 = j at this
    match j, this with
    | 0, _ | 1, _ | 2, _ | 3, _ => rfl
  refine ex_assign ok (d := .str (S (figOf k ++ digs p))) (ev_catS (ev_itemTN (ev_tuple (ds := [.str "", .str "0", .str "+", .str " "]) ⟨ev_str, rfl, ev_str, rfl, ev_str, rfl, ev_str, rfl, trivial⟩ (by decide)) (ev_modN 4 (ev_fdivN 4 (ev_name ok rfl) ev_int (by decide) (by decide)) ev_int (by decide)) ?_ (by decide)) (ev_of (ev_strI ok rfl (fun _ => rfl) (ev_name ok rfl) ?_) (by rw [digs_S])) (by (first | assumption | decide | exact Nat.le_trans (by assumption) (by decide) | exact Nat.le_trans (Nat.add_le_add (by assumption) (by assumption)) (by decide) | exact Nat.lt_of_le_of_lt (by assumption) (by decide) | exact Nat.lt_of_lt_of_le (by assumption) (by decide) | lia | omega)) (by (first | assumption | decide | exact Nat.le_trans (by assumption) (by decide) | exact Nat.le_trans (Nat.add_le_add (by assumption) (by assumption)) (by decide) | exact Nat.lt_of_le_of_lt (by assumption) (by decide) | exact Nat.lt_of_lt_of_le (by assumption) (by decide) | lia | omega))) rfl ?_
  · unfold figOf
    have : k / 4 % 4 < 4 := Nat.mod_lt _ (by decide)
    generalize k / 4 % 4 = j at this
    match j, this with
    | 0, _ | 1, _ | 2, _ | 3, _ => rfl
  · have : (p : Int).natAbs = p := by (first | assumption | decide | exact Nat.le_trans (by assumption) (by decide) | exact Nat.le_trans (Nat.add_le_add (by assumption) (by assumption)) (by decide) | exact Nat.lt_of_le_of_lt (by assumption) (by decide) | exact Nat.lt_of_lt_of_le (by assumption) (by decide) | lia | omega)
    rw [this]
    exact Nat.lt_of_lt_of_le hp (Nat.pow_le_pow_right (by decide) (by decide))
  refine ex_assign ok (d := .str (S (insideOf p k))) (ev_catS (ev_catS (ev_catS (ev_catS (ev_name ok rfl) (ev_itemTN (d := .str (S (hostOf k))) (ev_tuple (ds := [.str "", .str "1", .str "h"]) ⟨ev_str, rfl, ev_str, rfl, ev_str, rfl, trivial⟩ (by decide)) (ev_modN 3 (ev_fdivN 16 (ev_name ok rfl) ev_int (by decide) (by decide)) ev_int (by decide)) ?_ (by decide)) (by show 1 ≤ 8000; (first | assumption | decide | exact Nat.le_trans (by assumption) (by decide) | exact Nat.le_trans (Nat.add_le_add (by assumption) (by assumption)) (by decide) | exact Nat.lt_of_le_of_lt (by assumption) (by decide) | exact Nat.lt_of_lt_of_le (by assumption) (by decide) | lia | omega)) (by (first | assumption | decide | exact Nat.le_trans (by assumption) (by decide) | exact Nat.le_trans (Nat.add_le_add (by assumption) (by assumption)) (by decide) | exact Nat.lt_of_le_of_lt (by assumption) (by decide) | exact Nat.lt_of_lt_of_le (by assumption) (by decide) | lia | omega))) (ev_mulSN 2 (x := [markOf k]) (ev_name ok rfl) ev_int (by show 1 ≤ 1000; decide) (by decide)) (by simp; (first | assumption | decide | exact Nat.le_trans (by assumption) (by decide) | exact Nat.le_trans (Nat.add_le_add (by assumption) (by assumption)) (by decide) | exact Nat.lt_of_le_of_lt (by assumption) (by decide) | exact Nat.lt_of_lt_of_le (by assumption) (by decide) | lia | omega)) (by simp)) (ev_name ok rfl) (by simp; (first | assumption | decide | exact Nat.le_trans (by assumption) (by decide) | exact Nat.le_trans (Nat.add_le_add (by assumption) (by assumption)) (by decide) | exact Nat.lt_of_le_of_lt (by assumption) (by decide) | exact Nat.lt_of_lt_of_le (by assumption) (by decide) | lia | omega)) (by simp; (first | assumption | decide | exact Nat.le_trans (by assumption) (by decide) | exact Nat.le_trans (Nat.add_le_add (by assumption) (by assumption)) (by decide) | exact Nat.lt_of_le_of_lt (by assumption) (by decide) | exact Nat.lt_of_lt_of_le (by assumption) (by decide) | lia | omega))) (ev_name ok rfl) (by simp; (first | assumption | decide | exact Nat.le_trans (by assumption) (by decide) | exact Nat.le_trans (Nat.add_le_add (by assumption) (by assumption)) (by decide) | exact Nat.lt_of_le_of_lt (by assumption) (by decide) | exact Nat.lt_of_lt_of_le (by assumption) (by decide) | lia | omega)) (by show 1 ≤ 8000; (first | assumption | decide | exact Nat.le_trans (by assumption) (by decide) | exact Nat.le_trans (Nat.add_le_add (by assumption) (by assumption)) (by decide) | exact Nat.lt_of_le_of_lt (by assumption) (by decide) | exact Nat.lt_of_lt_of_le (by assumption) (by decide) | lia | omega))) rfl ?_
  · unfold hostOf
    have : k / 16 % 3 < 3 := Nat.mod_lt _ (by decide)
    generalize k / 16 % 3 = j at this
    match j, this with
    | 0, _ | 1, _ | 2, _ => rfl
  have hi : (insideOf p k).length ≤ 20 := by unfold insideOf; simp; (first | assumption | decide | exact Nat.le_trans (by assumption) (by decide) | exact Nat.le_trans (Nat.add_le_add (by assumption) (by assumption)) (by decide) | exact Nat.lt_of_le_of_lt (by assumption) (by decide) | exact Nat.lt_of_lt_of_le (by assumption) (by decide) | lia | omega)
  refine ex_ret (ev_catS (ev_catS (ev_catS (ev_catS (ev_catS (ev_strS [50, 50, 57, 32] rfl) (ev_mulSN (k / 48 % 2) (x := [41]) (ev_strS _ rfl) (ev_modN 2 (ev_fdivN 48 (ev_name ok rfl) ev_int (by decide) (by decide)) ev_int (by decide)) (by decide) (by (first | assumption | decide | exact Nat.le_trans (by assumption) (by decide) | exact Nat.le_trans (Nat.add_le_add (by assumption) (by assumption)) (by decide) | exact Nat.lt_of_le_of_lt (by assumption) (by decide) | exact Nat.lt_of_lt_of_le (by assumption) (by decide) | lia | omega))) (by decide) (by rw [rep_len]; simp; (first | assumption | decide | exact Nat.le_trans (by assumption) (by decide) | exact Nat.le_trans (Nat.add_le_add (by assumption) (by assumption)) (by decide) | exact Nat.lt_of_le_of_lt (by assumption) (by decide) | exact Nat.lt_of_lt_of_le (by assumption) (by decide) | lia | omega))) (ev_strS [40] rfl) (by rw [List.length_append, rep_len]; simp; (first | assumption | decide | exact Nat.le_trans (by assumption) (by decide) | exact Nat.le_trans (Nat.add_le_add (by assumption) (by assumption)) (by decide) | exact Nat.lt_of_le_of_lt (by assumption) (by decide) | exact Nat.lt_of_lt_of_le (by assumption) (by decide) | lia | omega)) (by decide)) (ev_name ok rfl) (by simp; (first | assumption | decide | exact Nat.le_trans (by assumption) (by decide) | exact Nat.le_trans (Nat.add_le_add (by assumption) (by assumption)) (by decide) | exact Nat.lt_of_le_of_lt (by assumption) (by decide) | exact Nat.lt_of_lt_of_le (by assumption) (by decide) | lia | omega)) (by (first | assumption | decide | exact Nat.le_trans (by assumption) (by decide) | exact Nat.le_trans (Nat.add_le_add (by assumption) (by assumption)) (by decide) | exact Nat.lt_of_le_of_lt (by assumption) (by decide) | exact Nat.lt_of_lt_of_le (by assumption) (by decide) | lia | omega))) (ev_strS [41] rfl) (by simp; (first | assumption | decide | exact Nat.le_trans (by assumption) (by decide) | exact Nat.le_trans (Nat.add_le_add (by assumption) (by assumption)) (by decide) | exact Nat.lt_of_le_of_lt (by assumption) (by decide) | exact Nat.lt_of_lt_of_le (by assumption) (by decide) | lia | omega)) (by decide))
    (ev_mulSN (k / 96 % 2) (x := [32, 40, 120, 41]) (ev_strS _ rfl) (ev_modN 2 (ev_fdivN 96 (ev_name ok rfl) ev_int (by decide) (by decide)) ev_int (by decide)) (by decide) (by (first | assumption | decide | exact Nat.le_trans (by assumption) (by decide) | exact Nat.le_trans (Nat.add_le_add (by assumption) (by assumption)) (by decide) | exact Nat.lt_of_le_of_lt (by assumption) (by decide) | exact Nat.lt_of_lt_of_le (by assumption) (by decide) | lia | omega))) (by simp; (first | assumption | decide | exact Nat.le_trans (by assumption) (by decide) | exact Nat.le_trans (Nat.add_le_add (by assumption) (by assumption)) (by decide) | exact Nat.lt_of_le_of_lt (by assumption) (by decide) | exact Nat.lt_of_lt_of_le (by assumption) (by decide) | lia | omega)) (by rw [rep_len]; simp; (first | assumption | decide | exact Nat.le_trans (by assumption) (by decide) | exact Nat.le_trans (Nat.add_le_add (by assumption) (by assumption)) (by decide) | exact Nat.lt_of_le_of_lt (by assumption) (by decide) | exact Nat.lt_of_lt_of_le (by assumption) (by decide) | lia | omega)))
end Mine
end

section
open PySem PySem.W PyProof.Rows PySem.Calls
set_option maxRecDepth 100000
set_option linter.all false
set_option maxHeartbeats 400000
namespace Mine
noncomputable abbrev lstO (vs : List Value) (n : Nat) : Obj := { cls := .type "list", data := .seq vs.toArray n }
section
variable {C : Cx} {ρ : AEnv} {τ : Tmp} {μ : Mu} {s : Shared} {rest : List Stmt} {Φ : Flow → Shared → Prop} {e e₁ e₂ o : Expr} {pos np tpos apos : Pos} {x y : Str} {d : Dat} {D : Addr} {a b : Int} {n : Nat}

/-- an item of a list of texts of the frame's own -/
theorem ev_ownS {l : List (Str × Tok)} {j : Nat} {y : Str} (ok : C.Ok) (hx : ρ.lookup x = some (.raw (.ref D))) (hi : Ev C ρ ((D, lstO (strValues l) n) :: μ) e₁ (.int a)) (ha : -(2 ^ 62) ≤ a) (hb : a < 2 ^ 62) (hj : seqIndex? a l.length = some j) (hy : (l.map (·.1))[j]? = some y)
    (hd : (x == ("__debug__" : Str)) = false := by decide) (hn : (x == ("__classdict__" : Str)) = false := by decide)
    (hs : ∀ t k u, subscripted e₁ false (.ref t) (.int k u) = operate [.ref t, .int k u] (getItem (.ref t) (.int k u)) := by intro _ _ _; rfl) :
    Ev C ρ ((D, lstO (strValues l) n) :: μ) (.Subscript (.Name x np) e₁ pos) (.str y) := .of fun τ s Q E st hQ => by
  refine Subscript_ (wp_name_raw ok hx st (hi.run τ s _ E st fun v s₁ st₁ => ?_) hd hn)
  obtain ⟨⟨t, rfl⟩, st₂⟩ := st₁.int
  have hl : s₁.heap.IsList D (strValues l).toArray := ⟨_, st₂.muGet (.head _), rfl, n, rfl⟩
  have hlen : (strValues l).length = l.length := by unfold strValues; simp
  obtain ⟨p, hp, hpy⟩ : ∃ p : Str × Tok, l[j]? = some p ∧ p.1 = y := by
    rw [List.getElem?_map] at hy
    cases hq : l[j]? with
    | none => rw [hq] at hy; cases hy
    | some p => rw [hq] at hy; exact ⟨p, rfl, Option.some.inj hy⟩
  have hv : (strValues l)[j]? = some (.str p.1 p.2) := by unfold strValues; rw [List.getElem?_map, hp]; rfl
  have hq : Q (.str p.1 p.2) s₁ := hQ _ _ (hpy ▸ st₂.pushStr p.1 p.2)
  by_cases h0 : 0 ≤ a
  · have hja : a.toNat = j := by
      by_cases hlt : a < l.length
      · rw [StrLaws.seqIndex_nonneg h0 hlt] at hj; exact Option.some.inj hj
      · unfold seqIndex? at hj
        simp only [show ¬ a < 0 by (first | assumption | decide | exact Nat.le_trans (by assumption) (by decide) | exact Nat.le_trans (Nat.add_le_add (by assumption) (by assumption)) (by decide) | exact Nat.lt_of_le_of_lt (by assumption) (by decide) | exact Nat.lt_of_lt_of_le (by assumption) (by decide) | lia | omega), if_false] at hj
        split at hj
        · rename_i h; simp only [Bool.and_eq_true, decide_eq_true_eq] at h; (first | assumption | decide | exact Nat.le_trans (by assumption) (by decide) | exact Nat.le_trans (Nat.add_le_add (by assumption) (by assumption)) (by decide) | exact Nat.lt_of_le_of_lt (by assumption) (by decide) | exact Nat.lt_of_lt_of_le (by assumption) (by decide) | lia | omega)
        · cases hj
    exact tail_any hl.typeIs slot_list_getitem.lookup (wpAny_getItem_list hl h0 (by (first | assumption | decide | exact Nat.le_trans (by assumption) (by decide) | exact Nat.le_trans (Nat.add_le_add (by assumption) (by assumption)) (by decide) | exact Nat.lt_of_le_of_lt (by assumption) (by decide) | exact Nat.lt_of_lt_of_le (by assumption) (by decide) | lia | omega)) (by rw [hja]; simpa using hv) hq) (hs _ _ _)
  · have h1 : -(l.length : Int) ≤ a := by
      by_cases h : -(l.length : Int) ≤ a
      · exact h
      · unfold seqIndex? at hj
        simp only [show a < 0 by (first | assumption | decide | exact Nat.le_trans (by assumption) (by decide) | exact Nat.le_trans (Nat.add_le_add (by assumption) (by assumption)) (by decide) | exact Nat.lt_of_le_of_lt (by assumption) (by decide) | exact Nat.lt_of_lt_of_le (by assumption) (by decide) | lia | omega), if_true] at hj
        split at hj
        · rename_i h'; simp only [Bool.and_eq_true, decide_eq_true_eq] at h'; (first | assumption | decide | exact Nat.le_trans (by assumption) (by decide) | exact Nat.le_trans (Nat.add_le_add (by assumption) (by assumption)) (by decide) | exact Nat.lt_of_le_of_lt (by assumption) (by decide) | exact Nat.lt_of_lt_of_le (by assumption) (by decide) | lia | omega)
        · cases hj
    rw [StrLaws.seqIndex_neg (by (first | assumption | decide | exact Nat.le_trans (by assumption) (by decide) | exact Nat.le_trans (Nat.add_le_add (by assumption) (by assumption)) (by decide) | exact Nat.lt_of_le_of_lt (by assumption) (by decide) | exact Nat.lt_of_lt_of_le (by assumption) (by decide) | lia | omega)) h1] at hj
    have hja := Option.some.inj hj
    exact tail_any hl.typeIs slot_list_getitem.lookup (wpAny_getItem_list_neg hl (by (first | assumption | decide | exact Nat.le_trans (by assumption) (by decide) | exact Nat.le_trans (Nat.add_le_add (by assumption) (by assumption)) (by decide) | exact Nat.lt_of_le_of_lt (by assumption) (by decide) | exact Nat.lt_of_lt_of_le (by assumption) (by decide) | lia | omega)) (by simp only [List.size_toArray, hlen]; exact h1) (by (first | assumption | decide | exact Nat.le_trans (by assumption) (by decide) | exact Nat.le_trans (Nat.add_le_add (by assumption) (by assumption)) (by decide) | exact Nat.lt_of_le_of_lt (by assumption) (by decide) | exact Nat.lt_of_lt_of_le (by assumption) (by decide) | lia | omega)) (by simp only [List.size_toArray, hlen]; rw [hja]; simpa using hv) hq) (hs _ _ _)
/-- del x[i] -/
theorem ex_del {vs : List Value} {j : Nat} (ok : C.Ok) (hx : ρ.lookup x = some (.raw (.ref D))) (hi : Ev C ρ ((D, lstO vs n) :: μ) e₁ (.int a)) (ha : -(2 ^ 62) ≤ a) (hb : a < 2 ^ 62) (hj : seqIndex? a vs.length = some j) (hsz : vs.length ≤ sizeLine)
    (h : ∀ n', Ex C ρ τ ((D, lstO (vs.eraseIdx j) n') :: μ) rest Φ)
    (hd : (x == ("__debug__" : Str)) = false := by decide) (hn : (x == ("__classdict__" : Str)) = false := by decide) :
    Ex C ρ τ ((D, lstO vs n) :: μ) (.Delete [.Subscript (.Name x np) e₁ pos] tpos :: rest) Φ := ex_cons fun s E st => by
  refine wpAny_Delete (wpAny_deleteEach_cons ?_)
  show wpAny _ _ (do
    let ov ← eval (.Name x np) C.env
    let iv ← holding [ov] (eval e₁ C.env)
    standAt pos
    holding [ov, iv] (delItem ov iv)
    release [ov, iv] []) _ E s
  refine wpAny_bind (wp_name_raw ok hx st (wpAny_bind (wpAny_holding (hi.run τ s _ E st fun v s₁ st₁ => wpAny_bind (wpAny_standAt ?_)))) hd hn)
  obtain ⟨⟨t, rfl⟩, st₂⟩ := st₁.int
  have hfit : Builtin.List.listFitsIndex a = true := by
    unfold Builtin.List.listFitsIndex
    simp only [Bool.and_eq_true, decide_eq_true_eq]; (first | assumption | decide | exact Nat.le_trans (by assumption) (by decide) | exact Nat.le_trans (Nat.add_le_add (by assumption) (by assumption)) (by decide) | exact Nat.lt_of_le_of_lt (by assumption) (by decide) | exact Nat.lt_of_lt_of_le (by assumption) (by decide) | lia | omega)
  refine wpAny_bind (wpAny_holding (wpAny_delItem_plain ⟨n, st₂.muGet (.head _)⟩ hfit (by rw [List.size_toArray]; exact hj) (fun h' hp hsb => ?_) (by rw [List.size_toArray]; exact hsz)))
  obtain ⟨n', hp⟩ := hp
  refine wpAny_pure (wpAny_deleteEach_nil fun E' => (h n').run _ E' (St.upd st₂ hsb.extBut ?_ s₁.toks))
  rw [hp, show vs.toArray.eraseIdxIfInBounds j = (vs.eraseIdx j).toArray by simp]
/-- a fresh list is stored -/
theorem ex_assign_split {l₀ : Str} (ok : C.Ok) (ho : Ev C ρ μ o (.str y)) (he : Ev C ρ μ e (.str l₀)) (hy : (l₀.length == 0) = false) (hsz : y.length + 2 ≤ sizeLine) (hl : C.env.kindOf x = some .local)
    (h : ∀ (D : Addr) (l : List (Str × Tok)), l.map (·.1) = Txt.split y l₀ → Ex C ((x, .raw (.ref D)) :: ρ) τ ((D, lstO (strValues l) 0) :: μ) rest Φ)
    (hbase : attributeBase o "split" C.env (eval o C.env) = eval o C.env := by rfl) (hs : starEach [e] C.env = [(false, eval e C.env)] := by rfl) (hline : (apos.endLine == pos.line) = true := by rfl)
    (hsw : swapsWith (.Call (.Attribute o "split" apos) [e] [] pos) (some (.Name x np)) tpos.line C.env = pure false := by rfl) :
    Ex C ρ τ μ (.Assign [.Name x np] (.Call (.Attribute o "split" apos) [e] [] pos) tpos :: rest) Φ :=
  ex_cons fun s E st => wpAny_Assign_Name (wp_split ho he hy hsz st (fun D l s' hl' st' => wp_store ok hl st' (fun p hp => hp) (a := .raw (.ref D)) rfl fun s'' st'' E' => (h D l hl').run s'' E' st'') hbase hs hline) hsw
theorem ev_lenOwn {vs : List Value} (ok : C.Ok) (hx : C.env.kindOf "len" = some .globalImplicit) (hm : ∀ P, nsIn (wtop.heap_39 P) mainGlobals "len" = some none) (hr : ρ.lookup x = some (.raw (.ref D))) (hs : vs.length < 2 ^ 62)
    (hd : (x == ("__debug__" : Str)) = false := by decide) (hn : (x == ("__classdict__" : Str)) = false := by decide) :
    Ev C ρ ((D, lstO vs n) :: μ) (.Call (.Name "len" np) [.Name x tpos] [] pos) (.int vs.length) := .of fun τ s Q E st hQ => by
  refine Call_name1 rfl (wp_name_builtin ok hx (hm _) (v := .builtin "len") rfl st (callWith_builtin1 (wp_name_raw ok hr st ?_ hd hn)))
  refine Calls.call_len_list (items := vs.toArray) ⟨_, st.muGet (.head _), rfl, n, rfl⟩ (by simp only [List.size_toArray]; (first | assumption | decide | exact Nat.le_trans (by assumption) (by decide) | exact Nat.le_trans (Nat.add_le_add (by assumption) (by assumption)) (by decide) | exact Nat.lt_of_le_of_lt (by assumption) (by decide) | exact Nat.lt_of_lt_of_le (by assumption) (by decide) | lia | omega)) ?_
  rw [List.size_toArray]
  exact hQ _ _ ((st.toks _).pushInt _ _)
/-- two names at once, from a pair: stored in the other order -/
theorem ex_pair_swapped {x₁ x₂ : Str} {d₁ d₂ : Dat} {elts : List Expr} {k : Nat} (ok : C.Ok) (he : Ev C ρ μ e (.tuple [d₁, d₂])) (h1 : C.env.kindOf x₁ = some .local) (h2 : C.env.kindOf x₂ = some .local)
    (h : Ex C ((x₁, .dat d₁) :: (x₂, .dat d₂) :: ρ) τ μ rest Φ)
    (hs : swapsWithSole [.Tuple elts k tpos] e pos.line C.env = pure false := by rfl)
    (hw : swappedStores [.Tuple elts k tpos] e C.env = pure (some [x₁, x₂]) := by rfl) : Ex C ρ τ μ (.Assign [.Tuple elts k tpos] e pos :: rest) Φ :=
  ex_cons fun s E st => by
    refine Assign_Tuple_swapped (names := [x₁, x₂]) (he.run τ s _ E st fun v s₁ st₁ => ?_) hs hw
    obtain ⟨a, vs, rfl, ht, hlen, st₂⟩ := st₁.tuple (.head _)
    obtain ⟨u₁, u₂, rfl⟩ := two_of hlen
    show wpAny _ _ (unpackItems (.ref a) [u₁, u₂].toArray.size none) _ _ _
    refine unpackItems_tuple (items := [u₁, u₂].toArray) ok.hand ht fun h' hx' => ?_
    have st₃ := st₂.keeps (extNew hx') s₁.toks
    show wpAny _ _ (assignInOrder [fun v => bindName C.env x₂ v, fun v => bindName C.env x₁ v] [u₂, u₁]) _ E _
    refine wpAny_bind (wpAny_holding (wpAny_bindName (wp_store ok h2 st₃ (τ' := (u₁, d₁) :: τ) (fun p hp => ?_) (a := .dat d₂) (.tail _ (.head _)) fun s₄ st₄ => ?_)))
    · rcases List.mem_cons.mp hp with rfl | hp
      · exact .head _
      · exact .tail _ (.tail _ (.tail _ hp))
    · refine wpAny_bind (wpAny_holding (wpAny_bindName (wp_store ok h1 st₄ (τ' := τ) (fun p hp => .tail _ hp) (a := .dat d₁) (.head _) fun s₅ st₅ => ?_)))
      exact wpAny_pure fun E' => h.run s₅ E' st₅
theorem aug_sub : ∀ (τ : Tmp) (v u : Value) (s : Shared) (Q : Value → Shared → Prop) (E : Value → Shared → Prop), St C ρ ((u, .int b) :: (v, .int a) :: τ) μ s → (∀ v s', St C ρ ((v, .int (a - b)) :: τ) μ s' → Q v s') → wpAny (model P0 C.w) C.A (inplaceOp .Sub v u) Q E s := fun τ v u s Q E st hQ => by
  obtain ⟨t, t', rfl, rfl, st'⟩ := st.int2
  exact isub_int (hQ _ _ ((st'.toks _).pushInt _ _))
/-- the list of texts is kept from here on -/
theorem ex_freezeS {l : List (Str × Tok)} (h : Ex C ((x, .dat (.list ((l.map (·.1)).map Dat.str))) :: ρ) τ μ rest Φ) : Ex C ((x, .raw (.ref D)) :: ρ) τ ((D, lstO (strValues l) n) :: μ) rest Φ :=
  ex_weak (fun s st => St.freeze (τ := l.map (fun p => ((.str p.1 p.2 : Value), Dat.str p.1)) ++ τ) (n := n) (st.strs l) (strs_all fun p hp => List.mem_append.mpr (.inl (List.mem_map.mpr ⟨p, hp, rfl⟩))) fun p hp => List.mem_append.mpr (.inr hp)) h
end
end Mine
end

section
open PySem PySem.W PyProof.Rows PySem.Calls
set_option maxRecDepth 100000
set_option linter.all false
set_option maxHeartbeats 400000
namespace Mine
/-- a set of ints -/
noncomputable def SetI (w : World) (o : Obj) (S : Int → Bool) (n : Nat) : Prop := o.SetObjOf (intKind P0 w) S n
section
variable {C : Cx} {ρ : AEnv} {τ : Tmp} {μ : Mu} {s : Shared} {rest : List Stmt} {Φ : Flow → Shared → Prop} {e e₁ o : Expr} {pos np np' tpos apos : Pos} {x : Str} {D : Addr} {k : Int} {so : Obj} {S : Int → Bool} {n : Nat}
theorem ex_assign_set (ok : C.Ok) (hx : C.env.kindOf "set" = some .globalImplicit) (hm : ∀ P, nsIn (wtop.heap_39 P) mainGlobals "set" = some none) (hl : C.env.kindOf x = some .local)
    (h : ∀ (D : Addr) (so : Obj), SetI C.w so (fun _ => false) 0 → Ex C ((x, .raw (.ref D)) :: ρ) τ ((D, so) :: μ) rest Φ)
    (hsw : swapsWith (.Call (.Name "set" np) [] [] pos) (some (.Name x np')) tpos.line C.env = pure false := by rfl) : Ex C ρ τ μ (.Assign [.Name x np'] (.Call (.Name "set" np) [] [] pos) tpos :: rest) Φ :=
  ex_cons fun s E st => wpAny_Assign_Name (by
    refine wpAny_Call_NameR (wp_name_builtin ok hx (hm _) (v := .type "set") rfl st ?_)
    refine PyProof.Rows.callWith_type0 (call_set_0 fun led => ?_)
    have st' := st.own { cls := .type "set", dict := none, data := .set #[] 0 (.fresh 0 0 led) }
    exact wp_store ok hl st' (fun p hp => hp) (a := .raw (.ref _)) rfl fun s'' st'' E' => (h _ _ (setObjOf_fresh (knd := PySem.intKind P0 C.w) led)).run s'' E' st'') hsw
theorem tr_notinSet (ok : C.Ok) (he : Ev C ρ ((D, so) :: μ) e (.int k)) (hr : ρ.lookup x = some (.raw (.ref D))) (hso : SetI C.w so S n) (hb : n < scanBound)
    (hd : (x == ("__debug__" : Str)) = false := by decide) (hn : (x == ("__classdict__" : Str)) = false := by decide) (hm : behindInMarks .NotIn (.Name x np) = false := by with_unfolding_all rfl) :
    Tr C ρ ((D, so) :: μ) (.Compare e [.NotIn] [.Name x np] pos) (!S k) := .of fun τ s Q E st hQ => by
  refine wpAny_isTrue_Compare1 (he.run τ s _ E st fun v s₁ st₁ => wp_name_raw ok hr st₁ ?_ hd hn) hm
  obtain ⟨⟨t, rfl⟩, st₂⟩ := st₁.int
  refine wpAny_notInSet_of (knd := intKind P0 C.w) (k := k) (intKind_is _ _ _ _) rfl (hso.setOf (st₂.muGet (.head _)) hb) ?_
  exact wpAny_truthy_bool (hQ _ (st₂.toks _))
theorem ex_add (ok : C.Ok) (he : Ev C ρ ((D, so) :: μ) e (.int k)) (hr : ρ.lookup x = some (.raw (.ref D))) (hso : SetI C.w so S n) (hb : n + 1 < scanBound)
    (h : ∀ so', SetI C.w so' (fun k' => S k' || decide (k' = k)) (if S k then n else n + 1) → Ex C ρ τ ((D, so') :: μ) rest Φ)
    (hd : (x == ("__debug__" : Str)) = false := by decide) (hn : (x == ("__classdict__" : Str)) = false := by decide)
    (hbase : attributeBase (.Name x np) "add" C.env (eval (.Name x np) C.env) = eval (.Name x np) C.env := by rfl) (hs : starEach [e] C.env = [(false, eval e C.env)] := by rfl) (hline : (apos.endLine == pos.line) = true := by rfl)
    (hi : interactive C.env = false := by rfl) (hsw : swapsWith (.Call (.Attribute (.Name x np) "add" apos) [e] [] pos) none tpos.line C.env = pure false := by rfl) :
    Ex C ρ τ ((D, so) :: μ) (.Expr (.Call (.Attribute (.Name x np) "add" apos) [e] [] pos) tpos :: rest) Φ := ex_cons fun s E st => by
  refine wpAny_Expr ?_ hi hsw
  refine Call_method1 hbase hs hline (wp_name_raw ok hr st ?_ hd hn)
  have hset := hso.setOf (st.muGet (.head _)) (show n < scanBound by (first | assumption | decide | exact Nat.le_trans (by assumption) (by decide) | exact Nat.le_trans (Nat.add_le_add (by assumption) (by assumption)) (by decide) | exact Nat.lt_of_le_of_lt (by assumption) (by decide) | exact Nat.lt_of_lt_of_le (by assumption) (by decide) | lia | omega))
  refine ⟨"set", "set.add", F.plainAttrs_set, F.slot_set_add, F.type_set_add, ⟨so, st.muGet (.head _), hso.1.1⟩, fun a q => ?_, ?_⟩
  · cases q; exact ⟨so, st.muGet (.head _), hso.1.2.1⟩
  refine Calls.callWith_builtin rfl (Calls.evalArgs_plain (Calls.spliced_cons (he.run τ s _ E st fun v s₁ st₁ => Calls.spliced_nil ?_)))
  obtain ⟨⟨t, rfl⟩, st₂⟩ := st₁.int
  refine call_set_add (knd := intKind P0 C.w) (k := k) (intKind_is _ _ _ _) rfl (hso.setOf (st₂.muGet (.head _)) (by (first | assumption | decide | exact Nat.le_trans (by assumption) (by decide) | exact Nat.le_trans (Nat.add_le_add (by assumption) (by assumption)) (by decide) | exact Nat.lt_of_le_of_lt (by assumption) (by decide) | exact Nat.lt_of_lt_of_le (by assumption) (by decide) | lia | omega))) hb fun h' hsb hS' => ?_
  obtain ⟨so', ho', hso'⟩ := hS'.objOf
  exact fun E' => (h so' hso').run _ E' (St.upd st₂ hsb.extBut ho' _)
end
/-- one statement, then what stands whatever way it went -/
noncomputable def MidP {σ : Type} (C : Cx) (R : σ → AEnv) (T : σ → Tmp) (U : σ → Mu) (J : σ → Prop) (Φ : Flow → Shared → Prop) (f : Flow) (s : Shared) : Prop := match f with
  | .next => ∃ a, J a ∧ St C (R a) (T a) (U a) s
  | f => Φ f s
section
variable {C : Cx} {ρ : AEnv} {τ : Tmp} {μ : Mu} {rest : List Stmt} {Φ : Flow → Shared → Prop} {st : Stmt} {x : Str} {pos : Pos}
theorem ex_mid {σ : Type} (R : σ → AEnv) (T : σ → Tmp) (U : σ → Mu) (J : σ → Prop) (h1 : Ex C ρ τ μ [st] (MidP C R T U J Φ)) (h2 : ∀ a, J a → Ex C (R a) (T a) (U a) rest Φ) : Ex C ρ τ μ (st :: rest) Φ := .of fun s E hs => by
  have h := h1.run s E hs
  refine wpAny_execs_cons ?_
  have e : wpAny (model P0 C.w) C.A (exec st C.env) (MidP C R T U J Φ) E s := by
    have := h
    intro Γ p hΓ
    have h' := this Γ p hΓ
    rw [execs_cons, Sem.wp_bind'] at h'
    refine Sem.wp_mono _ Γ _ (fun f p' s' q => ?_) (fun _ _ _ q => q) p s h'
    cases f <;> exact q
  refine wpAny_mono e (fun f s' q => ?_) fun _ _ q => q
  cases f with
  | next => obtain ⟨a, hJ, st'⟩ := q; exact (h2 a hJ).run s' E st'
  | brk => exact q
  | cont => exact q
  | ret v => exact q
theorem mid_end {σ : Type} {R : σ → AEnv} {T : σ → Tmp} {U : σ → Mu} {J : σ → Prop} (a : σ) (hJ : J a) (hρ : ∀ x b, (R a).lookup x = some b → ρ.lookup x = some b) (hτ : ∀ p ∈ T a, p ∈ τ) (hμ : U a = μ) :
    Ex C ρ τ μ [] (MidP C R T U J Φ) := ex_nil fun s st => ⟨a, hJ, hμ ▸ (st.env hρ).tmpsOf hτ⟩
theorem ev_globalS {y : Str} {t : Tok} (ok : C.Ok) (hx : C.env.kindOf x = some .globalImplicit) (e : ∀ P, nsIn (wtop.heap_39 P) mainGlobals x = some (some (.str y t))) (hd : (x == ("__debug__" : Str)) = false := by decide) : Ev C ρ μ (.Name x pos) (.str y) := .of fun τ s Q E st hQ =>
  wp_name_global ok hx (e _) st (hQ _ _ (st.pushStr _ _)) hd
theorem ex_ret' {d d' : Dat} {e : Expr} {rest : List Stmt} (he : Ev C ρ μ e d) (hd : d = d') (hΦ : ∀ v s, St C ρ ((v, d') :: τ) μ s → Φ (.ret v) s) : Ex C ρ τ μ (.Return (some e) pos :: rest) Φ :=
  ex_return he fun v s st => hΦ v s (hd ▸ st)
end

end Mine
end

section
open PySem PySem.W PyProof.Rows PySem.Calls
set_option maxRecDepth 100000
set_option linter.all false
namespace Mine
noncomputable def p257 : List Nat → List Nat
  | [] => []
  | c :: r => if c = 34 then (match r with | 34 :: r' => 34 :: p257 r' | _ => []) else c :: p257 r

theorem p257_ne {c : Nat} {r : List Nat} (h : ¬ c = 34) : p257 (c :: r) = c :: p257 r := by conv => lhs; unfold p257; rw [if_neg h]

theorem fn257 (rest : List Nat) (hr : rest.length ≤ 1000) : Fn 1 93 [.str (S ([50, 53, 55, 32, 34] ++ rest))] (.str (S (p257 rest))) := by
  refine fn_intro1 (fun _ => rfl) (fun _ => rfl) (fun _ => rfl) rfl (by decide) (by decide) rfl rfl rfl ?_
  intro w L A g opq keep os lvl gp ok cal hl
  have hX : ([50, 53, 55, 32, 34] ++ rest).length = 5 + rest.length := by simp; (first | assumption | decide | exact Nat.le_trans (by assumption) (by decide) | exact Nat.le_trans (Nat.add_le_add (by assumption) (by assumption)) (by decide) | exact Nat.lt_of_le_of_lt (by assumption) (by decide) | exact Nat.lt_of_lt_of_le (by assumption) (by decide) | lia | omega)
  have hN : (S ([50, 53, 55, 32, 34] ++ rest)).length = 5 + rest.length := by rw [S_length, hX]
  have hlen : (S ([50, 53, 55, 32, 34] ++ rest)).length ≤ sizeLine := by rw [S_length, hX, line_eq]; (first | assumption | decide | exact Nat.le_trans (by assumption) (by decide) | exact Nat.le_trans (Nat.add_le_add (by assumption) (by assumption)) (by decide) | exact Nat.lt_of_le_of_lt (by assumption) (by decide) | exact Nat.lt_of_lt_of_le (by assumption) (by decide) | lia | omega)
  have e1 : Txt.slice (S ([50, 53, 55, 32, 34] ++ rest)) none (some 3) = "257" := by rw [slice_ns (by decide) (by rw [hX]; (first | assumption | decide | exact Nat.le_trans (by assumption) (by decide) | exact Nat.le_trans (Nat.add_le_add (by assumption) (by assumption)) (by decide) | exact Nat.lt_of_le_of_lt (by assumption) (by decide) | exact Nat.lt_of_lt_of_le (by assumption) (by decide) | lia | omega))]; rfl
  have e2 : Txt.slice (S ([50, 53, 55, 32, 34] ++ rest)) (some 3) (some 5) = " \"" := by rw [slice_ss (by decide) (by decide) (by rw [hX]; (first | assumption | decide | exact Nat.le_trans (by assumption) (by decide) | exact Nat.le_trans (Nat.add_le_add (by assumption) (by assumption)) (by decide) | exact Nat.lt_of_le_of_lt (by assumption) (by decide) | exact Nat.lt_of_lt_of_le (by assumption) (by decide) | lia | omega))]; rfl
  refine ex_if_no (tr_cmp (ev_slice_ns (ev_name ok rfl) ev_int hlen) ev_str (c := false) (by rw [e1]; exact cmp_neS)) ?_
  refine ex_if_no (tr_cmp (ev_slice_ss (ev_name ok rfl) ev_int ev_int hlen) ev_str (c := false) (by rw [e2]; exact cmp_neS)) ?_
  refine ex_assign ok ev_str rfl ?_
  refine ex_assign ok ev_int rfl ?_
  refine ex_assign ok (ev_lenS ok rfl (fun _ => rfl) (ev_name ok rfl) hlen) rfl ?_
  refine ex_while (σ := Int × Str) (fun a => [("n", .dat (.int (S ([50, 53, 55, 32, 34] ++ rest)).length)), ("i", .dat (.int a.1)), ("dirname", .dat (.str a.2)), ("resp", .dat (.str (S ([50, 53, 55, 32, 34] ++ rest))))])
    (fun _ => []) (fun _ => [])
    (fun n a => ∃ k d, a.1 = 5 + (k : Nat) ∧ a.2 = S d ∧ k ≤ rest.length ∧ n = rest.length - k ∧ d.length ≤ 1000 ∧ d.length ≤ k ∧ d ++ p257 (rest.drop k) = p257 rest) rest.length (5, "")
    ⟨0, [], rfl, rfl, Nat.zero_le _, rfl, by decide, by decide, rfl⟩ (sub_of rfl) tmp_nil rfl ?_
  rintro n ⟨i, dn⟩ ⟨k, d, rfl, rfl, hk, rfl, hd, hdk, he⟩
  have hNi : ((S ([50, 53, 55, 32, 34] ++ rest)).length : Int) = 5 + (rest.length : Nat) := by rw [hN]; push_cast; rfl
  have hcmp : ∀ j : Nat, decide ((5 + (j : Nat) : Int) < ((S ([50, 53, 55, 32, 34] ++ rest)).length : Int)) = decide (j < rest.length) := fun j => decide_eq_decide.mpr (by (first | assumption | decide | exact Nat.le_trans (by assumption) (by decide) | exact Nat.le_trans (Nat.add_le_add (by assumption) (by assumption)) (by decide) | exact Nat.lt_of_le_of_lt (by assumption) (by decide) | exact Nat.lt_of_lt_of_le (by assumption) (by decide) | lia | omega))
  have hcmp' : ∀ j : Nat, decide (((S ([50, 53, 55, 32, 34] ++ rest)).length : Int) ≤ (5 + (j : Nat) + 1 : Int)) = decide (rest.length ≤ j + 1) := fun j => decide_eq_decide.mpr (by (first | assumption | decide | exact Nat.le_trans (by assumption) (by decide) | exact Nat.le_trans (Nat.add_le_add (by assumption) (by assumption)) (by decide) | exact Nat.lt_of_le_of_lt (by assumption) (by decide) | exact Nat.lt_of_lt_of_le (by assumption) (by decide) | lia | omega))
  refine ⟨decide (k < rest.length), tr_of (tr_cmp (ev_name ok rfl) (ev_name ok rfl) cmp_lt) (hcmp k), fun hb => ?_, fun hb => ?_⟩
  · have hlt : k < rest.length := of_decide_eq_true hb
    obtain ⟨c, hc, hc'⟩ := drop_cons hlt
    rw [hc] at he
    have hXk : ∀ j, ([50, 53, 55, 32, 34] ++ rest).toArray[5 + j]? = rest[j]? := fun j => by rw [List.getElem?_toArray, List.getElem?_append_right (by show 5 ≤ 5 + j; (first | assumption | decide | exact Nat.le_trans (by assumption) (by decide) | exact Nat.le_trans (Nat.add_le_add (by assumption) (by assumption)) (by decide) | exact Nat.lt_of_le_of_lt (by assumption) (by decide) | exact Nat.lt_of_lt_of_le (by assumption) (by decide) | lia | omega))]; congr 1; show 5 + j - 5 = j; (first | assumption | decide | exact Nat.le_trans (by assumption) (by decide) | exact Nat.le_trans (Nat.add_le_add (by assumption) (by assumption)) (by decide) | exact Nat.lt_of_le_of_lt (by assumption) (by decide) | exact Nat.lt_of_lt_of_le (by assumption) (by decide) | lia | omega)
    have hget : (S ([50, 53, 55, 32, 34] ++ rest)).cps[(5 + (k : Nat) : Int).toNat]? = some c := by
      rw [show (5 + (k : Nat) : Int).toNat = 5 + k by (first | assumption | decide | exact Nat.le_trans (by assumption) (by decide) | exact Nat.le_trans (Nat.add_le_add (by assumption) (by assumption)) (by decide) | exact Nat.lt_of_le_of_lt (by assumption) (by decide) | exact Nat.lt_of_lt_of_le (by assumption) (by decide) | lia | omega)]
      exact (hXk k).trans hc'
    refine ex_assign ok (ev_itemS (ev_name ok rfl) (ev_name ok rfl) (by dsimp only; (first | assumption | decide | exact Nat.le_trans (by assumption) (by decide) | exact Nat.le_trans (Nat.add_le_add (by assumption) (by assumption)) (by decide) | exact Nat.lt_of_le_of_lt (by assumption) (by decide) | exact Nat.lt_of_lt_of_le (by assumption) (by decide) | lia | omega)) (by dsimp only; (first | assumption | decide | exact Nat.le_trans (by assumption) (by decide) | exact Nat.le_trans (Nat.add_le_add (by assumption) (by assumption)) (by decide) | exact Nat.lt_of_le_of_lt (by assumption) (by decide) | exact Nat.lt_of_lt_of_le (by assumption) (by decide) | lia | omega)) hget) rfl ?_
    refine ex_assign ok (ev_add (ev_name ok rfl) ev_int) rfl ?_
    by_cases hq : c = 34
    · subst hq
      refine ex_if_yes (tr_of (tr_cmp (ev_name ok rfl) ev_str cmp_eqS) rfl) ?_
      have he2 : (d ++ p257 (34 :: rest.drop (k + 1))) = p257 rest := he
      by_cases hk1 : k + 1 = rest.length
      · have hd' : d = p257 rest := by rw [← he2, List.drop_of_length_le (by (first | assumption | decide | exact Nat.le_trans (by assumption) (by decide) | exact Nat.le_trans (Nat.add_le_add (by assumption) (by assumption)) (by decide) | exact Nat.lt_of_le_of_lt (by assumption) (by decide) | exact Nat.lt_of_lt_of_le (by assumption) (by decide) | lia | omega))]; simp [p257]
        rw [← hd']
        refine ex_if_yes (tr_or (c := true) (c' := false) (tr_of (tr_cmp (ev_name ok rfl) (ev_name ok rfl) cmp_ge) ((hcmp' k).trans (decide_eq_true (by (first | assumption | decide | exact Nat.le_trans (by assumption) (by decide) | exact Nat.le_trans (Nat.add_le_add (by assumption) (by assumption)) (by decide) | exact Nat.lt_of_le_of_lt (by assumption) (by decide) | exact Nat.lt_of_lt_of_le (by assumption) (by decide) | lia | omega))))) (fun q => by cases q)) ?_
        refine ex_break fun s st E => (ex_ret (ev_name ok rfl)).run s E st
      · obtain ⟨c', hc1, hc1'⟩ := drop_cons (show k + 1 < rest.length by (first | assumption | decide | exact Nat.le_trans (by assumption) (by decide) | exact Nat.le_trans (Nat.add_le_add (by assumption) (by assumption)) (by decide) | exact Nat.lt_of_le_of_lt (by assumption) (by decide) | exact Nat.lt_of_lt_of_le (by assumption) (by decide) | lia | omega))
        rw [hc1] at he2
        have hget' : (S ([50, 53, 55, 32, 34] ++ rest)).cps[(5 + (k : Nat) + 1 : Int).toNat]? = some c' := by
          rw [show (5 + (k : Nat) + 1 : Int).toNat = 5 + (k + 1) by (first | assumption | decide | exact Nat.le_trans (by assumption) (by decide) | exact Nat.le_trans (Nat.add_le_add (by assumption) (by assumption)) (by decide) | exact Nat.lt_of_le_of_lt (by assumption) (by decide) | exact Nat.lt_of_lt_of_le (by assumption) (by decide) | lia | omega)]
          exact (hXk (k + 1)).trans hc1'
        have e3 : ∀ b, decide (c' ≠ 34) = b → ((⟨#[c']⟩ : Str) != "\"") = b := fun b hb => by rw [← hb, show ((⟨#[c']⟩ : Str) != "\"") = !decide ([c'] = [34]) from congrArg (!·) (S_beq [c'] [34])]; simp
        by_cases hq' : c' = 34
        · subst hq'
          refine ex_if_no (tr_or (c := false) (tr_of (tr_cmp (ev_name ok rfl) (ev_name ok rfl) cmp_ge) ((hcmp' k).trans (decide_eq_false (by (first | assumption | decide | exact Nat.le_trans (by assumption) (by decide) | exact Nat.le_trans (Nat.add_le_add (by assumption) (by assumption)) (by decide) | exact Nat.lt_of_le_of_lt (by assumption) (by decide) | exact Nat.lt_of_lt_of_le (by assumption) (by decide) | lia | omega))))) fun _ => tr_of (tr_cmp (ev_itemS (ev_name ok rfl) (ev_name ok rfl) (by dsimp only; (first | assumption | decide | exact Nat.le_trans (by assumption) (by decide) | exact Nat.le_trans (Nat.add_le_add (by assumption) (by assumption)) (by decide) | exact Nat.lt_of_le_of_lt (by assumption) (by decide) | exact Nat.lt_of_lt_of_le (by assumption) (by decide) | lia | omega)) (by dsimp only; (first | assumption | decide | exact Nat.le_trans (by assumption) (by decide) | exact Nat.le_trans (Nat.add_le_add (by assumption) (by assumption)) (by decide) | exact Nat.lt_of_le_of_lt (by assumption) (by decide) | exact Nat.lt_of_lt_of_le (by assumption) (by decide) | lia | omega)) hget') ev_str cmp_neS) (e3 false (decide_eq_false (by simp)))) ?_
          refine ex_assign ok (ev_add (ev_name ok rfl) ev_int) rfl ?_
          refine ex_end ?_
          refine ex_assign ok (ev_cat (ev_name ok rfl) (ev_name ok rfl) (by rw [S_length, show (⟨#[34]⟩ : Str).length = 1 from rfl, line_eq]; (first | assumption | decide | exact Nat.le_trans (by assumption) (by decide) | exact Nat.le_trans (Nat.add_le_add (by assumption) (by assumption)) (by decide) | exact Nat.lt_of_le_of_lt (by assumption) (by decide) | exact Nat.lt_of_lt_of_le (by assumption) (by decide) | lia | omega))) rfl ?_
          refine while_end (5 + (k : Nat) + 1 + 1, S d ++ ⟨#[34]⟩) ⟨_, by (first | assumption | decide | exact Nat.le_trans (by assumption) (by decide) | exact Nat.le_trans (Nat.add_le_add (by assumption) (by assumption)) (by decide) | exact Nat.lt_of_le_of_lt (by assumption) (by decide) | exact Nat.lt_of_lt_of_le (by assumption) (by decide) | lia | omega), k + 2, d ++ [34], by push_cast; (first | assumption | decide | exact Nat.le_trans (by assumption) (by decide) | exact Nat.le_trans (Nat.add_le_add (by assumption) (by assumption)) (by decide) | exact Nat.lt_of_le_of_lt (by assumption) (by decide) | exact Nat.lt_of_lt_of_le (by assumption) (by decide) | lia | omega), S_append d [34], by (first | assumption | decide | exact Nat.le_trans (by assumption) (by decide) | exact Nat.le_trans (Nat.add_le_add (by assumption) (by assumption)) (by decide) | exact Nat.lt_of_le_of_lt (by assumption) (by decide) | exact Nat.lt_of_lt_of_le (by assumption) (by decide) | lia | omega), rfl, by simp; (first | assumption | decide | exact Nat.le_trans (by assumption) (by decide) | exact Nat.le_trans (Nat.add_le_add (by assumption) (by assumption)) (by decide) | exact Nat.lt_of_le_of_lt (by assumption) (by decide) | exact Nat.lt_of_lt_of_le (by assumption) (by decide) | lia | omega), by simp; (first | assumption | decide | exact Nat.le_trans (by assumption) (by decide) | exact Nat.le_trans (Nat.add_le_add (by assumption) (by assumption)) (by decide) | exact Nat.lt_of_le_of_lt (by assumption) (by decide) | exact Nat.lt_of_lt_of_le (by assumption) (by decide) | lia | omega), ?_⟩ (sub_of rfl) tmp_nil rfl
          rw [← he2]
          simp [p257]
        · refine ex_if_yes (tr_or (c := false) (tr_of (tr_cmp (ev_name ok rfl) (ev_name ok rfl) cmp_ge) ((hcmp' k).trans (decide_eq_false (by (first | assumption | decide | exact Nat.le_trans (by assumption) (by decide) | exact Nat.le_trans (Nat.add_le_add (by assumption) (by assumption)) (by decide) | exact Nat.lt_of_le_of_lt (by assumption) (by decide) | exact Nat.lt_of_lt_of_le (by assumption) (by decide) | lia | omega))))) fun _ => tr_of (tr_cmp (ev_itemS (ev_name ok rfl) (ev_name ok rfl) (by dsimp only; (first | assumption | decide | exact Nat.le_trans (by assumption) (by decide) | exact Nat.le_trans (Nat.add_le_add (by assumption) (by assumption)) (by decide) | exact Nat.lt_of_le_of_lt (by assumption) (by decide) | exact Nat.lt_of_lt_of_le (by assumption) (by decide) | lia | omega)) (by dsimp only; (first | assumption | decide | exact Nat.le_trans (by assumption) (by decide) | exact Nat.le_trans (Nat.add_le_add (by assumption) (by assumption)) (by decide) | exact Nat.lt_of_le_of_lt (by assumption) (by decide) | exact Nat.lt_of_lt_of_le (by assumption) (by decide) | lia | omega)) hget') ev_str cmp_neS) (e3 true (decide_eq_true hq'))) ?_
          have hd' : d = p257 rest := by rw [← he2]; simp [p257, hq']
          rw [← hd']
          refine ex_break fun s st E => (ex_ret (ev_name ok rfl)).run s E st
    · refine ex_if_no (tr_of (tr_cmp (ev_name ok rfl) ev_str cmp_eqS) (by rw [show ((⟨#[c]⟩ : Str) == "\"") = decide ([c] = [34]) from S_beq [c] [34]]; simp [hq])) ?_
      refine ex_assign ok (ev_cat (ev_name ok rfl) (ev_name ok rfl) (by rw [S_length, show (⟨#[c]⟩ : Str).length = 1 from rfl, line_eq]; (first | assumption | decide | exact Nat.le_trans (by assumption) (by decide) | exact Nat.le_trans (Nat.add_le_add (by assumption) (by assumption)) (by decide) | exact Nat.lt_of_le_of_lt (by assumption) (by decide) | exact Nat.lt_of_lt_of_le (by assumption) (by decide) | lia | omega))) rfl ?_
      refine while_end (5 + (k : Nat) + 1, S d ++ ⟨#[c]⟩) ⟨_, by (first | assumption | decide | exact Nat.le_trans (by assumption) (by decide) | exact Nat.le_trans (Nat.add_le_add (by assumption) (by assumption)) (by decide) | exact Nat.lt_of_le_of_lt (by assumption) (by decide) | exact Nat.lt_of_lt_of_le (by assumption) (by decide) | lia | omega), k + 1, d ++ [c], by push_cast; (first | assumption | decide | exact Nat.le_trans (by assumption) (by decide) | exact Nat.le_trans (Nat.add_le_add (by assumption) (by assumption)) (by decide) | exact Nat.lt_of_le_of_lt (by assumption) (by decide) | exact Nat.lt_of_lt_of_le (by assumption) (by decide) | lia | omega), S_append d [c], by (first | assumption | decide | exact Nat.le_trans (by assumption) (by decide) | exact Nat.le_trans (Nat.add_le_add (by assumption) (by assumption)) (by decide) | exact Nat.lt_of_le_of_lt (by assumption) (by decide) | exact Nat.lt_of_lt_of_le (by assumption) (by decide) | lia | omega), rfl, by simp; (first | assumption | decide | exact Nat.le_trans (by assumption) (by decide) | exact Nat.le_trans (Nat.add_le_add (by assumption) (by assumption)) (by decide) | exact Nat.lt_of_le_of_lt (by assumption) (by decide) | exact Nat.lt_of_lt_of_le (by assumption) (by decide) | lia | omega), by simp; (first | assumption | decide | exact Nat.le_trans (by assumption) (by decide) | exact Nat.le_trans (Nat.add_le_add (by assumption) (by assumption)) (by decide) | exact Nat.lt_of_le_of_lt (by assumption) (by decide) | exact Nat.lt_of_lt_of_le (by assumption) (by decide) | lia | omega), ?_⟩ (sub_of rfl) tmp_nil rfl
      rw [← he, p257_ne hq, List.append_assoc]; rfl
  · have hlt : k = rest.length := by have := of_decide_eq_false hb; (first | assumption | decide | exact Nat.le_trans (by assumption) (by decide) | exact Nat.le_trans (Nat.add_le_add (by assumption) (by assumption)) (by decide) | exact Nat.lt_of_le_of_lt (by assumption) (by decide) | exact Nat.lt_of_lt_of_le (by assumption) (by decide) | lia | omega)
    subst hlt
    rw [List.drop_length] at he
    have he' : d = p257 rest := by rw [← he]; simp [p257]
    rw [← he']
    exact ex_ret (ev_name ok rfl)
end Mine
end

section
open PySem PySem.W PyProof.Rows PySem.Calls
set_option maxRecDepth 100000
set_option linter.all false
set_option maxHeartbeats 4000000
namespace Mine
open NumText in
theorem int_of (f ds : List Nat) (hf : f = [] ∨ f = [48] ∨ f = [43] ∨ f = [32]) (h : AllDigits ds) (hne : ds ≠ []) (hl : ds.length ≤ 4000) : PySem.intText? (S (f ++ ds)) = some ((digitsVal ds : Nat) : Int) := by
  have hfr : ∀ c ∈ f ++ ds, c = 32 ∨ c = 43 ∨ (48 ≤ c ∧ c ≤ 57) := by
    intro c hc
    rcases List.mem_append.mp hc with hc | hc
    · rcases hf with rfl | rfl | rfl | rfl
      · cases hc
      · rw [List.mem_singleton.mp hc]; (first | assumption | decide | exact Nat.le_trans (by assumption) (by decide) | exact Nat.le_trans (Nat.add_le_add (by assumption) (by assumption)) (by decide) | exact Nat.lt_of_le_of_lt (by assumption) (by decide) | exact Nat.lt_of_lt_of_le (by assumption) (by decide) | lia | omega)
      · rw [List.mem_singleton.mp hc]; (first | assumption | decide | exact Nat.le_trans (by assumption) (by decide) | exact Nat.le_trans (Nat.add_le_add (by assumption) (by assumption)) (by decide) | exact Nat.lt_of_le_of_lt (by assumption) (by decide) | exact Nat.lt_of_lt_of_le (by assumption) (by decide) | lia | omega)
      · rw [List.mem_singleton.mp hc]; (first | assumption | decide | exact Nat.le_trans (by assumption) (by decide) | exact Nat.le_trans (Nat.add_le_add (by assumption) (by assumption)) (by decide) | exact Nat.lt_of_le_of_lt (by assumption) (by decide) | exact Nat.lt_of_lt_of_le (by assumption) (by decide) | lia | omega)
    · exact .inr (.inr (h c hc))
  have e1 : numTextOf (S (f ++ ds)) = f ++ ds := by
    refine if_pos ?_
    rw [← Array.all_toList, List.all_eq_true]
    intro c hc
    have := hfr c hc
    exact decide_eq_true (by (first | assumption | decide | exact Nat.le_trans (by assumption) (by decide) | exact Nat.le_trans (Nat.add_le_add (by assumption) (by assumption)) (by decide) | exact Nat.lt_of_le_of_lt (by assumption) (by decide) | exact Nat.lt_of_lt_of_le (by assumption) (by decide) | lia | omega))
  have e2 : numSeenOf (S (f ++ ds)) = f ++ ds := by
    show (numTextOf (S (f ++ ds))).takeWhile _ = _
    rw [e1]
    refine takeWhile_all fun c hc => ?_
    have := hfr c hc
    exact bne_iff_ne.mpr (by (first | assumption | decide | exact Nat.le_trans (by assumption) (by decide) | exact Nat.le_trans (Nat.add_le_add (by assumption) (by assumption)) (by decide) | exact Nat.lt_of_le_of_lt (by assumption) (by decide) | exact Nat.lt_of_lt_of_le (by assumption) (by decide) | lia | omega))
  have key : ∀ cs : List Nat, AllDigits cs → cs ≠ [] → cs.length ≤ 4001 → sign ((f ++ ds).dropWhile blank) = (false, cs) → digitsVal cs = digitsVal ds → PySem.intText? (S (f ++ ds)) = some ((digitsVal ds : Nat) : Int) := by
    intro cs hcs hcn hcl es ev
    unfold PySem.intText?
    rw [e1, e2, if_pos (beq_self_eq_true _)]
    have ec : core (f ++ ds) = cs := by
      unfold core
      rw [es]
      show (cs.reverse.dropWhile blank).reverse = cs
      rw [dropWhile_digits hcs.reverse, List.reverse_reverse]
    rw [ec, es, digits_of hcs hcn]
    have hsz := push_size cs #[]
    have hv := push_foldl cs #[]
    show (if _ ≤ 4300 then some (worth false _) else none) = _
    rw [if_pos (by rw [hsz]; simp only [Array.size_empty]; (first | assumption | decide | exact Nat.le_trans (by assumption) (by decide) | exact Nat.le_trans (Nat.add_le_add (by assumption) (by assumption)) (by decide) | exact Nat.lt_of_le_of_lt (by assumption) (by decide) | exact Nat.lt_of_lt_of_le (by assumption) (by decide) | lia | omega))]
    unfold worth
    rw [hv, ← ev]
    unfold digitsVal
    rfl
  obtain ⟨c, cs, rfl⟩ : ∃ c cs, ds = c :: cs := by cases ds with | nil => exact absurd rfl hne | cons c cs => exact ⟨c, cs, rfl⟩
  have hc := h.head
  rcases hf with rfl | rfl | rfl | rfl
  · exact key (c :: cs) h (by simp) (by (first | assumption | decide | exact Nat.le_trans (by assumption) (by decide) | exact Nat.le_trans (Nat.add_le_add (by assumption) (by assumption)) (by decide) | exact Nat.lt_of_le_of_lt (by assumption) (by decide) | exact Nat.lt_of_lt_of_le (by assumption) (by decide) | lia | omega)) (by rw [List.nil_append, dropWhile_digits h]; exact sign_of (by (first | assumption | decide | exact Nat.le_trans (by assumption) (by decide) | exact Nat.le_trans (Nat.add_le_add (by assumption) (by assumption)) (by decide) | exact Nat.lt_of_le_of_lt (by assumption) (by decide) | exact Nat.lt_of_lt_of_le (by assumption) (by decide) | lia | omega)) (by (first | assumption | decide | exact Nat.le_trans (by assumption) (by decide) | exact Nat.le_trans (Nat.add_le_add (by assumption) (by assumption)) (by decide) | exact Nat.lt_of_le_of_lt (by assumption) (by decide) | exact Nat.lt_of_lt_of_le (by assumption) (by decide) | lia | omega))) rfl
  · have h' : AllDigits (48 :: c :: cs) := fun d hd => by
      rcases List.mem_cons.mp hd with rfl | hd
      · (first | assumption | decide | exact Nat.le_trans (by assumption) (by decide) | exact Nat.le_trans (Nat.add_le_add (by assumption) (by assumption)) (by decide) | exact Nat.lt_of_le_of_lt (by assumption) (by decide) | exact Nat.lt_of_lt_of_le (by assumption) (by decide) | lia | omega)
      · exact h d hd
    exact key (48 :: c :: cs) h' (by simp) (by simp at hl ⊢; (first | assumption | decide | exact Nat.le_trans (by assumption) (by decide) | exact Nat.le_trans (Nat.add_le_add (by assumption) (by assumption)) (by decide) | exact Nat.lt_of_le_of_lt (by assumption) (by decide) | exact Nat.lt_of_lt_of_le (by assumption) (by decide) | lia | omega)) (by rw [show [48] ++ c :: cs = 48 :: c :: cs from rfl, dropWhile_digits h']; exact sign_of (by decide) (by decide)) rfl
  · exact key (c :: cs) h (by simp) (by (first | assumption | decide | exact Nat.le_trans (by assumption) (by decide) | exact Nat.le_trans (Nat.add_le_add (by assumption) (by assumption)) (by decide) | exact Nat.lt_of_le_of_lt (by assumption) (by decide) | exact Nat.lt_of_lt_of_le (by assumption) (by decide) | lia | omega)) (by rw [show [43] ++ c :: cs = 43 :: c :: cs from rfl, dropWhile_of (by decide)]; rfl) rfl
  · refine key (c :: cs) h (by simp) (by (first | assumption | decide | exact Nat.le_trans (by assumption) (by decide) | exact Nat.le_trans (Nat.add_le_add (by assumption) (by assumption)) (by decide) | exact Nat.lt_of_le_of_lt (by assumption) (by decide) | exact Nat.lt_of_lt_of_le (by assumption) (by decide) | lia | omega)) ?_ rfl
    rw [show [32] ++ c :: cs = 32 :: c :: cs from rfl, List.dropWhile_cons, if_pos (by decide), dropWhile_digits h]
    exact sign_of (by (first | assumption | decide | exact Nat.le_trans (by assumption) (by decide) | exact Nat.le_trans (Nat.add_le_add (by assumption) (by assumption)) (by decide) | exact Nat.lt_of_le_of_lt (by assumption) (by decide) | exact Nat.lt_of_lt_of_le (by assumption) (by decide) | lia | omega)) (by (first | assumption | decide | exact Nat.le_trans (by assumption) (by decide) | exact Nat.le_trans (Nat.add_le_add (by assumption) (by assumption)) (by decide) | exact Nat.lt_of_le_of_lt (by assumption) (by decide) | exact Nat.lt_of_lt_of_le (by assumption) (by decide) | lia | omega))
theorem digs_all (p : Nat) : NumText.AllDigits (digs p) ∧ digs p ≠ [] ∧ NumText.digitsVal (digs p) = p := by
  have e : digs p = (Nat.toDigits 10 p).map Char.toNat := by rw [digs_eq]; exact KIN.signs_num p
  rw [e]
  refine ⟨fun c hc => ?_, fun h => ?_, KIN.val_back p⟩
  · obtain ⟨ch, hch, rfl⟩ := List.mem_map.mp hc
    exact digit_range (Nat.isDigit_of_mem_toDigits (by decide) (by decide) hch)
  · have h' := toDigits_len_ge 10 p
    rw [List.map_eq_nil_iff.mp h] at h'
    exact absurd h' (by decide)

/-- one sign sought -/
theorem fnd_one {c : Nat} {a b : List Nat} (h : c ∉ a) : fnd [c] (a ++ c :: b) = some a.length := by
  refine fnd_some (by simp) (by simp) fun k hk hp => ?_
  obtain ⟨t, ht⟩ := hp
  have h1 : (a ++ c :: b)[k]? = some c := by
    have := congrArg (·[0]?) ht
    simp only [List.getElem?_drop, Nat.add_zero] at this
    rw [← this]; rfl
  rw [List.getElem?_append_left hk] at h1
  exact h (List.mem_of_getElem? h1)
theorem fnd_zero {c : Nat} {a : List Nat} (h : c ∉ a) : fnd [c] a = none := by
  refine fnd_none fun k hk hp => ?_
  obtain ⟨t, ht⟩ := hp
  have h1 : a[k]? = some c := by
    have := congrArg (·[0]?) ht
    simp only [List.getElem?_drop, Nat.add_zero] at this
    rw [← this]; rfl
  exact h (List.mem_of_getElem? h1)
theorem cutF_fuel (y : List Nat) (hy : 1 ≤ y.length) : ∀ (n k : Nat) (x : List Nat), x.length < n → x.length < k → cutF y n x = cutF y k x
  | 0, _, _, h, _ => absurd h (Nat.not_lt_zero _)
  | _, 0, _, _, h => absurd h (Nat.not_lt_zero _)
  | n + 1, k + 1, x, h1, h2 => by
    unfold cutF
    rcases fnd_spec y x with ⟨e, _⟩ | ⟨i, e, hi, hp, _⟩
    · rw [e]
    · rw [e]
      have := pre_fits hi hp
      have hl : (x.drop (i + y.length)).length < n := by rw [List.length_drop]; (first | assumption | decide | exact Nat.le_trans (by assumption) (by decide) | exact Nat.le_trans (Nat.add_le_add (by assumption) (by assumption)) (by decide) | exact Nat.lt_of_le_of_lt (by assumption) (by decide) | exact Nat.lt_of_lt_of_le (by assumption) (by decide) | lia | omega)
      have hl' : (x.drop (i + y.length)).length < k := by rw [List.length_drop]; (first | assumption | decide | exact Nat.le_trans (by assumption) (by decide) | exact Nat.le_trans (Nat.add_le_add (by assumption) (by assumption)) (by decide) | exact Nat.lt_of_le_of_lt (by assumption) (by decide) | exact Nat.lt_of_lt_of_le (by assumption) (by decide) | lia | omega)
      dsimp only
      rw [cutF_fuel y hy n k _ hl hl']
theorem cutL_none {y x : List Nat} (h : fnd y x = none) : cutL y x = [x] := by unfold cutL cutF; rw [h]
theorem cutL_some {y x : List Nat} {i : Nat} (hy : 1 ≤ y.length) (h : fnd y x = some i) : cutL y x = x.take i :: cutL y (x.drop (i + y.length)) := by
  have hs : i ≤ x.length ∧ y <+: x.drop i := by
    rcases fnd_spec y x with ⟨e, _⟩ | ⟨j, e, hj, hp, _⟩
    · rw [e] at h; cases h
    · rw [e] at h; cases h; exact ⟨hj, hp⟩
  have := pre_fits hs.1 hs.2
  conv => lhs; unfold cutL cutF; rw [h]
  dsimp only
  unfold cutL
  rw [cutF_fuel y hy x.length _ _ (by rw [List.length_drop]; (first | assumption | decide | exact Nat.le_trans (by assumption) (by decide) | exact Nat.le_trans (Nat.add_le_add (by assumption) (by assumption)) (by decide) | exact Nat.lt_of_le_of_lt (by assumption) (by decide) | exact Nat.lt_of_lt_of_le (by assumption) (by decide) | lia | omega)) (Nat.lt_succ_self _)]
theorem cutL_one {c : Nat} {a b : List Nat} (h : c ∉ a) : cutL [c] (a ++ c :: b) = a :: cutL [c] b := by
  rw [cutL_some (y := [c]) (Nat.le_refl 1) (fnd_one h), List.take_left' rfl]
  congr 2
  rw [show a ++ c :: b = (a ++ [c]) ++ b by simp]
  exact List.drop_left' (by simp)

theorem marks (k : Nat) : markOf k = 124 ∨ markOf k = 33 ∨ markOf k = 58 ∨ markOf k = 120 := by
  unfold markOf
  have : k % 4 < 4 := Nat.mod_lt _ (by decide)
  generalize k % 4 = j at this
  match j, this with
  | 0, _ | 1, _ | 2, _ | 3, _ => decide
theorem figs (k : Nat) : figOf k = [] ∨ figOf k = [48] ∨ figOf k = [43] ∨ figOf k = [32] := by
  unfold figOf
  have : k / 4 % 4 < 4 := Nat.mod_lt _ (by decide)
  generalize k / 4 % 4 = j at this
  match j, this with
  | 0, _ | 1, _ | 2, _ | 3, _ => decide
theorem hosts (k : Nat) : hostOf k = [] ∨ hostOf k = [49] ∨ hostOf k = [104] := by
  unfold hostOf
  have : k / 16 % 3 < 3 := Nat.mod_lt _ (by decide)
  generalize k / 16 % 3 = j at this
  match j, this with
  | 0, _ | 1, _ | 2, _ => decide
theorem inside_signs (p k : Nat) : ∀ c ∈ insideOf p k, c ≠ 40 ∧ c ≠ 41 := by
  intro c hc
  unfold insideOf at hc
  have hm := marks k
  have hd := (digs_all p).1
  have hf : ∀ c ∈ figOf k, c = 48 ∨ c = 43 ∨ c = 32 := by
    intro c hc
    rcases figs k with h | h | h | h <;> rw [h] at hc
    · cases hc
    all_goals (have := List.mem_singleton.mp hc; (first | assumption | decide | exact Nat.le_trans (by assumption) (by decide) | exact Nat.le_trans (Nat.add_le_add (by assumption) (by assumption)) (by decide) | exact Nat.lt_of_le_of_lt (by assumption) (by decide) | exact Nat.lt_of_lt_of_le (by assumption) (by decide) | lia | omega))
  have hh : ∀ c ∈ hostOf k, c = 49 ∨ c = 104 := by
    intro c hc
    rcases hosts k with h | h | h <;> rw [h] at hc
    · cases hc
    all_goals (have := List.mem_singleton.mp hc; (first | assumption | decide | exact Nat.le_trans (by assumption) (by decide) | exact Nat.le_trans (Nat.add_le_add (by assumption) (by assumption)) (by decide) | exact Nat.lt_of_le_of_lt (by assumption) (by decide) | exact Nat.lt_of_lt_of_le (by assumption) (by decide) | lia | omega))
  simp only [List.mem_append, List.mem_cons, List.not_mem_nil, or_false] at hc
  rcases hc with (((hc | hc) | hc | hc) | hc | hc) | hc
  · (first | assumption | decide | exact Nat.le_trans (by assumption) (by decide) | exact Nat.le_trans (Nat.add_le_add (by assumption) (by assumption)) (by decide) | exact Nat.lt_of_le_of_lt (by assumption) (by decide) | exact Nat.lt_of_lt_of_le (by assumption) (by decide) | lia | omega)
  · have := hh c hc; (first | assumption | decide | exact Nat.le_trans (by assumption) (by decide) | exact Nat.le_trans (Nat.add_le_add (by assumption) (by assumption)) (by decide) | exact Nat.lt_of_le_of_lt (by assumption) (by decide) | exact Nat.lt_of_lt_of_le (by assumption) (by decide) | lia | omega)
  · (first | assumption | decide | exact Nat.le_trans (by assumption) (by decide) | exact Nat.le_trans (Nat.add_le_add (by assumption) (by assumption)) (by decide) | exact Nat.lt_of_le_of_lt (by assumption) (by decide) | exact Nat.lt_of_lt_of_le (by assumption) (by decide) | lia | omega)
  · (first | assumption | decide | exact Nat.le_trans (by assumption) (by decide) | exact Nat.le_trans (Nat.add_le_add (by assumption) (by assumption)) (by decide) | exact Nat.lt_of_le_of_lt (by assumption) (by decide) | exact Nat.lt_of_lt_of_le (by assumption) (by decide) | lia | omega)
  · have := hf c hc; (first | assumption | decide | exact Nat.le_trans (by assumption) (by decide) | exact Nat.le_trans (Nat.add_le_add (by assumption) (by assumption)) (by decide) | exact Nat.lt_of_le_of_lt (by assumption) (by decide) | exact Nat.lt_of_lt_of_le (by assumption) (by decide) | lia | omega)
  · have := hd c hc; (first | assumption | decide | exact Nat.le_trans (by assumption) (by decide) | exact Nat.le_trans (Nat.add_le_add (by assumption) (by assumption)) (by decide) | exact Nat.lt_of_le_of_lt (by assumption) (by decide) | exact Nat.lt_of_lt_of_le (by assumption) (by decide) | lia | omega)
  · (first | assumption | decide | exact Nat.le_trans (by assumption) (by decide) | exact Nat.le_trans (Nat.add_le_add (by assumption) (by assumption)) (by decide) | exact Nat.lt_of_le_of_lt (by assumption) (by decide) | exact Nat.lt_of_lt_of_le (by assumption) (by decide) | lia | omega)
theorem mark_not (p k : Nat) : markOf k ∉ hostOf k ∧ markOf k ∉ figOf k ++ digs p := by
  have hm := marks k
  refine ⟨fun hc => ?_, fun hc => ?_⟩
  · rcases hosts k with h | h | h <;> rw [h] at hc
    · cases hc
    all_goals (have := List.mem_singleton.mp hc; (first | assumption | decide | exact Nat.le_trans (by assumption) (by decide) | exact Nat.le_trans (Nat.add_le_add (by assumption) (by assumption)) (by decide) | exact Nat.lt_of_le_of_lt (by assumption) (by decide) | exact Nat.lt_of_lt_of_le (by assumption) (by decide) | lia | omega))
  · rcases List.mem_append.mp hc with hc | hc
    · rcases figs k with h | h | h | h <;> rw [h] at hc
      · cases hc
      all_goals (have := List.mem_singleton.mp hc; (first | assumption | decide | exact Nat.le_trans (by assumption) (by decide) | exact Nat.le_trans (Nat.add_le_add (by assumption) (by assumption)) (by decide) | exact Nat.lt_of_le_of_lt (by assumption) (by decide) | exact Nat.lt_of_lt_of_le (by assumption) (by decide) | lia | omega))
    · have := (digs_all p).1 _ hc; (first | assumption | decide | exact Nat.le_trans (by assumption) (by decide) | exact Nat.le_trans (Nat.add_le_add (by assumption) (by assumption)) (by decide) | exact Nat.lt_of_le_of_lt (by assumption) (by decide) | exact Nat.lt_of_lt_of_le (by assumption) (by decide) | lia | omega)
theorem inside_cut (p k : Nat) : cutL [markOf k] (insideOf p k) = [[], hostOf k, [], figOf k ++ digs p, []] := by
  have e : insideOf p k = [] ++ markOf k :: (hostOf k ++ markOf k :: ([] ++ markOf k :: ((figOf k ++ digs p) ++ markOf k :: []))) := by unfold insideOf; simp
  rw [e, cutL_one (by simp), cutL_one (mark_not p k).1, cutL_one (by simp), cutL_one (mark_not p k).2, cutL_none (by rfl)]

theorem fn229 (p k : Nat) (sg : Str) (hp : p < 10 ^ 9) : Fn 1 86 [.str (S (replyOf p k)), .tuple [.str sg, .int 21]] (.tuple [.str sg, .int (p : Nat)]) := by
  have hpre : ∀ c ∈ (([50, 50, 57, 32] : List Nat) ++ (List.replicate (k / 48 % 2) [41]).flatten), c ≠ 40 := by
    intro c hc
    rcases List.mem_append.mp hc with hc | hc
    · have : ∀ c ∈ ([50, 50, 57, 32] : List Nat), c ≠ 40 := by decide
      exact this c hc
    · obtain ⟨l, hl, hc⟩ := List.mem_flatten.mp hc
      rw [List.eq_of_mem_replicate hl] at hc
      rw [List.mem_singleton.mp hc]; decide
  have h2 : k / 48 % 2 < 2 := Nat.mod_lt _ (by decide)
  have h3 : k / 96 % 2 < 2 := Nat.mod_lt _ (by decide)
  have hin := inside_signs p k
  have hcut := inside_cut p k
  have hIl : 5 ≤ (insideOf p k).length ∧ (insideOf p k).length ≤ 20 := by
    have := digs_len hp
    have := figOf_len k
    have := hostOf_len k
    have h5 : 1 ≤ (digs p).length := List.length_pos_iff.mpr (digs_all p).2.1
    unfold insideOf
    simp only [List.length_append, List.length_cons, List.length_nil]
    (first | assumption | decide | exact Nat.le_trans (by assumption) (by decide) | exact Nat.le_trans (Nat.add_le_add (by assumption) (by assumption)) (by decide) | exact Nat.lt_of_le_of_lt (by assumption) (by decide) | exact Nat.lt_of_lt_of_le (by assumption) (by decide) | lia | omega)
  have hI0 : (insideOf p k)[0]? = some (markOf k) := rfl
  have hI1 : (insideOf p k)[(insideOf p k).length - 1]? = some (markOf k) := by
    unfold insideOf
    generalize [markOf k] ++ hostOf k ++ [markOf k, markOf k] ++ (figOf k ++ digs p) = Z
    have := List.getElem?_append_right (l₁ := Z) (l₂ := [markOf k]) (Nat.le_refl Z.length)
    rw [List.length_append, show Z.length + [markOf k].length - 1 = Z.length from rfl, this, Nat.sub_self]; rfl
  obtain ⟨A, hA, hA3, hAl⟩ : ∃ A : List Nat, replyOf p k = A ++ 40 :: (insideOf p k ++ 41 :: (List.replicate (k / 96 % 2) [32, 40, 120, 41]).flatten) ∧ (∃ r, A = 50 :: 50 :: 57 :: r) ∧ A.length ≤ 5 ∧ 40 ∉ A := by
    refine ⟨([50, 50, 57, 32] : List Nat) ++ (List.replicate (k / 48 % 2) [41]).flatten, ?_, ⟨_, rfl⟩, ?_, fun h => hpre 40 h rfl⟩
    · unfold replyOf; simp
    · rw [List.length_append, rep_len]; show 4 + k / 48 % 2 * 1 ≤ 5; (first | assumption | decide | exact Nat.le_trans (by assumption) (by decide) | exact Nat.le_trans (Nat.add_le_add (by assumption) (by assumption)) (by decide) | exact Nat.lt_of_le_of_lt (by assumption) (by decide) | exact Nat.lt_of_lt_of_le (by assumption) (by decide) | lia | omega)
  have hTl : ((List.replicate (k / 96 % 2) [32, 40, 120, 41]).flatten).length ≤ 4 := by rw [rep_len]; show k / 96 % 2 * 4 ≤ 4; (first | assumption | decide | exact Nat.le_trans (by assumption) (by decide) | exact Nat.le_trans (Nat.add_le_add (by assumption) (by assumption)) (by decide) | exact Nat.lt_of_le_of_lt (by assumption) (by decide) | exact Nat.lt_of_lt_of_le (by assumption) (by decide) | lia | omega)
  rw [hA]
  generalize (List.replicate (k / 96 % 2) [32, 40, 120, 41]).flatten = T at hTl
  have hid := int_of (figOf k) (digs p) (figs k) (digs_all p).1 (digs_all p).2.1 (by have := digs_len hp; (first | assumption | decide | exact Nat.le_trans (by assumption) (by decide) | exact Nat.le_trans (Nat.add_le_add (by assumption) (by assumption)) (by decide) | exact Nat.lt_of_le_of_lt (by assumption) (by decide) | exact Nat.lt_of_lt_of_le (by assumption) (by decide) | lia | omega))
  rw [(digs_all p).2.2] at hid
  have hfl : (figOf k ++ digs p).length ≤ 20 := by have := digs_len hp; have := figOf_len k; rw [List.length_append]; (first | assumption | decide | exact Nat.le_trans (by assumption) (by decide) | exact Nat.le_trans (Nat.add_le_add (by assumption) (by assumption)) (by decide) | exact Nat.lt_of_le_of_lt (by assumption) (by decide) | exact Nat.lt_of_lt_of_le (by assumption) (by decide) | lia | omega)
  generalize figOf k ++ digs p = FD at hid hcut hfl
  generalize hostOf k = HO at hcut
  have hmk := marks k
  generalize markOf k = mk at hcut hI0 hI1 hmk
  generalize insideOf p k = I at hin hcut hIl hI0 hI1
  clear hpre h2 h3 hA
  obtain ⟨r, hr⟩ := hA3
  obtain ⟨hA5, hA40⟩ := hAl
  have hXl : (A ++ 40 :: (I ++ 41 :: T)).length = A.length + I.length + T.length + 2 := by simp; (first | assumption | decide | exact Nat.le_trans (by assumption) (by decide) | exact Nat.le_trans (Nat.add_le_add (by assumption) (by assumption)) (by decide) | exact Nat.lt_of_le_of_lt (by assumption) (by decide) | exact Nat.lt_of_lt_of_le (by assumption) (by decide) | lia | omega)
  have hsz : (S (A ++ 40 :: (I ++ 41 :: T))).length ≤ sizeLine := by rw [S_length, hXl, line_eq]; (first | assumption | decide | exact Nat.le_trans (by assumption) (by decide) | exact Nat.le_trans (Nat.add_le_add (by assumption) (by assumption)) (by decide) | exact Nat.lt_of_le_of_lt (by assumption) (by decide) | exact Nat.lt_of_lt_of_le (by assumption) (by decide) | lia | omega)
  have g1 : Txt.find (S (A ++ 40 :: (I ++ 41 :: T))) "(" = (A.length : Nat) := by
    show Txt.find (S _) (S [40]) = _
    rw [find_S, fnd_one hA40]; rfl
  have g2 : Txt.find3 (S (A ++ 40 :: (I ++ 41 :: T))) ")" ((A.length : Nat) + 1) = ((A.length + 1 + I.length : Nat) : Int) := by
    show Txt.find3 (S _) (S [41]) _ = _
    rw [show ((A.length : Nat) + 1 : Int) = ((A.length + 1 : Nat) : Int) by push_cast; rfl, find3_S _ _ _ (by rw [hXl]; (first | assumption | decide | exact Nat.le_trans (by assumption) (by decide) | exact Nat.le_trans (Nat.add_le_add (by assumption) (by assumption)) (by decide) | exact Nat.lt_of_le_of_lt (by assumption) (by decide) | exact Nat.lt_of_lt_of_le (by assumption) (by decide) | lia | omega))]
    rw [show (A ++ 40 :: (I ++ 41 :: T)).drop (A.length + 1) = I ++ 41 :: T by rw [show A ++ 40 :: (I ++ 41 :: T) = (A ++ [40]) ++ (I ++ 41 :: T) by simp]; exact List.drop_left' (by simp)]
    rw [fnd_one fun h => (hin 41 h).2 rfl]
    show ((I.length + (A.length + 1) : Nat) : Int) = _
    rw [Nat.add_comm]
  have hg : ∀ j, (A ++ 40 :: (I ++ 41 :: T))[A.length + 1 + j]? = (I ++ 41 :: T)[j]? := fun j => by
    rw [show A ++ 40 :: (I ++ 41 :: T) = (A ++ [40]) ++ (I ++ 41 :: T) by simp, List.getElem?_append_right (by simp)]
    congr 1; simp
  have g3 : (S (A ++ 40 :: (I ++ 41 :: T))).cps[((A.length : Nat) + 1 : Int).toNat]? = some mk := by
    rw [show ((A.length : Nat) + 1 : Int).toNat = A.length + 1 + 0 by (first | assumption | decide | exact Nat.le_trans (by assumption) (by decide) | exact Nat.le_trans (Nat.add_le_add (by assumption) (by assumption)) (by decide) | exact Nat.lt_of_le_of_lt (by assumption) (by decide) | exact Nat.lt_of_lt_of_le (by assumption) (by decide) | lia | omega)]
    show (A ++ 40 :: (I ++ 41 :: T)).toArray[A.length + 1 + 0]? = _
    rw [List.getElem?_toArray, hg, List.getElem?_append_left (by (first | assumption | decide | exact Nat.le_trans (by assumption) (by decide) | exact Nat.le_trans (Nat.add_le_add (by assumption) (by assumption)) (by decide) | exact Nat.lt_of_le_of_lt (by assumption) (by decide) | exact Nat.lt_of_lt_of_le (by assumption) (by decide) | lia | omega)), hI0]
  have g4 : (S (A ++ 40 :: (I ++ 41 :: T))).cps[((A.length + 1 + I.length : Nat) - 1 : Int).toNat]? = some mk := by
    rw [show ((A.length + 1 + I.length : Nat) - 1 : Int).toNat = A.length + 1 + (I.length - 1) by (first | assumption | decide | exact Nat.le_trans (by assumption) (by decide) | exact Nat.le_trans (Nat.add_le_add (by assumption) (by assumption)) (by decide) | exact Nat.lt_of_le_of_lt (by assumption) (by decide) | exact Nat.lt_of_lt_of_le (by assumption) (by decide) | lia | omega)]
    show (A ++ 40 :: (I ++ 41 :: T)).toArray[A.length + 1 + (I.length - 1)]? = _
    rw [List.getElem?_toArray, hg, List.getElem?_append_left (by (first | assumption | decide | exact Nat.le_trans (by assumption) (by decide) | exact Nat.le_trans (Nat.add_le_add (by assumption) (by assumption)) (by decide) | exact Nat.lt_of_le_of_lt (by assumption) (by decide) | exact Nat.lt_of_lt_of_le (by assumption) (by decide) | lia | omega)), hI1]
  have g5 : Txt.slice (S (A ++ 40 :: (I ++ 41 :: T))) (some ((A.length : Nat) + 1)) (some ((A.length + 1 + I.length : Nat) : Int)) = S I := by
    rw [slice_ss (by (first | assumption | decide | exact Nat.le_trans (by assumption) (by decide) | exact Nat.le_trans (Nat.add_le_add (by assumption) (by assumption)) (by decide) | exact Nat.lt_of_le_of_lt (by assumption) (by decide) | exact Nat.lt_of_lt_of_le (by assumption) (by decide) | lia | omega)) (by (first | assumption | decide | exact Nat.le_trans (by assumption) (by decide) | exact Nat.le_trans (Nat.add_le_add (by assumption) (by assumption)) (by decide) | exact Nat.lt_of_le_of_lt (by assumption) (by decide) | exact Nat.lt_of_lt_of_le (by assumption) (by decide) | lia | omega)) (by rw [hXl]; (first | assumption | decide | exact Nat.le_trans (by assumption) (by decide) | exact Nat.le_trans (Nat.add_le_add (by assumption) (by assumption)) (by decide) | exact Nat.lt_of_le_of_lt (by assumption) (by decide) | exact Nat.lt_of_lt_of_le (by assumption) (by decide) | lia | omega))]
    rw [show ((A.length : Nat) + 1 : Int).toNat = A.length + 1 by (first | assumption | decide | exact Nat.le_trans (by assumption) (by decide) | exact Nat.le_trans (Nat.add_le_add (by assumption) (by assumption)) (by decide) | exact Nat.lt_of_le_of_lt (by assumption) (by decide) | exact Nat.lt_of_lt_of_le (by assumption) (by decide) | lia | omega), show (((A.length + 1 + I.length : Nat) : Int) - ((A.length : Nat) + 1)).toNat = I.length by (first | assumption | decide | exact Nat.le_trans (by assumption) (by decide) | exact Nat.le_trans (Nat.add_le_add (by assumption) (by assumption)) (by decide) | exact Nat.lt_of_le_of_lt (by assumption) (by decide) | exact Nat.lt_of_lt_of_le (by assumption) (by decide) | lia | omega)]
    rw [show (A ++ 40 :: (I ++ 41 :: T)).drop (A.length + 1) = I ++ 41 :: T by rw [show A ++ 40 :: (I ++ 41 :: T) = (A ++ [40]) ++ (I ++ 41 :: T) by simp]; exact List.drop_left' (by simp)]
    rw [List.take_left' rfl]
  have g0 : Txt.slice (S (A ++ 40 :: (I ++ 41 :: T))) none (some 3) = "229" := by
    rw [slice_ns (by decide) (by rw [hXl]; (first | assumption | decide | exact Nat.le_trans (by assumption) (by decide) | exact Nat.le_trans (Nat.add_le_add (by assumption) (by assumption)) (by decide) | exact Nat.lt_of_le_of_lt (by assumption) (by decide) | exact Nat.lt_of_lt_of_le (by assumption) (by decide) | lia | omega)), hr]; rfl
  have g6 : Txt.split (S I) ⟨#[mk]⟩ = [S [], S HO, S [], S FD, S []] := by
    show Txt.split (S I) (S [mk]) = _
    rw [split_S I [mk] (Nat.le_refl 1) (fun c hc => by rw [List.mem_singleton.mp hc]; (first | assumption | decide | exact Nat.le_trans (by assumption) (by decide) | exact Nat.le_trans (Nat.add_le_add (by assumption) (by assumption)) (by decide) | exact Nat.lt_of_le_of_lt (by assumption) (by decide) | exact Nat.lt_of_lt_of_le (by assumption) (by decide) | lia | omega)), hcut]; rfl
  generalize hXX : S (A ++ 40 :: (I ++ 41 :: T)) = X at *
  refine fn_intro2 (fun _ => rfl) (fun _ => rfl) (fun _ _ => rfl) rfl rfl rfl (by decide) (by decide) rfl rfl rfl ?_
  intro w L Ar g opq keep os lvl gp ok cal hl
  refine ex_if_no (tr_cmp (ev_slice_ns (ev_name ok rfl) ev_int hsz) ev_str (c := false) (by rw [g0]; exact cmp_neS)) ?_
  refine ex_assign ok (ev_of (ev_find (ev_name ok rfl) ev_str) (congrArg Dat.int g1)) rfl ?_
  refine ex_if_no (tr_of (tr_cmp (ev_name ok rfl) ev_int cmp_lt) (decide_eq_false (by (first | assumption | decide | exact Nat.le_trans (by assumption) (by decide) | exact Nat.le_trans (Nat.add_le_add (by assumption) (by assumption)) (by decide) | exact Nat.lt_of_le_of_lt (by assumption) (by decide) | exact Nat.lt_of_lt_of_le (by assumption) (by decide) | lia | omega)))) ?_
  refine ex_assign ok (ev_of (ev_find3 (ev_name ok rfl) ev_str (ev_add (ev_name ok rfl) ev_int)) (congrArg Dat.int g2)) rfl ?_
  refine ex_if_no (tr_of (tr_cmp (ev_name ok rfl) ev_int cmp_lt) (decide_eq_false (by (first | assumption | decide | exact Nat.le_trans (by assumption) (by decide) | exact Nat.le_trans (Nat.add_le_add (by assumption) (by assumption)) (by decide) | exact Nat.lt_of_le_of_lt (by assumption) (by decide) | exact Nat.lt_of_lt_of_le (by assumption) (by decide) | lia | omega)))) ?_
  refine ex_if_no (tr_of (tr_cmp (ev_itemS (ev_name ok rfl) (ev_add (ev_name ok rfl) ev_int) (by (first | assumption | decide | exact Nat.le_trans (by assumption) (by decide) | exact Nat.le_trans (Nat.add_le_add (by assumption) (by assumption)) (by decide) | exact Nat.lt_of_le_of_lt (by assumption) (by decide) | exact Nat.lt_of_lt_of_le (by assumption) (by decide) | lia | omega)) (by (first | assumption | decide | exact Nat.le_trans (by assumption) (by decide) | exact Nat.le_trans (Nat.add_le_add (by assumption) (by assumption)) (by decide) | exact Nat.lt_of_le_of_lt (by assumption) (by decide) | exact Nat.lt_of_lt_of_le (by assumption) (by decide) | lia | omega)) g3) (ev_itemS (ev_name ok rfl) (ev_sub (ev_name ok rfl) ev_int) (by (first | assumption | decide | exact Nat.le_trans (by assumption) (by decide) | exact Nat.le_trans (Nat.add_le_add (by assumption) (by assumption)) (by decide) | exact Nat.lt_of_le_of_lt (by assumption) (by decide) | exact Nat.lt_of_lt_of_le (by assumption) (by decide) | lia | omega)) (by (first | assumption | decide | exact Nat.le_trans (by assumption) (by decide) | exact Nat.le_trans (Nat.add_le_add (by assumption) (by assumption)) (by decide) | exact Nat.lt_of_le_of_lt (by assumption) (by decide) | exact Nat.lt_of_lt_of_le (by assumption) (by decide) | lia | omega)) g4) cmp_neS) (by simp)) ?_
  refine ex_assign ok (d := .list [.str (S []), .str (S HO), .str (S []), .str (S FD), .str (S [])]) (ev_of (ev_split (ev_of (ev_slice_ss (ev_name ok rfl) (ev_add (ev_name ok rfl) ev_int) (ev_name ok rfl) hsz) (congrArg Dat.str g5)) (ev_itemS (ev_name ok rfl) (ev_add (ev_name ok rfl) ev_int) (by (first | assumption | decide | exact Nat.le_trans (by assumption) (by decide) | exact Nat.le_trans (Nat.add_le_add (by assumption) (by assumption)) (by decide) | exact Nat.lt_of_le_of_lt (by assumption) (by decide) | exact Nat.lt_of_lt_of_le (by assumption) (by decide) | lia | omega)) (by (first | assumption | decide | exact Nat.le_trans (by assumption) (by decide) | exact Nat.le_trans (Nat.add_le_add (by assumption) (by assumption)) (by decide) | exact Nat.lt_of_le_of_lt (by assumption) (by decide) | exact Nat.lt_of_lt_of_le (by assumption) (by decide) | lia | omega)) g3) rfl (by rw [S_length, line_eq]; (first | assumption | decide | exact Nat.le_trans (by assumption) (by decide) | exact Nat.le_trans (Nat.add_le_add (by assumption) (by assumption)) (by decide) | exact Nat.lt_of_le_of_lt (by assumption) (by decide) | exact Nat.lt_of_lt_of_le (by assumption) (by decide) | lia | omega))) (by rw [g6]; rfl)) rfl ?_
  refine ex_if_no (tr_cmp (ev_lenL ok rfl (fun _ => rfl) (ev_name ok rfl) (by show 5 < 2 ^ 62; (first | assumption | decide | exact Nat.le_trans (by assumption) (by decide) | exact Nat.le_trans (Nat.add_le_add (by assumption) (by assumption)) (by decide) | exact Nat.lt_of_le_of_lt (by assumption) (by decide) | exact Nat.lt_of_lt_of_le (by assumption) (by decide) | lia | omega))) ev_int (c := false) cmp_ne) ?_
  refine ex_assign ok (ev_itemTN (a := 0) (ev_name ok rfl) ev_int rfl (by show 2 ≤ 100; (first | assumption | decide | exact Nat.le_trans (by assumption) (by decide) | exact Nat.le_trans (Nat.add_le_add (by assumption) (by assumption)) (by decide) | exact Nat.lt_of_le_of_lt (by assumption) (by decide) | exact Nat.lt_of_lt_of_le (by assumption) (by decide) | lia | omega))) rfl ?_
  refine ex_assign ok (ev_intS ok rfl (fun _ => rfl) (ev_itemL (a := 3) (ev_name ok rfl) ev_int (by decide) (by decide) rfl) hid (by rw [S_length]; (first | assumption | decide | exact Nat.le_trans (by assumption) (by decide) | exact Nat.le_trans (Nat.add_le_add (by assumption) (by assumption)) (by decide) | exact Nat.lt_of_le_of_lt (by assumption) (by decide) | exact Nat.lt_of_lt_of_le (by assumption) (by decide) | lia | omega))) rfl ?_
  exact ex_ret (ev_tuple ⟨ev_name ok rfl, rfl, ev_name ok rfl, rfl, trivial⟩ (by show 2 ≤ 100; (first | assumption | decide | exact Nat.le_trans (by assumption) (by decide) | exact Nat.le_trans (Nat.add_le_add (by assumption) (by assumption)) (by decide) | exact Nat.lt_of_le_of_lt (by assumption) (by decide) | exact Nat.lt_of_lt_of_le (by assumption) (by decide) | lia | omega)))
end Mine
end

section
open PySem PySem.W PyProof.Rows PySem.Calls
set_option maxRecDepth 100000
set_option linter.all false
set_option maxHeartbeats 800000
namespace Mine
noncomputable abbrev dots : List Nat := [46, 46, 46]
noncomputable def fits : List (List Nat) → List Nat → Bool
  | [], _ => true
  | w :: ws, r => match fnd w r with
    | none => false
    | some i => fits ws (r.drop (i + w.length))
noncomputable def ws1Of (ws : List (List Nat)) : List (List Nat) := if ws.headD [] = [] then ws else ws.tail
noncomputable def ws2Of (ws : List (List Nat)) : List (List Nat) := if ws.getLastD [] = [] then ws else ws.dropLast
noncomputable def ellV (w0 w1 : List Nat) (ws2 : List (List Nat)) (got : List Nat) : Bool :=
  w0.isPrefixOf got && (w1.isSuffixOf got && (decide (w0.length + w1.length ≤ got.length) && fits ws2 ((got.take (got.length - w1.length)).drop w0.length)))
noncomputable def ellW (ws : List (List Nat)) (got : List Nat) : Bool := ellV (ws.headD []) ((ws1Of ws).getLastD []) (ws2Of (ws1Of ws)) got
noncomputable def ellL (want got : List Nat) : Bool := if fnd dots want = none then decide (want = got) else ellW (cutL dots want) got

theorem cutL_two {y x : List Nat} (hy : 1 ≤ y.length) (h : fnd y x ≠ none) : ∃ a b r, cutL y x = a :: b :: r := by
  rcases fnd_spec y x with ⟨e, _⟩ | ⟨i, e, _⟩
  · exact absurd e h
  · rw [cutL_some hy e]
    cases hq : fnd y (x.drop (i + y.length)) with
    | none => rw [cutL_none hq]; exact ⟨_, _, _, rfl⟩
    | some j => rw [cutL_some hy hq]; exact ⟨_, _, _, rfl⟩
theorem cutF_len (y : List Nat) : ∀ (n : Nat) (x : List Nat), (cutF y n x).length ≤ n + 1
  | 0, _ => Nat.le_refl _
  | n + 1, x => by
    unfold cutF
    split
    · simp
    · simp only [List.length_cons]; exact Nat.succ_le_succ (cutF_len y n _)
theorem cutF_sizes (y : List Nat) : ∀ (n : Nat) (x : List Nat), ∀ p ∈ cutF y n x, p.length ≤ x.length
  | 0, x, p, hp => by rw [List.mem_singleton.mp hp]; exact Nat.le_refl _
  | n + 1, x, p, hp => by
    unfold cutF at hp
    split at hp
    · rw [List.mem_singleton.mp hp]; exact Nat.le_refl _
    · rcases List.mem_cons.mp hp with rfl | hp
      · rw [List.length_take]; (first | assumption | decide | exact Nat.le_trans (by assumption) (by decide) | exact Nat.le_trans (Nat.add_le_add (by assumption) (by assumption)) (by decide) | exact Nat.lt_of_le_of_lt (by assumption) (by decide) | exact Nat.lt_of_lt_of_le (by assumption) (by decide) | lia | omega)
      · have := cutF_sizes y n _ p hp
        rw [List.length_drop] at this; (first | assumption | decide | exact Nat.le_trans (by assumption) (by decide) | exact Nat.le_trans (Nat.add_le_add (by assumption) (by assumption)) (by decide) | exact Nat.lt_of_le_of_lt (by assumption) (by decide) | exact Nat.lt_of_lt_of_le (by assumption) (by decide) | lia | omega)

theorem fnEll (want got : List Nat) (hw : want.length ≤ 2000) (hg : got.length ≤ 2000) : Fn 1 21 [.str (S want), .str (S got)] (.bool (ellL want got)) := by
  refine fn_intro2 (fun _ => rfl) (fun _ => rfl) (fun _ _ => rfl) rfl rfl rfl (by decide) (by decide) rfl rfl rfl ?_
  intro w L Ar g opq keep os lvl gp ok cal hl
  have hsw : (S want).length ≤ sizeLine := by rw [S_length, line_eq]; (first | assumption | decide | exact Nat.le_trans (by assumption) (by decide) | exact Nat.le_trans (Nat.add_le_add (by assumption) (by assumption)) (by decide) | exact Nat.lt_of_le_of_lt (by assumption) (by decide) | exact Nat.lt_of_lt_of_le (by assumption) (by decide) | lia | omega)
  have hsg : (S got).length ≤ sizeLine := by rw [S_length, line_eq]; (first | assumption | decide | exact Nat.le_trans (by assumption) (by decide) | exact Nat.le_trans (Nat.add_le_add (by assumption) (by assumption)) (by decide) | exact Nat.lt_of_le_of_lt (by assumption) (by decide) | exact Nat.lt_of_lt_of_le (by assumption) (by decide) | lia | omega)
  have hdots : ("..." : Str) = S dots := rfl
  by_cases hf : fnd dots want = none
  · refine ex_if_yes (tr_of (tr_cmp (ev_globalS ok rfl (fun _ => rfl)) (ev_name ok rfl) cmp_ninS) (by rw [hdots, contains_S, hf]; rfl)) ?_
    refine ex_ret' (ev_cmp (ev_name ok rfl) (ev_name ok rfl) cmp_eqS) (by rw [S_beq]; unfold ellL; rw [if_pos hf]) fun v s st => retP st
  have hres : ellL want got = ellW (cutL dots want) got := if_neg hf
  rw [hres]
  obtain ⟨wa, wb, wr, hW⟩ := cutL_two (y := dots) (by decide) hf
  have hWl : (cutL dots want).length ≤ 2002 := by have := cutF_len dots (want.length + 1) want; unfold cutL; (first | assumption | decide | exact Nat.le_trans (by assumption) (by decide) | exact Nat.le_trans (Nat.add_le_add (by assumption) (by assumption)) (by decide) | exact Nat.lt_of_le_of_lt (by assumption) (by decide) | exact Nat.lt_of_lt_of_le (by assumption) (by decide) | lia | omega)
  have hWs : ∀ p ∈ cutL dots want, p.length ≤ 2000 := fun p hp => Nat.le_trans (cutF_sizes dots _ _ p hp) hw
  have hsplit := split_S want dots (by decide) (by decide)
  refine ex_if_no (tr_of (tr_cmp (ev_globalS ok rfl (fun _ => rfl)) (ev_name ok rfl) cmp_ninS) (by rw [hdots, contains_S]; cases h : fnd dots want with | none => exact absurd h hf | some _ => rfl)) ?_
  refine ex_assign_split ok (ev_name ok rfl) (ev_globalS ok rfl (fun _ => rfl)) rfl (by rw [S_length, line_eq]; (first | assumption | decide | exact Nat.le_trans (by assumption) (by decide) | exact Nat.le_trans (Nat.add_le_add (by assumption) (by assumption)) (by decide) | exact Nat.lt_of_le_of_lt (by assumption) (by decide) | exact Nat.lt_of_lt_of_le (by assumption) (by decide) | lia | omega)) rfl fun D l hl0 => ?_
  rw [hdots, hsplit] at hl0
  generalize hWW : cutL dots want = W at *
  subst hW
  have hll : l.length = wr.length + 2 := by have := congrArg List.length hl0; simpa using this
  have hsl : (strValues l).length = l.length := by unfold strValues; simp
  simp only [List.length_cons] at hWl
  refine ex_assert (tr_of (tr_cmp (ev_lenOwn ok rfl (fun _ => rfl) rfl (by (first | assumption | decide | exact Nat.le_trans (by assumption) (by decide) | exact Nat.le_trans (Nat.add_le_add (by assumption) (by assumption)) (by decide) | exact Nat.lt_of_le_of_lt (by assumption) (by decide) | exact Nat.lt_of_lt_of_le (by assumption) (by decide) | lia | omega))) ev_int cmp_ge) (decide_eq_true (by rw [hsl, hll]; push_cast; (first | assumption | decide | exact Nat.le_trans (by assumption) (by decide) | exact Nat.le_trans (Nat.add_le_add (by assumption) (by assumption)) (by decide) | exact Nat.lt_of_le_of_lt (by assumption) (by decide) | exact Nat.lt_of_lt_of_le (by assumption) (by decide) | lia | omega)))) ?_
  refine ex_pair_swapped ok (ev_tuple ⟨ev_int, rfl, ev_lenS ok rfl (fun _ => rfl) (ev_name ok rfl) hsg, rfl, trivial⟩ (by show 2 ≤ 100; (first | assumption | decide | exact Nat.le_trans (by assumption) (by decide) | exact Nat.le_trans (Nat.add_le_add (by assumption) (by assumption)) (by decide) | exact Nat.lt_of_le_of_lt (by assumption) (by decide) | exact Nat.lt_of_lt_of_le (by assumption) (by decide) | lia | omega))) rfl rfl ?_
  refine ex_assign ok (ev_ownS (j := 0) (y := S wa) ok rfl ev_int (by decide) (by decide) (seqN (a := 0) (by (first | assumption | decide | exact Nat.le_trans (by assumption) (by decide) | exact Nat.le_trans (Nat.add_le_add (by assumption) (by assumption)) (by decide) | exact Nat.lt_of_le_of_lt (by assumption) (by decide) | exact Nat.lt_of_lt_of_le (by assumption) (by decide) | lia | omega))) (by rw [hl0]; rfl)) rfl ?_
  have hg' : ((S got).length : Int) = (got.length : Nat) := by rw [S_length]
  have hWa := hWs wa (by simp)
  refine ex_mid (σ := Int × List (Str × Tok) × Nat) (fun a => [("ws", .raw (.ref D)), ("startpos", .dat (.int a.1)), ("endpos", .dat (.int (S got).length)), ("got", .dat (.str (S got)))]) (fun _ => []) (fun a => [(D, lstO (strValues a.2.1) a.2.2)])
    (fun a => a.1 = (wa.length : Nat) ∧ a.2.1.map (·.1) = (ws1Of (wa :: wb :: wr)).map S ∧ wa.isPrefixOf got = true) ?_ ?_
  · by_cases h0 : wa = []
    · subst h0
      refine ex_if_no (tr_of (tr_str (ev_name ok rfl) (by rw [S_length, line_eq]; (first | assumption | decide | exact Nat.le_trans (by assumption) (by decide) | exact Nat.le_trans (Nat.add_le_add (by assumption) (by assumption)) (by decide) | exact Nat.lt_of_le_of_lt (by assumption) (by decide) | exact Nat.lt_of_lt_of_le (by assumption) (by decide) | lia | omega))) rfl) ?_
      exact mid_end (0, l, 0) ⟨rfl, hl0, rfl⟩ (sub_of rfl) tmp_nil rfl
    · refine ex_if_yes (tr_of (tr_str (ev_name ok rfl) (by rw [S_length, line_eq]; (first | assumption | decide | exact Nat.le_trans (by assumption) (by decide) | exact Nat.le_trans (Nat.add_le_add (by assumption) (by assumption)) (by decide) | exact Nat.lt_of_le_of_lt (by assumption) (by decide) | exact Nat.lt_of_lt_of_le (by assumption) (by decide) | lia | omega))) (by rw [S_length]; cases wa with | nil => exact absurd rfl h0 | cons _ _ => rfl)) ?_
      cases hp : wa.isPrefixOf got with
      | false =>
        refine ex_if (tr_of (tr_bool (ev_startswith (ev_name ok rfl) (ev_name ok rfl))) ((startswith_S _ _).trans hp)) (fun q => by cases q) fun _ => ?_
        refine ex_ret' (d' := .bool (ellW (wa :: wb :: wr) got)) ev_bool (congrArg Dat.bool ?_) fun v s st => retP st
        unfold ellW ellV
        rw [show List.headD (wa :: wb :: wr) [] = wa from rfl, hp]; rfl
      | true =>
        refine ex_if (tr_of (tr_bool (ev_startswith (ev_name ok rfl) (ev_name ok rfl))) ((startswith_S _ _).trans hp)) (fun _ => ?_) fun q => by cases q
        refine ex_assign ok (ev_lenS ok rfl (fun _ => rfl) (ev_name ok rfl) (by rw [S_length, line_eq]; (first | assumption | decide | exact Nat.le_trans (by assumption) (by decide) | exact Nat.le_trans (Nat.add_le_add (by assumption) (by assumption)) (by decide) | exact Nat.lt_of_le_of_lt (by assumption) (by decide) | exact Nat.lt_of_lt_of_le (by assumption) (by decide) | lia | omega))) rfl ?_
        refine ex_del (j := 0) ok rfl ev_int (by decide) (by decide) (seqN (a := 0) (by (first | assumption | decide | exact Nat.le_trans (by assumption) (by decide) | exact Nat.le_trans (Nat.add_le_add (by assumption) (by assumption)) (by decide) | exact Nat.lt_of_le_of_lt (by assumption) (by decide) | exact Nat.lt_of_lt_of_le (by assumption) (by decide) | lia | omega))) (by rw [hsl, line_eq]; (first | assumption | decide | exact Nat.le_trans (by assumption) (by decide) | exact Nat.le_trans (Nat.add_le_add (by assumption) (by assumption)) (by decide) | exact Nat.lt_of_le_of_lt (by assumption) (by decide) | exact Nat.lt_of_lt_of_le (by assumption) (by decide) | lia | omega)) fun n' => ?_
        refine ex_end (ex_end (mid_end ((S wa).length, l.tail, n') ⟨by rw [S_length], ?_, rfl⟩ (sub_of rfl) tmp_nil (by cases l <;> rfl)))
        unfold ws1Of
        rw [if_neg (show ¬ List.headD (wa :: wb :: wr) [] = [] from h0), List.map_tail, hl0]; rfl
  rintro ⟨sp, l1, n1⟩ ⟨hsp, hl1, hp⟩
  dsimp only at hsp hl1
  subst hsp
  have hVne : ws1Of (wa :: wb :: wr) ≠ [] := by unfold ws1Of; split <;> simp
  have hVl : (ws1Of (wa :: wb :: wr)).length ≤ 2002 := by unfold ws1Of; split <;> simp <;> (first | assumption | decide | exact Nat.le_trans (by assumption) (by decide) | exact Nat.le_trans (Nat.add_le_add (by assumption) (by assumption)) (by decide) | exact Nat.lt_of_le_of_lt (by assumption) (by decide) | exact Nat.lt_of_lt_of_le (by assumption) (by decide) | lia | omega)
  have hVs : ∀ p ∈ ws1Of (wa :: wb :: wr), p.length ≤ 2000 := fun p hp => hWs p (by unfold ws1Of at hp; split at hp; exact hp; exact List.mem_of_mem_tail hp)
  have hE : ellW (wa :: wb :: wr) got = ellV wa ((ws1Of (wa :: wb :: wr)).getLastD []) (ws2Of (ws1Of (wa :: wb :: wr))) got := rfl
  rw [hE]
  clear hE hl0 hll hsl hres hsplit hWs
  generalize ws1Of (wa :: wb :: wr) = V at *
  have hll : l1.length = V.length := by have := congrArg List.length hl1; simpa using this
  have hsl : (strValues l1).length = l1.length := by unfold strValues; simp
  have hV1 : 1 ≤ V.length := List.length_pos_iff.mpr hVne
  have hlast : V[V.length - 1]? = some (V.getLastD []) := by
    rw [← List.getLast?_eq_getElem?, List.getLastD_eq_getLast?]
    cases h : V.getLast? with
    | none => exact absurd (List.getLast?_eq_none_iff.mp h) hVne
    | some _ => rfl
  have hw1 : (V.getLastD []).length ≤ 2000 := hVs _ (List.mem_of_getElem? hlast)
  have hix : seqIndex? (-1) l1.length = some (V.length - 1) := by
    rw [StrLaws.seqIndex_neg (by decide) (by (first | assumption | decide | exact Nat.le_trans (by assumption) (by decide) | exact Nat.le_trans (Nat.add_le_add (by assumption) (by assumption)) (by decide) | exact Nat.lt_of_le_of_lt (by assumption) (by decide) | exact Nat.lt_of_lt_of_le (by assumption) (by decide) | lia | omega))]
    congr 1; (first | assumption | decide | exact Nat.le_trans (by assumption) (by decide) | exact Nat.le_trans (Nat.add_le_add (by assumption) (by assumption)) (by decide) | exact Nat.lt_of_le_of_lt (by assumption) (by decide) | exact Nat.lt_of_lt_of_le (by assumption) (by decide) | lia | omega)
  refine ex_assign ok (ev_ownS (j := V.length - 1) (y := S (V.getLastD [])) ok rfl (ev_neg ev_int) (by decide) (by decide) hix (by rw [hl1, List.getElem?_map, hlast]; rfl)) rfl ?_
  generalize hw1e : V.getLastD [] = w1 at *
  refine ex_mid (σ := Int × List (Str × Tok) × Nat) (fun a => [("ws", .raw (.ref D)), ("startpos", .dat (.int (wa.length : Nat))), ("endpos", .dat (.int a.1)), ("got", .dat (.str (S got)))]) (fun _ => []) (fun a => [(D, lstO (strValues a.2.1) a.2.2)])
    (fun a => a.1 = (got.length : Nat) - (w1.length : Nat) ∧ a.2.1.map (·.1) = (ws2Of V).map S ∧ w1.isSuffixOf got = true) ?_ ?_
  · by_cases h0 : w1 = []
    · subst h0
      refine ex_if_no (tr_of (tr_str (ev_name ok rfl) (by rw [S_length, line_eq]; (first | assumption | decide | exact Nat.le_trans (by assumption) (by decide) | exact Nat.le_trans (Nat.add_le_add (by assumption) (by assumption)) (by decide) | exact Nat.lt_of_le_of_lt (by assumption) (by decide) | exact Nat.lt_of_lt_of_le (by assumption) (by decide) | lia | omega))) rfl) ?_
      exact mid_end ((S got).length, l1, n1) ⟨by rw [hg']; simp, by unfold ws2Of; rw [if_pos hw1e]; exact hl1, List.isSuffixOf_iff_suffix.mpr (List.nil_suffix)⟩ (sub_of rfl) tmp_nil rfl
    · refine ex_if_yes (tr_of (tr_str (ev_name ok rfl) (by rw [S_length, line_eq]; (first | assumption | decide | exact Nat.le_trans (by assumption) (by decide) | exact Nat.le_trans (Nat.add_le_add (by assumption) (by assumption)) (by decide) | exact Nat.lt_of_le_of_lt (by assumption) (by decide) | exact Nat.lt_of_lt_of_le (by assumption) (by decide) | lia | omega))) (by rw [S_length]; cases w1 with | nil => exact absurd rfl h0 | cons _ _ => rfl)) ?_
      cases hq : w1.isSuffixOf got with
      | false =>
        refine ex_if (tr_of (tr_bool (ev_endswith (ev_name ok rfl) (ev_name ok rfl))) ((endswith_S _ _).trans hq)) (fun q => by cases q) fun _ => ?_
        refine ex_ret' (d' := .bool (ellV wa w1 (ws2Of V) got)) ev_bool (congrArg Dat.bool ?_) fun v s st => retP st
        unfold ellV
        rw [hq, hp]; rfl
      | true =>
        refine ex_if (tr_of (tr_bool (ev_endswith (ev_name ok rfl) (ev_name ok rfl))) ((endswith_S _ _).trans hq)) (fun _ => ?_) fun q => by cases q
        refine ex_aug ok rfl rfl (ev_lenS ok rfl (fun _ => rfl) (ev_name ok rfl) (by rw [S_length, line_eq]; (first | assumption | decide | exact Nat.le_trans (by assumption) (by decide) | exact Nat.le_trans (Nat.add_le_add (by assumption) (by assumption)) (by decide) | exact Nat.lt_of_le_of_lt (by assumption) (by decide) | exact Nat.lt_of_lt_of_le (by assumption) (by decide) | lia | omega))) aug_sub ?_
        refine ex_del (j := V.length - 1) ok rfl (ev_neg ev_int) (by decide) (by decide) (by rw [hsl]; exact hix) (by rw [hsl, line_eq]; (first | assumption | decide | exact Nat.le_trans (by assumption) (by decide) | exact Nat.le_trans (Nat.add_le_add (by assumption) (by assumption)) (by decide) | exact Nat.lt_of_le_of_lt (by assumption) (by decide) | exact Nat.lt_of_lt_of_le (by assumption) (by decide) | lia | omega)) fun n' => ?_
        refine ex_end (ex_end (mid_end ((S got).length - (S w1).length, l1.dropLast, n') ⟨by rw [hg', S_length], ?_, rfl⟩ (sub_of rfl) tmp_nil ?_))
        · unfold ws2Of
          rw [if_neg (by rw [hw1e]; exact h0), List.map_dropLast, hl1, List.map_dropLast]
        · rw [← hll, ← hsl, List.eraseIdx_length_sub_one]
          unfold strValues
          rw [List.map_dropLast]
  rintro ⟨ep, l2, n2⟩ ⟨hep, hl2, hq⟩
  dsimp only at hep hl2
  subst hep
  have hw1g : w1.length ≤ got.length := (List.isSuffixOf_iff_suffix.mp hq).length_le
  have hE : ellV wa w1 (ws2Of V) got = (decide (wa.length + w1.length ≤ got.length) && fits (ws2Of V) ((got.take (got.length - w1.length)).drop wa.length)) := by unfold ellV; rw [hp, hq]; rfl
  rw [hE]
  clear hE
  have hVs2 : ∀ p ∈ ws2Of V, p.length ≤ 2000 := fun p hp => hVs p (by unfold ws2Of at hp; split at hp; exact hp; exact (List.dropLast_sublist V).mem hp)
  generalize ws2Of V = Z at *
  by_cases hfit : wa.length + w1.length ≤ got.length
  · refine ex_if_no (tr_of (tr_cmp (ev_name ok rfl) (ev_name ok rfl) cmp_gt) (decide_eq_false (by (first | assumption | decide | exact Nat.le_trans (by assumption) (by decide) | exact Nat.le_trans (Nat.add_le_add (by assumption) (by assumption)) (by decide) | exact Nat.lt_of_le_of_lt (by assumption) (by decide) | exact Nat.lt_of_lt_of_le (by assumption) (by decide) | lia | omega)))) ?_
    rw [decide_eq_true hfit, Bool.true_and]
    refine ex_freezeS ?_
    rw [hl2]
    have hep : ((got.length : Nat) - (w1.length : Nat) : Int) = ((got.length - w1.length : Nat) : Int) := by (first | assumption | decide | exact Nat.le_trans (by assumption) (by decide) | exact Nat.le_trans (Nat.add_le_add (by assumption) (by assumption)) (by decide) | exact Nat.lt_of_le_of_lt (by assumption) (by decide) | exact Nat.lt_of_lt_of_le (by assumption) (by decide) | lia | omega)
    rw [hep]
    generalize hEP : got.length - w1.length = EP
    have hEPg : EP ≤ got.length := by (first | assumption | decide | exact Nat.le_trans (by assumption) (by decide) | exact Nat.le_trans (Nat.add_le_add (by assumption) (by assumption)) (by decide) | exact Nat.lt_of_le_of_lt (by assumption) (by decide) | exact Nat.lt_of_lt_of_le (by assumption) (by decide) | lia | omega)
    have hZd : ((Z.map S).map Dat.str).length = Z.length := by simp
    refine ex_for (σ := Int) (fun a => [("startpos", .dat (.int a)), ("endpos", .dat (.int (EP : Nat))), ("got", .dat (.str (S got)))]) (fun _ => []) (fun _ => [])
      (fun i a => ∃ k : Nat, a = k ∧ k ≤ EP ∧ fits (Z.drop i) ((got.take EP).drop k) = fits Z ((got.take EP).drop wa.length)) (wa.length : Nat) ok (itb_list ok (ev_name ok rfl)) ⟨wa.length, rfl, by (first | assumption | decide | exact Nat.le_trans (by assumption) (by decide) | exact Nat.le_trans (Nat.add_le_add (by assumption) (by assumption)) (by decide) | exact Nat.lt_of_le_of_lt (by assumption) (by decide) | exact Nat.lt_of_lt_of_le (by assumption) (by decide) | lia | omega), rfl⟩ (sub_of rfl) tmp_nil rfl ?_ ?_
    · rintro i a d τ' I o P hd ⟨k, rfl, hk, hfk⟩ _ hP
      have hi : i < Z.length := by have := (List.getElem?_eq_some_iff.mp hd).1; (first | assumption | decide | exact Nat.le_trans (by assumption) (by decide) | exact Nat.le_trans (Nat.add_le_add (by assumption) (by assumption)) (by decide) | exact Nat.lt_of_le_of_lt (by assumption) (by decide) | exact Nat.lt_of_lt_of_le (by assumption) (by decide) | lia | omega)
      rw [List.getElem?_map, List.getElem?_map, List.getElem?_eq_getElem hi] at hd
      obtain rfl : Dat.str (S Z[i]) = d := Option.some.inj hd
      refine ⟨_, bnd_name ok rfl, ?_⟩
      have hz : Z.drop i = Z[i] :: Z.drop (i + 1) := List.drop_eq_getElem_cons hi
      have hzl : (Z[i]).length ≤ 2000 := hVs2 _ (List.getElem_mem hi)
      generalize Z[i] = z at *
      rw [hz] at hfk
      have hrl : ((got.take EP).drop k).length = EP - k := by rw [List.length_drop, List.length_take, Nat.min_eq_left hEPg]
      have hfind := findTo_S got z k EP hk hEPg
      refine ex_assign ok (ev_of (ev_find4 (ev_name ok rfl) (ev_name ok rfl) (ev_name ok rfl) (ev_name ok rfl)) (congrArg Dat.int hfind)) rfl ?_
      rcases fnd_spec z ((got.take EP).drop k) with ⟨e, _⟩ | ⟨j, e, hj, hpj, _⟩
      · rw [e]
        refine ex_if_yes (tr_of (tr_cmp (ev_name ok rfl) ev_int cmp_lt) rfl) ?_
        refine ex_ret' (d' := .bool (fits Z ((got.take EP).drop wa.length))) ev_bool (congrArg Dat.bool ?_) fun v s st => retP st
        rw [← hfk]; unfold fits; rw [e]
      · rw [e]
        have hjf := pre_fits hj hpj
        rw [hrl] at hjf
        refine ex_if_no (tr_of (tr_cmp (ev_name ok rfl) ev_int cmp_lt) (decide_eq_false (by show ¬ ((j + k : Nat) : Int) < 0; (first | assumption | decide | exact Nat.le_trans (by assumption) (by decide) | exact Nat.le_trans (Nat.add_le_add (by assumption) (by assumption)) (by decide) | exact Nat.lt_of_le_of_lt (by assumption) (by decide) | exact Nat.lt_of_lt_of_le (by assumption) (by decide) | lia | omega)))) ?_
        refine ex_aug ok rfl rfl (ev_lenS ok rfl (fun _ => rfl) (ev_name ok rfl) (by rw [S_length, line_eq]; (first | assumption | decide | exact Nat.le_trans (by assumption) (by decide) | exact Nat.le_trans (Nat.add_le_add (by assumption) (by assumption)) (by decide) | exact Nat.lt_of_le_of_lt (by assumption) (by decide) | exact Nat.lt_of_lt_of_le (by assumption) (by decide) | lia | omega))) aug_add ?_
        refine turn_end _ ⟨j + k + z.length, by show ((j + k : Nat) : Int) + ((S z).length : Int) = _; rw [S_length]; push_cast; rfl, by (first | assumption | decide | exact Nat.le_trans (by assumption) (by decide) | exact Nat.le_trans (Nat.add_le_add (by assumption) (by assumption)) (by decide) | exact Nat.lt_of_le_of_lt (by assumption) (by decide) | exact Nat.lt_of_lt_of_le (by assumption) (by decide) | lia | omega), ?_⟩ hP (sub_of rfl) (fun p hp => hp) rfl
        rw [← hfk]
        conv => rhs; unfold fits; rw [e]
        dsimp only
        rw [List.drop_drop, show k + (j + z.length) = j + k + z.length by (first | assumption | decide | exact Nat.le_trans (by assumption) (by decide) | exact Nat.le_trans (Nat.add_le_add (by assumption) (by assumption)) (by decide) | exact Nat.lt_of_le_of_lt (by assumption) (by decide) | exact Nat.lt_of_lt_of_le (by assumption) (by decide) | lia | omega)]
    · rintro a ⟨k, rfl, hk, hfk⟩
      rw [hZd, List.drop_length] at hfk
      refine ex_ret' ev_bool (congrArg Dat.bool hfk) fun v s st => retP st
  · refine ex_if_yes (tr_of (tr_cmp (ev_name ok rfl) (ev_name ok rfl) cmp_gt) (decide_eq_true (by (first | assumption | decide | exact Nat.le_trans (by assumption) (by decide) | exact Nat.le_trans (Nat.add_le_add (by assumption) (by assumption)) (by decide) | exact Nat.lt_of_le_of_lt (by assumption) (by decide) | exact Nat.lt_of_lt_of_le (by assumption) (by decide) | lia | omega)))) ?_
    refine ex_ret' ev_bool (congrArg Dat.bool ?_) fun v s st => retP st
    rw [decide_eq_false hfit]; rfl
end Mine
end

section
open PySem PySem.W PyProof.Rows PySem.Calls
set_option maxRecDepth 100000
set_option linter.all false
set_option maxHeartbeats 800000
namespace Mine
noncomputable def runFrom (t n : Nat) : Nat → List Nat → Nat → List Nat
  | 0, p, _ => p
  | f + 1, p, a => if p.contains a then p else runFrom t n f (a :: p) (a * t % n)
noncomputable def ringsOf (t n : Nat) : List Nat → List Nat → Nat → Nat
  | [], _, r => r
  | a :: as, p, r => ringsOf t n as (runFrom t n (n + 1) p a) (if p.contains a then r else r + 1)
noncomputable def oddL (t n : Nat) : Bool := ((n : Int) - (ringsOf t n (List.range n) [] 0 : Nat)).fmod 2 == 1
noncomputable def mem (p : List Nat) (k : Int) : Bool := p.any fun a => decide (k = (a : Int))
theorem mem_nat (p : List Nat) (a : Nat) : mem p (a : Int) = p.contains a := by
  rw [Bool.eq_iff_iff]
  simp only [mem, List.any_eq_true, decide_eq_true_eq, List.contains_iff_mem]
  exact ⟨fun ⟨b, hb, e⟩ => by have : a = b := by (first | assumption | decide | exact Nat.le_trans (by assumption) (by decide) | exact Nat.le_trans (Nat.add_le_add (by assumption) (by assumption)) (by decide) | exact Nat.lt_of_le_of_lt (by assumption) (by decide) | exact Nat.lt_of_lt_of_le (by assumption) (by decide) | lia | omega)
                              rw [this]; exact hb, fun h => ⟨a, h, rfl⟩⟩
theorem mem_cons (p : List Nat) (a : Nat) : (fun k' => mem p k' || decide (k' = (a : Int))) = mem (a :: p) := by
  funext k
  show (mem p k || _) = (decide (k = (a : Int)) || mem p k)
  exact Bool.or_comm _ _
noncomputable def cnt (q : Nat → Bool) : Nat → Nat
  | 0 => 0
  | n + 1 => cnt q n + (if q n then 1 else 0)
theorem cnt_same {q q' : Nat → Bool} : ∀ n, (∀ b, b < n → q b = q' b) → cnt q n = cnt q' n
  | 0, _ => rfl
  | n + 1, h => by
    unfold cnt
    rw [cnt_same n (fun b hb => h b (by (first | assumption | decide | exact Nat.le_trans (by assumption) (by decide) | exact Nat.le_trans (Nat.add_le_add (by assumption) (by assumption)) (by decide) | exact Nat.lt_of_le_of_lt (by assumption) (by decide) | exact Nat.lt_of_lt_of_le (by assumption) (by decide) | lia | omega))), h n (by (first | assumption | decide | exact Nat.le_trans (by assumption) (by decide) | exact Nat.le_trans (Nat.add_le_add (by assumption) (by assumption)) (by decide) | exact Nat.lt_of_le_of_lt (by assumption) (by decide) | exact Nat.lt_of_lt_of_le (by assumption) (by decide) | lia | omega))]
theorem cnt_less {q q' : Nat → Bool} {a : Nat} (hq : q a = true) (hq' : q' a = false) (hs : ∀ b, b ≠ a → q b = q' b) : ∀ n, a < n → cnt q' n + 1 = cnt q n
  | 0, h => absurd h (Nat.not_lt_zero _)
  | n + 1, h => by
    unfold cnt
    by_cases e : n = a
    · subst e
      rw [hq, hq', cnt_same n fun b hb => hs b (by (first | assumption | decide | exact Nat.le_trans (by assumption) (by decide) | exact Nat.le_trans (Nat.add_le_add (by assumption) (by assumption)) (by decide) | exact Nat.lt_of_le_of_lt (by assumption) (by decide) | exact Nat.lt_of_lt_of_le (by assumption) (by decide) | lia | omega))]; simp
    · rw [hs n e, ← cnt_less hq hq' hs n (by (first | assumption | decide | exact Nat.le_trans (by assumption) (by decide) | exact Nat.le_trans (Nat.add_le_add (by assumption) (by assumption)) (by decide) | exact Nat.lt_of_le_of_lt (by assumption) (by decide) | exact Nat.lt_of_lt_of_le (by assumption) (by decide) | lia | omega))]; (first | assumption | decide | exact Nat.le_trans (by assumption) (by decide) | exact Nat.le_trans (Nat.add_le_add (by assumption) (by assumption)) (by decide) | exact Nat.lt_of_le_of_lt (by assumption) (by decide) | exact Nat.lt_of_lt_of_le (by assumption) (by decide) | lia | omega)
theorem cnt_all {q : Nat → Bool} (h : ∀ b, q b = true) : ∀ n, cnt q n = n
  | 0 => rfl
  | n + 1 => by unfold cnt; rw [cnt_all h n, h n]; simp

theorem fnOdd (t n : Nat) (ht : t ≤ 1000) (hn1 : 1 ≤ n) (hn : n ≤ 1000) : Fn 1 107 [.int (t : Nat), .int (n : Nat)] (.bool (oddL t n)) := by
  have hsb : 1002 < scanBound := by decide
  refine fn_intro2 (fun _ => rfl) (fun _ => rfl) (fun _ _ => rfl) rfl rfl rfl (by decide) (by decide) rfl rfl rfl ?_
  intro w L Ar g opq keep os lvl gp ok cal hl
  refine ex_assign_set ok rfl (fun _ => rfl) rfl fun D so0 hso0 => ?_
  refine ex_assign ok ev_int rfl ?_
  refine ex_for (σ := List Nat × Nat × Obj) (fun a => [("passed", .raw (.ref D)), ("rings", .dat (.int (a.2.1 : Nat))), ("times", .dat (.int (t : Nat))), ("size", .dat (.int (n : Nat)))]) (fun _ => []) (fun a => [(D, a.2.2)])
    (fun i a => SetI w a.2.2 (mem a.1) a.1.length ∧ a.1.length + cnt (fun b => !a.1.contains b) n = n ∧ ringsOf t n ((List.range n).drop i) a.1 a.2.1 = ringsOf t n (List.range n) [] 0) ([], 0, so0)
    ok (itb_range ok rfl (fun _ => rfl) (ev_name ok rfl) (by (first | assumption | decide | exact Nat.le_trans (by assumption) (by decide) | exact Nat.le_trans (Nat.add_le_add (by assumption) (by assumption)) (by decide) | exact Nat.lt_of_le_of_lt (by assumption) (by decide) | exact Nat.lt_of_lt_of_le (by assumption) (by decide) | lia | omega)) (by (first | assumption | decide | exact Nat.le_trans (by assumption) (by decide) | exact Nat.le_trans (Nat.add_le_add (by assumption) (by assumption)) (by decide) | exact Nat.lt_of_le_of_lt (by assumption) (by decide) | exact Nat.lt_of_lt_of_le (by assumption) (by decide) | lia | omega))) ⟨hso0, (Nat.zero_add _).trans (cnt_all (q := fun b => !([] : List Nat).contains b) (fun _ => rfl) n), rfl⟩ (sub_of rfl) tmp_nil rfl ?_ ?_
  · rintro i ⟨p, r, so⟩ d τ' I o P hd ⟨hso, hc, hr⟩ _ hP
    obtain ⟨rfl, hi⟩ := intsFrom_get _ _ _ _ hd
    rw [Int.toNat_natCast] at hi
    dsimp only at hso hc hr
    have hdr : (List.range n).drop i = i :: (List.range n).drop (i + 1) := by
      rw [List.drop_eq_getElem_cons (by simpa using hi)]; simp
    rw [hdr] at hr
    rw [show (0 : Int) + (i : Nat) = (i : Nat) by (first | assumption | decide | exact Nat.le_trans (by assumption) (by decide) | exact Nat.le_trans (Nat.add_le_add (by assumption) (by assumption)) (by decide) | exact Nat.lt_of_le_of_lt (by assumption) (by decide) | exact Nat.lt_of_lt_of_le (by assumption) (by decide) | lia | omega)]
    refine ⟨_, bnd_name ok rfl, ?_⟩
    have hpl : p.length ≤ 1000 := by (first | assumption | decide | exact Nat.le_trans (by assumption) (by decide) | exact Nat.le_trans (Nat.add_le_add (by assumption) (by assumption)) (by decide) | exact Nat.lt_of_le_of_lt (by assumption) (by decide) | exact Nat.lt_of_lt_of_le (by assumption) (by decide) | lia | omega)
    refine ex_weak (ρ' := [("first", .dat (.int (i : Nat))), ("passed", .raw (.ref D)), ("rings", .dat (.int (r : Nat))), ("times", .dat (.int (t : Nat))), ("size", .dat (.int (n : Nat)))]) (τ' := τ') (μ' := [(D, so), (I, o)]) (fun s st => St.perm (st.env (sub_of rfl)) (List.Perm.swap _ _ _)) ?_
    refine ex_assign ok (ev_name ok rfl) rfl ?_
    refine ex_mid (σ := Unit) (fun _ => [("at", .dat (.int (i : Nat))), ("passed", .raw (.ref D)), ("rings", .dat (.int ((if p.contains i then r else r + 1 : Nat) : Int))), ("times", .dat (.int (t : Nat))), ("size", .dat (.int (n : Nat)))]) (fun _ => τ') (fun _ => [(D, so), (I, o)]) (fun _ => True) ?_ ?_
    · cases hm : p.contains i with
      | true =>
        refine ex_if_no (tr_of (tr_notinSet ok (ev_name ok rfl) rfl hso (by (first | assumption | decide | exact Nat.le_trans (by assumption) (by decide) | exact Nat.le_trans (Nat.add_le_add (by assumption) (by assumption)) (by decide) | exact Nat.lt_of_le_of_lt (by assumption) (by decide) | exact Nat.lt_of_lt_of_le (by assumption) (by decide) | lia | omega))) (by rw [mem_nat, hm]; rfl)) ?_
        exact mid_end () trivial (sub_of rfl) (fun _ h => h) rfl
      | false =>
        refine ex_if_yes (tr_of (tr_notinSet ok (ev_name ok rfl) rfl hso (by (first | assumption | decide | exact Nat.le_trans (by assumption) (by decide) | exact Nat.le_trans (Nat.add_le_add (by assumption) (by assumption)) (by decide) | exact Nat.lt_of_le_of_lt (by assumption) (by decide) | exact Nat.lt_of_lt_of_le (by assumption) (by decide) | lia | omega))) (by rw [mem_nat, hm]; rfl)) ?_
        refine ex_assign ok (ev_addN 1 (ev_name ok rfl) ev_int) rfl ?_
        exact ex_end (mid_end () trivial (sub_of rfl) (fun _ h => h) rfl)
    · intro _ _
      generalize hR : (if p.contains i then r else r + 1 : Nat) = r'
      refine ex_while (σ := List Nat × Nat × Obj) (fun a => [("at", .dat (.int (a.2.1 : Nat))), ("passed", .raw (.ref D)), ("rings", .dat (.int (r' : Nat))), ("times", .dat (.int (t : Nat))), ("size", .dat (.int (n : Nat)))]) (fun _ => τ') (fun a => [(D, a.2.2), (I, o)])
        (fun m a => SetI w a.2.2 (mem a.1) a.1.length ∧ a.1.length + cnt (fun b => !a.1.contains b) n = n ∧ m = cnt (fun b => !a.1.contains b) n ∧ a.2.1 < n ∧ ∃ f, m < f ∧ runFrom t n f a.1 a.2.1 = runFrom t n (n + 1) p i)
        (cnt (fun b => !p.contains b) n) (p, i, so) ⟨hso, hc, rfl, hi, n + 1, by (first | assumption | decide | exact Nat.le_trans (by assumption) (by decide) | exact Nat.le_trans (Nat.add_le_add (by assumption) (by assumption)) (by decide) | exact Nat.lt_of_le_of_lt (by assumption) (by decide) | exact Nat.lt_of_lt_of_le (by assumption) (by decide) | lia | omega), rfl⟩ (sub_of rfl) (fun _ h => h) rfl ?_
      rintro m ⟨q, a, sq⟩ ⟨hsq, hcq, rfl, ha, f, hf, hrun⟩
      dsimp only at hsq hcq ha hf hrun
      have hql : q.length ≤ 1000 := by (first | assumption | decide | exact Nat.le_trans (by assumption) (by decide) | exact Nat.le_trans (Nat.add_le_add (by assumption) (by assumption)) (by decide) | exact Nat.lt_of_le_of_lt (by assumption) (by decide) | exact Nat.lt_of_lt_of_le (by assumption) (by decide) | lia | omega)
      refine ⟨!q.contains a, tr_of (tr_notinSet ok (ev_name ok rfl) rfl hsq (by (first | assumption | decide | exact Nat.le_trans (by assumption) (by decide) | exact Nat.le_trans (Nat.add_le_add (by assumption) (by assumption)) (by decide) | exact Nat.lt_of_le_of_lt (by assumption) (by decide) | exact Nat.lt_of_lt_of_le (by assumption) (by decide) | lia | omega))) (by dsimp only; rw [mem_nat]), fun hb => ?_, fun hb => ?_⟩
      · have hna : q.contains a = false := by simpa using hb
        have hl := cnt_less (q := fun b => !q.contains b) (q' := fun b => !(a :: q).contains b) (a := a) (by show (!q.contains a) = true; rw [hna]; rfl) (by simp) (fun b hba => by simp [List.contains_cons, hba]) n ha
        obtain ⟨f, rfl⟩ : ∃ f', f = f' + 1 := ⟨f - 1, by (first | assumption | decide | exact Nat.le_trans (by assumption) (by decide) | exact Nat.le_trans (Nat.add_le_add (by assumption) (by assumption)) (by decide) | exact Nat.lt_of_le_of_lt (by assumption) (by decide) | exact Nat.lt_of_lt_of_le (by assumption) (by decide) | lia | omega)⟩
        refine ex_add ok (ev_name ok rfl) rfl hsq (by (first | assumption | decide | exact Nat.le_trans (by assumption) (by decide) | exact Nat.le_trans (Nat.add_le_add (by assumption) (by assumption)) (by decide) | exact Nat.lt_of_le_of_lt (by assumption) (by decide) | exact Nat.lt_of_lt_of_le (by assumption) (by decide) | lia | omega)) fun so' hso' => ?_
        rw [mem_nat, hna, mem_cons] at hso'
        refine ex_assign ok (ev_modN n (ev_mulN t (ev_name ok rfl) (ev_name ok rfl) (by dsimp only; (first | assumption | decide | exact Nat.le_trans (by assumption) (by decide) | exact Nat.le_trans (Nat.add_le_add (by assumption) (by assumption)) (by decide) | exact Nat.lt_of_le_of_lt (by assumption) (by decide) | exact Nat.lt_of_lt_of_le (by assumption) (by decide) | lia | omega))) (ev_name ok rfl) (by (first | assumption | decide | exact Nat.le_trans (by assumption) (by decide) | exact Nat.le_trans (Nat.add_le_add (by assumption) (by assumption)) (by decide) | exact Nat.lt_of_le_of_lt (by assumption) (by decide) | exact Nat.lt_of_lt_of_le (by assumption) (by decide) | lia | omega))) rfl ?_
        refine while_end (a :: q, a * t % n, so') ⟨cnt (fun b => !(a :: q).contains b) n, by dsimp only; (first | assumption | decide | exact Nat.le_trans (by assumption) (by decide) | exact Nat.le_trans (Nat.add_le_add (by assumption) (by assumption)) (by decide) | exact Nat.lt_of_le_of_lt (by assumption) (by decide) | exact Nat.lt_of_lt_of_le (by assumption) (by decide) | lia | omega), hso', by simp only [List.length_cons]; (first | assumption | decide | exact Nat.le_trans (by assumption) (by decide) | exact Nat.le_trans (Nat.add_le_add (by assumption) (by assumption)) (by decide) | exact Nat.lt_of_le_of_lt (by assumption) (by decide) | exact Nat.lt_of_lt_of_le (by assumption) (by decide) | lia | omega), rfl, Nat.mod_lt _ (by (first | assumption | decide | exact Nat.le_trans (by assumption) (by decide) | exact Nat.le_trans (Nat.add_le_add (by assumption) (by assumption)) (by decide) | exact Nat.lt_of_le_of_lt (by assumption) (by decide) | exact Nat.lt_of_lt_of_le (by assumption) (by decide) | lia | omega)), f, by (first | assumption | decide | exact Nat.le_trans (by assumption) (by decide) | exact Nat.le_trans (Nat.add_le_add (by assumption) (by assumption)) (by decide) | exact Nat.lt_of_le_of_lt (by assumption) (by decide) | exact Nat.lt_of_lt_of_le (by assumption) (by decide) | lia | omega), ?_⟩ (sub_of rfl) (fun _ h => h) rfl
        rw [← hrun]
        show runFrom t n f (a :: q) (a * t % n) = if q.contains a then q else runFrom t n f (a :: q) (a * t % n)
        rw [hna]; rfl
      · have hya : q.contains a = true := by simpa using hb
        obtain ⟨f, rfl⟩ : ∃ f', f = f' + 1 := ⟨f - 1, by (first | assumption | decide | exact Nat.le_trans (by assumption) (by decide) | exact Nat.le_trans (Nat.add_le_add (by assumption) (by assumption)) (by decide) | exact Nat.lt_of_le_of_lt (by assumption) (by decide) | exact Nat.lt_of_lt_of_le (by assumption) (by decide) | lia | omega)⟩
        have hq : q = runFrom t n (n + 1) p i := by
          rw [← hrun]
          show q = if q.contains a then q else runFrom t n f (a :: q) (a * t % n)
          rw [hya]; rfl
        refine ex_weak (ρ' := [("at", .dat (.int (a : Nat))), ("passed", .raw (.ref D)), ("rings", .dat (.int (r' : Nat))), ("times", .dat (.int (t : Nat))), ("size", .dat (.int (n : Nat)))]) (τ' := τ') (μ' := [(I, o), (D, sq)]) (fun s st => St.perm st (List.Perm.swap _ _ _)) ?_
        refine turn_end (q, r', sq) ⟨hsq, hcq, ?_⟩ hP (sub_of rfl) (fun p hp => hp) rfl
        rw [← hr]
        show ringsOf t n _ q r' = ringsOf t n _ (runFrom t n (n + 1) p i) (if p.contains i then r else r + 1)
        rw [hq, hR]
  · rintro ⟨p, r, so⟩ ⟨hso, hc, hr⟩
    rw [intsFrom_length, Int.toNat_natCast, show (List.range n).drop n = [] from List.drop_of_length_le (by simp)] at hr
    refine ex_ret' (ev_cmp (ev_mod (ev_sub (ev_name ok rfl) (ev_name ok rfl)) ev_int (by decide)) ev_int cmp_eq) (congrArg Dat.bool ?_) fun v s st => retP st
    unfold oddL
    rw [← hr]; rfl
end Mine
end

section
open PySem PySem.W PyProof.Rows PySem.Calls
open Sem (wp)
set_option maxRecDepth 100000
set_option linter.all false
namespace Mine

/-- a part of a generator's run, up to its next stop -/
structure Sg (M : Model) (A : Around) (Φ : End → Shared → Prop) (c : Code) (t : Sem Fin) (fs : List Frame) (s : Shared) : Prop where
  of ::
  run : ∀ Γ p, Γ.code = c → Γ.Woken A → ∃ e s', Runs M Γ p t fs s e s' ∧ Φ e s'

section
variable {M : Model} {A : Around} {Φ : End → Shared → Prop} {c : Code} {fs : List Frame} {s : Shared}

theorem sg_wrap {α : Type} {m : Sem α} {K : α → Sem Fin} {H : Value → Sem Fin} {gd lv}
    (h : wpAny M (A.over c fs) m (fun a s' => Sg M A Φ c (K a) fs s') (fun x s' => Sg M A Φ c (H x) fs s') s) : Sg M A Φ c (m.wrap K H gd lv) fs s := .of (by
  rintro Γ p rfl hΓ
  exact runs_wrap_of_wp K H gd lv m (h (Γ.over fs) p (hΓ.over fs)) (fun a p' s' h' => h'.run Γ p' rfl hΓ) (fun x p' s' h' => h'.run Γ p' rfl hΓ))
theorem sg_at {p' : Pos} {k : Unit → Sem Fin} (h : Sg M A Φ c (k ()) fs s) : Sg M A Φ c (.at p' k) fs s :=
  sg_wrap (m := standAt p') (K := k) (H := .raise) (gd := id) (lv := id) (wpAny_standAt h)
theorem sg_point {l : List Value} {k : Unit → Sem Fin} (h : Sg M A Φ c (k ()) fs s) : Sg M A Φ c (.point l k) fs s :=
  sg_wrap (m := point) (K := k) (H := .raise) (gd := id) (lv := fun _ => l) (wpAny_point h)
theorem sg_call {c' : Code} {h g l} {k : Result → Sem Fin} (hc : ∀ p, Sg M A Φ c' (M.den c') (.ret k h g l c p [] :: fs) s) : Sg M A Φ c (.call c' h g l k) fs s := .of (by
  rintro Γ p rfl hΓ
  obtain ⟨e, s', hr, he⟩ := (hc p).run (Γ.goto c') p rfl (hΓ.goto c')
  exact ⟨e, s', runs_call_seg hr, he⟩)
theorem sg_leaf {k h g l c₁ p₁ kp} (r : Result) (hk : Sg M A Φ c₁ (k r) fs s) : Sg M A Φ c (leafOf r) (.ret k h g l c₁ p₁ kp :: fs) s := .of (by
  rintro Γ p rfl hΓ
  obtain ⟨e, s', hr, he⟩ := hk.run (Γ.goto c₁) p₁ rfl (hΓ.goto c₁)
  exact ⟨e, s', Runs.pop r hr, he⟩)
theorem sg_again {c' : Code} (hq : c'.quiet = true) (hc : Sg M A Φ c' (M.den c') fs s) : Sg M A Φ c (.pure (.again c')) fs s := .of (by
  rintro Γ p rfl hΓ
  obtain ⟨e, s', hr, he⟩ := hc.run (Γ.goto c') p rfl (hΓ.goto c')
  exact ⟨e, s', Runs.head (c₁ := c') (fun _ _ x => .again hq x) hr, he⟩)
theorem sg_end (r : Result) (h : Φ (.ret r) s) : Sg M A Φ c (leafOf r) [] s := .of (by
  rintro Γ p rfl _
  exact ⟨.ret r, s, Runs.leaf r, h⟩)
theorem sg_yield {v g l} {k : Resume → Sem Fin} (hfs : splitAtGen fs = none) (h : ∀ p, Φ (.susp v g l k c p fs) s) : Sg M A Φ c (.yield v g l k) fs s := .of (by
  rintro Γ p rfl _
  exact ⟨_, s, Runs.yield' fs hfs, h p⟩)
end

/-- a generator may be woken -/
noncomputable def Goes (M : Model) (A : Around) (Φ : End → Shared → Prop) (gs : GenState) (s : Shared) : Prop := match gs with
  | .fresh c => Sg M A Φ c (M.den c) [] s
  | .suspended k _ c _ fs _ => Sg M A Φ c (k (.send .none)) fs s
  | _ => False

theorem wp_resume {M : Model} {A : Around} {Φ : End → Shared → Prop} {E : Value → Shared → Prop} {s : Shared} {g : Nat} {gs : GenState}
    {l : List Value} {α : Type} {k : GenResult → Sem α} {Q : α → Shared → Prop} (hg : s.gens[g]? = some gs)
    (hgo : Goes M A Φ gs (s.setGen g .running))
    (h : ∀ e s₁, Φ e s₁ → e.quiet = true ∧ wpAny M A (k e.result) Q E (s₁.setGen g e.genState)) :
    wpAny M A (.resume g (.send .none) l k) Q E s := by
  intro Γ p hΓ
  rw [Sem.wp_resume]
  have hB : ∀ c, (Γ.wake c p).Woken A := fun c => hΓ.wake c p
  cases gs with
  | fresh c =>
    obtain ⟨e₁, s₁, hr, he⟩ := hgo.run (Γ.wake c p) p rfl (hB c)
    exact ⟨_, _, by unfold Wakes; rw [hg]; exact ⟨e₁, s₁, hr, (h _ _ he).1, rfl, rfl⟩, (h _ _ he).2 Γ p hΓ⟩
  | suspended k₀ l₀ c₀ p₀ fs₀ cl =>
    obtain ⟨e₁, s₁, hr, he⟩ := hgo.run (Γ.wake c₀ p) p₀ rfl (hB c₀)
    exact ⟨_, _, by unfold Wakes; rw [hg]; exact ⟨e₁, s₁, hr, (h _ _ he).1, rfl, rfl⟩, (h _ _ he).2 Γ p hΓ⟩
  | running => exact hgo.elim
  | finished => exact hgo.elim

section
variable {prog : Program} {w : World} {A : Around} {E : Value → Shared → Prop} {s : Shared}
theorem wp_pyNext_gen {a : Addr} {g : Nat} {gs : GenState} {Φ : End → Shared → Prop} {Q : Option Value → Shared → Prop} (hh : A.handled = none)
    (hl : s.heap.NoLimit) (hroom : A.depth < recursionLimit) (hg : s.heap.IsGen a g) (hgs : s.gens[g]? = some gs)
    (hgo : Goes (model prog w) A.in1 Φ gs (s.setGen g .running))
    (h : ∀ e s₁, Φ e s₁ → e.quiet = true ∧ ((e = .ret (.ok (.ret .none)) ∧ ∀ h', (∀ b o, s₁.heap.get? b = some o → h'.get? b = some o) → Q none { s₁.setGen g .finished with heap := h' }) ∨
      (∃ v x l k c p fs, e = .susp v x l k c p fs ∧ Q (some v) (s₁.setGen g e.genState)))) :
    wpAny (model prog w) A (pyNext (.ref a)) Q E s := by
  unfold pyNext
  refine wpAny_bind (wpAny_attempt (wpAny_callSpecial?_slot (name := Str.ofString "__next__") hg.typeIs slot_gen_next
    (wpAny_call_entry slot_gen_next hg.typeIs entry_gen_next ?_ (args_gen_next _))))
  show wpAny _ A.in1 (Builtin.Generator.genWake (.ref a) (.send .none)) _ _ s
  unfold Builtin.Generator.genWake
  refine wpAny_bind (wpAny_holding (wpAny_genNumber hg (wpAny_bind (wpAny_genState hgs ?_))))
  cases gs with
  | running => exact hgo.elim
  | finished => exact hgo.elim
  | _ =>
    refine wpAny_bind (wpAny_roomToWake hl hroom ?_)
    show wpAny _ A.in1 (.resume g (.send .none) [] _) _ _ s
    refine wp_resume hgs hgo fun e s₁ he => ?_
    obtain ⟨hq, hr⟩ := h e s₁ he
    refine ⟨hq, ?_⟩
    rcases hr with ⟨rfl, hp⟩ | ⟨v, x, l, k, c, p, fs, rfl, hv⟩
    · show wpAny _ A.in1 (newExc (.type "StopIteration") [] >>= _) _ _ _
      refine wpAny_bind ?_
      simp only [newExc, newTuple]
      refine wpAny_bind (wpAny_newObj_type ?_ (by size_fits))
      refine wpAny_bind (m := firstArgMember _ _) (wpAny_of_eq (a := Value.none) (by first | rfl | (simp only [firstArgMember]; rfl)) ?_)
      refine wpAny_newObj_type ?_ (by size_fits)
      simp only [raiseNew]
      refine wpAny_bind (wpAny_bind (wpAny_handled ?_))
      first | rw [show A.in1.handled = none from hh] | rw [hh]
      refine wpAny_throw ?_
      refine wpAny_bind (wpAny_isInstance (T := "StopIteration") (b := true) ⟨_, Heap.get?_push_size _ rfl, rfl⟩ isSubtype_stop ?_)
      exact wpAny_pure (hp _ fun b o hb => Heap.get?_push_of_some _ (Heap.get?_push_of_some _ hb))
    · exact wpAny_pure ⟨v, rfl, wpAny_pure hv⟩
end

section
variable {M : Model} {A : Around} {Φ : End → Shared → Prop} {c : Code} {fs : List Frame} {s : Shared} {env : Env}
  {K : Flow → Sem Fin} {H : Value → Sem Fin} {gd : Bool → Bool} {lv : List Value → List Value}

theorem sg_nil (h : Sg M A Φ c (K .next) fs s) : Sg M A Φ c ((execs [] env).wrap K H gd lv) fs s := h
theorem sg_cons {st : Stmt} {rest : List Stmt}
    (h : Sg M A Φ c ((exec st env).wrap (fun f => match f with | .next => (execs rest env).wrap K H gd lv | f => K f) H gd lv) fs s) :
    Sg M A Φ c ((execs (st :: rest) env).wrap K H gd lv) fs s := by rw [execs_cons_wrap]; exact h
/-- a statement that runs through -/
theorem sg_one {st : Stmt} {rest : List Stmt}
    (h : ∀ E, wpAny M (A.over c fs) (exec st env) (fun f s' => f = .next ∧ Sg M A Φ c ((execs rest env).wrap K H gd lv) fs s') E s) :
    Sg M A Φ c ((execs (st :: rest) env).wrap K H gd lv) fs s := sg_cons (sg_wrap (wpAny_mono (h _) (fun f s' hf => by
      obtain ⟨rfl, hf⟩ := hf
      exact hf) fun _ _ x => x))
theorem sg_Yield {e : Expr} {rest : List Stmt} {ypos pos : Pos} (hfs : splitAtGen fs = none) (hgd : gd false = false) (hfg : fs.any Frame.guarded = false)
    (h : ∀ E, wpAny M (A.over c fs) (eval e env) (fun v s' => ∀ l k p, (∀ Φ' s'', Sg M A Φ' c ((execs rest env).wrap K H gd lv) fs s'' → Sg M A Φ' c (k (.send .none)) fs s'') → (End.susp v false l k c p fs).quiet = true → Φ (.susp v false l k c p fs) s') E s)
    (hco : env.scope.isCoroutine = false := by rfl) (hi : interactive env = false := by rfl) :
    Sg M A Φ c ((execs (.Expr (.Yield (some e) ypos) pos :: rest) env).wrap K H gd lv) fs s := by
  refine sg_cons ?_
  rw [exec_Expr env _ pos hi rfl]
  show Sg M A Φ c (.at pos fun _ => ((eval e env >>= fun v => (standAt ypos >>= fun _ => yieldOut env v)) >>= fun x =>
    dropValue (.Yield (some e) ypos) pos x).wrap _ H gd lv) fs s
  have hy : ∀ v, yieldOut env v = yieldValue v := fun v => by simp only [yieldOut, hco, Bool.false_eq_true, if_false]
  simp only [hy]
  refine sg_at ?_
  rw [Sem.bind_eq_wrap', Sem.bind_eq_wrap', Sem.wrap_wrap, Sem.wrap_wrap]
  refine sg_wrap (wpAny_mono (h _) (fun v s' h' => ?_) fun _ _ x => x)
  refine sg_at ?_
  refine sg_yield hfs fun p => ?_
  show Φ (.susp v (gd false) _ _ c p fs) s'
  rw [hgd]
  refine h' _ _ p ?_ ?_
  · exact fun Φ' s'' hx => hx
  · simp [End.quiet, hfg]
theorem sg_If {test : Expr} {body orelse rest : List Stmt} {pos : Pos}
    (h : ∀ E, wpAny M (A.over c fs) (isTrue test env (eval test env)) (fun b s' =>
      Sg M A Φ c ((execs (if b then body else orelse) env).wrap (fun f => match f with | .next => (execs rest env).wrap K H gd lv | f => K f) H gd lv) fs s') E s) :
    Sg M A Φ c ((execs (.If test body orelse pos :: rest) env).wrap K H gd lv) fs s := by
  refine sg_cons ?_
  rw [exec_If]
  refine sg_at ?_
  show Sg M A Φ c (Sem.wrap _ _ _ _ (isTrue test env (eval test env) >>= fun b => if b then execs body env else execs orelse env)) fs s
  rw [Sem.bind_eq_wrap', Sem.wrap_wrap]
  refine sg_wrap (wpAny_mono (h _) (fun b s' hb => ?_) fun _ _ x => x)
  cases b
  · exact hb
  · exact hb
end
end Mine
end

section
open PySem PySem.W PyProof.Rows PySem.Calls
open Sem (wp)
set_option maxRecDepth 100000
set_option linter.all false
namespace Mine

section
variable {M : Model} {A : Around} {Φ : End → Shared → Prop} {c : Code} {fs : List Frame} {s : Shared} {env : Env}
  {K : Flow → Sem Fin} {H : Value → Sem Fin} {gd : Bool → Bool} {lv : List Value → List Value}
theorem sg_For {target iter : Expr} {body rest : List Stmt} {pos : Pos} (hgd : gd false = false)
    (h : ∀ E, wpAny M (A.over c fs) (eval iter env) (fun x s₁ => wpAny M (A.over c fs) (pyIter x) (fun it s₂ =>
      ∀ k l p, (∀ Φ' s', Sg M A Φ' c ((execs rest env).wrap K H gd lv) fs s' → Sg M A Φ' c (k (.ok .next)) fs s') →
        Sg M A Φ (.forLoop target it body [] env) (M.den (.forLoop target it body [] env)) (.ret k none false l c p [] :: fs) s₂) E s₁) E s)
    (hs : ∀ x, foldedSetIterable iter env x = pure x := by intro _; rfl) :
    Sg M A Φ c ((execs (.For target iter body [] pos :: rest) env).wrap K H gd lv) fs s := by
  refine sg_cons ?_
  rw [exec_For]
  show Sg M A Φ c (Sem.wrap _ _ _ _ (standAt pos >>= fun _ => eval iter env >>= fun x => foldedSetIterable iter env x >>= fun x => standAt iter.pos >>= fun _ => holding [x] (pyIter x) >>= fun it => runOwn (.forLoop target it body [] env) env)) fs s
  rw [Sem.bind_eq_wrap', Sem.wrap_wrap]
  refine sg_wrap (wpAny_standAt ?_)
  rw [Sem.bind_eq_wrap', Sem.wrap_wrap]
  refine sg_wrap (wpAny_mono (h _) (fun x s₁ h₁ => ?_) fun _ _ q => q)
  rw [hs x]
  show Sg M A Φ c (Sem.wrap _ _ _ _ (standAt iter.pos >>= fun _ => holding [x] (pyIter x) >>= fun it => runOwn (.forLoop target it body [] env) env)) fs s₁
  rw [Sem.bind_eq_wrap', Sem.wrap_wrap]
  refine sg_wrap (wpAny_standAt ?_)
  rw [Sem.bind_eq_wrap', Sem.wrap_wrap]
  refine sg_wrap (wpAny_holding (wpAny_mono h₁ (fun it s₂ h₂ => ?_) fun _ _ q => q))
  refine sg_call fun p => ?_
  show Sg M A Φ _ _ (.ret _ none (gd false) _ c p [] :: fs) s₂
  rw [hgd]
  exact h₂ _ _ p fun Φ' s' hx => hx
end

section
variable {prog : Program} {w : World} {A : Around} {Φ : End → Shared → Prop} {fs : List Frame} {s : Shared} {env : Env}
theorem sg_forLoop {target : Expr} {it : Value} {body : List Stmt} {k : Result → Sem Fin} {l : List Value} {c : Code} {p : Pos}
    (h : ∀ E, wpAny (model prog w) (A.over (.forLoop target it body [] env) (.ret k none false l c p [] :: fs)) (pyNext it) (fun r s₁ => match r with
      | none => Sg (model prog w) A Φ c (k (.ok .next)) fs s₁
      | some v => wpAny (model prog w) (A.over (.forLoop target it body [] env) (.ret k none false l c p [] :: fs)) (letOwnedTupleGo target it v) (fun _ s₂ =>
        wpAny (model prog w) (A.over (.forLoop target it body [] env) (.ret k none false l c p [] :: fs)) (assign target env v) (fun _ s₃ =>
          ∀ H, Sg (model prog w) A Φ (.forLoop target it body [] env) ((execs body env).wrap (fun f => match f with
            | .next | .cont => .pure (.again (.forLoop target it body [] env))
            | .brk => .pure (.done .next)
            | .ret v => .pure (.done (.ret v))) H id id) (.ret k none false l c p [] :: fs) s₃) E s₂) E s₁) E s) :
    Sg (model prog w) A Φ (.forLoop target it body [] env) ((model prog w).den (.forLoop target it body [] env)) (.ret k none false l c p [] :: fs) s := by
  show Sg _ A Φ _ ((forTurn target it body [] env).onRaise (fun x => do noteFrame x env; theTreesLotGoes x)) _ s
  unfold forTurn
  rw [Sem.onRaise_eq_wrap, Sem.bind_eq_wrap', Sem.wrap_wrap]
  refine sg_wrap (wpAny_standAt ?_)
  rw [Sem.bind_eq_wrap', Sem.wrap_wrap]
  refine sg_wrap (wpAny_onRaise (wpAny_mono (h _) (fun r s₁ h₁ => ?_) fun _ _ q => wpAny_standAt q))
  cases r with
  | none =>
    refine sg_again rfl ?_
    exact sg_leaf (.ok .next) h₁
  | some v =>
    show Sg _ A Φ _ (Sem.wrap _ _ _ _ (letOwnedTupleGo target it v >>= fun _ => assign target env v >>= fun _ => execs body env >>= fun f => _)) _ s₁
    rw [Sem.bind_eq_wrap', Sem.wrap_wrap]
    refine sg_wrap (wpAny_mono h₁ (fun _ s₂ h₂ => ?_) fun _ _ q => q)
    rw [Sem.bind_eq_wrap', Sem.wrap_wrap]
    refine sg_wrap (wpAny_mono h₂ (fun _ s₃ h₃ => ?_) fun _ _ q => q)
    rw [Sem.bind_eq_wrap', Sem.wrap_wrap]
    rw [Sem.wrap_congr (execs body env) _ _ (K' := fun f => match f with
            | .next | .cont => .pure (.again (.forLoop target it body [] env))
            | .brk => .pure (.done .next)
            | .ret v => .pure (.done (.ret v)))
        (fun f => by cases f <;> rfl)
        (fun e => rfl)]
    exact h₃ _
theorem sg_func {body : List Stmt} (h : ∀ H, Sg (model prog w) A Φ (.func body env) ((execs body env).wrap (fun f => .pure (.done (.ret (match f with | .ret v => v | _ => .none)))) H id id) fs s) :
    Sg (model prog w) A Φ (.func body env) ((model prog w).den (.func body env)) fs s := by
  show Sg _ A Φ _ (.point [] fun _ => ((execs body env).onRaise (leaving env)) >>= _) fs s
  refine sg_point ?_
  rw [Sem.onRaise_eq_wrap, Sem.bind_eq_wrap', Sem.wrap_wrap]
  rw [Sem.wrap_congr (execs body env) _ _ (K' := fun f => .pure (.done (.ret (match f with | .ret v => v | _ => .none))))
    (fun f => by cases f <;> rfl)
    (fun e => rfl)]
  exact h _
end
end Mine
end

section
open PySem PySem.W PyProof.Rows PySem.Calls
open Sem (wp)
set_option maxRecDepth 100000
set_option linter.all false
namespace Mine

/-- own things turn into others, new data lie beside -/
structure Turn (own own' nd' : Mu) (s s' : Shared) : Prop where
  hk : ∀ b o, b ∉ own.map (·.1) → s.heap.get? b = some o → s'.heap.get? b = some o
  ho : ∀ p ∈ own' ++ nd', s'.heap.get? p.1 = some p.2
  hf : ∀ p ∈ own', p.1 ∈ own.map (·.1) ∨ s.heap.get? p.1 = none
  hn : ∀ p ∈ nd', p.1 ∈ own.map (·.1) ∨ s.heap.get? p.1 = none
  hd : ∀ p ∈ own', ∀ q ∈ nd', p.1 ≠ q.1
  nodup : (own'.map (·.1)).Nodup
  os : s'.os = s.os
  gens : AllBare s'.gens ∧ ∀ (i : Nat) (x : GenState), s.gens[i]? = some x → s'.gens[i]? = some x

theorem StW.turn {C : Cx} {ρ : AEnv} {τ : Tmp} {μ own own' nd nd' : Mu} {m : Str → Option Value} {s s' : Shared} (h : StW C ρ τ (own ++ μ) m nd s)
    (hk : ∀ b o, b ∉ own.map (·.1) → s.heap.get? b = some o → s'.heap.get? b = some o)
    (ho : ∀ p ∈ own' ++ nd', s'.heap.get? p.1 = some p.2)
    (hf : ∀ p ∈ own', p.1 ∈ own.map (·.1) ∨ s.heap.get? p.1 = none)
    (hn : ∀ p ∈ nd', p.1 ∈ own.map (·.1) ∨ s.heap.get? p.1 = none)
    (hd : ∀ p ∈ own', ∀ q ∈ nd', p.1 ≠ q.1)
    (hnd : (own'.map (·.1)).Nodup)
    (hos : s'.os = s.os) (hg : AllBare s'.gens ∧ ∀ p ∈ C.gp, s'.gens[p.1]? = some p.2) : StW C ρ τ (own' ++ μ) m (nd' ++ nd) s' := by
  obtain ⟨oL, es, ep, hL, hLr⟩ := h.F.ns
  have hown : ∀ p ∈ own, s.heap.get? p.1 = some p.2 ∧ p.1 ≠ C.env.locals ∧ C.h₀.get? p.1 = none := fun p hp => h.N p (List.mem_append.mpr (.inl (List.mem_append.mpr (.inl hp))))
  have hrest : ∀ p ∈ μ ++ (C.opq ++ nd), s.heap.get? p.1 = some p.2 ∧ p.1 ≠ C.env.locals ∧ C.h₀.get? p.1 = none ∧ p.1 ∉ own.map (·.1) := fun p hp => by
    have hp' : p ∈ (own ++ μ) ++ (C.opq ++ nd) := by
      rcases List.mem_append.mp hp with hp | hp
      · exact List.mem_append.mpr (.inl (List.mem_append.mpr (.inr hp)))
      · exact List.mem_append.mpr (.inr hp)
    have hN := h.N p hp'
    refine ⟨hN.1, hN.2.1, hN.2.2, fun hm => ?_⟩
    obtain ⟨q, hq, e⟩ := List.mem_map.mp hm
    rcases List.mem_append.mp hp with hp | hp
    · have := h.nodup
      rw [List.map_append, List.nodup_append] at this
      exact this.2.2 _ (List.mem_map_of_mem hq) _ (List.mem_map_of_mem hp) e
    · rcases List.mem_append.mp hp with hp | hp
      · exact h.dis q (List.mem_append.mpr (.inl hq)) p hp e
      · exact h.sep q (List.mem_append.mpr (.inl (List.mem_append.mpr (.inl hq)))) p hp e
  have hLo : C.env.locals ∉ own.map (·.1) := fun hm => by
    obtain ⟨q, hq, e⟩ := List.mem_map.mp hm
    exact (hown q hq).2.1 e
  have h0o : ∀ b o, C.h₀.get? b = some o → b ∉ own.map (·.1) := fun b o e hm => by
    obtain ⟨q, hq, rfl⟩ := List.mem_map.mp hm
    rw [(hown q hq).2.2] at e; cases e
  have hfresh : ∀ a : Addr, s.heap.get? a = none → a ≠ C.env.locals ∧ C.h₀.get? a = none ∧ ∀ p ∈ μ ++ (C.opq ++ nd), a ≠ p.1 := fun a ha => by
    refine ⟨fun e => ?_, ?_, fun p hp e => ?_⟩
    · rw [e, hL] at ha; cases ha
    · cases hq : C.h₀.get? a with
      | none => rfl
      | some o => rw [h.F.keep _ _ hq] at ha; cases ha
    · rw [e, (hrest p hp).1] at ha; cases ha
  have hany : ∀ p : Addr × Obj, (p.1 ∈ own.map (·.1) ∨ s.heap.get? p.1 = none) → p.1 ≠ C.env.locals ∧ C.h₀.get? p.1 = none ∧ ∀ q ∈ μ ++ (C.opq ++ nd), p.1 ≠ q.1 := fun p hp => by
    rcases hp with hm | ha
    · obtain ⟨q, hq, e⟩ := List.mem_map.mp hm
      rw [← e]
      exact ⟨(hown q hq).2.1, (hown q hq).2.2, fun r hr e' => (hrest r hr).2.2.2 (e' ▸ List.mem_map_of_mem hq)⟩
    · exact hfresh _ ha
  have hown' : ∀ p ∈ own', p.1 ≠ C.env.locals ∧ C.h₀.get? p.1 = none ∧ ∀ q ∈ μ ++ (C.opq ++ nd), p.1 ≠ q.1 := fun p hp => hany p (hf p hp)
  refine ⟨⟨⟨oL, es, ep, hk _ _ hLo hL, hLr⟩, fun b o e => hk b o (h0o b o e) (h.F.keep b o e), h.F.above⟩, fun p hp => ?_, fun p hp q hq => ?_, fun p hp q hq => ?_, ?_, fun p hp => List.mem_append.mpr (.inr (h.keep p hp)), hg,
    fun x a e => (h.vars x a e).mono fun p hp => List.mem_append.mpr (.inr hp), fun p hp => (h.tmps p hp).mono fun p hp => List.mem_append.mpr (.inr hp), hos.trans h.os⟩
  · have hcase : p ∈ own' ∨ p ∈ nd' ∨ p ∈ μ ++ (C.opq ++ nd) := by
      rcases List.mem_append.mp hp with hp | hp
      · rcases List.mem_append.mp hp with hp | hp
        · exact .inl hp
        · exact .inr (.inr (List.mem_append.mpr (.inl hp)))
      · rcases List.mem_append.mp hp with hp | hp
        · exact .inr (.inr (List.mem_append.mpr (.inr (List.mem_append.mpr (.inl hp)))))
        · rcases List.mem_append.mp hp with hp | hp
          · exact .inr (.inl hp)
          · exact .inr (.inr (List.mem_append.mpr (.inr (List.mem_append.mpr (.inr hp)))))
    rcases hcase with hp | hp | hp
    · exact ⟨ho p (List.mem_append.mpr (.inl hp)), (hown' p hp).1, (hown' p hp).2.1⟩
    · exact ⟨ho p (List.mem_append.mpr (.inr hp)), (hany p (hn p hp)).1, (hany p (hn p hp)).2.1⟩
    · have := hrest p hp
      exact ⟨hk _ _ this.2.2.2 this.1, this.2.1, this.2.2.1⟩
  · have hp1 : p ∈ own' ∨ p ∈ μ ++ C.opq := by
      rcases List.mem_append.mp hp with hp | hp
      · rcases List.mem_append.mp hp with hp | hp
        · exact .inl hp
        · exact .inr (List.mem_append.mpr (.inl hp))
      · exact .inr (List.mem_append.mpr (.inr hp))
    have hsub : ∀ p ∈ μ ++ C.opq, p ∈ μ ++ (C.opq ++ nd) := fun p hp => by
      rcases List.mem_append.mp hp with hp | hp
      · exact List.mem_append.mpr (.inl hp)
      · exact List.mem_append.mpr (.inr (List.mem_append.mpr (.inl hp)))
    rcases List.mem_append.mp hq with hq | hq
    · rcases hp1 with hp1 | hp1
      · exact hd p hp1 q hq
      · exact fun e => (hany q (hn q hq)).2.2 p (hsub p hp1) e.symm
    · rcases hp1 with hp1 | hp1
      · exact (hown' p hp1).2.2 q (List.mem_append.mpr (.inr (List.mem_append.mpr (.inr hq))))
      · refine h.sep p ?_ q hq
        rcases List.mem_append.mp hp1 with hp1 | hp1
        · exact List.mem_append.mpr (.inl (List.mem_append.mpr (.inr hp1)))
        · exact List.mem_append.mpr (.inr hp1)
  · rcases List.mem_append.mp hp with hp | hp
    · exact (hown' p hp).2.2 q (List.mem_append.mpr (.inr (List.mem_append.mpr (.inl hq))))
    · exact h.dis p (List.mem_append.mpr (.inr hp)) q hq
  · have h1 := h.nodup
    rw [List.map_append, List.nodup_append] at h1 ⊢
    refine ⟨hnd, h1.2.1, fun a ha b hb e => ?_⟩
    obtain ⟨p, hp, rfl⟩ := List.mem_map.mp ha
    obtain ⟨q, hq, rfl⟩ := List.mem_map.mp hb
    exact (hown' p hp).2.2 q (List.mem_append.mpr (.inl hq)) e

/-- a state in which a generator with its own things may be woken -/
structure Good (h₀ : Heap) (own : Mu) (s : Shared) : Prop where
  here : ∀ p ∈ own, s.heap.get? p.1 = some p.2 ∧ h₀.get? p.1 = none
  nodup : (own.map (·.1)).Nodup
  keep : ∀ b o, h₀.get? b = some o → s.heap.get? b = some o
  bare : AllBare s.gens

/-- a generator that is to hand out ds -/
noncomputable def GenReady (w : World) (A : Around) (h₀ : Heap) : List Dat → Mu → GenState → Prop
  | [] => fun own gs => ∀ s, Good h₀ own s → Goes (model P0 w) A (fun e s' => e = .ret (.ok (.ret .none)) ∧ Turn own [] [] s s') gs s
  | d :: ds => fun own gs => ∀ s, Good h₀ own s → Goes (model P0 w) A (fun e s' => ∃ v l k c p fs own' nd', e = .susp v false l k c p fs ∧ e.quiet = true ∧ DatIn nd' v d ∧ Turn own own' nd' s s' ∧
      GenReady w A h₀ ds own' e.genState) gs s

noncomputable def pin (C : Cx) (g : Nat) (gs : GenState) : Cx := { C with gp := (g, gs) :: C.gp }
theorem pin_ok {C : Cx} {g : Nat} {gs : GenState} (ok : C.Ok) : (pin C g gs).Ok := ⟨ok.kind, ok.glob, ok.blt, ok.hand, ok.dep, ok.uni, ok.K, ok.top⟩
theorem pin_cal {C : Cx} {g : Nat} {gs : GenState} (cal : C.Cal) : (pin C g gs).Cal := ⟨cal.below, cal.frame⟩
theorem St.unpin {C : Cx} {g : Nat} {gs : GenState} {ρ : AEnv} {τ : Tmp} {μ : Mu} {s : Shared} (h : St (pin C g gs) ρ τ μ s) : St C ρ τ μ s :=
  let ⟨m, nd, h⟩ := h; ⟨m, nd, h.F, h.N, h.sep, h.dis, h.nodup, h.keep, ⟨h.gens.1, fun p hp => h.gens.2 p (.tail _ hp)⟩, h.vars, h.tmps, h.os⟩

theorem bare_set {s : Shared} {g : Nat} {x : GenState} (h : AllBare s.gens) (hx : x.bare = true) : AllBare (s.setGen g x).gens := fun y hy => by
  simp only [Shared.setGen] at hy
  rcases Array.mem_or_eq_of_mem_setIfInBounds hy with h' | rfl
  · exact h _ h'
  · exact hx
theorem setGen_other {s : Shared} {g i : Nat} {x : GenState} (h : i ≠ g) : (s.setGen g x).gens[i]? = s.gens[i]? := by
  simp [Shared.setGen, Ne.symm h]

/-- the object of generator g -/
noncomputable def GenObj (og : Obj) (g : Nat) : Prop := ∃ nm qn, og.cls = .type "generator" ∧ og.data = .fields #[.int g 0, nm, qn] ∧ og.slots = #[]

section
variable {C : Cx} {ρ : AEnv} {τ : Tmp} {μ own : Mu} {s : Shared} {a : Addr} {og : Obj} {g : Nat} {gs : GenState} {d : Dat} {ds : List Dat} {E : Value → Shared → Prop} {Q : Option Value → Shared → Prop}

theorem good_of (st : St (pin C g gs) ρ τ ((a, og) :: (own ++ μ)) s) : Good C.h₀ own (s.setGen g .running) := by
  obtain ⟨m, nd, h⟩ := st
  refine ⟨fun p hp => ?_, ?_, h.F.keep, bare_set h.gens.1 rfl⟩
  · have := h.N p (List.mem_append.mpr (.inl (.tail _ (List.mem_append.mpr (.inl hp)))))
    exact ⟨this.1, this.2.2⟩
  · have := h.nodup
    rw [List.map_cons, List.nodup_cons, List.map_append, List.nodup_append] at this
    exact this.2.1

theorem nolimit_of (ok : C.Ok) (st : St C ρ τ μ s) : s.heap.NoLimit := by
  obtain ⟨m, nd, h⟩ := st
  obtain ⟨_, _, _, T⟩ := ok.top
  exact T.nolimit.keeps h.F.keep

theorem gen_turned {own' nd' : Mu} {s₁ : Shared} {gs' : GenState} (hfr : ∀ p ∈ C.gp, p.1 ≠ g) (hb : gs'.bare = true) {m : Str → Option Value} {nd : Mu} (h : StW (pin C g gs) ρ τ ((a, og) :: (own ++ μ)) m nd s) (t : Turn own own' nd' (s.setGen g .running) s₁) :
    StW (pin C g gs') ρ τ ((a, og) :: (own' ++ μ)) m (nd' ++ nd) (s₁.setGen g gs') := by
  have hg : s.gens[g]? = some gs := h.gens.2 (g, gs) (.head _)
  have h1 : StW C ρ τ (own ++ ((a, og) :: μ)) m nd s := by
    have hp : ((a, og) :: (own ++ μ)).Perm (own ++ ((a, og) :: μ)) := List.perm_middle.symm
    refine ⟨h.F, fun p hp' => h.N p ?_, fun p hp' => h.sep p ?_, fun p hp' => h.dis p (hp.mem_iff.mpr hp'), (hp.map _).nodup_iff.mp h.nodup, h.keep, ⟨h.gens.1, fun p hp => h.gens.2 p (.tail _ hp)⟩, h.vars, h.tmps, h.os⟩
    · rcases List.mem_append.mp hp' with hp' | hp'
      · exact List.mem_append.mpr (.inl (hp.mem_iff.mpr hp'))
      · exact List.mem_append.mpr (.inr hp')
    · rcases List.mem_append.mp hp' with hp' | hp'
      · exact List.mem_append.mpr (.inl (hp.mem_iff.mpr hp'))
      · exact List.mem_append.mpr (.inr hp')
  have hbare : AllBare (s₁.setGen g gs').gens := bare_set t.gens.1 hb
  have h2 : StW C ρ τ (own' ++ ((a, og) :: μ)) m (nd' ++ nd) (s₁.setGen g gs') := h1.turn (s' := s₁.setGen g gs') t.hk t.ho t.hf t.hn t.hd t.nodup t.os
    ⟨hbare, fun p hp => by
      rw [setGen_other (hfr p hp)]
      refine t.gens.2 _ _ ?_
      rw [setGen_other (hfr p hp)]
      exact h1.gens.2 p hp⟩
  have hp : (own' ++ ((a, og) :: μ)).Perm ((a, og) :: (own' ++ μ)) := List.perm_middle
  refine ⟨h2.F, fun p hp' => h2.N p ?_, fun p hp' => h2.sep p ?_, fun p hp' => h2.dis p (hp.mem_iff.mpr hp'), (hp.map _).nodup_iff.mp h2.nodup, h2.keep, ⟨hbare, fun p hp => ?_⟩, h2.vars, h2.tmps, h2.os⟩
  · rcases List.mem_append.mp hp' with hp' | hp'
    · exact List.mem_append.mpr (.inl (hp.mem_iff.mpr hp'))
    · exact List.mem_append.mpr (.inr hp')
  · rcases List.mem_append.mp hp' with hp' | hp'
    · exact List.mem_append.mpr (.inl (hp.mem_iff.mpr hp'))
    · exact List.mem_append.mpr (.inr hp')
  · rcases List.mem_cons.mp hp with rfl | hp
    · exact setGen_self (gs := .running) (t.gens.2 _ _ (setGen_self hg))
    · exact h2.gens.2 p hp

theorem gen_item (ok : C.Ok) (hog : GenObj og g) (hR : GenReady C.w C.A.in1 C.h₀ (d :: ds) own gs) (hfr : ∀ p ∈ C.gp, p.1 ≠ g)
    (st : St (pin C g gs) ρ τ ((a, og) :: (own ++ μ)) s)
    (hQ : ∀ v own' gs' s', GenReady C.w C.A.in1 C.h₀ ds own' gs' → St (pin C g gs') ρ ((v, d) :: τ) ((a, og) :: (own' ++ μ)) s' → Q (some v) s') :
    wpAny (model P0 C.w) C.A (pyNext (.ref a)) Q E s := by
  obtain ⟨nm, qn, hc, hd, hsl⟩ := hog
  have hg : s.gens[g]? = some gs := by obtain ⟨m, nd, h⟩ := st; exact h.gens.2 (g, gs) (.head _)
  refine wp_pyNext_gen ok.hand (nolimit_of (pin_ok ok) st) (by have := ok.dep; (first | assumption | decide | exact Nat.le_trans (by assumption) (by decide) | exact Nat.le_trans (Nat.add_le_add (by assumption) (by assumption)) (by decide) | exact Nat.lt_of_le_of_lt (by assumption) (by decide) | exact Nat.lt_of_lt_of_le (by assumption) (by decide) | lia | omega)) ⟨og, nm, qn, st.muGet (.head _), hc, hd, hsl⟩ hg (hR _ (good_of st)) fun e s₁ he => ?_
  obtain ⟨v, l, k, c, p, fs, own', nd', rfl, hq, hdat, ht, hR'⟩ := he
  refine ⟨hq, .inr ⟨v, false, l, k, c, p, fs, rfl, ?_⟩⟩
  obtain ⟨m, nd, h⟩ := st
  refine hQ v own' _ _ hR' ⟨m, nd' ++ nd, (gen_turned hfr (End.bare_of_quiet hq) h ht).push (hdat.mono fun p hp => List.mem_append.mpr (.inl hp))⟩

theorem gen_done (ok : C.Ok) (hog : GenObj og g) (hR : GenReady C.w C.A.in1 C.h₀ [] own gs) (hfr : ∀ p ∈ C.gp, p.1 ≠ g)
    (st : St (pin C g gs) ρ τ ((a, og) :: (own ++ μ)) s) (hQ : ∀ s', St C ρ τ μ s' → Q none s') : wpAny (model P0 C.w) C.A (pyNext (.ref a)) Q E s := by
  obtain ⟨nm, qn, hc, hd, hsl⟩ := hog
  have hg : s.gens[g]? = some gs := by obtain ⟨m, nd, h⟩ := st; exact h.gens.2 (g, gs) (.head _)
  refine wp_pyNext_gen ok.hand (nolimit_of (pin_ok ok) st) (by have := ok.dep; (first | assumption | decide | exact Nat.le_trans (by assumption) (by decide) | exact Nat.le_trans (Nat.add_le_add (by assumption) (by assumption)) (by decide) | exact Nat.lt_of_le_of_lt (by assumption) (by decide) | exact Nat.lt_of_lt_of_le (by assumption) (by decide) | lia | omega)) ⟨og, nm, qn, st.muGet (.head _), hc, hd, hsl⟩ hg (hR _ (good_of st)) fun e s₁ he => ?_
  obtain ⟨rfl, ht⟩ := he
  refine ⟨rfl, .inl ⟨rfl, fun h' hk => hQ _ ?_⟩⟩
  obtain ⟨m, nd, h⟩ := st
  have h2 := (gen_turned (gs' := .finished) hfr rfl h ht).st.unpin.drop
  obtain ⟨m', nd'', h3⟩ := h2
  exact ⟨m', nd'', h3.keeps hk s₁.toks⟩
end
end Mine
end

section
open PySem PySem.W PyProof.Rows PySem.Calls
open Sem (wp)
set_option maxRecDepth 100000
set_option linter.all false
set_option maxHeartbeats 800000
namespace Mine

noncomputable def others (h₀ : Heap) (own : Mu) (h : Heap) : Mu :=
  (List.range h.objs.size).filterMap fun b => if b ∈ own.map (·.1) ∨ (h₀.get? b).isSome then none else (h.get? b).map fun o => (b, o)
theorem mem_others {h₀ h : Heap} {own : Mu} {b : Addr} {o : Obj} : (b, o) ∈ others h₀ own h ↔ h.get? b = some o ∧ b ∉ own.map (·.1) ∧ h₀.get? b = none := by
  unfold others
  rw [List.mem_filterMap]
  constructor
  · rintro ⟨c, hc, e⟩
    split at e
    · cases e
    · rename_i hn
      cases hq : h.get? c with
      | none => rw [hq] at e; cases e
      | some o' =>
        rw [hq] at e
        simp only [Option.map_some, Option.some.injEq, Prod.mk.injEq] at e
        obtain ⟨rfl, rfl⟩ := e
        refine ⟨hq, fun hm => hn (.inl hm), ?_⟩
        cases hz : h₀.get? c with
        | none => rfl
        | some z => exact absurd (.inr (by rw [hz]; rfl)) hn
  · rintro ⟨h1, h2, h3⟩
    refine ⟨b, List.mem_range.mpr (Heap.lt_size h1), ?_⟩
    rw [if_neg (by rintro (h | h); exact h2 h; rw [h3] at h; cases h), h1]
    rfl
noncomputable def gensOf (s : Shared) : List (Nat × GenState) := (List.range s.gens.size).filterMap fun i => s.gens[i]?.map fun x => (i, x)
theorem mem_gensOf {s : Shared} {i : Nat} {x : GenState} : (i, x) ∈ gensOf s ↔ s.gens[i]? = some x := by
  unfold gensOf
  rw [List.mem_filterMap]
  constructor
  · rintro ⟨c, hc, e⟩
    cases hq : s.gens[c]? with
    | none => rw [hq] at e; cases e
    | some o' =>
      rw [hq] at e
      simp only [Option.map_some, Option.some.injEq, Prod.mk.injEq] at e
      obtain ⟨rfl, rfl⟩ := e
      exact hq
  · intro h
    obtain ⟨hi, _⟩ := Array.getElem?_eq_some_iff.mp h
    exact ⟨i, List.mem_range.mpr hi, by rw [h]; rfl⟩

/-- the frame of a generator that was woken at s₀ -/
noncomputable def gcx (w : World) (env : Env) (A : Around) (h₀ : Heap) (lvl : Nat) (own₀ : Mu) (s₀ : Shared) : Cx := ⟨w, env, A, h₀, others h₀ own₀ s₀.heap, [], s₀.os, lvl, gensOf s₀⟩

noncomputable def Phi (w : World) (A : Around) (h₀ : Heap) : List Dat → Mu → Shared → End → Shared → Prop
  | [] => fun own s e s' => e = .ret (.ok (.ret .none)) ∧ Turn own [] [] s s'
  | d :: ds => fun own s e s' => ∃ v l k c p fs own' nd', e = .susp v false l k c p fs ∧ e.quiet = true ∧ DatIn nd' v d ∧ Turn own own' nd' s s' ∧ GenReady w A h₀ ds own' e.genState
theorem genReady_iff {w : World} {A : Around} {h₀ : Heap} {ds : List Dat} {own : Mu} {gs : GenState} : GenReady w A h₀ ds own gs ↔ ∀ s, Good h₀ own s → Goes (model P0 w) A (Phi w A h₀ ds own s) gs s := by
  cases ds <;> exact Iff.rfl

section
variable {w : World} {env : Env} {A A₁ : Around} {h₀ : Heap} {lvl : Nat} {own₀ μ : Mu} {s₀ s : Shared} {ρ : AEnv} {τ : Tmp}

/-- a name list of ints and truths, all local -/
noncomputable def Scal (env : Env) (ρ : AEnv) : Prop := ∀ x a, ρ.lookup x = some a → env.kindOf x = some .local ∧ ((∃ i, a = .dat (.int i)) ∨ ∃ b, a = .dat (.bool b))

theorem gst {oL : Obj} {m : Str → Option Value} (hG : Good h₀ ((env.locals, oL) :: μ) s₀) (hN : s₀.heap.Ns env.locals m) (ha : h₀.objs.size ≤ env.locals) (hv : ∀ x a, ρ.lookup x = some a → VarIs env m [] x a) :
    St (gcx w env A h₀ lvl ((env.locals, oL) :: μ) s₀) ρ [] μ s₀ := by
  refine ⟨m, [], ⟨hN, hG.keep, ha⟩, fun p hp => ?_, (fun _ _ _ hq => nomatch hq), fun p hp q hq e => ?_, ?_, (fun _ hp => nomatch hp), ⟨hG.bare, fun p hp => mem_gensOf.mp hp⟩, hv, (fun _ hp => nomatch hp), rfl⟩
  · have hnd := hG.nodup
    rw [List.map_cons, List.nodup_cons] at hnd
    rcases List.mem_append.mp hp with hp | hp
    · have := hG.here p (.tail _ hp)
      exact ⟨this.1, fun e => hnd.1 (by have hm := List.mem_map_of_mem (f := (·.1)) hp; rw [show p.1 = env.locals from e] at hm; exact hm), this.2⟩
    · rw [List.append_nil] at hp
      obtain ⟨h1, h2, h3⟩ := mem_others.mp hp
      exact ⟨h1, fun e => h2 (by rw [e]; exact List.mem_cons_self ..), h3⟩
  · obtain ⟨_, h2, _⟩ := mem_others.mp hq
    exact h2 (e ▸ List.mem_cons_of_mem _ (List.mem_map_of_mem hp))
  · have hnd := hG.nodup
    rw [List.map_cons, List.nodup_cons] at hnd
    exact hnd.2

theorem g_kept {m : Str → Option Value} {nd : Mu} (hG : Good h₀ own₀ s₀) (st : StW (gcx w env A h₀ lvl own₀ s₀) ρ τ μ m nd s) : ∀ b o, b ∉ own₀.map (·.1) → s₀.heap.get? b = some o → s.heap.get? b = some o := fun b o hb e => by
  cases hz : h₀.get? b with
  | some z =>
    have := hG.keep _ _ hz
    rw [e] at this; cases this
    exact st.F.keep _ _ hz
  | none => exact (st.N (b, o) (List.mem_append.mpr (.inr (List.mem_append.mpr (.inl (mem_others.mpr ⟨e, hb, hz⟩)))))).1

theorem g_end (hG : Good h₀ own₀ s₀) (st : St (gcx w env A h₀ lvl own₀ s₀) ρ τ μ s) : Turn own₀ [] [] s₀ s := by
  obtain ⟨m, nd, st⟩ := st
  exact ⟨g_kept hG st, (fun _ hp => nomatch hp), (fun _ hp => nomatch hp), (fun _ hp => nomatch hp), (fun _ hp => nomatch hp), .nil, st.os, st.gens.1, fun i x e => st.gens.2 (i, x) (mem_gensOf.mpr e)⟩

theorem g_yield {v : Value} {d : Dat} (hG : Good h₀ own₀ s₀) {ρ' : AEnv} (hρ : ∀ x a, ρ'.lookup x = some a → ρ.lookup x = some a) (hs : Scal env ρ')
    (st : St (gcx w env A h₀ lvl own₀ s₀) ρ ((v, d) :: τ) μ s) : ∃ oL nd', Turn own₀ ((env.locals, oL) :: μ) nd' s₀ s ∧ DatIn nd' v d ∧
      ∀ s₂, Good h₀ ((env.locals, oL) :: μ) s₂ → St (gcx w env A₁ h₀ lvl ((env.locals, oL) :: μ) s₂) ρ' [] μ s₂ := by
  obtain ⟨m, nd, st⟩ := st
  obtain ⟨oL, es, ep, hL, hLr⟩ := st.F.ns
  have hown : ∀ a : Addr, h₀.get? a = none → (∀ q ∈ others h₀ own₀ s₀.heap, a ≠ q.1) → a ∈ own₀.map (·.1) ∨ s₀.heap.get? a = none := fun a h1 h2 => by
    by_cases hm : a ∈ own₀.map (·.1)
    · exact .inl hm
    · cases hz : s₀.heap.get? a with
      | none => exact .inr rfl
      | some o => exact absurd rfl (h2 (a, o) (mem_others.mpr ⟨hz, hm, h1⟩))
  refine ⟨oL, nd, ⟨g_kept hG st, fun p hp => ?_, fun p hp => ?_, fun p hp => ?_, fun p hp q hq => ?_, ?_, st.os, st.gens.1, fun i x e => st.gens.2 (i, x) (mem_gensOf.mpr e)⟩, st.tmps _ (.head _), fun s₂ hG₂ => ?_⟩
  · rcases List.mem_append.mp hp with hp | hp
    · rcases List.mem_cons.mp hp with rfl | hp
      · exact hL
      · exact (st.N p (List.mem_append.mpr (.inl hp))).1
    · exact (st.N p (List.mem_append.mpr (.inr (List.mem_append.mpr (.inr hp))))).1
  · rcases List.mem_cons.mp hp with rfl | hp
    · refine hown _ ?_ fun q hq => ?_
      · cases hz : h₀.get? env.locals with
        | none => rfl
        | some z => exact absurd (Heap.lt_size hz) (Nat.not_lt.mpr st.F.above)
      · exact fun e => (st.N q (List.mem_append.mpr (.inr (List.mem_append.mpr (.inl hq))))).2.1 e.symm
    · exact hown _ (st.N p (List.mem_append.mpr (.inl hp))).2.2 fun q hq => st.dis p hp q hq
  · have hN := st.N p (List.mem_append.mpr (.inr (List.mem_append.mpr (.inr hp))))
    exact hown p.1 hN.2.2 (fun q hq e => st.sep q (List.mem_append.mpr (.inr hq)) p hp e.symm)
  · rcases List.mem_cons.mp hp with rfl | hp
    · exact fun e => (st.N q (List.mem_append.mpr (.inr (List.mem_append.mpr (.inr hq))))).2.1 e.symm
    · exact st.sep p (List.mem_append.mpr (.inl hp)) q hq
  · rw [List.map_cons, List.nodup_cons]
    refine ⟨fun hm => ?_, st.nodup⟩
    obtain ⟨q, hq, e⟩ := List.mem_map.mp hm
    exact (st.N q (List.mem_append.mpr (.inl hq))).2.1 e
  · refine gst hG₂ (m := m) ⟨oL, es, ep, (hG₂.here _ (.head _)).1, hLr⟩ st.F.above fun x a e => ?_
    obtain ⟨hk, hsc⟩ := hs x a e
    have hv := st.vars x a (hρ x a e)
    refine .inl ⟨hk, ?_⟩
    rcases hv with ⟨_, hv⟩ | ⟨hk', _⟩
    · rcases hsc with ⟨i, rfl⟩ | ⟨b, rfl⟩
      · obtain ⟨v, e, i⟩ := hv
        cases i with | int i t => exact ⟨_, e, .int i t⟩
      · obtain ⟨v, e, i⟩ := hv
        cases i with | bool b => exact ⟨_, e, .bool b⟩
    · rcases hk' with hk' | hk' <;> (have := hk.symm.trans hk'; cases this)
end

section
variable {w : World} {env : Env} {A A₁ : Around} {h₀ : Heap} {lvl : Nat} {own₀ μ : Mu} {s₀ s : Shared} {ρ : AEnv} {c : Code} {fs : List Frame}
  {K : Flow → Sem Fin} {H : Value → Sem Fin} {gd : Bool → Bool} {lv : List Value → List Value}

/-- the generator hands one out -/
theorem sg_out {e : Expr} {rest : List Stmt} {ypos pos : Pos} {d : Dat} {ds : List Dat} (hfs : splitAtGen fs = none) (hgd : gd false = false) (hfg : fs.any Frame.guarded = false) 
    (st : St (gcx w env A₁ h₀ lvl own₀ s₀) ρ [] μ s) (hA : A.over c fs = A₁)
    (hG : Good h₀ own₀ s₀) {ρ' : AEnv} (hρ : ∀ x a, ρ'.lookup x = some a → ρ.lookup x = some a) (hs : Scal env ρ') (he : Ev (gcx w env A₁ h₀ lvl own₀ s₀) ρ μ e d)
    (next : ∀ oL s₂, Good h₀ ((env.locals, oL) :: μ) s₂ → St (gcx w env A₁ h₀ lvl ((env.locals, oL) :: μ) s₂) ρ' [] μ s₂ →
      Sg (model P0 w) A (Phi w A h₀ ds ((env.locals, oL) :: μ) s₂) c ((execs rest env).wrap K H gd lv) fs s₂)
    (hco : env.scope.isCoroutine = false := by rfl) (hi : interactive env = false := by rfl) :
    Sg (model P0 w) A (Phi w A h₀ (d :: ds) own₀ s₀) c ((execs (.Expr (.Yield (some e) ypos) pos :: rest) env).wrap K H gd lv) fs s := by
  refine sg_Yield hfs hgd hfg (fun E => ?_) hco hi
  rw [hA]
  refine he.run [] s _ E st fun v s' st' l k p hk hq => ?_
  obtain ⟨oL, nd', ht, hd, hnx⟩ := g_yield (A₁ := A₁) hG hρ hs st'
  refine ⟨v, l, k, c, p, fs, (env.locals, oL) :: μ, nd', rfl, hq, hd, ht, ?_⟩
  rw [genReady_iff]
  intro s₂ hG₂
  exact hk _ s₂ (next oL s₂ hG₂ (hnx s₂ hG₂))
/-- a plain statement -/
theorem sg_do {C : Cx} {ρ' : AEnv} {τ τ' : Tmp} {μ' : Mu} {Φ : End → Shared → Prop} {st₁ : Stmt} {rest : List Stmt} (st : St C ρ τ μ s) (hA : A.over c fs = C.A) (hE : C.env = env)
    (hx : Ex C ρ τ μ [st₁] (fun f s' => f = .next ∧ St C ρ' τ' μ' s')) (next : ∀ s', St C ρ' τ' μ' s' → Sg (model P0 C.w) A Φ c ((execs rest env).wrap K H gd lv) fs s') :
    Sg (model P0 C.w) A Φ c ((execs (st₁ :: rest) env).wrap K H gd lv) fs s := by
  refine sg_one fun E => ?_
  rw [hA, ← hE]
  have h := hx.run s E st
  intro Γ p hΓ
  have h' := h Γ p hΓ
  rw [execs_cons, Sem.wp_bind'] at h'
  refine Sem.wp_mono _ Γ _ (fun f p' s' q => ?_) (fun _ _ _ q => q) p s h'
  cases f
  · exact ⟨rfl, hE ▸ next s' q.2⟩
  all_goals exact absurd q.1 (by intro h; cases h)
theorem sg_if {C : Cx} {τ : Tmp} {Φ : End → Shared → Prop} {test : Expr} {body orelse rest : List Stmt} {pos : Pos} {b : Bool} (st : St C ρ τ μ s) (hA : A.over c fs = C.A) (hE : C.env = env) (ht : Tr C ρ μ test b)
    (h : ∀ s', St C ρ τ μ s' → Sg (model P0 C.w) A Φ c ((execs (if b then body else orelse) env).wrap (fun f => match f with | .next => (execs rest env).wrap K H gd lv | f => K f) H gd lv) fs s') :
    Sg (model P0 C.w) A Φ c ((execs (.If test body orelse pos :: rest) env).wrap K H gd lv) fs s := by
  refine sg_If fun E => ?_
  rw [hA, ← hE]
  exact ht.run τ s _ E st fun s' st' => hE ▸ h s' st'
end
end Mine
end

section
open PySem PySem.W PyProof.Rows PySem.Calls
open Sem (wp)
set_option maxRecDepth 100000
set_option linter.all false
set_option maxHeartbeats 800000
namespace Mine

/-- an enumerate of a str, its i-th turn ahead -/
noncomputable def enO (it : Addr) (i : Int) (old : Value) : Obj := { cls := .type "enumerate", dict := none, data := .fields #[.none, .bool false, .ref it, rawInt i, .none, old], slots := #[] }
noncomputable def EnP (it : Addr) (oe : Obj) (i : Nat) : Prop := ∃ old, oe = enO it i old
noncomputable def SiP (x : Str) (oi : Obj) (i : Nat) : Prop := ∃ t, oi.cls = .type (strIterType x) ∧ oi.data = .fields #[.str x t, .int i 0]

theorem draws_str {w : World} {A : Around} (hh : A.handled = none) (it : Addr) (x : Str) (t : Tok) :
    Draws P0 w A it [it] x.cps.size (fun i v => ∃ c u, x.cps[i]? = some c ∧ v = .str ⟨#[c]⟩ u) (fun i h => h.IsStrIter it (strIterType x) x t i) := by
  unfold strIterType
  split
  · exact Draws.strAscii hh it x t
  · exact Draws.strWide hh it x t

section
variable {C : Cx} {ρ : AEnv} {τ : Tmp} {μ : Mu} {s : Shared} {x : Str} {e it : Addr} {oe oi : Obj} {i ch : Nat}

theorem wp_enum_item {elts : List Expr} {k : Nat} {pos : Pos} {R : Shared → Prop} {Q : Value → Shared → Prop} {E : Value → Shared → Prop} (ok : C.Ok) (st : St C ρ τ ((e, oe) :: (it, oi) :: μ) s) (hoe : EnP it oe i) (hoi : SiP x oi i) (hx : x.cps[i]? = some ch)
    (hQ : ∀ oe' oi' v s', EnP it oe' (i + 1) → SiP x oi' (i + 1) → St C ρ ((v, .tuple [.int i, .str ⟨#[ch]⟩]) :: τ) ((e, oe') :: (it, oi') :: μ) s' → Q v s') :
    wpAny (model P0 C.w) C.A (pyNext (.ref e)) (fun r s₁ => match r with
      | none => R s₁
      | some v => wpAny (model P0 C.w) C.A (letOwnedTupleGo (.Tuple elts k pos) (.ref e) v) (fun _ s₂ => Q v s₂) E s₁) E s := by
  obtain ⟨old, rfl⟩ := hoe
  obtain ⟨t, hc, hd⟩ := hoi
  obtain ⟨m, nd, h⟩ := st
  have hnd := h.nodup
  simp only [List.map_cons, List.nodup_cons, List.mem_cons, not_or] at hnd
  have hei : e ≠ it := hnd.1.1
  have he := (h.N (e, _) (List.mem_append.mpr (.inl (.head _)))).1
  have hi := (h.N (it, _) (List.mem_append.mpr (.inl (.tail _ (.head _))))).1
  have hlt : i < x.cps.size := (Array.getElem?_eq_some_iff.mp hx).1
  refine wpAny_pyNext_enum_itemD (draws_str (w := C.w) (A := C.A.in1) ok.hand it x t) (e := e) (i := i) (old := old) he ⟨oi, hi, hc, hd⟩ hlt hei (fun hm => hei (List.mem_singleton.mp hm)) fun v h' tk hP hout hst htup hsz hk => ?_
  obtain ⟨c, u, hc', rfl⟩ := hP
  rw [hx] at hc'; cases hc'
  refine wpAny_letOwnedTupleGo_enum hout fun h'' hen hsb => ?_
  obtain ⟨oi', ho', hc1, hd1⟩ := hst
  have hel : e < s.heap.objs.size := Heap.lt_size he
  have hil : it < s.heap.objs.size := Heap.lt_size hi
  have hT : StW C ρ τ ([(e, enO it ((i : Int) + 1) (.str ⟨#[ch]⟩ u)), (it, oi')] ++ μ) m ([(s.heap.objs.size, { cls := .type "tuple", data := .seq #[.int i tk, .str ⟨#[ch]⟩ u] })] ++ nd) { s with heap := h'', toks := tk + 1 } :=
    StW.turn (own := [(e, enO it i old), (it, oi)]) h ?_ ?_ ?_ ?_ ?_ ?_ rfl h.gens
  exact hQ _ oi' _ _ ⟨_, rfl⟩ ⟨t, hc1, hd1⟩ ⟨m, _, hT.push (DatIn.tuple (List.Mem.head _) (.cons (.int _ _) (.cons (.str _ _) .nil)))⟩
  · intro b o hb hs
    simp only [List.map_cons, List.map_nil, List.mem_cons, List.not_mem_nil, or_false, not_or] at hb
    exact hsb.extBut b o hb.1 (hk b o hb.1 hb.2 hs)
  · intro p hp
    rcases List.mem_append.mp hp with hp | hp
    · rcases List.mem_cons.mp hp with rfl | hp
      · exact hen
      · rcases List.mem_cons.mp hp with rfl | hp
        · exact hsb.extBut _ _ (Ne.symm hei) ho'
        · cases hp
    · cases List.mem_singleton.mp hp
      exact hsb.extBut _ _ (Nat.ne_of_gt hel) htup
  · intro p hp
    rcases List.mem_cons.mp hp with rfl | hp
    · exact .inl (List.mem_cons_self ..)
    · rcases List.mem_cons.mp hp with rfl | hp
      · exact .inl (List.mem_cons_of_mem _ (List.mem_cons_self ..))
      · cases hp
  · intro p hp
    cases List.mem_singleton.mp hp
    exact .inr (Heap.get?_none_of_le (Nat.le_refl _))
  · intro p hp q hq
    cases List.mem_singleton.mp hq
    rcases List.mem_cons.mp hp with rfl | hp
    · exact Nat.ne_of_lt hel
    · rcases List.mem_cons.mp hp with rfl | hp
      · exact Nat.ne_of_lt hil
      · cases hp
  · simp only [List.map_cons, List.map_nil, List.nodup_cons, List.mem_cons, List.not_mem_nil, or_false, not_false_eq_true, List.nodup_nil, and_true]
    exact hei

theorem wp_enum_end {Q : Option Value → Shared → Prop} {E : Value → Shared → Prop} (ok : C.Ok) (st : St C ρ τ ((e, oe) :: (it, oi) :: μ) s) (hoe : EnP it oe x.cps.size) (hoi : SiP x oi x.cps.size) 
    (hQ : ∀ s', St C ρ τ ((e, oe) :: μ) s' → Q none s') : wpAny (model P0 C.w) C.A (pyNext (.ref e)) Q E s := by
  obtain ⟨old, rfl⟩ := hoe
  obtain ⟨t, hc, hd⟩ := hoi
  have he := st.muGet (.head _)
  have hi := st.muGet (.tail _ (.head _))
  refine wpAny_pyNext_enum_endD (draws_str (w := C.w) (A := C.A.in1) ok.hand it x t) he ⟨oi, hi, hc, hd⟩ fun h' hx => ?_
  exact hQ _ ((st.perm (List.Perm.swap ..)).gone hx s.toks)

/-- enumerate of a str -/
theorem wp_enum {ex : Expr} {np pos : Pos} {Q : Value → Shared → Prop} {E : Value → Shared → Prop} (ok : C.Ok) (hx : C.env.kindOf "enumerate" = some .globalImplicit) (hm : ∀ P, nsIn (wtop.heap_39 P) mainGlobals "enumerate" = some none) (st : St C ρ τ μ s) (hv : Ev C ρ μ ex (.str x))
    (hQ : ∀ e it oe oi s', EnP it oe 0 → SiP x oi 0 → St C ρ τ ((e, oe) :: (it, oi) :: μ) s' → Q (.ref e) s') (hse : starEach [ex] C.env = [(false, eval ex C.env)] := by rfl) :
    wpAny (model P0 C.w) C.A (eval (.Call (.Name "enumerate" np) [ex] [] pos) C.env) (fun x s₁ => wpAny (model P0 C.w) C.A (pyIter x) Q E s₁) E s := by
  refine Call_name1 hse (wp_name_builtin ok hx (hm _) (v := .type "enumerate") rfl st ?_)
  refine callWith_type1 (hv.run τ s _ E st fun v s₁ st₁ => ?_)
  obtain ⟨⟨t, rfl⟩, st₂⟩ := st₁.str
  refine call_enumerate_str fun h' he hit hsz hk => ?_
  refine wpAny_pyIter_enum he ?_
  obtain ⟨oi, hoi, hc, hd⟩ := hit
  obtain ⟨m, nd, h⟩ := st₂
  have hT : StW C ρ τ ([(s₁.heap.objs.size + 1, enO s₁.heap.objs.size 0 .none), (s₁.heap.objs.size, oi)] ++ μ) m ([] ++ nd) { s₁ with heap := h' } :=
    StW.turn (own := []) h (fun b o _ e => hk b o e) ?_ ?_ (fun _ hp => nomatch hp) (fun _ _ _ hq => nomatch hq) ?_ rfl h.gens
  exact hQ _ s₁.heap.objs.size _ oi _ ⟨_, rfl⟩ ⟨t, hc, hd⟩ ⟨m, _, hT⟩
  · intro p hp
    rw [List.append_nil] at hp
    rcases List.mem_cons.mp hp with rfl | hp
    · exact he
    · rcases List.mem_cons.mp hp with rfl | hp
      · exact hoi
      · cases hp
  · intro p hp
    rcases List.mem_cons.mp hp with rfl | hp
    · exact .inr (Heap.get?_none_of_le (Nat.le_succ _))
    · rcases List.mem_cons.mp hp with rfl | hp
      · exact .inr (Heap.get?_none_of_le (Nat.le_refl _))
      · cases hp
  · simp
end
end Mine
end

section
open PySem PySem.W PyProof.Rows PySem.Calls
open Sem (wp)
set_option maxRecDepth 100000
set_option linter.all false
set_option maxHeartbeats 800000
namespace Mine

theorem StW.pin {C : Cx} {ρ : AEnv} {τ : Tmp} {μ nd : Mu} {m : Str → Option Value} {s : Shared} {g : Nat} {gs : GenState} (h : StW C ρ τ μ m nd s) (e : s.gens[g]? = some gs) : StW (pin C g gs) ρ τ μ m nd s :=
  ⟨h.F, h.N, h.sep, h.dis, h.nodup, h.keep, ⟨h.gens.1, fun p hp => by
    rcases List.mem_cons.mp hp with rfl | hp
    · exact e
    · exact h.gens.2 p hp⟩, h.vars, h.tmps, h.os⟩
theorem St.around {w : World} {env : Env} {A₁ A₂ : Around} {h₀ : Heap} {lvl : Nat} {own₀ μ : Mu} {s₀ s : Shared} {ρ : AEnv} {τ : Tmp} (h : St (gcx w env A₁ h₀ lvl own₀ s₀) ρ τ μ s) : St (gcx w env A₂ h₀ lvl own₀ s₀) ρ τ μ s :=
  let ⟨m, nd, h⟩ := h; ⟨m, nd, h.F, h.N, h.sep, h.dis, h.nodup, h.keep, h.gens, h.vars, h.tmps, h.os⟩

/-- a for over the signs of a text, inside a generator; its i esc: what is still to come from the i-th sign on -/
theorem sg_chars {w : World} {env : Env} {A A₂ : Around} {h₀ : Heap} {lvl : Nat} {x : List Nat} {e it : Addr} {elts : List Expr} {kk : Nat} {tpos : Pos} {body : List Stmt} {k : Result → Sem Fin} {l : List Value} {c₀ : Code} {p : Pos} (its : Nat → Bool → List Dat)
    (hA : A.over (.forLoop (.Tuple elts kk tpos) (.ref e) body [] env) [.ret k none false l c₀ p []] = A₂)
    (ok : ∀ own s, (gcx w env A₂ h₀ lvl own s).Ok)
    (bnd : ∀ own s ρ d₁ d₂, Bnd (gcx w env A₂ h₀ lvl own s) ρ (.Tuple elts kk tpos) (.tuple [d₁, d₂]) (("ch", .dat d₂) :: ("pos", .dat d₁) :: ρ))
    (turn : ∀ (i c : Nat) (esc : Bool), x[i]? = some c →
      (∀ esc' own₀ s₀ s oe oi, Good h₀ own₀ s₀ → EnP it oe (i + 1) → SiP (S x) oi (i + 1) → St (gcx w env A₂ h₀ lvl own₀ s₀) [("pos", .dat (.int i)), ("escape", .dat (.bool esc'))] [] [(e, oe), (it, oi)] s →
        Sg (model P0 w) A (Phi w A h₀ (its (i + 1) esc') own₀ s₀) (.forLoop (.Tuple elts kk tpos) (.ref e) body [] env) (.pure (.again (.forLoop (.Tuple elts kk tpos) (.ref e) body [] env))) [.ret k none false l c₀ p []] s) →
      ∀ own₀ s₀ s oe oi H, Good h₀ own₀ s₀ → EnP it oe (i + 1) → SiP (S x) oi (i + 1) → St (gcx w env A₂ h₀ lvl own₀ s₀) [("ch", .dat (.str (S [c]))), ("pos", .dat (.int i)), ("escape", .dat (.bool esc))] [] [(e, oe), (it, oi)] s →
        Sg (model P0 w) A (Phi w A h₀ (its i esc) own₀ s₀) (.forLoop (.Tuple elts kk tpos) (.ref e) body [] env) ((execs body env).wrap (fun f => match f with
            | .next | .cont => .pure (.again (.forLoop (.Tuple elts kk tpos) (.ref e) body [] env))
            | .brk => .pure (.done .next)
            | .ret v => .pure (.done (.ret v))) H id id) [.ret k none false l c₀ p []] s)
    (done : ∀ esc own₀ s₀ s oe, Good h₀ own₀ s₀ → St (gcx w env A₂ h₀ lvl own₀ s₀) [("pos", .dat (.int (x.length - 1 : Nat))), ("escape", .dat (.bool esc))] [] [(e, oe)] s →
      Sg (model P0 w) A (Phi w A h₀ (its x.length esc) own₀ s₀) c₀ (k (.ok .next)) [] s) :
    ∀ (n i : Nat) (esc : Bool) (own₀ : Mu) (s₀ s : Shared) (oe oi : Obj), n = x.length - i → i ≤ x.length → Good h₀ own₀ s₀ → EnP it oe i → SiP (S x) oi i → St (gcx w env A₂ h₀ lvl own₀ s₀) [("pos", .dat (.int (i - 1 : Nat))), ("escape", .dat (.bool esc))] [] [(e, oe), (it, oi)] s →
      Sg (model P0 w) A (Phi w A h₀ (its i esc) own₀ s₀) (.forLoop (.Tuple elts kk tpos) (.ref e) body [] env) ((model P0 w).den (.forLoop (.Tuple elts kk tpos) (.ref e) body [] env)) [.ret k none false l c₀ p []] s := by
  have hsz : (S x).cps.size = x.length := by show x.toArray.size = _; simp
  intro n
  induction n with
  | zero =>
    intro i esc own₀ s₀ s oe oi hn hi hG hoe hoi st
    have hin : i = x.length := by (first | assumption | decide | exact Nat.le_trans (by assumption) (by decide) | exact Nat.le_trans (Nat.add_le_add (by assumption) (by assumption)) (by decide) | exact Nat.lt_of_le_of_lt (by assumption) (by decide) | exact Nat.lt_of_lt_of_le (by assumption) (by decide) | lia | omega)
    subst hin
    refine sg_forLoop fun E => ?_
    rw [hA]
    refine wp_enum_end (C := gcx w env A₂ h₀ lvl own₀ s₀) (ok _ _) (x := S x) st (hsz ▸ hoe) (hsz ▸ hoi) fun s' st' => ?_
    exact done esc own₀ s₀ s' oe hG st'
  | succ n ih =>
    intro i esc own₀ s₀ s oe oi hn hi hG hoe hoi st
    have hlt : i < x.length := by (first | assumption | decide | exact Nat.le_trans (by assumption) (by decide) | exact Nat.le_trans (Nat.add_le_add (by assumption) (by assumption)) (by decide) | exact Nat.lt_of_le_of_lt (by assumption) (by decide) | exact Nat.lt_of_lt_of_le (by assumption) (by decide) | lia | omega)
    refine sg_forLoop fun E => ?_
    rw [hA]
    have hx : (S x).cps[i]? = some x[i] := by show x.toArray[i]? = _; simp [hlt]
    have hx' : x[i]? = some x[i] := by simp [hlt]
    refine wp_enum_item (C := gcx w env A₂ h₀ lvl own₀ s₀) (ok _ _) st hoe hoi hx fun oe' oi' v s' hoe' hoi' st' => ?_
    refine (bnd own₀ s₀ _ _ _).run [] _ v s' _ _ st' fun s₃ st₃ H => ?_
    refine turn i x[i] esc hx' (fun esc' own₁ s₁ s₂ oe₂ oi₂ hG₁ hoe₂ hoi₂ st₂ => ?_) own₀ s₀ s₃ oe' oi' H hG hoe' hoi' (st₃.env (sub_of rfl))
    refine sg_again rfl ?_
    exact ih (i + 1) esc' own₁ s₁ s₂ oe₂ oi₂ (by (first | assumption | decide | exact Nat.le_trans (by assumption) (by decide) | exact Nat.le_trans (Nat.add_le_add (by assumption) (by assumption)) (by decide) | exact Nat.lt_of_le_of_lt (by assumption) (by decide) | exact Nat.lt_of_lt_of_le (by assumption) (by decide) | lia | omega)) hlt hG₁ hoe₂ hoi₂ st₂

theorem over_func {A : Around} {body : List Stmt} {env : Env} : (A.over (.func body env) []).handled = A.handled ∧ (A.over (.func body env) []).depth = A.depth + 1 ∧ (A.over (.func body env) []).units = A.units + 3 := ⟨rfl, rfl, rfl⟩
theorem over_loop {A : Around} {body fb : List Stmt} {env fe : Env} {t : Expr} {v : Value} {k : Result → Sem Fin} {l : List Value} {p : Pos} (h : A.handled = none) : (A.over (.forLoop t v body [] env) [.ret k none false l (.func fb fe) p []]).handled = none ∧ (A.over (.forLoop t v body [] env) [.ret k none false l (.func fb fe) p []]).depth = A.depth + 1 ∧
    (A.over (.forLoop t v body [] env) [.ret k none false l (.func fb fe) p []]).units = A.units + 3 := ⟨by simp [Around.over, marksOver, Frame.marks, markOver, h], rfl, rfl⟩

/-- a call of a generator hands back a generator -/
structure Gn (k : Nat) (f : Addr) (ds items : List Dat) : Prop where
  of ::
  run : ∀ (C : Cx) (ρ : AEnv) (τ : Tmp) (μ : Mu) (s : Shared) (Q : Value → Shared → Prop) (E : Value → Shared → Prop) (vs : List Value), C.Ok → k ≤ C.lvl → AllIn τ vs ds → St C ρ τ μ s →
    (∀ a og g gs own s', GenObj og g → GenReady C.w C.A.in1 C.h₀ items own gs → (∀ p ∈ C.gp, p.1 ≠ g) → St (pin C g gs) ρ τ ((a, og) :: (own ++ μ)) s' → Q (.ref a) s') → wpAny (model P0 C.w) C.A (call (.ref f) vs) Q E s

theorem gn_intro1 {k : Nat} {f : Addr} {x₀ : Str} {items : List Dat} {name qual x : Str} {params : Arguments} {body : List Stmt} {scope : Scope} {dV kV doc pm cdv ct oc : Value} {an od : Option Addr} {osl : Array (Option Value)}
    (ho : ∀ P, List.lookup f (wtop.heap_39 P) = some ⟨oc, od, .func (fnOf name qual params body scope dV kV doc pm an cdv ct), osl⟩) (hcd : ∀ P, codeIn (wtop.heap_39 P) cdv qual = true)
    (hbind : ∀ u, bindArgs (fnOf name qual params body scope dV kV doc pm an cdv ct) ⟨[u], []⟩ = pure [(x, u)])
    (hx : scope.names.lookup x = some .local) (hk : 1 ≤ k) (hcell : ∀ x ∈ scope.names, x.2 ≠ .cell) (hco : scope.isCoroutine = false := by rfl) (hgen : scope.isGenerator = true := by rfl) (hkind : scope.kind = .function := by rfl)
    (h : ∀ (w : World) (A : Around) (h₀ : Heap) (lvl : Nat) (L : Addr) (t : Tok), A.handled = none → A.depth + 8 + (lvl + 1) < recursionLimit → A.units + 63 + 8 * (lvl + 1) < cLine → (wtop.heap_39 w.params).In h₀ → (∃ mean mg mb, Top wtop.view_39 (looseW wtop.view_39 []) mean mg mb h₀) → h₀.objs.size ≤ L →
      ∀ oL s₀, Good h₀ [(L, oL)] s₀ → (∀ A₁, St (gcx w (envOf qual scope L f cdv) A₁ h₀ lvl [(L, oL)] s₀) [(x, .dat (.str x₀))] [] [] s₀) →
        Sg (model P0 w) A (Phi w A h₀ items [(L, oL)] s₀) (.func body (envOf qual scope L f cdv)) ((model P0 w).den (.func body (envOf qual scope L f cdv))) [] s₀) : Gn k f [.str x₀] items := by
  refine .of fun C ρ τ μ s Q E vs ok hlvl hall st hQ => ?_
  obtain ⟨u, rfl⟩ := one_of hall.length
  have hmem := hall.1
  obtain ⟨m, nd, st⟩ := st
  obtain ⟨mean, mg, mb, T⟩ := ok.top
  have hu : ∃ t, u = .str x₀ t := by
    have := st.tmps _ hmem
    cases this with | str _ t => exact ⟨t, rfl⟩
  obtain ⟨t, rfl⟩ := hu
  have hX := ok.K.keeps st.F.keep
  refine PySem.wpAny_call (codeAny_call_generator (fd := fnOf name qual params body scope dV kV doc pm an cdv ct) (body := body) (by have := ok.dep; (first | assumption | decide | exact Nat.le_trans (by assumption) (by decide) | exact Nat.le_trans (Nat.add_le_add (by assumption) (by assumption)) (by decide) | exact Nat.lt_of_le_of_lt (by assumption) (by decide) | exact Nat.lt_of_lt_of_le (by assumption) (by decide) | lia | omega)) (hX _ _ (ho _)) rfl hco hgen rfl (codeRec_of hX (hcd _)) ?_)
  rw [hbind]
  refine wpAny_pure (wpAny_newFunctionEnv hcell (fun y hy => by cases List.mem_singleton.mp hy; exact hx) (fun h' hns hsb => ⟨T.nolimit.keeps fun b o e => hsb.extBut b o (Nat.ne_of_lt (Heap.lt_size (st.F.keep b o e))) (Heap.get?_push_of_some _ (st.F.keep b o e)), ?_⟩) hkind)
  obtain ⟨oL, es, ep, hL, hLr⟩ := hns
  have hsz : h'.objs.size = s.heap.objs.size + 1 := by rw [hsb.1, Heap.size_push]
  have up : ∀ b o, s.heap.get? b = some o → h'.get? b = some o := fun b o e => hsb.extBut b o (Nat.ne_of_lt (Heap.lt_size e)) (Heap.get?_push_of_some _ e)
  have hLs : C.env.locals < s.heap.objs.size := st.F.ns.lt
  have hab := st.F.above
  have hT : StW C ρ τ ([(h'.objs.size, { cls := .type "generator", data := .fields #[.int s.gens.size 0, .str name (s.toks + 1), .str qual (s.toks + 1 + 1)] }), (s.heap.objs.size, oL)] ++ μ) m ([] ++ nd)
      { s with gens := s.gens.push (.fresh (.func body (envOf qual scope s.heap.objs.size f cdv))), toks := s.toks + 1 + 1 + 1, heap := h'.push { cls := .type "generator", data := .fields #[.int s.gens.size 0, .str name (s.toks + 1), .str qual (s.toks + 1 + 1)] } } := by
    refine StW.turn (own := []) st (fun b o _ e => Heap.get?_push_of_some _ (up b o e)) (fun p hp => ?_) (fun p hp => ?_) (fun _ hp => nomatch hp) (fun _ _ _ hq => nomatch hq) ?_ rfl ⟨st.gens.1.push rfl, fun p hp => ?_⟩
    · rw [List.append_nil] at hp
      rcases List.mem_cons.mp hp with rfl | hp
      · exact Heap.get?_push_size _ rfl
      · cases List.mem_singleton.mp hp
        exact Heap.get?_push_of_some _ hL
    · rcases List.mem_cons.mp hp with rfl | hp
      · exact .inr (Heap.get?_none_of_le (by rw [hsz]; exact Nat.le_succ _))
      · cases List.mem_singleton.mp hp
        exact .inr (Heap.get?_none_of_le (Nat.le_refl _))
    · simp [hsz]
    · have := st.gens.2 p hp
      obtain ⟨hi, e⟩ := Array.getElem?_eq_some_iff.mp this
      simp [Array.getElem?_push, Nat.ne_of_lt hi, this]
  refine hQ h'.objs.size _ s.gens.size (.fresh (.func body (envOf qual scope s.heap.objs.size f cdv))) [(s.heap.objs.size, oL)] _ ⟨_, _, rfl, rfl, rfl⟩ ?_ (fun p hp e => ?_) ⟨m, _, hT.pin (by simp)⟩
  · rw [genReady_iff]
    intro s₀ hG
    have := ok.dep
    have := ok.uni
    have h1 : 1 ≤ C.lvl := Nat.le_trans hk hlvl
    refine h C.w C.A.in1 C.h₀ (C.lvl - 1) s.heap.objs.size t ok.hand (by show C.A.depth + 8 + (C.lvl - 1 + 1) < _; (first | assumption | decide | exact Nat.le_trans (by assumption) (by decide) | exact Nat.le_trans (Nat.add_le_add (by assumption) (by assumption)) (by decide) | exact Nat.lt_of_le_of_lt (by assumption) (by decide) | exact Nat.lt_of_lt_of_le (by assumption) (by decide) | lia | omega)) (by show C.A.units + 1 + 63 + 8 * (C.lvl - 1 + 1) < _; (first | assumption | decide | exact Nat.le_trans (by assumption) (by decide) | exact Nat.le_trans (Nat.add_le_add (by assumption) (by assumption)) (by decide) | exact Nat.lt_of_le_of_lt (by assumption) (by decide) | exact Nat.lt_of_lt_of_le (by assumption) (by decide) | lia | omega)) ok.K ok.top (Nat.le_trans hab (Nat.le_of_lt hLs)) oL s₀ hG fun A₁ => ?_
    refine gst (env := envOf qual scope s.heap.objs.size f cdv) hG ⟨oL, es, ep, (hG.here _ (.head _)).1, hLr⟩ (Nat.le_trans hab (Nat.le_of_lt hLs)) fun y a e => ?_
    rw [List.lookup_cons] at e
    split at e
    · rename_i q
      cases e
      obtain rfl := eq_of_beq q
      exact .inl ⟨by simp [Env.kindOf, envOf, hx], _, by simp, .str x₀ t⟩
    · cases e
  · have := st.gens.2 p hp
    rw [e, Array.getElem?_eq_none (Nat.le_refl _)] at this
    cases this
end Mine
end

section
open PySem PySem.W PyProof.Rows PySem.Calls
open Sem (wp)
set_option maxRecDepth 100000
set_option linter.all false
set_option maxHeartbeats 800000
namespace Mine
/-- what _iter_escaped_chars tells of a text -/
noncomputable def escP : List Nat → Nat → Bool → List (Nat × List Nat)
  | [], i, esc => if esc then [(i - 1, [92])] else []
  | c :: cs, i, esc => if esc then (i, [92, c]) :: escP cs (i + 1) false else if c = 92 then escP cs (i + 1) true else (i, [c]) :: escP cs (i + 1) false
noncomputable def itD (p : Nat × List Nat) : Dat := .tuple [.int p.1, .str (S p.2)]
noncomputable abbrev its (x : List Nat) (i : Nat) (esc : Bool) : List Dat := (escP (x.drop i) i esc).map itD
theorem its_some {x : List Nat} {i c : Nat} (h : x[i]? = some c) : x.drop i = c :: x.drop (i + 1) := by
  obtain ⟨hi, e⟩ := List.getElem?_eq_some_iff.mp h
  rw [List.drop_eq_getElem_cons hi, e]

theorem gcx_ok {w : World} {A : Around} {h₀ : Heap} {lvl : Nat} {A₂ : Around} {own : Mu} {s : Shared} {qual : Str} {scope : Scope} {L f : Addr} {cd : Value} (hk : scope.kind = .function) (hh : A₂.handled = none) (hd : A₂.depth + 8 + lvl < recursionLimit) (hu : A₂.units + 64 + 8 * lvl < cLine) (hK : (wtop.heap_39 w.params).In h₀)
    (hT : ∃ mean mg mb, Top wtop.view_39 (looseW wtop.view_39 []) mean mg mb h₀) : (gcx w (envOf qual scope L f cd) A₂ h₀ lvl own s).Ok := ⟨hk, rfl, rfl, hh, hd, hu, hK, hT⟩
theorem scal2 {env : Env} {i : Int} {b : Bool} (h1 : env.kindOf "pos" = some .local) (h2 : env.kindOf "escape" = some .local) : Scal env [("pos", .dat (.int i)), ("escape", .dat (.bool b))] := fun x a e => by
  rw [List.lookup_cons] at e
  split at e
  · rename_i q; cases e; obtain rfl := eq_of_beq q; exact ⟨h1, .inl ⟨_, rfl⟩⟩
  · rw [List.lookup_cons] at e
    split at e
    · rename_i q; cases e; obtain rfl := eq_of_beq q; exact ⟨h2, .inr ⟨_, rfl⟩⟩
    · cases e

theorem sg_if' {w : World} {env : Env} {A A' : Around} {h₀ : Heap} {lvl : Nat} {own₀ μ : Mu} {s₀ s : Shared} {ρ : AEnv} {τ : Tmp} {c : Code} {fs : List Frame} {K : Flow → Sem Fin} {H : Value → Sem Fin} {gd : Bool → Bool} {lv : List Value → List Value} {Φ : End → Shared → Prop} {test : Expr} {body orelse rest : List Stmt} {pos : Pos} {b : Bool}
    (st : St (gcx w env A' h₀ lvl own₀ s₀) ρ τ μ s) (ht : Tr (gcx w env (A.over c fs) h₀ lvl own₀ s₀) ρ μ test b)
    (h : ∀ s', St (gcx w env (A.over c fs) h₀ lvl own₀ s₀) ρ τ μ s' → Sg (model P0 w) A Φ c ((execs (if b then body else orelse) env).wrap (fun f => match f with | .next => (execs rest env).wrap K H gd lv | f => K f) H gd lv) fs s') :
    Sg (model P0 w) A Φ c ((execs (.If test body orelse pos :: rest) env).wrap K H gd lv) fs s := sg_if (C := gcx w env (A.over c fs) h₀ lvl own₀ s₀) st.around rfl rfl ht h

theorem gnEsc (x : List Nat) : Gn 1 28 [.str (S x)] ((escP x 0 false).map itD) := by
  refine gn_intro1 (fun _ => rfl) (fun _ => rfl) (fun _ => rfl) rfl (by decide) (by decide) rfl rfl rfl ?_
  intro w A h₀ lvl L t hh hd hu hK hT ha oL s₀ hG st
  refine sg_func fun H => ?_
  have ok1 : ∀ {A₂ : Around} {own : Mu} {s : Shared} {qual : Str} {scope : Scope} {L f : Addr} {cd : Value}, scope.kind = .function → A₂.handled = none → A₂.depth = A.depth + 1 → A₂.units = A.units + 3 → (gcx w (envOf qual scope L f cd) A₂ h₀ lvl own s).Ok :=
    fun hk h1 h2 h3 => gcx_ok (A := A) hk h1 (by (first | assumption | decide | exact Nat.le_trans (by assumption) (by decide) | exact Nat.le_trans (Nat.add_le_add (by assumption) (by assumption)) (by decide) | exact Nat.lt_of_le_of_lt (by assumption) (by decide) | exact Nat.lt_of_lt_of_le (by assumption) (by decide) | lia | omega)) (by (first | assumption | decide | exact Nat.le_trans (by assumption) (by decide) | exact Nat.le_trans (Nat.add_le_add (by assumption) (by assumption)) (by decide) | exact Nat.lt_of_le_of_lt (by assumption) (by decide) | exact Nat.lt_of_lt_of_le (by assumption) (by decide) | lia | omega)) hK hT
  refine sg_do (st _) rfl rfl (ex_assign (ok1 rfl hh rfl rfl) ev_int rfl (ex_nil fun s st => ⟨rfl, st⟩)) fun s₁ st₁ => ?_
  refine sg_do st₁ rfl rfl (ex_assign (ok1 rfl hh rfl rfl) ev_bool rfl (ex_nil fun s st => ⟨rfl, st⟩)) fun s₂ st₂ => ?_
  refine sg_For rfl fun E => ?_
  refine wp_enum (C := gcx w (envOf _ _ _ _ _) _ h₀ lvl [(L, oL)] s₀) (x := S x) (ok1 rfl hh rfl rfl) rfl (fun _ => rfl) st₂ (ev_name (ok1 rfl hh rfl rfl) rfl) fun e it oe oi s₃ hoe hoi st₃ k l p hk => ?_
  have hover : ∀ {t : Expr} {v : Value} {body fb : List Stmt} {env fe : Env}, (A.over (.forLoop t v body [] env) [.ret k none false l (.func fb fe) p []]).handled = none := fun {t v body fb env fe} => (over_loop hh).1
  refine sg_chars (x := x) (its x) rfl (fun own s => ok1 rfl hover rfl rfl) (fun own s ρ d₁ d₂ => bnd_pair (ok1 rfl hover rfl rfl) rfl rfl) ?_ ?_ (x.length - 0) 0 false [(L, oL)] s₀ s₃ oe oi rfl (Nat.zero_le _) hG hoe hoi ((st₃.around).env (sub_of rfl))
  · intro i c esc hic again own₀ s₀ s oe oi H hG hoe hoi st
    have hdrop := its_some hic
    refine sg_if st rfl rfl (tr_bool (ev_name (ok1 rfl hover rfl rfl) rfl)) fun s' st' => ?_
    cases esc with
    | true =>
      show Sg _ A (Phi w A h₀ ((escP (x.drop i) i true).map itD) own₀ s₀) _ _ _ _
      rw [hdrop]
      show Sg _ A (Phi w A h₀ ((.tuple [.int i, .str (S ([92] ++ [c]))] : Dat) :: its x (i + 1) false) own₀ s₀) _ _ _ _
      refine sg_out (w := w) (d := .tuple [.int i, .str (S ([92] ++ [c]))]) (ds := its x (i + 1) false) rfl rfl rfl st' rfl hG (sub_of (ρ' := [("pos", .dat (.int i)), ("escape", .dat (.bool true))]) rfl) (scal2 rfl rfl)
        (ev_tuple (ds := [.int i, .str (S ([92] ++ [c]))]) ⟨ev_name (ok1 rfl hover rfl rfl) rfl, rfl, ev_catS (ev_strS [92] rfl) (ev_name (ok1 rfl hover rfl rfl) rfl) (by show 1 ≤ 8000; (first | assumption | decide | exact Nat.le_trans (by assumption) (by decide) | exact Nat.le_trans (Nat.add_le_add (by assumption) (by assumption)) (by decide) | exact Nat.lt_of_le_of_lt (by assumption) (by decide) | exact Nat.lt_of_lt_of_le (by assumption) (by decide) | lia | omega)) (by show 1 ≤ 8000; (first | assumption | decide | exact Nat.le_trans (by assumption) (by decide) | exact Nat.le_trans (Nat.add_le_add (by assumption) (by assumption)) (by decide) | exact Nat.lt_of_le_of_lt (by assumption) (by decide) | exact Nat.lt_of_lt_of_le (by assumption) (by decide) | lia | omega)), rfl, trivial⟩ (by show 2 ≤ 100; (first | assumption | decide | exact Nat.le_trans (by assumption) (by decide) | exact Nat.le_trans (Nat.add_le_add (by assumption) (by assumption)) (by decide) | exact Nat.lt_of_le_of_lt (by assumption) (by decide) | exact Nat.lt_of_lt_of_le (by assumption) (by decide) | lia | omega))) fun oL' s₄ hG₄ st₄ => ?_
      refine sg_do st₄ rfl rfl (ex_assign (ok1 rfl hover rfl rfl) ev_bool rfl (ex_nil fun s st => ⟨rfl, st⟩)) fun s₅ st₅ => ?_
      exact again false _ _ s₅ oe oi hG₄ hoe hoi (st₅.env (sub_of rfl))
    | false =>
      refine sg_if st' rfl rfl (tr_cmp (ev_name (ok1 rfl hover rfl rfl) rfl) (ev_strS [92] rfl) cmp_eqS) fun s'' st'' => ?_
      show Sg _ A (Phi w A h₀ ((escP (x.drop i) i false).map itD) own₀ s₀) _ _ _ _
      rw [hdrop, S_beq]
      have hesc : escP (c :: x.drop (i + 1)) i false = if c = 92 then escP (x.drop (i + 1)) (i + 1) true else (i, [c]) :: escP (x.drop (i + 1)) (i + 1) false := rfl
      rw [hesc]
      by_cases hc : c = 92
      · rw [if_pos hc, hc]
        refine sg_do st'' rfl rfl (ex_assign (ok1 rfl hover rfl rfl) ev_bool rfl (ex_nil fun s st => ⟨rfl, st⟩)) fun s₅ st₅ => ?_
        exact again true _ _ s₅ oe oi hG hoe hoi (st₅.env (sub_of rfl))
      · have hd : decide (([c] : List Nat) = [92]) = false := by simpa using hc
        rw [if_neg hc, hd]
        show Sg _ A (Phi w A h₀ ((.tuple [.int i, .str (S [c])] : Dat) :: its x (i + 1) false) own₀ s₀) _ _ _ _
        refine sg_out (w := w) (d := .tuple [.int i, .str (S [c])]) (ds := its x (i + 1) false) rfl rfl rfl st'' rfl hG (sub_of (ρ' := [("pos", .dat (.int i)), ("escape", .dat (.bool false))]) rfl) (scal2 rfl rfl)
          (ev_tuple (ds := [.int i, .str (S [c])]) ⟨ev_name (ok1 rfl hover rfl rfl) rfl, rfl, ev_name (ok1 rfl hover rfl rfl) rfl, rfl, trivial⟩ (by show 2 ≤ 100; (first | assumption | decide | exact Nat.le_trans (by assumption) (by decide) | exact Nat.le_trans (Nat.add_le_add (by assumption) (by assumption)) (by decide) | exact Nat.lt_of_le_of_lt (by assumption) (by decide) | exact Nat.lt_of_lt_of_le (by assumption) (by decide) | lia | omega))) fun oL' s₄ hG₄ st₄ => ?_
        exact again false _ _ s₄ oe oi hG₄ hoe hoi st₄
  · intro esc own₀ s₀ s oe hG st
    refine hk _ _ ?_
    rw [show its x x.length esc = (if esc then [(x.length - 1, [92])] else []).map itD by simp [its, escP]]
    refine sg_if' st (tr_bool (ev_name (ok1 rfl hh rfl rfl) rfl)) fun s' st' => ?_
    cases esc with
    | true =>
      show Sg _ A (Phi w A h₀ ((.tuple [.int (x.length - 1 : Nat), .str (S [92])] : Dat) :: []) own₀ s₀) _ _ _ _
      refine sg_out (w := w) (d := .tuple [.int (x.length - 1 : Nat), .str (S [92])]) (ds := []) rfl rfl rfl st' rfl hG (ρ' := []) (fun _ _ e => by cases e) (fun _ _ e => by cases e)
          (ev_tuple (ds := [.int (x.length - 1 : Nat), .str (S [92])]) ⟨ev_name (ok1 rfl hh rfl rfl) rfl, rfl, ev_strS [92] rfl, rfl, trivial⟩ (by show 2 ≤ 100; (first | assumption | decide | exact Nat.le_trans (by assumption) (by decide) | exact Nat.le_trans (Nat.add_le_add (by assumption) (by assumption)) (by decide) | exact Nat.lt_of_le_of_lt (by assumption) (by decide) | exact Nat.lt_of_lt_of_le (by assumption) (by decide) | lia | omega))) fun oL' s₄ hG₄ st₄ => ?_
      exact sg_end (.ok (.ret .none)) ⟨rfl, g_end hG₄ st₄⟩
    | false => exact sg_end (.ok (.ret .none)) ⟨rfl, g_end hG st'⟩
end Mine
end

section
open PySem PySem.W PyProof.Rows PySem.Calls
open Sem (wp)
set_option maxRecDepth 100000
set_option linter.all false
set_option maxHeartbeats 800000
namespace Mine

/-- the same frame, a generator and its things out of sight -/
noncomputable def hide (C : Cx) (g : Nat) (gs : GenState) (H : Mu) : Cx := { C with gp := (g, gs) :: C.gp, opq := H ++ C.opq }
theorem hide_ok {C : Cx} {g : Nat} {gs : GenState} {H : Mu} (ok : C.Ok) : (hide C g gs H).Ok := ⟨ok.kind, ok.glob, ok.blt, ok.hand, ok.dep, ok.uni, ok.K, ok.top⟩
theorem hide_cal {C : Cx} {g : Nat} {gs : GenState} {H : Mu} (cal : C.Cal) : (hide C g gs H).Cal := ⟨cal.below, cal.frame⟩
section
variable {C : Cx} {g : Nat} {gs : GenState} {H μ : Mu} {ρ : AEnv} {τ : Tmp} {s : Shared}
theorem St.hide (h : St (pin C g gs) ρ τ (H ++ μ) s) : St (Mine.hide C g gs H) ρ τ μ s := by
  obtain ⟨m, nd, h⟩ := h
  have hnd := h.nodup
  rw [List.map_append, List.nodup_append] at hnd
  refine ⟨m, nd, h.F, fun p hp => h.N p ?_, fun p hp q hq => h.sep p ?_ q hq, fun p hp q hq => ?_, hnd.2.1, h.keep, h.gens, h.vars, h.tmps, h.os⟩
  · rcases List.mem_append.mp hp with hp | hp
    · exact List.mem_append.mpr (.inl (List.mem_append.mpr (.inr hp)))
    · rcases List.mem_append.mp hp with hp | hp
      · rcases List.mem_append.mp hp with hp | hp
        · exact List.mem_append.mpr (.inl (List.mem_append.mpr (.inl hp)))
        · exact List.mem_append.mpr (.inr (List.mem_append.mpr (.inl hp)))
      · exact List.mem_append.mpr (.inr (List.mem_append.mpr (.inr hp)))
  · rcases List.mem_append.mp hp with hp | hp
    · exact List.mem_append.mpr (.inl (List.mem_append.mpr (.inr hp)))
    · rcases List.mem_append.mp hp with hp | hp
      · exact List.mem_append.mpr (.inl (List.mem_append.mpr (.inl hp)))
      · exact List.mem_append.mpr (.inr hp)
  · rcases List.mem_append.mp hq with hq | hq
    · exact fun e => hnd.2.2 _ (List.mem_map_of_mem hq) _ (List.mem_map_of_mem hp) e.symm
    · exact h.dis p (List.mem_append.mpr (.inr hp)) q hq
theorem St.apart (h : St (pin C g gs) ρ τ (H ++ μ) s) : (H.map (·.1)).Nodup ∧ ∀ p ∈ H, ∀ q ∈ C.opq, p.1 ≠ q.1 := by
  obtain ⟨m, nd, h⟩ := h
  have hnd := h.nodup
  rw [List.map_append, List.nodup_append] at hnd
  exact ⟨hnd.1, fun p hp q hq => h.dis p (List.mem_append.mpr (.inl hp)) q hq⟩
theorem St.seen (h : St (Mine.hide C g gs H) ρ τ μ s) (ha : (H.map (·.1)).Nodup ∧ ∀ p ∈ H, ∀ q ∈ C.opq, p.1 ≠ q.1) : St (pin C g gs) ρ τ (H ++ μ) s := by
  obtain ⟨m, nd, h⟩ := h
  refine ⟨m, nd, h.F, fun p hp => h.N p ?_, fun p hp q hq => h.sep p ?_ q hq, fun p hp q hq => ?_, ?_, h.keep, h.gens, h.vars, h.tmps, h.os⟩
  · rcases List.mem_append.mp hp with hp | hp
    · rcases List.mem_append.mp hp with hp | hp
      · exact List.mem_append.mpr (.inr (List.mem_append.mpr (.inl (List.mem_append.mpr (.inl hp)))))
      · exact List.mem_append.mpr (.inl hp)
    · rcases List.mem_append.mp hp with hp | hp
      · exact List.mem_append.mpr (.inr (List.mem_append.mpr (.inl (List.mem_append.mpr (.inr hp)))))
      · exact List.mem_append.mpr (.inr (List.mem_append.mpr (.inr hp)))
  · rcases List.mem_append.mp hp with hp | hp
    · rcases List.mem_append.mp hp with hp | hp
      · exact List.mem_append.mpr (.inr (List.mem_append.mpr (.inl hp)))
      · exact List.mem_append.mpr (.inl hp)
    · exact List.mem_append.mpr (.inr (List.mem_append.mpr (.inr hp)))
  · rcases List.mem_append.mp hp with hp | hp
    · exact ha.2 p hp q hq
    · exact h.dis p hp q (List.mem_append.mpr (.inr hq))
  · rw [List.map_append, List.nodup_append]
    refine ⟨ha.1, h.nodup, fun a h1 b h2 e => ?_⟩
    obtain ⟨p, hp, rfl⟩ := List.mem_map.mp h1
    obtain ⟨q, hq, rfl⟩ := List.mem_map.mp h2
    exact h.dis q hq p (List.mem_append.mpr (.inl hp)) e.symm
theorem St.unhide (h : St (Mine.hide C g gs H) ρ τ μ s) : St C ρ τ μ s := by
  obtain ⟨m, nd, h⟩ := h
  refine ⟨m, nd, h.F, fun p hp => h.N p ?_, fun p hp q hq => h.sep p ?_ q hq, fun p hp q hq => h.dis p hp q (List.mem_append.mpr (.inr hq)), h.nodup, h.keep, ⟨h.gens.1, fun p hp => h.gens.2 p (.tail _ hp)⟩, h.vars, h.tmps, h.os⟩
  · rcases List.mem_append.mp hp with hp | hp
    · exact List.mem_append.mpr (.inl hp)
    · rcases List.mem_append.mp hp with hp | hp
      · exact List.mem_append.mpr (.inr (List.mem_append.mpr (.inl (List.mem_append.mpr (.inr hp)))))
      · exact List.mem_append.mpr (.inr (List.mem_append.mpr (.inr hp)))
  · rcases List.mem_append.mp hp with hp | hp
    · exact List.mem_append.mpr (.inl hp)
    · exact List.mem_append.mpr (.inr (List.mem_append.mpr (.inr hp)))
end

/-- how a turn of a for over a generator is to end; C the frame as it was, C' as the turn sees it -/
noncomputable def TurnG {σ : Type} (C' : Cx) (R : σ → AEnv) (U : σ → Mu) (J : σ → Prop) (τ : Tmp) (Φ : Flow → Shared → Prop) (f : Flow) (s : Shared) : Prop := match f with
  | .next | .cont => ∃ a, J a ∧ St C' (R a) τ (U a) s
  | .brk => False
  | .ret v => Φ (.ret v) s
theorem turnG_end {σ : Type} {C' : Cx} {R : σ → AEnv} {U : σ → Mu} {J : σ → Prop} {τ : Tmp} {Φ : Flow → Shared → Prop} {ρ : AEnv} {μ : Mu} (a : σ) (hJ : J a) (hρ : ∀ x b, (R a).lookup x = some b → ρ.lookup x = some b) (hμ : U a = μ) :
    Ex C' ρ τ μ [] (TurnG C' R U J τ Φ) := ex_nil fun s st => ⟨a, hJ, hμ ▸ st.env hρ⟩

section
variable {C : Cx} {ρ : AEnv} {τ : Tmp} {μ : Mu} {rest body : List Stmt} {Φ : Flow → Shared → Prop} {tgt e₁ : Expr} {pos np npos : Pos} {items : List Dat} {d₀ : Dat} {k : Nat} {f : Addr} {nm : Str}
theorem ex_forG {σ : Type} (R : σ → AEnv) (U : σ → Mu) (J : Nat → σ → Prop) (a₀ : σ) (ok : C.Ok) (hG : Gn k f [d₀] items) (hk : k ≤ C.lvl) (hx : C.env.kindOf nm = some .globalImplicit) (hg : ∀ P, nsIn (wtop.heap_39 P) mainGlobals nm = some (some (.ref f)))
    {oc : Value} {od : Option Addr} {osl : Array (Option Value)} {fd : FuncData} (ho : ∀ P, List.lookup f (wtop.heap_39 P) = some ⟨oc, od, .func fd, osl⟩)
    (h1 : Ev C ρ μ e₁ d₀) (h0 : J 0 a₀) (hρ : ∀ x a, (R a₀).lookup x = some a → ρ.lookup x = some a) (hμ : U a₀ = μ)
    (turn : ∀ (i : Nat) (a : σ) (d : Dat) (g : Nat) (gs : GenState) (H : Mu), items[i]? = some d → J i a →
      ∃ ρ', Bnd (hide C g gs H) (R a) tgt d ρ' ∧ Ex (hide C g gs H) ρ' τ (U a) body (TurnG (hide C g gs H) R U (J (i + 1)) τ (Thn C rest Φ)))
    (done : ∀ a, J items.length a → Ex C (R a) τ (U a) rest Φ)
    (hse : starEach [e₁] C.env = [(false, eval e₁ C.env)] := by rfl) (hd : (nm == ("__debug__" : Str)) = false := by decide) (hs : ∀ x, foldedSetIterable (.Call (.Name nm np) [e₁] [] npos) C.env x = pure x := by intro _; rfl) :
    Ex C ρ τ μ (.For tgt (.Call (.Name nm np) [e₁] [] npos) body [] pos :: rest) Φ := by
  refine ex_cons fun s E st => wpAny_For (Call_name1 hse (wp_name_global ok hx (hg _) st ?_ hd)) hs
  refine Calls.callWith_function (Calls.evalArgs_plain (Calls.spliced_cons (h1.run τ s _ _ st fun v s₁ st₁ => Calls.spliced_nil ⟨⟨?_, (rfl : (Obj.mk oc od (.func fd) osl).data = .func fd)⟩, ?_⟩)))
  · obtain ⟨m, nd, hW⟩ := st₁
    exact (ok.K.keeps hW.F.keep) _ _ (ho _)
  refine hG.run C ρ _ μ s₁ _ _ [v] ok hk ⟨.head _, trivial⟩ st₁ fun aG og g gs own s₂ hog hR hfr st₂ => ?_
  have hgen : s₂.heap.IsGen aG g := by obtain ⟨nm, qn, hc, hd, hsl⟩ := hog; exact ⟨og, nm, qn, st₂.muGet (.head _), hc, hd, hsl⟩
  refine wpAny_pyIter_gen hgen ?_
  refine codeAny_forLoopL (fun n s' => ∃ i a gs own, n = items.length + 1 - i ∧ i ≤ items.length ∧ J i a ∧ GenReady C.w C.A.in1 C.h₀ (items.drop i) own gs ∧ St (pin C g gs) (R a) τ ((aG, og) :: (own ++ U a)) s') ?_ (items.length + 1)
    ⟨0, a₀, gs, own, rfl, Nat.zero_le _, h0, hR, hμ ▸ (st₂.env hρ).tmpsOf fun p hp => .tail _ hp⟩
  rintro n s' ⟨i, a, gs, own, rfl, hi, hJ, hR, st'⟩
  cases hd : items[i]? with
  | none =>
    have hin : i = items.length := Nat.le_antisymm hi (by simpa using hd)
    subst hin
    rw [List.drop_length] at hR
    refine gen_done ok hog hR hfr st' fun s₃ st₃ => wpAny_execs_nil ?_
    exact fun E' => (done a hJ).run s₃ E' st₃
  | some d =>
    obtain ⟨hlt, he⟩ := List.getElem?_eq_some_iff.mp hd
    rw [List.drop_eq_getElem_cons hlt, he] at hR
    refine gen_item ok hog hR hfr st' fun v own' gs' s₃ hR' st₃ => ?_
    obtain ⟨nm', qn, hc, _⟩ := id hog
    refine wp_lets (st₃.muGet (.head _)) hc (by decide) ?_
    have hap := St.apart (H := (aG, og) :: own') st₃
    have st₄ := St.hide (H := (aG, og) :: own') st₃
    obtain ⟨ρ', hb, hx⟩ := turn i a d g gs' ((aG, og) :: own') hd hJ
    refine hb.run _ _ v s₃ _ _ st₄ fun s₅ st₅ => ?_
    refine wpAny_mono (hx.run s₅ _ st₅) (fun f s₆ h₆ => ?_) fun _ _ q => q
    cases f with
    | next =>
      obtain ⟨a', hJ', st₆⟩ := h₆
      exact ⟨items.length + 1 - (i + 1), by (first | assumption | decide | exact Nat.le_trans (by assumption) (by decide) | exact Nat.le_trans (Nat.add_le_add (by assumption) (by assumption)) (by decide) | exact Nat.lt_of_le_of_lt (by assumption) (by decide) | exact Nat.lt_of_lt_of_le (by assumption) (by decide) | lia | omega), i + 1, a', gs', own', rfl, hlt, hJ', hR', st₆.seen hap⟩
    | cont =>
      obtain ⟨a', hJ', st₆⟩ := h₆
      exact ⟨items.length + 1 - (i + 1), by (first | assumption | decide | exact Nat.le_trans (by assumption) (by decide) | exact Nat.le_trans (Nat.add_le_add (by assumption) (by assumption)) (by decide) | exact Nat.lt_of_le_of_lt (by assumption) (by decide) | exact Nat.lt_of_lt_of_le (by assumption) (by decide) | lia | omega), i + 1, a', gs', own', rfl, hlt, hJ', hR', st₆.seen hap⟩
    | brk => exact h₆.elim
    | ret v => exact h₆
end
end Mine
end

section
open PySem PySem.W PyProof.Rows PySem.Calls
open Sem (wp)
set_option maxRecDepth 100000
set_option linter.all false
set_option maxHeartbeats 800000
namespace Mine
section
variable {prog : Program} {w : World} {A : Around} {E : Value → Shared → Prop} {s : Shared}
theorem call_append {l : Addr} {vs : List Value} {n : Nat} {v : Value} {Q : Value → Shared → Prop} (hl : s.heap.get? l = some (lstO vs n)) (hsz : vs.length ≤ sizeLine)
    (hQ : ∀ h' n', h'.get? l = some (lstO (vs ++ [v]) n') → Heap.SameBut l s.heap h' → Q .none { s with heap := h' }) :
    wpAny (model prog w) A (call (.builtin "list.append") [.ref l, v]) Q E s := by
  have hT : s.heap.IsList l vs.toArray := ⟨_, hl, rfl, n, rfl⟩
  have hd : (lstO vs n).data = .seq vs.toArray n := rfl
  obtain ⟨n', hd'⟩ := Obj.data_mapSeq hd (·.push v)
  refine wpAny_call_entry slot_list_append hT.typeIs entry_list_append ?_ (args_list_append _ _)
  show wpAny _ _ (updateSeq l (·.push v) >>= fun _ => ret .none) _ _ s
  refine wpAny_bind (wpAny_updateSeq hl hd (wpAny_pure ⟨.none, rfl, ?_⟩) (by rw [List.size_toArray]; exact hsz) (by show (vs.toArray.push v).size ≤ _; rw [Array.size_push, List.size_toArray]; (first | assumption | decide | exact Nat.le_trans (by assumption) (by decide) | exact Nat.le_trans (Nat.add_le_add (by assumption) (by assumption)) (by decide) | exact Nat.lt_of_le_of_lt (by assumption) (by decide) | exact Nat.lt_of_lt_of_le (by assumption) (by decide) | lia | omega)))
  have e : Obj.mapSeq (·.push v) (lstO vs n) = lstO (vs ++ [v]) n' := by
    have e1 : Obj.mapSeq (·.push v) (lstO vs n) = { (lstO vs n) with data := (Obj.mapSeq (·.push v) (lstO vs n)).data } := rfl
    rw [e1, hd']
    simp
  exact hQ _ n' (e ▸ Heap.get?_update_self _ hl (Obj.isFreed_of_seq hd')) (Heap.SameBut.update ..)
end
section
variable {C : Cx} {ρ : AEnv} {τ : Tmp} {μ : Mu} {s : Shared} {rest : List Stmt} {Φ : Flow → Shared → Prop} {e e₁ o : Expr} {pos np np' tpos apos : Pos} {x : Str} {D : Addr} {d : Dat} {vs : List Value} {n : Nat}
theorem ex_append (ok : C.Ok) (he : Ev C ρ ((D, lstO vs n) :: μ) e d) (hr : ρ.lookup x = some (.raw (.ref D))) (hsz : vs.length ≤ 100000)
    (h : ∀ v n', (∀ y, d = .str y → ∃ t, v = .str y t) → Ex C ρ ((v, d) :: τ) ((D, lstO (vs ++ [v]) n') :: μ) rest Φ)
    (hd : (x == ("__debug__" : Str)) = false := by decide) (hn : (x == ("__classdict__" : Str)) = false := by decide)
    (hbase : attributeBase (.Name x np) "append" C.env (eval (.Name x np) C.env) = eval (.Name x np) C.env := by rfl) (hs : starEach [e] C.env = [(false, eval e C.env)] := by rfl) (hline : (apos.endLine == pos.line) = true := by rfl)
    (hi : interactive C.env = false := by rfl) (hsw : swapsWith (.Call (.Attribute (.Name x np) "append" apos) [e] [] pos) none tpos.line C.env = pure false := by rfl) :
    Ex C ρ τ ((D, lstO vs n) :: μ) (.Expr (.Call (.Attribute (.Name x np) "append" apos) [e] [] pos) tpos :: rest) Φ := ex_cons fun s E st => by
  refine wpAny_Expr ?_ hi hsw
  refine Call_method1 hbase hs hline (wp_name_raw ok hr st ?_ hd hn)
  have hL := st.muGet (.head _)
  refine ⟨"list", "list.append", F.plainAttrs_list, slot_list_append, type_list_append, ⟨_, hL, rfl⟩, fun a q => ?_, ?_⟩
  · cases q; exact ⟨_, hL, rfl⟩
  refine Calls.callWith_builtin rfl (Calls.evalArgs_plain (Calls.spliced_cons (he.run τ s _ E st fun v s₁ st₁ => Calls.spliced_nil ?_)))
  refine call_append (st₁.muGet (.head _)) (by rw [line_eq]; (first | assumption | decide | exact Nat.le_trans (by assumption) (by decide) | exact Nat.le_trans (Nat.add_le_add (by assumption) (by assumption)) (by decide) | exact Nat.lt_of_le_of_lt (by assumption) (by decide) | exact Nat.lt_of_lt_of_le (by assumption) (by decide) | lia | omega)) fun h' n' ho' hsb => ?_
  refine fun E' => (h v n' fun y hy => ?_).run _ E' (St.upd st₁ hsb.extBut ho' _)
  subst hy
  exact st₁.str.1
/-- an empty list of the frame's own -/
theorem ex_assign_nil (ok : C.Ok) (hl : C.env.kindOf x = some .local) (h : ∀ D, Ex C ((x, .raw (.ref D)) :: ρ) τ ((D, lstO [] 0) :: μ) rest Φ)
    (hsw : swapsWith (.List [] pos) (some (.Name x np)) tpos.line C.env = pure false := by rfl) : Ex C ρ τ μ (.Assign [.Name x np] (.List [] pos) tpos :: rest) Φ :=
  ex_cons fun s E st => wpAny_Assign_Name (wpAny_List (by
    show wpAny _ _ (spliced []) _ E s
    refine Calls.spliced_nil ⟨Nat.zero_le _, ?_⟩
    have st' := st.own { cls := .type "list", data := .seq ([] : List Value).toArray }
    exact wp_store ok hl st' (fun p hp => hp) (a := .raw (.ref _)) rfl fun s'' st'' E' => (h _).run s'' E' st'')) hsw
/-- sep.join of a list of the frame's own, of texts -/
theorem ev_joinOwn {l : List (Str × Tok)} {sep : Str} (ok : C.Ok) (ho : Ev C ρ ((D, lstO (strValues l) n) :: μ) o (.str sep)) (hr : ρ.lookup x = some (.raw (.ref D))) (hw : ((l.map (·.1)).map (·.length)).sum + l.length * sep.length ≤ 16777216)
    (hd : (x == ("__debug__" : Str)) = false := by decide) (hn : (x == ("__classdict__" : Str)) = false := by decide)
    (hbase : attributeBase o "join" C.env (eval o C.env) = eval o C.env := by rfl) (hs : starEach [.Name x np] C.env = [(false, eval (.Name x np) C.env)] := by rfl) (hline : (apos.endLine == pos.line) = true := by rfl) :
    Ev C ρ ((D, lstO (strValues l) n) :: μ) (.Call (.Attribute o "join" apos) [.Name x np] [] pos) (.str (Txt.join sep (l.map (·.1)))) := .of fun τ s Q E st hQ => by
  refine Call_method1 hbase hs hline (ho.run τ s _ E st fun ov s₁ st₁ => ?_)
  obtain ⟨⟨t, rfl⟩, st₂⟩ := st₁.str
  refine methodOn_str F.slot_str_join F.type_str_join (Calls.callWith_builtin rfl (Calls.evalArgs_plain (Calls.spliced_cons (wp_name_raw ok hr st₂ (Calls.spliced_nil ?_) hd hn))))
  have hL : s₁.heap.IsList D (strValues l).toArray := ⟨_, st₂.muGet (.head _), rfl, n, rfl⟩
  refine SC.join hL rfl (joinOk_of (by rw [List.length_map]; exact hw)) fun t' k => hQ _ _ ((st₂.toks k).pushStr _ _)
end
end Mine
end

section
open PySem PySem.W PyProof.Rows PySem.Calls
open Sem (wp)
set_option maxRecDepth 100000
set_option linter.all false
set_option maxHeartbeats 800000
namespace Mine
theorem join_S : ∀ L : List (List Nat), Txt.join "" (L.map S) = S L.flatten
  | [] => rfl
  | [a] => by show S a = _; simp
  | a :: b :: r => by
    have ih := join_S (b :: r)
    have e : ∀ l : List Str, Txt.join "" l = Str.join "" l := fun l => StrLaws.glued_eq_join "" l
    rw [e, show Str.join "" ((a :: b :: r).map S) = S a ++ "" ++ Str.join "" ((b :: r).map S) from join_cons_cons "" (S a) (S b) (r.map S), ← e]
    rw [ih, show ("" : Str) = S [] from rfl, S_append, S_append]
    simp

noncomputable def Inc (N : Nat) : Nat → List (Nat × List Nat) → Prop
  | _, [] => True
  | b, p :: r => b ≤ p.1 ∧ p.1 < N ∧ Inc N (p.1 + 1) r
theorem inc_escP {N : Nat} : ∀ (cs : List Nat) (i b : Nat) (esc : Bool), i + cs.length = N → (if esc then b + 1 ≤ i else b ≤ i) → Inc N b (escP cs i esc)
  | [], i, b, true, hN, hb => ⟨by simp at hb; show b ≤ i - 1; (first | assumption | decide | exact Nat.le_trans (by assumption) (by decide) | exact Nat.le_trans (Nat.add_le_add (by assumption) (by assumption)) (by decide) | exact Nat.lt_of_le_of_lt (by assumption) (by decide) | exact Nat.lt_of_lt_of_le (by assumption) (by decide) | lia | omega), by simp at hb hN; show i - 1 < N; (first | assumption | decide | exact Nat.le_trans (by assumption) (by decide) | exact Nat.le_trans (Nat.add_le_add (by assumption) (by assumption)) (by decide) | exact Nat.lt_of_le_of_lt (by assumption) (by decide) | exact Nat.lt_of_lt_of_le (by assumption) (by decide) | lia | omega), trivial⟩
  | [], i, b, false, hN, hb => trivial
  | c :: cs, i, b, true, hN, hb => ⟨by simp at hb; show b ≤ i; (first | assumption | decide | exact Nat.le_trans (by assumption) (by decide) | exact Nat.le_trans (Nat.add_le_add (by assumption) (by assumption)) (by decide) | exact Nat.lt_of_le_of_lt (by assumption) (by decide) | exact Nat.lt_of_lt_of_le (by assumption) (by decide) | lia | omega), by simp at hN; show i < N; (first | assumption | decide | exact Nat.le_trans (by assumption) (by decide) | exact Nat.le_trans (Nat.add_le_add (by assumption) (by assumption)) (by decide) | exact Nat.lt_of_le_of_lt (by assumption) (by decide) | exact Nat.lt_of_lt_of_le (by assumption) (by decide) | lia | omega), inc_escP cs (i + 1) (i + 1) false (by simp at hN; (first | assumption | decide | exact Nat.le_trans (by assumption) (by decide) | exact Nat.le_trans (Nat.add_le_add (by assumption) (by assumption)) (by decide) | exact Nat.lt_of_le_of_lt (by assumption) (by decide) | exact Nat.lt_of_lt_of_le (by assumption) (by decide) | lia | omega)) (by simp)⟩
  | c :: cs, i, b, false, hN, hb => by
    simp at hb
    show Inc N b (if c = 92 then escP cs (i + 1) true else (i, [c]) :: escP cs (i + 1) false)
    split
    · exact inc_escP cs (i + 1) b true (by simp at hN; (first | assumption | decide | exact Nat.le_trans (by assumption) (by decide) | exact Nat.le_trans (Nat.add_le_add (by assumption) (by assumption)) (by decide) | exact Nat.lt_of_le_of_lt (by assumption) (by decide) | exact Nat.lt_of_lt_of_le (by assumption) (by decide) | lia | omega)) (by simp; (first | assumption | decide | exact Nat.le_trans (by assumption) (by decide) | exact Nat.le_trans (Nat.add_le_add (by assumption) (by assumption)) (by decide) | exact Nat.lt_of_le_of_lt (by assumption) (by decide) | exact Nat.lt_of_lt_of_le (by assumption) (by decide) | lia | omega))
    · exact ⟨hb, by simp at hN; show i < N; (first | assumption | decide | exact Nat.le_trans (by assumption) (by decide) | exact Nat.le_trans (Nat.add_le_add (by assumption) (by assumption)) (by decide) | exact Nat.lt_of_le_of_lt (by assumption) (by decide) | exact Nat.lt_of_lt_of_le (by assumption) (by decide) | lia | omega), inc_escP cs (i + 1) (i + 1) false (by simp at hN; (first | assumption | decide | exact Nat.le_trans (by assumption) (by decide) | exact Nat.le_trans (Nat.add_le_add (by assumption) (by assumption)) (by decide) | exact Nat.lt_of_le_of_lt (by assumption) (by decide) | exact Nat.lt_of_lt_of_le (by assumption) (by decide) | lia | omega)) (by simp)⟩
theorem escP_len : ∀ (cs : List Nat) (i : Nat) (esc : Bool), (escP cs i esc).length ≤ cs.length + (if esc then 1 else 0)
  | [], i, true => Nat.le_refl _
  | [], i, false => Nat.le_refl _
  | c :: cs, i, true => by have := escP_len cs (i + 1) false; simp [escP] at this ⊢; (first | assumption | decide | exact Nat.le_trans (by assumption) (by decide) | exact Nat.le_trans (Nat.add_le_add (by assumption) (by assumption)) (by decide) | exact Nat.lt_of_le_of_lt (by assumption) (by decide) | exact Nat.lt_of_lt_of_le (by assumption) (by decide) | lia | omega)
  | c :: cs, i, false => by
    show (if c = 92 then escP cs (i + 1) true else (i, [c]) :: escP cs (i + 1) false).length ≤ _
    split
    · have := escP_len cs (i + 1) true; simp at this ⊢; (first | assumption | decide | exact Nat.le_trans (by assumption) (by decide) | exact Nat.le_trans (Nat.add_le_add (by assumption) (by assumption)) (by decide) | exact Nat.lt_of_le_of_lt (by assumption) (by decide) | exact Nat.lt_of_lt_of_le (by assumption) (by decide) | lia | omega)
    · have := escP_len cs (i + 1) false; simp at this ⊢; (first | assumption | decide | exact Nat.le_trans (by assumption) (by decide) | exact Nat.le_trans (Nat.add_le_add (by assumption) (by assumption)) (by decide) | exact Nat.lt_of_le_of_lt (by assumption) (by decide) | exact Nat.lt_of_lt_of_le (by assumption) (by decide) | lia | omega)

/-- the parts that stay -/
noncomputable def stripGo (x : List Nat) : List (Nat × List Nat) → Nat → Option Nat → List (List Nat)
  | [], st, _ => if st < x.length then [x.drop st] else []
  | p :: r, st, op => if p.2 = [34] then (match op with
      | none => stripGo x r st (some p.1)
      | some q => (if st = q then [] else [(x.drop st).take (q - st)]) ++ stripGo x r (p.1 + 1) none) else stripGo x r st op
noncomputable def stripL (x : List Nat) : List Nat := if fnd [34] x = none then x else (stripGo x (escP x 0 false) 0 none).flatten
noncomputable def opD : Option Nat → Dat
  | none => .none
  | some q => .int q

theorem fn35 (x : List Nat) (hx : x.length ≤ 2000) : Fn 2 35 [.str (S x)] (.str (S (stripL x))) := by
  refine fn_intro1 (fun _ => rfl) (fun _ => rfl) (fun _ => rfl) rfl (by decide) (by decide) rfl rfl rfl ?_
  intro w L A g opq keep os lvl gp ok cal hl
  have hsx : (S x).length ≤ sizeLine := by rw [S_length, line_eq]; (first | assumption | decide | exact Nat.le_trans (by assumption) (by decide) | exact Nat.le_trans (Nat.add_le_add (by assumption) (by assumption)) (by decide) | exact Nat.lt_of_le_of_lt (by assumption) (by decide) | exact Nat.lt_of_lt_of_le (by assumption) (by decide) | lia | omega)
  cases hf : fnd [34] x with
  | none =>
    have e : stripL x = x := by unfold stripL; rw [if_pos hf]
    rw [e]
    refine ex_if_yes (tr_of (tr_cmp (ev_strS [34] rfl) (ev_name ok rfl) cmp_ninS) (by rw [contains_S, hf]; rfl)) ?_
    exact ex_retT (ev_name ok rfl)
  | some j =>
    have e : stripL x = (stripGo x (escP x 0 false) 0 none).flatten := by unfold stripL; rw [if_neg (by rw [hf]; simp)]
    rw [e]
    refine ex_if_no (tr_of (tr_cmp (ev_strS [34] rfl) (ev_name ok rfl) cmp_ninS) (by rw [contains_S, hf]; rfl)) ?_
    refine ex_assign ok ev_int rfl ?_
    refine ex_assign ok ev_none rfl ?_
    refine ex_assign_nil ok rfl fun D => ?_
    refine ex_forG (σ := Nat × Option Nat × List (Str × Tok) × Nat) (k := 1) (items := (escP x 0 false).map itD)
      (fun a => [("addr", .dat (.str (S x))), ("start", .dat (.int a.1)), ("open_pos", .dat (opD a.2.1)), ("result", .raw (.ref D))]) (fun a => [(D, lstO (strValues a.2.2.1) a.2.2.2)])
      (fun i a => ∃ b acc, a.2.2.1.map (·.1) = acc.map S ∧ a.1 ≤ b ∧ a.1 ≤ x.length ∧ Inc x.length b ((escP x 0 false).drop i) ∧ (∀ q, a.2.1 = some q → a.1 ≤ q ∧ q ≤ x.length) ∧ acc.length ≤ i ∧ (∀ p ∈ acc, p.length ≤ 2000) ∧
        acc ++ stripGo x ((escP x 0 false).drop i) a.1 a.2.1 = stripGo x (escP x 0 false) 0 none)
      (0, none, [], 0) ok (gnEsc x) (by show 1 ≤ lvl; (first | assumption | decide | exact Nat.le_trans (by assumption) (by decide) | exact Nat.le_trans (Nat.add_le_add (by assumption) (by assumption)) (by decide) | exact Nat.lt_of_le_of_lt (by assumption) (by decide) | exact Nat.lt_of_lt_of_le (by assumption) (by decide) | lia | omega)) rfl (fun _ => rfl) (fun _ => rfl) (ev_name ok rfl)
      ⟨0, [], rfl, Nat.le_refl _, Nat.zero_le _, inc_escP x 0 0 false (by simp) (by simp), (fun q h => by cases h), Nat.le_refl _, (fun p hp => by cases hp), rfl⟩ (sub_of rfl) rfl ?_ ?_
    · rintro i ⟨st, op, l, n⟩ d gn gs H hd ⟨b, acc, hacc, hsb, hsx', hinc, hop, hlen, hsz, he⟩
      dsimp only at hacc hsb hsx' hinc hop hlen hsz he ⊢
      rw [List.getElem?_map] at hd
      obtain ⟨p, hp, rfl⟩ := Option.map_eq_some_iff.mp hd
      obtain ⟨hi, hpe⟩ := List.getElem?_eq_some_iff.mp hp
      have hdrop : (escP x 0 false).drop i = p :: (escP x 0 false).drop (i + 1) := by rw [List.drop_eq_getElem_cons hi, hpe]
      rw [hdrop] at hinc he
      obtain ⟨hbp, hpN, hinc'⟩ := hinc
      have hi2 : i < 2001 := by have := escP_len x 0 false; simp at this; (first | assumption | decide | exact Nat.le_trans (by assumption) (by decide) | exact Nat.le_trans (Nat.add_le_add (by assumption) (by assumption)) (by decide) | exact Nat.lt_of_le_of_lt (by assumption) (by decide) | exact Nat.lt_of_lt_of_le (by assumption) (by decide) | lia | omega)
      have hll : l.length = acc.length := by have := congrArg List.length hacc; simpa using this
      have hok := hide_ok (g := gn) (gs := gs) (H := H) ok
      refine ⟨_, bnd_pair hok rfl rfl, ?_⟩
      by_cases hq : p.2 = [34]
      · refine ex_if_yes (tr_of (tr_cmp (ev_name hok rfl) (ev_strS [34] rfl) cmp_eqS) (by rw [S_beq]; exact decide_eq_true hq)) ?_
        cases op with
        | none =>
          refine ex_if_yes (tr_cmp (ev_name hok rfl) ev_none cmp_isNone_none) ?_
          refine ex_assign hok (ev_name hok rfl) rfl ?_
          refine ex_end (ex_end (turnG_end (st, some p.1, l, n) ⟨p.1 + 1, acc, hacc, by (first | assumption | decide | exact Nat.le_trans (by assumption) (by decide) | exact Nat.le_trans (Nat.add_le_add (by assumption) (by assumption)) (by decide) | exact Nat.lt_of_le_of_lt (by assumption) (by decide) | exact Nat.lt_of_lt_of_le (by assumption) (by decide) | lia | omega), hsx', hinc', fun q h => ?_, by (first | assumption | decide | exact Nat.le_trans (by assumption) (by decide) | exact Nat.le_trans (Nat.add_le_add (by assumption) (by assumption)) (by decide) | exact Nat.lt_of_le_of_lt (by assumption) (by decide) | exact Nat.lt_of_lt_of_le (by assumption) (by decide) | lia | omega), hsz, ?_⟩ (sub_of rfl) rfl))
          · cases h; (first | assumption | decide | exact Nat.le_trans (by assumption) (by decide) | exact Nat.le_trans (Nat.add_le_add (by assumption) (by assumption)) (by decide) | exact Nat.lt_of_le_of_lt (by assumption) (by decide) | exact Nat.lt_of_lt_of_le (by assumption) (by decide) | lia | omega)
          · rw [← he]; show acc ++ stripGo x _ st (some p.1) = acc ++ (if p.2 = [34] then _ else _); rw [if_pos hq]
        | some q =>
          obtain ⟨hq1, hq2⟩ := hop q rfl
          have he' : acc ++ ((if st = q then [] else [(x.drop st).take (q - st)]) ++ stripGo x ((escP x 0 false).drop (i + 1)) (p.1 + 1) none) = stripGo x (escP x 0 false) 0 none := by
            rw [← he]; show _ = acc ++ (if p.2 = [34] then _ else _); rw [if_pos hq]
          refine ex_if (tr_cmp (ev_name (d := .int q) hok rfl) ev_none cmp_isNone_int) (fun h => by cases h) fun _ => ?_
          refine ex_mid (σ := List (Str × Tok) × Nat) (fun a => [("pos", .dat (.int p.1)), ("addr", .dat (.str (S x))), ("result", .raw (.ref D))]) (fun _ => []) (fun a => [(D, lstO (strValues a.1) a.2)])
            (fun a => ∃ acc', a.1.map (·.1) = acc'.map S ∧ acc'.length ≤ i + 1 ∧ (∀ p ∈ acc', p.length ≤ 2000) ∧ acc' ++ stripGo x ((escP x 0 false).drop (i + 1)) (p.1 + 1) none = stripGo x (escP x 0 false) 0 none) ?_ ?_
          · by_cases hsq : st = q
            · subst hsq
              refine ex_if_no (tr_of (tr_cmp (ev_name hok rfl) (ev_name (d := .int st) hok rfl) cmp_ne) (by simp)) ?_
              exact mid_end (l, n) ⟨acc, hacc, by (first | assumption | decide | exact Nat.le_trans (by assumption) (by decide) | exact Nat.le_trans (Nat.add_le_add (by assumption) (by assumption)) (by decide) | exact Nat.lt_of_le_of_lt (by assumption) (by decide) | exact Nat.lt_of_lt_of_le (by assumption) (by decide) | lia | omega), hsz, by rw [if_pos rfl] at he'; exact he'⟩ (sub_of rfl) tmp_nil rfl
            · rw [if_neg hsq, ← List.append_assoc] at he'
              refine ex_if_yes (tr_of (tr_cmp (ev_name hok rfl) (ev_name (d := .int q) hok rfl) cmp_ne) (by simp; (first | assumption | decide | exact Nat.le_trans (by assumption) (by decide) | exact Nat.le_trans (Nat.add_le_add (by assumption) (by assumption)) (by decide) | exact Nat.lt_of_le_of_lt (by assumption) (by decide) | exact Nat.lt_of_lt_of_le (by assumption) (by decide) | lia | omega))) ?_
              have hslice : Txt.slice (S x) (some (st : Int)) (some (q : Int)) = S ((x.drop st).take (q - st)) := by
                rw [slice_ss (by (first | assumption | decide | exact Nat.le_trans (by assumption) (by decide) | exact Nat.le_trans (Nat.add_le_add (by assumption) (by assumption)) (by decide) | exact Nat.lt_of_le_of_lt (by assumption) (by decide) | exact Nat.lt_of_lt_of_le (by assumption) (by decide) | lia | omega)) (by (first | assumption | decide | exact Nat.le_trans (by assumption) (by decide) | exact Nat.le_trans (Nat.add_le_add (by assumption) (by assumption)) (by decide) | exact Nat.lt_of_le_of_lt (by assumption) (by decide) | exact Nat.lt_of_lt_of_le (by assumption) (by decide) | lia | omega)) (by (first | assumption | decide | exact Nat.le_trans (by assumption) (by decide) | exact Nat.le_trans (Nat.add_le_add (by assumption) (by assumption)) (by decide) | exact Nat.lt_of_le_of_lt (by assumption) (by decide) | exact Nat.lt_of_lt_of_le (by assumption) (by decide) | lia | omega))]; congr 3; (first | assumption | decide | exact Nat.le_trans (by assumption) (by decide) | exact Nat.le_trans (Nat.add_le_add (by assumption) (by assumption)) (by decide) | exact Nat.lt_of_le_of_lt (by assumption) (by decide) | exact Nat.lt_of_lt_of_le (by assumption) (by decide) | lia | omega)
              refine ex_append hok (ev_of (ev_slice_ss (ev_name hok rfl) (ev_name hok rfl) (ev_name (d := .int q) hok rfl) hsx) (congrArg Dat.str hslice)) rfl (by unfold strValues; simp; (first | assumption | decide | exact Nat.le_trans (by assumption) (by decide) | exact Nat.le_trans (Nat.add_le_add (by assumption) (by assumption)) (by decide) | exact Nat.lt_of_le_of_lt (by assumption) (by decide) | exact Nat.lt_of_lt_of_le (by assumption) (by decide) | lia | omega)) fun v n' hv => ?_
              obtain ⟨t, rfl⟩ := hv _ rfl
              refine ex_end (mid_end (l ++ [(S ((x.drop st).take (q - st)), t)], n') ⟨acc ++ [(x.drop st).take (q - st)], by simp [hacc], by simp; (first | assumption | decide | exact Nat.le_trans (by assumption) (by decide) | exact Nat.le_trans (Nat.add_le_add (by assumption) (by assumption)) (by decide) | exact Nat.lt_of_le_of_lt (by assumption) (by decide) | exact Nat.lt_of_lt_of_le (by assumption) (by decide) | lia | omega), fun p hp => ?_, he'⟩ (sub_of rfl) tmp_nil (by simp [strValues]))
              rcases List.mem_append.mp hp with hp | hp
              · exact hsz p hp
              · rw [List.mem_singleton.mp hp]; simp; (first | assumption | decide | exact Nat.le_trans (by assumption) (by decide) | exact Nat.le_trans (Nat.add_le_add (by assumption) (by assumption)) (by decide) | exact Nat.lt_of_le_of_lt (by assumption) (by decide) | exact Nat.lt_of_lt_of_le (by assumption) (by decide) | lia | omega)
          · rintro ⟨l', n'⟩ ⟨acc', hacc', hlen', hsz', he''⟩
            refine ex_assign hok (ev_add (ev_name hok rfl) ev_int) rfl ?_
            refine ex_assign hok ev_none rfl ?_
            refine ex_end (ex_end (turnG_end (p.1 + 1, none, l', n') ⟨p.1 + 1, acc', hacc', Nat.le_refl _, by (first | assumption | decide | exact Nat.le_trans (by assumption) (by decide) | exact Nat.le_trans (Nat.add_le_add (by assumption) (by assumption)) (by decide) | exact Nat.lt_of_le_of_lt (by assumption) (by decide) | exact Nat.lt_of_lt_of_le (by assumption) (by decide) | lia | omega), hinc', (fun q h => by cases h), hlen', hsz', he''⟩ (sub_of rfl) rfl))
      · refine ex_if_no (tr_of (tr_cmp (ev_name hok rfl) (ev_strS [34] rfl) cmp_eqS) (by rw [S_beq]; exact decide_eq_false hq)) ?_
        refine turnG_end (st, op, l, n) ⟨p.1 + 1, acc, hacc, by (first | assumption | decide | exact Nat.le_trans (by assumption) (by decide) | exact Nat.le_trans (Nat.add_le_add (by assumption) (by assumption)) (by decide) | exact Nat.lt_of_le_of_lt (by assumption) (by decide) | exact Nat.lt_of_lt_of_le (by assumption) (by decide) | lia | omega), hsx', hinc', hop, by (first | assumption | decide | exact Nat.le_trans (by assumption) (by decide) | exact Nat.le_trans (Nat.add_le_add (by assumption) (by assumption)) (by decide) | exact Nat.lt_of_le_of_lt (by assumption) (by decide) | exact Nat.lt_of_lt_of_le (by assumption) (by decide) | lia | omega), hsz, ?_⟩ (sub_of rfl) rfl
        rw [← he]; show _ = acc ++ (if p.2 = [34] then _ else _); rw [if_neg hq]
    · rintro ⟨st, op, l, n⟩ ⟨b, acc, hacc, hsb, hsx', hinc, hop, hlen, hsz, he⟩
      dsimp only at hacc hsb hsx' hinc hop hlen hsz he ⊢
      rw [List.length_map] at hlen he
      rw [List.drop_length] at he
      have hi2 : (escP x 0 false).length ≤ 2000 := by have := escP_len x 0 false; simp at this; (first | assumption | decide | exact Nat.le_trans (by assumption) (by decide) | exact Nat.le_trans (Nat.add_le_add (by assumption) (by assumption)) (by decide) | exact Nat.lt_of_le_of_lt (by assumption) (by decide) | exact Nat.lt_of_lt_of_le (by assumption) (by decide) | lia | omega)
      have hll : l.length = acc.length := by have := congrArg List.length hacc; simpa using this
      have he' : acc ++ (if st < x.length then [x.drop st] else []) = stripGo x (escP x 0 false) 0 none := he
      refine ex_mid (σ := List (Str × Tok) × Nat) (fun a => [("result", .raw (.ref D))]) (fun _ => []) (fun a => [(D, lstO (strValues a.1) a.2)])
        (fun a => ∃ acc', a.1.map (·.1) = acc'.map S ∧ acc'.length ≤ 2001 ∧ (∀ p ∈ acc', p.length ≤ 2000) ∧ acc' = stripGo x (escP x 0 false) 0 none) ?_ ?_
      · by_cases hlt : st < x.length
        · rw [if_pos hlt] at he'
          refine ex_if_yes (tr_of (tr_cmp (ev_name ok rfl) (ev_lenS ok rfl (fun _ => rfl) (ev_name ok rfl) hsx) cmp_lt) (decide_eq_true (by rw [S_length]; (first | assumption | decide | exact Nat.le_trans (by assumption) (by decide) | exact Nat.le_trans (Nat.add_le_add (by assumption) (by assumption)) (by decide) | exact Nat.lt_of_le_of_lt (by assumption) (by decide) | exact Nat.lt_of_lt_of_le (by assumption) (by decide) | lia | omega)))) ?_
          have hslice : Txt.slice (S x) (some (st : Int)) none = S (x.drop st) := by rw [slice_sn (by (first | assumption | decide | exact Nat.le_trans (by assumption) (by decide) | exact Nat.le_trans (Nat.add_le_add (by assumption) (by assumption)) (by decide) | exact Nat.lt_of_le_of_lt (by assumption) (by decide) | exact Nat.lt_of_lt_of_le (by assumption) (by decide) | lia | omega)) (by (first | assumption | decide | exact Nat.le_trans (by assumption) (by decide) | exact Nat.le_trans (Nat.add_le_add (by assumption) (by assumption)) (by decide) | exact Nat.lt_of_le_of_lt (by assumption) (by decide) | exact Nat.lt_of_lt_of_le (by assumption) (by decide) | lia | omega))]; congr 2
          refine ex_append ok (ev_of (ev_slice_sn (ev_name ok rfl) (ev_name ok rfl) hsx) (congrArg Dat.str hslice)) rfl (by unfold strValues; simp; (first | assumption | decide | exact Nat.le_trans (by assumption) (by decide) | exact Nat.le_trans (Nat.add_le_add (by assumption) (by assumption)) (by decide) | exact Nat.lt_of_le_of_lt (by assumption) (by decide) | exact Nat.lt_of_lt_of_le (by assumption) (by decide) | lia | omega)) fun v n' hv => ?_
          obtain ⟨t, rfl⟩ := hv _ rfl
          refine ex_end (mid_end (l ++ [(S (x.drop st), t)], n') ⟨acc ++ [x.drop st], by simp [hacc], by simp; (first | assumption | decide | exact Nat.le_trans (by assumption) (by decide) | exact Nat.le_trans (Nat.add_le_add (by assumption) (by assumption)) (by decide) | exact Nat.lt_of_le_of_lt (by assumption) (by decide) | exact Nat.lt_of_lt_of_le (by assumption) (by decide) | lia | omega), fun p hp => ?_, he'⟩ (sub_of rfl) tmp_nil (by simp [strValues]))
          rcases List.mem_append.mp hp with hp | hp
          · exact hsz p hp
          · rw [List.mem_singleton.mp hp]; simp; (first | assumption | decide | exact Nat.le_trans (by assumption) (by decide) | exact Nat.le_trans (Nat.add_le_add (by assumption) (by assumption)) (by decide) | exact Nat.lt_of_le_of_lt (by assumption) (by decide) | exact Nat.lt_of_lt_of_le (by assumption) (by decide) | lia | omega)
        · rw [if_neg hlt, List.append_nil] at he'
          refine ex_if_no (tr_of (tr_cmp (ev_name ok rfl) (ev_lenS ok rfl (fun _ => rfl) (ev_name ok rfl) hsx) cmp_lt) (decide_eq_false (by rw [S_length]; (first | assumption | decide | exact Nat.le_trans (by assumption) (by decide) | exact Nat.le_trans (Nat.add_le_add (by assumption) (by assumption)) (by decide) | exact Nat.lt_of_le_of_lt (by assumption) (by decide) | exact Nat.lt_of_lt_of_le (by assumption) (by decide) | lia | omega)))) ?_
          exact mid_end (l, n) ⟨acc, hacc, by (first | assumption | decide | exact Nat.le_trans (by assumption) (by decide) | exact Nat.le_trans (Nat.add_le_add (by assumption) (by assumption)) (by decide) | exact Nat.lt_of_le_of_lt (by assumption) (by decide) | exact Nat.lt_of_lt_of_le (by assumption) (by decide) | lia | omega), hsz, he'⟩ (sub_of rfl) tmp_nil rfl
      · rintro ⟨l', n'⟩ ⟨acc', hacc', hlen', hsz', rfl⟩
        dsimp only at hacc' ⊢
        refine ex_ret' (ev_joinOwn ok (ev_strS [] rfl) rfl ?_) (congrArg Dat.str ?_) fun v s st => retP st
        · rw [hacc', List.map_map]
          have hsum : ∀ L : List (List Nat), (∀ p ∈ L, p.length ≤ 2000) → (L.map (Str.length ∘ S)).sum ≤ 2000 * L.length := fun L => by
            induction L with
            | nil => intro _; simp
            | cons a r ih =>
              intro h
              have h1 := h a (by simp)
              have h2 := ih fun p hp => h p (by simp [hp])
              have h3 : ((a :: r).map (Str.length ∘ S)).sum = a.length + (r.map (Str.length ∘ S)).sum := by rw [List.map_cons, List.sum_cons]; rfl
              rw [h3, List.length_cons]
              (first | assumption | decide | exact Nat.le_trans (by assumption) (by decide) | exact Nat.le_trans (Nat.add_le_add (by assumption) (by assumption)) (by decide) | exact Nat.lt_of_le_of_lt (by assumption) (by decide) | exact Nat.lt_of_lt_of_le (by assumption) (by decide) | lia | omega)
          have h1 := hsum _ hsz'
          have h0 : (S []).length = 0 := rfl
          have h2 : l'.length = (stripGo x (escP x 0 false) 0 none).length := by have := congrArg List.length hacc'; simpa using this
          show (List.map (Str.length ∘ S) (stripGo x (escP x 0 false) 0 none)).sum + l'.length * (S []).length ≤ _
          rw [h0]
          (first | assumption | decide | exact Nat.le_trans (by assumption) (by decide) | exact Nat.le_trans (Nat.add_le_add (by assumption) (by assumption)) (by decide) | exact Nat.lt_of_le_of_lt (by assumption) (by decide) | exact Nat.lt_of_lt_of_le (by assumption) (by decide) | lia | omega)
        · rw [hacc']; exact join_S _
end Mine
end

section
open PySem PySem.W PyProof.Rows PySem.Calls
open Sem (wp)
set_option maxRecDepth 100000
set_option linter.all false
set_option maxHeartbeats 800000
namespace Mine
noncomputable def chkGo : List (Nat × List Nat) → Nat → Bool
  | [], o => o == 0
  | p :: r, o => if p.2 = [40] then chkGo r (o + 1) else if p.2 = [41] then (if o = 0 then false else chkGo r (o - 1)) else chkGo r o
noncomputable def chkL (x : List Nat) : Bool := chkGo (escP (stripL x) 0 false) 0
theorem fn42 (x : List Nat) (hx : x.length ≤ 2000) : Fn 3 42 [.str (S x)] (.bool (chkL x)) := by
  refine fn_intro1 (fun _ => rfl) (fun _ => rfl) (fun _ => rfl) rfl (by decide) (by decide) rfl rfl rfl ?_
  intro w L A g opq keep os lvl gp ok cal hl
  refine ex_assign ok (ev_call1 ok cal (fn35 x hx) (by show 2 ≤ lvl; (first | assumption | decide | exact Nat.le_trans (by assumption) (by decide) | exact Nat.le_trans (Nat.add_le_add (by assumption) (by assumption)) (by decide) | exact Nat.lt_of_le_of_lt (by assumption) (by decide) | exact Nat.lt_of_lt_of_le (by assumption) (by decide) | lia | omega)) rfl (fun _ => rfl) (fun _ => rfl) (ev_name ok rfl)) rfl ?_
  refine ex_assign ok ev_int rfl ?_
  have hchk : chkL x = chkGo (escP (stripL x) 0 false) 0 := rfl
  rw [hchk]
  generalize stripL x = y
  refine ex_forG (σ := Nat) (k := 1) (items := (escP y 0 false).map itD) (fun a => [("opens", .dat (.int a))]) (fun _ => [])
    (fun i a => chkGo ((escP y 0 false).drop i) a = chkGo (escP y 0 false) 0) 0 ok (gnEsc y) (by show 1 ≤ lvl; (first | assumption | decide | exact Nat.le_trans (by assumption) (by decide) | exact Nat.le_trans (Nat.add_le_add (by assumption) (by assumption)) (by decide) | exact Nat.lt_of_le_of_lt (by assumption) (by decide) | exact Nat.lt_of_lt_of_le (by assumption) (by decide) | lia | omega)) rfl (fun _ => rfl) (fun _ => rfl) (ev_name ok rfl) rfl (sub_of rfl) rfl ?_ ?_
  · intro i a d gn gs H hd he
    rw [List.getElem?_map] at hd
    obtain ⟨p, hp, rfl⟩ := Option.map_eq_some_iff.mp hd
    obtain ⟨hi, hpe⟩ := List.getElem?_eq_some_iff.mp hp
    have hdrop : (escP y 0 false).drop i = p :: (escP y 0 false).drop (i + 1) := by rw [List.drop_eq_getElem_cons hi, hpe]
    rw [hdrop] at he
    have he' : (if p.2 = [40] then chkGo ((escP y 0 false).drop (i + 1)) (a + 1) else if p.2 = [41] then (if a = 0 then false else chkGo ((escP y 0 false).drop (i + 1)) (a - 1)) else chkGo ((escP y 0 false).drop (i + 1)) a) = chkGo (escP y 0 false) 0 := he
    have hok := hide_ok (g := gn) (gs := gs) (H := H) ok
    refine ⟨_, bnd_pair hok rfl rfl, ?_⟩
    by_cases h1 : p.2 = [40]
    · rw [if_pos h1] at he'
      refine ex_if_yes (tr_of (tr_cmp (ev_name hok rfl) (ev_strS [40] rfl) cmp_eqS) (by rw [S_beq]; exact decide_eq_true h1)) ?_
      refine ex_aug hok rfl rfl ev_int aug_add ?_
      exact ex_end (turnG_end (a + 1) he' (sub_of rfl) rfl)
    · rw [if_neg h1] at he'
      refine ex_if (b := false) (tr_of (tr_cmp (ev_name hok rfl) (ev_strS [40] rfl) cmp_eqS) (by rw [S_beq]; exact decide_eq_false h1)) (fun h => by cases h) fun _ => ?_
      by_cases h2 : p.2 = [41]
      · rw [if_pos h2] at he'
        refine ex_if_yes (tr_of (tr_cmp (ev_name hok rfl) (ev_strS [41] rfl) cmp_eqS) (by rw [S_beq]; exact decide_eq_true h2)) ?_
        refine ex_aug hok rfl rfl ev_int aug_sub ?_
        by_cases h3 : a = 0
        · rw [if_pos h3] at he'
          refine ex_if_yes (tr_of (tr_cmp (ev_name hok rfl) ev_int cmp_lt) (decide_eq_true (by (first | assumption | decide | exact Nat.le_trans (by assumption) (by decide) | exact Nat.le_trans (Nat.add_le_add (by assumption) (by assumption)) (by decide) | exact Nat.lt_of_le_of_lt (by assumption) (by decide) | exact Nat.lt_of_lt_of_le (by assumption) (by decide) | lia | omega)))) ?_
          rw [← he']
          exact ex_return ev_bool fun v s st => retP st.unhide
        · rw [if_neg h3] at he'
          refine ex_if_no (tr_of (tr_cmp (ev_name hok rfl) ev_int cmp_lt) (decide_eq_false (by (first | assumption | decide | exact Nat.le_trans (by assumption) (by decide) | exact Nat.le_trans (Nat.add_le_add (by assumption) (by assumption)) (by decide) | exact Nat.lt_of_le_of_lt (by assumption) (by decide) | exact Nat.lt_of_lt_of_le (by assumption) (by decide) | lia | omega)))) ?_
          refine ex_end (ex_end (turnG_end (a - 1) he' (sub_of ?_) rfl))
          show [some (AV.dat (Dat.int ((a : Int) - 1)))] = [some (AV.dat (.int ((a - 1 : Nat) : Int)))]
          rw [show ((a : Int) - 1) = ((a - 1 : Nat) : Int) by (first | assumption | decide | exact Nat.le_trans (by assumption) (by decide) | exact Nat.le_trans (Nat.add_le_add (by assumption) (by assumption)) (by decide) | exact Nat.lt_of_le_of_lt (by assumption) (by decide) | exact Nat.lt_of_lt_of_le (by assumption) (by decide) | lia | omega)]
      · rw [if_neg h2] at he'
        refine ex_if_no (tr_of (tr_cmp (ev_name hok rfl) (ev_strS [41] rfl) cmp_eqS) (by rw [S_beq]; exact decide_eq_false h2)) ?_
        exact ex_end (turnG_end a he' (sub_of rfl) rfl)
  · intro a he
    rw [List.length_map, List.drop_length] at he
    refine ex_ret' (ev_cmp (ev_name ok rfl) ev_int cmp_eq) (congrArg Dat.bool ?_) fun v s st => retP st
    rw [← he]
    show ((a : Int) == 0) = (a == 0)
    by_cases h : a = 0
    · subst h; rfl
    · rw [beq_false_of_ne h, beq_false_of_ne (by (first | assumption | decide | exact Nat.le_trans (by assumption) (by decide) | exact Nat.le_trans (Nat.add_le_add (by assumption) (by assumption)) (by decide) | exact Nat.lt_of_le_of_lt (by assumption) (by decide) | exact Nat.lt_of_lt_of_le (by assumption) (by decide) | lia | omega))]
end Mine
end

section
open PySem PySem.W PyProof.Rows PySem.Calls
set_option maxRecDepth 100000
set_option linter.all false
set_option maxHeartbeats 800000
namespace Mine

/-- the frame inside a comprehension -/
noncomputable def inC (C : Cx) (scope : Scope) (cl : List (Str × Addr)) (Lc : Addr) (opq keep : Mu) : Cx := { C with env := compEnvC scope cl Lc C.env, opq := opq, keep := keep }
theorem inC_ok {C : Cx} {scope : Scope} {cl : List (Str × Addr)} {Lc : Addr} {opq keep : Mu} (ok : C.Ok) (hk : scope.kind = .function) : (inC C scope cl Lc opq keep).Ok := ⟨hk, ok.glob, ok.blt, ok.hand, ok.dep, ok.uni, ok.K, ok.top⟩

section
variable {C : Cx} {scope : Scope} {cl : List (Str × Addr)} {Lc : Addr} {oc oL : Obj} {μi μo : Mu} {ρ ρ₀ : AEnv} {τ : Tmp} {m m' : Str → Option Value} {nd : Mu} {s : Shared}
/-- the names that a comprehension sees -/
noncomputable def Seen (C : Cx) (scope : Scope) (cl : List (Str × Addr)) (ρ ρ₀ : AEnv) : Prop :=
  ∀ x a, ρ₀.lookup x = some a → ρ.lookup x = some a ∧ C.env.kindOf x = some .cell ∧ (∀ Lc, (compEnvC scope cl Lc C.env).kindOf x = some .cell) ∧ cl.lookup x = C.env.cells.lookup x

theorem StW.enter (h : StW C ρ τ ((Lc, oc) :: (μi ++ μo)) m nd s) (hge : C.h₀.objs.size ≤ Lc) (hn : s.heap.Ns Lc m') (hv : Seen C scope cl ρ ρ₀) :
    ∃ oL, (s.heap.get? C.env.locals = some oL ∧ ∀ h' : Heap, h'.get? C.env.locals = some oL → h'.Ns C.env.locals m) ∧ StW (inC C scope cl Lc ((C.env.locals, oL) :: (μo ++ C.opq)) nd) ρ₀ [] μi m' nd s := by
  obtain ⟨oL, es, ep, hL, hLr⟩ := h.F.ns
  have hnd := h.nodup
  rw [List.map_cons, List.nodup_cons, List.map_append, List.nodup_append, List.mem_append] at hnd
  have hLc := h.N (Lc, oc) (List.mem_append.mpr (.inl (.head _)))
  have hmi : ∀ p ∈ μi, p ∈ (Lc, oc) :: (μi ++ μo) := fun p hp => .tail _ (List.mem_append.mpr (.inl hp))
  have hmo : ∀ p ∈ μo, p ∈ (Lc, oc) :: (μi ++ μo) := fun p hp => .tail _ (List.mem_append.mpr (.inr hp))
  have hL0 : C.h₀.get? C.env.locals = none := Heap.get?_none_of_le h.F.above
  refine ⟨oL, ⟨hL, fun h' e => ⟨oL, es, ep, e, hLr⟩⟩, ⟨hn, h.F.keep, hge⟩, fun p hp => ?_, fun p hp q hq => ?_, fun p hp q hq => ?_, hnd.2.1, fun _ hp => hp, h.gens, fun x a e => ?_, (fun _ hp => nomatch hp), h.os⟩
  · rcases List.mem_append.mp hp with hp | hp
    · have hN := h.N p (List.mem_append.mpr (.inl (hmi p hp)))
      exact ⟨hN.1, fun e => hnd.1 (.inl (by have hm := List.mem_map_of_mem (f := (·.1)) hp; rw [show p.1 = Lc from e] at hm; exact hm)), hN.2.2⟩
    · rcases List.mem_append.mp hp with hp | hp
      · rcases List.mem_cons.mp hp with rfl | hp
        · exact ⟨hL, fun e => hLc.2.1 e.symm, hL0⟩
        · rcases List.mem_append.mp hp with hp | hp
          · have hN := h.N p (List.mem_append.mpr (.inl (hmo p hp)))
            exact ⟨hN.1, fun e => hnd.1 (.inr (by have hm := List.mem_map_of_mem (f := (·.1)) hp; rw [show p.1 = Lc from e] at hm; exact hm)), hN.2.2⟩
          · have hN := h.N p (List.mem_append.mpr (.inr (List.mem_append.mpr (.inl hp))))
            exact ⟨hN.1, fun e => h.dis (Lc, oc) (.head _) p hp e.symm, hN.2.2⟩
      · have hN := h.N p (List.mem_append.mpr (.inr (List.mem_append.mpr (.inr hp))))
        exact ⟨hN.1, fun e => h.sep (Lc, oc) (List.mem_append.mpr (.inl (.head _))) p hp e.symm, hN.2.2⟩
  · rcases List.mem_append.mp hp with hp | hp
    · exact h.sep p (List.mem_append.mpr (.inl (hmi p hp))) q hq
    · rcases List.mem_cons.mp hp with rfl | hp
      · exact fun e => (h.N q (List.mem_append.mpr (.inr (List.mem_append.mpr (.inr hq))))).2.1 e.symm
      · rcases List.mem_append.mp hp with hp | hp
        · exact h.sep p (List.mem_append.mpr (.inl (hmo p hp))) q hq
        · exact h.sep p (List.mem_append.mpr (.inr hp)) q hq
  · rcases List.mem_cons.mp hq with rfl | hq
    · exact (h.N p (List.mem_append.mpr (.inl (hmi p hp)))).2.1
    · rcases List.mem_append.mp hq with hq | hq
      · exact hnd.2.2.2 _ (List.mem_map_of_mem hp) _ (List.mem_map_of_mem hq)
      · exact h.dis p (hmi p hp) q hq
  · obtain ⟨h1, h2, h3, h4⟩ := hv x a e
    rcases h.vars x a h1 with ⟨hk, _⟩ | ⟨_, c, o, v, e1, e2, e3, e4⟩
    · rw [h2] at hk; cases hk
    · exact .inr ⟨.inl (h3 Lc), c, o, v, h4.trans e1, e2, e3, e4⟩

theorem StW.leave {μi' : Mu} {τi τ' : Tmp} {ρi : AEnv} {mi : Str → Option Value} {nd' : Mu} {s' : Shared} (h : StW C ρ τ ((Lc, oc) :: (μi ++ μo)) m nd s) (hL : ∀ h' : Heap, h'.get? C.env.locals = some oL → h'.Ns C.env.locals m)
    (h' : StW (inC C scope cl Lc ((C.env.locals, oL) :: (μo ++ C.opq)) nd) ρi τi μi' mi nd' s') (hτ : ∀ p ∈ τ', p ∈ τi) :
    ∃ oc', (∀ h : Heap, h.get? Lc = some oc' → h.Ns Lc mi) ∧ StW C ρ (τ' ++ τ) ((Lc, oc') :: (μi' ++ μo)) m nd' s' := by
  obtain ⟨oc', es, ep, hc, hcr⟩ := h'.F.ns
  have hnd := h.nodup
  rw [List.map_cons, List.nodup_cons, List.map_append, List.nodup_append, List.mem_append] at hnd
  have hLc := h.N (Lc, oc) (List.mem_append.mpr (.inl (.head _)))
  have hmo : ∀ p ∈ μo, p ∈ (Lc, oc) :: (μi ++ μo) := fun p hp => .tail _ (List.mem_append.mpr (.inr hp))
  have hLN := h'.N (C.env.locals, oL) (List.mem_append.mpr (.inr (List.mem_append.mpr (.inl (.head _)))))
  have hmoN : ∀ p ∈ μo, p ∈ μi' ++ ((inC C scope cl Lc ((C.env.locals, oL) :: (μo ++ C.opq)) nd).opq ++ nd') := fun p hp => List.mem_append.mpr (.inr (List.mem_append.mpr (.inl (.tail _ (List.mem_append.mpr (.inl hp))))))
  have hopN : ∀ p ∈ C.opq, p ∈ μi' ++ ((inC C scope cl Lc ((C.env.locals, oL) :: (μo ++ C.opq)) nd).opq ++ nd') := fun p hp => List.mem_append.mpr (.inr (List.mem_append.mpr (.inl (.tail _ (List.mem_append.mpr (.inr hp))))))
  refine ⟨oc', fun h e => ⟨oc', es, ep, e, hcr⟩, ⟨hL _ hLN.1, h'.F.keep, h.F.above⟩, fun p hp => ?_, fun p hp q hq => ?_, fun p hp q hq => ?_, ?_, fun p hp => h'.keep p (h.keep p hp), h'.gens, fun x a e => (h.vars x a e).mono h'.keep, fun p hp => ?_, h'.os⟩
  · have hnd' : ∀ p ∈ nd', s'.heap.get? p.1 = some p.2 ∧ p.1 ≠ C.env.locals ∧ C.h₀.get? p.1 = none := fun p hp =>
      have hN := h'.N p (List.mem_append.mpr (.inr (List.mem_append.mpr (.inr hp))))
      ⟨hN.1, fun e => h'.sep (C.env.locals, oL) (List.mem_append.mpr (.inr (.head _))) p hp e.symm, hN.2.2⟩
    rcases List.mem_append.mp hp with hp | hp
    · rcases List.mem_cons.mp hp with rfl | hp
      · exact ⟨hc, hLc.2⟩
      · rcases List.mem_append.mp hp with hp | hp
        · have hN := h'.N p (List.mem_append.mpr (.inl hp))
          exact ⟨hN.1, h'.dis p hp (C.env.locals, oL) (.head _), hN.2.2⟩
        · exact ⟨(h'.N p (hmoN p hp)).1, (h.N p (List.mem_append.mpr (.inl (hmo p hp)))).2⟩
    · rcases List.mem_append.mp hp with hp | hp
      · exact ⟨(h'.N p (hopN p hp)).1, (h.N p (List.mem_append.mpr (.inr (List.mem_append.mpr (.inl hp))))).2⟩
      · exact hnd' p hp
  · rcases List.mem_append.mp hp with hp | hp
    · rcases List.mem_cons.mp hp with rfl | hp
      · exact fun e => (h'.N q (List.mem_append.mpr (.inr (List.mem_append.mpr (.inr hq))))).2.1 e.symm
      · rcases List.mem_append.mp hp with hp | hp
        · exact h'.sep p (List.mem_append.mpr (.inl hp)) q hq
        · exact h'.sep p (List.mem_append.mpr (.inr (.tail _ (List.mem_append.mpr (.inl hp))))) q hq
    · exact h'.sep p (List.mem_append.mpr (.inr (.tail _ (List.mem_append.mpr (.inr hp))))) q hq
  · rcases List.mem_cons.mp hp with rfl | hp
    · exact h.dis (Lc, oc) (.head _) q hq
    · rcases List.mem_append.mp hp with hp | hp
      · exact h'.dis p hp q (.tail _ (List.mem_append.mpr (.inr hq)))
      · exact h.dis p (hmo p hp) q hq
  · rw [List.map_cons, List.nodup_cons, List.map_append, List.nodup_append, List.mem_append]
    refine ⟨fun hm => ?_, h'.nodup, hnd.2.2.1, fun a ha b hb => ?_⟩
    · rcases hm with hm | hm
      · obtain ⟨p, hp, e⟩ := List.mem_map.mp hm
        exact (h'.N p (List.mem_append.mpr (.inl hp))).2.1 e
      · exact hnd.1 (.inr hm)
    · obtain ⟨p, hp, rfl⟩ := List.mem_map.mp ha
      obtain ⟨q, hq, rfl⟩ := List.mem_map.mp hb
      exact h'.dis p hp q (.tail _ (List.mem_append.mpr (.inl hq)))
  · rcases List.mem_append.mp hp with hp | hp
    · exact h'.tmps p (hτ p hp)
    · exact (h.tmps p hp).mono h'.keep
end

/-- an iterator with things of its own, the let-go of its tuple taken in -/
structure ItT (C : Cx) (τ₀ : Tmp) (I : Addr) (tgt : Expr) (ds : List Dat) (P : Nat → Mu → Prop) : Prop where
  item : ∀ (i : Nat) (d : Dat) (ρ : AEnv) (τ : Tmp) (μ own : Mu) (s : Shared) (R : Shared → Prop) (Q : Value → Shared → Prop) (E : Value → Shared → Prop), ds[i]? = some d → P i own → (∀ p ∈ τ₀, p ∈ τ) → St C ρ τ (own ++ μ) s →
    (∀ v own' s', P (i + 1) own' → St C ρ ((v, d) :: τ) (own' ++ μ) s' → Q v s') → wpAny (model P0 C.w) C.A (pyNext (.ref I)) (fun r s₁ => match r with
      | none => R s₁
      | some v => wpAny (model P0 C.w) C.A (letOwnedTupleGo tgt (.ref I) v) (fun _ s₂ => Q v s₂) E s₁) E s
  done : ∀ (ρ : AEnv) (τ : Tmp) (μ own : Mu) (s : Shared) (Q : Option Value → Shared → Prop) (E : Value → Shared → Prop), P ds.length own → (∀ p ∈ τ₀, p ∈ τ) → St C ρ τ (own ++ μ) s → (∀ s', St C ρ τ μ s' → Q none s') → wpAny (model P0 C.w) C.A (pyNext (.ref I)) Q E s
  self : ∀ (i : Nat) (ρ : AEnv) (τ : Tmp) (μ own : Mu) (s : Shared) (Q : Value → Shared → Prop) (E : Value → Shared → Prop), P i own → (∀ p ∈ τ₀, p ∈ τ) → St C ρ τ (own ++ μ) s → Q (.ref I) s → wpAny (model P0 C.w) C.A (pyIter (.ref I)) Q E s
theorem Iter.toT {C : Cx} {τ₀ : Tmp} {I : Addr} {ds : List Dat} {P : Nat → Obj → Prop} (tgt : Expr) (X : Iter C τ₀ I ds P) : ItT C τ₀ I tgt ds (fun i own => ∃ o, own = [(I, o)] ∧ P i o) where
  item := fun i d ρ τ μ own s R Q E hd hP hs st hQ => by
    obtain ⟨o, rfl, hP⟩ := hP
    refine X.item i d ρ τ μ s _ E o hd hP hs st fun v o' s' hP' st' => ?_
    obtain ⟨nm, hc, hn⟩ := X.cls _ _ hP'
    exact wp_lets (st'.muGet (.head _)) hc hn (hQ v [(I, o')] s' ⟨o', rfl, hP'⟩ st')
  done := fun ρ τ μ own s Q E hP hs st hQ => by
    obtain ⟨o, rfl, hP⟩ := hP
    exact X.done ρ τ μ s Q E o hP hs st hQ
  self := fun i ρ τ μ own s Q E hP hs st hQ => by
    obtain ⟨o, rfl, hP⟩ := hP
    exact X.self i ρ τ μ s Q E o hP hs st hQ
/-- what a comprehension goes over -/
structure ItbT (C : Cx) (ρ : AEnv) (μ : Mu) (iter tgt : Expr) (ds : List Dat) : Prop where
  of ::
  run : ∀ (τ : Tmp) (s : Shared) (Q : Value → Shared → Prop) (E : Value → Shared → Prop), St C ρ τ μ s →
    (∀ (I : Addr) (own : Mu) (τ₀ : Tmp) (P : Nat → Mu → Prop) (s' : Shared), ItT C τ₀ I tgt ds P → P 0 own → St C ρ (τ₀ ++ τ) (own ++ μ) s' → Q (.ref I) s') →
    wpAny (model P0 C.w) C.A (eval iter C.env) (fun x s₁ => wpAny (model P0 C.w) C.A (pyIter x) Q E s₁) E s
theorem Itb.toT {C : Cx} {ρ : AEnv} {μ : Mu} {iter : Expr} {ds : List Dat} (tgt : Expr) (h : Itb C ρ μ iter ds) : ItbT C ρ μ iter tgt ds := .of fun τ s Q E st hQ =>
  h.run τ s Q E st fun I o τ₀ P s' X hP st' => hQ I [(I, o)] τ₀ _ s' (X.toT tgt) ⟨o, rfl, hP⟩ st'
end Mine
end

section
open PySem PySem.W PyProof.Rows PySem.Calls
set_option maxRecDepth 100000
set_option linter.all false
set_option maxHeartbeats 800000
namespace Mine
section
variable {prog : Program} {w : World} {A : Around}
theorem codeAny_compLoopT {R : Result → Shared → Prop} {s : Shared} {elt target iter : Expr} {ifs : List Expr} {scope : Scope} {pos : Pos} {it acc : Value} {env : Env} (I : Nat → Shared → Prop)
    (turn : ∀ n s, I n s → ∀ E, wpAny (model prog w) A (pyNext it) (fun r s₁ => match r with
      | none => R (.ok .next) s₁
      | some v => wpAny (model prog w) A (letOwnedTupleGo target it v) (fun _ s₂ => wpAny (model prog w) A (assign target env v) (fun _ s₂ =>
          wpAny (model prog w) A (forIn ifs true fun c r => if r = true then do let ok ← isTrue c env (eval c env); pure (ForInStep.yield ok) else pure (ForInStep.yield r)) (fun ok s₃ =>
            if ok = true then wpAny (model prog w) A (eval elt env) (fun x s₄ =>
              wpAny (model prog w) A (call (.builtin "list.append") [acc, x]) (fun _ s₅ => ∃ m, m < n ∧ I m s₅) E s₄) E s₃
            else ∃ m, m < n ∧ I m s₃) E s₂) E s₂) E s₁) E s)
    (n : Nat) (h : I n s) :
    codeAny (model prog w) A (.compLoop (.ListComp elt [⟨target, iter, ifs, 0⟩] scope pos) 0 it acc env) R s := by
  refine codeAny_loop rfl I (fun n s hI => ?_) n h
  show wpAny _ A ((compTurn (.ListComp elt [⟨target, iter, ifs, 0⟩] scope pos) 0 it acc env).onRaise (fun x => do noteFrame x env; theTreesLotGoes x)) _ _ s
  refine wpAny_noted ?_
  rw [compTurn_list]
  refine wpAny_bind (wpAny_standAt (wpAny_bind (wpAny_mono (turn n s hI _) (fun r s₁ h₁ => ?_) fun _ _ h' => h')))
  cases r with
  | none => exact wpAny_pure h₁
  | some v =>
    refine wpAny_bind (wpAny_mono h₁ (fun _ s₂ h₂ => ?_) fun _ _ h' => h')
    refine wpAny_bind (wpAny_mono h₂ (fun _ s₂ h₂ => wpAny_bind (wpAny_mono h₂ (fun ok s₃ h₃ => ?_) fun _ _ h' => h')) fun _ _ h' => h')
    cases ok with
    | false => exact wpAny_pure ⟨rfl, h₃⟩
    | true =>
      exact wpAny_bind (wpAny_bind (wpAny_mono h₃ (fun x s₄ h₄ => wpAny_bind (wpAny_mono h₄ (fun _ s₅ h₅ => wpAny_pure (wpAny_pure ⟨rfl, h₅⟩)) fun _ _ h' => h')) fun _ _ h' => h'))
end

/-- what the inside of a comprehension does with one datum: some e is kept, none is left out -/
structure CompT (C : Cx) (ρ₀ : AEnv) (tgt elt : Expr) (ifs : List Expr) (d : Dat) (r : Option Dat) : Prop where
  of ::
  run : ∃ ρ', Bnd C ρ₀ tgt d ρ' ∧ match r with
    | some e => (∀ μ, Ev C ρ' μ elt e) ∧ (ifs = [] ∨ ∃ t, ifs = [t] ∧ ∀ μ, Tr C ρ' μ t true)
    | none => ∃ t, ifs = [t] ∧ ∀ μ, Tr C ρ' μ t false

/-- the data that are kept of the first n -/
noncomputable def kept (f : Nat → Option Dat) : Nat → List Dat
  | 0 => []
  | n + 1 => kept f n ++ (f n).toList

section
variable {C : Cx} {ρ ρ₀ : AEnv} {τ : Tmp} {μ : Mu} {s : Shared} {scope : Scope} {cl : List (Str × Addr)} {elt iter tgt : Expr} {ifs : List Expr} {pos : Pos} {ds : List Dat} {f : Nat → Option Dat}
theorem kept_len (f : Nat → Option Dat) : ∀ n, (kept f n).length ≤ n
  | 0 => Nat.le_refl _
  | n + 1 => by have := kept_len f n; unfold kept; rw [List.length_append]; cases f n <;> simp <;> (first | assumption | decide | exact Nat.le_trans (by assumption) (by decide) | exact Nat.le_trans (Nat.add_le_add (by assumption) (by assumption)) (by decide) | exact Nat.lt_of_le_of_lt (by assumption) (by decide) | exact Nat.lt_of_lt_of_le (by assumption) (by decide) | lia | omega)

theorem comp_core (ok : C.Ok) (hcell : ∀ y ∈ scope.names, y.2 ≠ .cell) (hkind : scope.kind = .function) (hv : Seen C scope cl ρ ρ₀) (hI : ItbT C ρ μ iter tgt ds) (hn : ds.length ≤ 1000)
    (hb : ∀ i d, ds[i]? = some d → ∀ Lc opq keep, (inC C scope cl Lc opq keep).Ok → CompT (inC C scope cl Lc opq keep) ρ₀ tgt elt ifs d (f i))
    (st : St C ρ τ μ s) (E : Value → Shared → Prop) {RR : Value → Addr → Result → Shared → Prop}
    (hRR : ∀ D Lc oc vs n s' m', vs.length = (kept f ds.length).length → s'.heap.Ns Lc m' → C.h₀.objs.size ≤ Lc → St C ρ (vs.zip (kept f ds.length) ++ τ) ((Lc, oc) :: (D, lstO vs n) :: μ) s' → RR (.ref D) Lc (.ok .next) s') :
    wpAny (model P0 C.w) C.A (eval iter C.env) (fun x s₁ => wpAny (model P0 C.w) C.A (pyIter x) (fun it s₂ => wpAny (model P0 C.w) C.A (newList []) (fun acc s₃ =>
      wpAny (model P0 C.w) C.A (newFunctionEnv scope C.env.globals cl [] C.env.qual none .none (some C.env)) (fun cenv s₄ =>
        codeAny (model P0 C.w) C.A (.compStart (.ListComp elt [⟨tgt, iter, ifs, 0⟩] scope pos) 0 it acc { cenv with scope := relabel scope C.env }) (RR acc cenv.locals) s₄) E s₃) E s₂) E s₁) E s := by
  refine hI.run τ s _ E st fun I own τ₀ P s₁ X hP st₁ => ?_
  refine wpAny_newObj_type (wpAny_newFunctionEnv hcell (by intro y hy; simp at hy) (fun h₁ hns₁ hsb₁ => ?_) hkind)
  dsimp only at hns₁ hsb₁ ⊢
  have st₂ := st₁.own (lstO [] 0)
  generalize hH2 : s₁.heap.push { cls := .type "list", dict := none, data := .seq ([] : List Value).toArray } = H2 at hns₁ hsb₁ ⊢
  have hH2' : s₁.heap.push (lstO [] 0) = H2 := hH2
  rw [hH2'] at st₂
  have hab : C.h₀.objs.size ≤ H2.objs.size := by
    obtain ⟨m, nd, h⟩ := st₂
    exact Nat.le_trans h.F.above (Nat.le_of_lt h.F.ns.lt)
  obtain ⟨oc, es, ep, hoc, hocr⟩ := hns₁
  have st₃ := St.upd (st₂.own { cls := .type "dict", dict := none, data := .dict #[] }) (o' := oc) hsb₁.extBut hoc (s₁.toks + ([] : List (Str × Value)).length)
  have hoc0 : ∀ h : Heap, h.get? H2.objs.size = some oc → h.Ns H2.objs.size fun x => List.lookup x ([] : List (Str × Value)).reverse := fun h e => ⟨oc, es, ep, e, hocr⟩
  have loop : ∀ (s₄ : Shared) (vs : List Value) (n : Nat) (oc : Obj) (own : Mu) (i : Nat) (m' : Str → Option Value), P i own → i ≤ ds.length → vs.length = (kept f i).length → (∀ h : Heap, h.get? H2.objs.size = some oc → h.Ns H2.objs.size m') →
      St C ρ (vs.zip (kept f i) ++ (τ₀ ++ τ)) ((H2.objs.size, oc) :: (s₁.heap.objs.size, lstO vs n) :: (own ++ μ)) s₄ →
      codeAny (model P0 C.w) C.A (.compLoop (.ListComp elt [⟨tgt, iter, ifs, 0⟩] scope pos) 0 (.ref I) (.ref s₁.heap.objs.size) (compEnvC scope cl H2.objs.size C.env)) (RR (.ref s₁.heap.objs.size) H2.objs.size) s₄ := by
    intro s₄ vs n oc own i m' hP hi hlen hns st₄
    refine codeAny_compLoopT (fun k s' => ∃ i vs n oc own m', k = ds.length + 1 - i ∧ P i own ∧ i ≤ ds.length ∧ vs.length = (kept f i).length ∧ (∀ h : Heap, h.get? H2.objs.size = some oc → h.Ns H2.objs.size m') ∧
      St C ρ (vs.zip (kept f i) ++ (τ₀ ++ τ)) ((H2.objs.size, oc) :: (s₁.heap.objs.size, lstO vs n) :: (own ++ μ)) s') ?_ (ds.length + 1 - i) ⟨i, vs, n, oc, own, m', rfl, hP, hi, hlen, hns, st₄⟩
    clear hP hi hlen hns st₄ s₄ vs n own i m'
    clear oc
    rintro k s' ⟨i, vs, n, oc, own, m', rfl, hP, hi, hlen, hns, st'⟩ E
    have hperm : ∀ own : Mu, ((H2.objs.size, oc) :: (s₁.heap.objs.size, lstO vs n) :: (own ++ μ)).Perm (own ++ ((H2.objs.size, oc) :: (s₁.heap.objs.size, lstO vs n) :: μ)) := fun own =>
      (List.perm_append_comm_assoc [(H2.objs.size, oc), (s₁.heap.objs.size, lstO vs n)] own μ)
    have hsub : ∀ p ∈ τ₀, p ∈ vs.zip (kept f i) ++ (τ₀ ++ τ) := fun p hp => List.mem_append.mpr (.inr (List.mem_append.mpr (.inl hp)))
    cases hd : ds[i]? with
    | none =>
      have hin : i = ds.length := Nat.le_antisymm hi (by simpa using hd)
      subst hin
      refine X.done _ _ _ own s' _ _ hP hsub (st'.perm (hperm own)) fun s₅ st₅ => ?_
      exact hRR _ _ oc vs n s₅ m' hlen (hns _ (st₅.muGet (.head _))) hab (st₅.tmpsOf fun p hp => (List.mem_append.mp hp).elim (fun q => List.mem_append.mpr (.inl q)) fun q => List.mem_append.mpr (.inr (List.mem_append.mpr (.inr q))))
    | some d =>
      have hlt : i < ds.length := (List.getElem?_eq_some_iff.mp hd).1
      refine X.item i d _ _ _ own s' _ _ _ hd hP hsub (st'.perm (hperm own)) fun v own' s₅ hP' st₅ => ?_
      obtain ⟨m, nd, h⟩ := st₅.perm (hperm own').symm
      have h' : StW C ρ ((v, d) :: (vs.zip (kept f i) ++ (τ₀ ++ τ))) ((H2.objs.size, oc) :: ([(s₁.heap.objs.size, lstO vs n)] ++ (own' ++ μ))) m nd s₅ := h
      obtain ⟨oL, hL, hE⟩ := h'.enter hab (hns _ (h.N _ (List.mem_append.mpr (.inl (.head _)))).1) hv
      obtain ⟨ρ', hbnd, hr⟩ := (hb i d hd H2.objs.size ((C.env.locals, oL) :: ((own' ++ μ) ++ C.opq)) nd (inC_ok ok hkind)).run
      refine hbnd.run [] _ v s₅ _ _ (hE.push (h.tmps _ (.head _))).st fun s₆ st₆ => ?_
      have hvl : vs.length ≤ 1000 := by have := kept_len f i; (first | assumption | decide | exact Nat.le_trans (by assumption) (by decide) | exact Nat.le_trans (Nat.add_le_add (by assumption) (by assumption)) (by decide) | exact Nat.lt_of_le_of_lt (by assumption) (by decide) | exact Nat.lt_of_lt_of_le (by assumption) (by decide) | lia | omega)
      cases hf : f i with
      | none =>
        rw [hf] at hr
        obtain ⟨t, rfl, ht⟩ := hr
        refine wpAny_tests_one ((ht _).run [] s₆ _ E st₆ fun s₇ st₇ => ?_)
        rw [if_neg (by decide)]
        obtain ⟨mi, nd', h7⟩ := st₇
        obtain ⟨oc', hns', h10⟩ := h'.leave hL.2 h7 (τ' := []) (fun _ hp => nomatch hp)
        refine ⟨_, ?_, i + 1, vs, n, oc', own', mi, rfl, hP', hlt, by show vs.length = (kept f i ++ (f i).toList).length; rw [hf]; simpa using hlen, hns', ⟨m, nd', ?_⟩⟩
        · (first | assumption | decide | exact Nat.le_trans (by assumption) (by decide) | exact Nat.le_trans (Nat.add_le_add (by assumption) (by assumption)) (by decide) | exact Nat.lt_of_le_of_lt (by assumption) (by decide) | exact Nat.lt_of_lt_of_le (by assumption) (by decide) | lia | omega)
        · have hk : kept f (i + 1) = kept f i := by show kept f i ++ (f i).toList = _; rw [hf]; simp
          rw [hk]
          have h11 := h10.st
          obtain ⟨m2, nd2, h12⟩ := h11.tmpsOf (τ' := vs.zip (kept f i) ++ (τ₀ ++ τ)) (fun p hp => .tail _ hp)
          exact ⟨h10.F, h10.N, h10.sep, h10.dis, h10.nodup, h10.keep, h10.gens, h10.vars, fun p hp => h10.tmps p (.tail _ hp), h10.os⟩
      | some e =>
        rw [hf] at hr
        obtain ⟨hev, hifs⟩ := hr
        have fin : ∀ s₇ : Shared, St (inC C scope cl H2.objs.size ((C.env.locals, oL) :: ((own' ++ μ) ++ C.opq)) nd) ρ' [] [(s₁.heap.objs.size, lstO vs n)] s₇ →
            wpAny (model P0 C.w) C.A (eval elt (compEnvC scope cl H2.objs.size C.env)) (fun x s₄ => wpAny (model P0 C.w) C.A (call (.builtin "list.append") [.ref s₁.heap.objs.size, x]) (fun _ s₅ => ∃ k, k < ds.length + 1 - i ∧ ∃ i vs n oc own m', k = ds.length + 1 - i ∧ P i own ∧ i ≤ ds.length ∧ vs.length = (kept f i).length ∧ (∀ h : Heap, h.get? H2.objs.size = some oc → h.Ns H2.objs.size m') ∧
              St C ρ (vs.zip (kept f i) ++ (τ₀ ++ τ)) ((H2.objs.size, oc) :: (s₁.heap.objs.size, lstO vs n) :: (own ++ μ)) s₅) E s₄) E s₇ := fun s₇ st₇ => by
          refine (hev _).run [] s₇ _ E st₇ fun x s₈ st₈ => ?_
          refine call_append (st₈.muGet (.head _)) (by rw [line_eq]; (first | assumption | decide | exact Nat.le_trans (by assumption) (by decide) | exact Nat.le_trans (Nat.add_le_add (by assumption) (by assumption)) (by decide) | exact Nat.lt_of_le_of_lt (by assumption) (by decide) | exact Nat.lt_of_lt_of_le (by assumption) (by decide) | lia | omega)) fun h'' n' ho' hsb => ?_
          obtain ⟨mi, nd', h9⟩ := St.upd st₈ hsb.extBut ho' s₈.toks
          obtain ⟨oc', hns', h10⟩ := h'.leave hL.2 h9 (τ' := [(x, e)]) (fun p hp => hp)
          have hk : kept f (i + 1) = kept f i ++ [e] := by show kept f i ++ (f i).toList = _; rw [hf]; simp
          refine ⟨_, ?_, i + 1, vs ++ [x], n', oc', own', mi, rfl, hP', hlt, by rw [hk]; simp [hlen], hns', ⟨m, nd', ?_⟩⟩
          · (first | assumption | decide | exact Nat.le_trans (by assumption) (by decide) | exact Nat.le_trans (Nat.add_le_add (by assumption) (by assumption)) (by decide) | exact Nat.lt_of_le_of_lt (by assumption) (by decide) | exact Nat.lt_of_lt_of_le (by assumption) (by decide) | lia | omega)
          · rw [hk, List.zip_append hlen]
            refine ⟨h10.F, h10.N, h10.sep, h10.dis, h10.nodup, h10.keep, h10.gens, h10.vars, fun p hp => h10.tmps p ?_, h10.os⟩
            rcases List.mem_append.mp hp with hp | hp
            · rcases List.mem_append.mp hp with hp | hp
              · exact .tail _ (.tail _ (List.mem_append.mpr (.inl hp)))
              · exact List.mem_append.mpr (.inl hp)
            · exact .tail _ (.tail _ (List.mem_append.mpr (.inr hp)))
        rcases hifs with rfl | ⟨t, rfl, ht⟩
        · exact wpAny_tests_nil (fin s₆ st₆)
        · exact wpAny_tests_one ((ht _).run [] s₆ _ E st₆ fun s₇ st₇ => fin s₇ st₇)
  have hl := fun _ : Nat => loop { s₁ with heap := h₁, toks := s₁.toks + ([] : List (Str × Value)).length } [] 0 oc own 0 _ hP (Nat.zero_le _) rfl hoc0 st₃
  exact codeAny_compStart_list (hl 0) (X.self 0 ρ _ _ own _ _ _ hP (fun p hp => List.mem_append.mpr (.inl hp)) (St.perm st₃ (List.perm_append_comm_assoc [(H2.objs.size, oc), (s₁.heap.objs.size, lstO [] 0)] own μ)) (hl 0))
end
end Mine
end

section
open PySem PySem.W PyProof.Rows PySem.Calls
set_option maxRecDepth 100000
set_option linter.all false
set_option maxHeartbeats 800000
namespace Mine
mutual
theorem datIn_sans {news news' : Mu} (hs : ∀ p ∈ news, (∀ x, p.2.data ≠ .cell x) → p ∈ news') : ∀ {v : Value} {d : Dat}, DatIn news v d → DatIn news' v d
  | _, _, .none => .none
  | _, _, .bool b => .bool b
  | _, _, .int i t => .int i t
  | _, _, .str x t => .str x t
  | _, _, .bytes b t => .bytes b t
  | _, _, .tuple hm ha => .tuple (hs _ hm (fun x e => by cases e)) (datAll_sans hs ha)
  | _, _, .list hm ha => .list (hs _ hm (fun x e => by cases e)) (datAll_sans hs ha)
theorem datAll_sans {news news' : Mu} (hs : ∀ p ∈ news, (∀ x, p.2.data ≠ .cell x) → p ∈ news') : ∀ {vs : List Value} {ds : List Dat}, DatAll news vs ds → DatAll news' vs ds
  | _, _, .nil => .nil
  | _, _, .cons h t => .cons (datIn_sans hs h) (datAll_sans hs t)
end
section
variable {C : Cx} {ρ ρ₀ : AEnv} {τ : Tmp} {μ : Mu} {s : Shared} {a : Addr} {vs : List Value} {ds : List Dat} {n : Nat} {o : Obj}
theorem StW.calm {m : Str → Option Value} {nd : Mu} (h : StW C ρ τ ((a, o) :: μ) m nd s) : StW C ρ τ μ m ((a, o) :: nd) s := by
  have hsub : ∀ p ∈ nd, p ∈ (a, o) :: nd := fun p hp => .tail _ hp
  have hnd := h.nodup
  simp only [List.map_cons, List.nodup_cons] at hnd
  refine ⟨h.F, fun p hp => h.N p ?_, fun p hp q hq => ?_, fun p hp => h.dis p (.tail _ hp), hnd.2, fun p hp => .tail _ (h.keep p hp), h.gens, fun y b e => (h.vars y b e).mono hsub, fun p hp => (h.tmps p hp).mono hsub, h.os⟩
  · rcases List.mem_append.mp hp with hp | hp
    · exact List.mem_append.mpr (.inl (.tail _ hp))
    · rcases List.mem_append.mp hp with hp | hp
      · exact List.mem_append.mpr (.inr (List.mem_append.mpr (.inl hp)))
      · rcases List.mem_cons.mp hp with rfl | hp
        · exact List.mem_append.mpr (.inl (.head _))
        · exact List.mem_append.mpr (.inr (List.mem_append.mpr (.inr hp)))
  · rcases List.mem_cons.mp hq with rfl | hq
    · rcases List.mem_append.mp hp with hp | hp
      · exact fun e => hnd.1 (by have hm := List.mem_map_of_mem (f := (·.1)) hp; rw [show p.1 = a from e] at hm; exact hm)
      · exact fun e => h.dis _ (.head _) p hp e.symm
    · refine h.sep p ?_ q hq
      exact (List.mem_append.mp hp).elim (fun e => List.mem_append.mpr (.inl (.tail _ e))) fun e => List.mem_append.mpr (.inr e)
theorem St.calmList (h : St C ρ τ ((a, lstO vs n) :: μ) s) (ha : AllIn τ vs ds) : St C ρ ((.ref a, .list ds) :: τ) μ s := by
  obtain ⟨m, nd, h⟩ := h
  exact (h.calm.push (DatIn.list (List.Mem.head _) ((ha.data h.tmps).mono fun _ hp => .tail _ hp))).st
theorem St.calmName {x : Str} (h : St C ((x, .raw (.ref a)) :: ρ) τ ((a, lstO vs n) :: μ) s) (ha : AllIn τ vs ds) : St C ((x, .dat (.list ds)) :: ρ) τ μ s := St.freeze h ha fun _ hp => hp

variable {scope : Scope} {cl : List (Str × Addr)} {elt iter tgt : Expr} {ifs : List Expr} {pos : Pos} {f : Nat → Option Dat} {x : Str} {np tpos : Pos} {rest : List Stmt} {Φ : Flow → Shared → Prop} {d : Dat} {e : Expr}
theorem ev_comp (ok : C.Ok) (hclos : closureFor scope C.env = pure cl) (hcell : ∀ y ∈ scope.names, y.2 ≠ .cell) (hkind : scope.kind = .function) (hnames : ∀ y ∈ scope.names, y.2 = .local → scope.names.lookup y.1 = some .local)
    (hv : Seen C scope cl ρ ρ₀) (hI : ItbT C ρ μ iter tgt ds) (hn : ds.length ≤ 1000) (hb : ∀ i d, ds[i]? = some d → ∀ Lc opq keep, (inC C scope cl Lc opq keep).Ok → CompT (inC C scope cl Lc opq keep) ρ₀ tgt elt ifs d (f i))
    (hs : ∀ x, foldedSetIterable iter C.env x = pure x := by intro _; rfl) :
    Ev C ρ μ (.ListComp elt [⟨tgt, iter, ifs, 0⟩] scope pos) (.list (kept f ds.length)) := .of fun τ s Q E st hQ => by
  rw [eval_ListComp]
  refine wpAny_comprehension_free (use := none) rfl hs hclos hkind hnames (comp_core ok hcell hkind hv hI hn hb st _ fun D Lc oc vs n s' m' hlen hns hge st' => ?_)
  refine ⟨m', hns, fun h' hsb => hQ _ _ ?_⟩
  have st₂ := st'.gone hsb.extBut s'.toks
  exact (st₂.calmList (AllIn.zip hlen)).tmpsOf fun p hp => by
    rcases List.mem_cons.mp hp with rfl | hp
    · exact .head _
    · exact .tail _ (List.mem_append.mpr (.inr hp))
theorem ex_assign_comp (ok : C.Ok) (hclos : closureFor scope C.env = pure cl) (hcell : ∀ y ∈ scope.names, y.2 ≠ .cell) (hkind : scope.kind = .function) (hnames : ∀ y ∈ scope.names, y.2 = .local → scope.names.lookup y.1 = some .local)
    (hv : Seen C scope cl ρ ρ₀) (hI : ItbT C ρ μ iter tgt ds) (hn : ds.length ≤ 1000) (hb : ∀ i d, ds[i]? = some d → ∀ Lc opq keep, (inC C scope cl Lc opq keep).Ok → CompT (inC C scope cl Lc opq keep) ρ₀ tgt elt ifs d (f i))
    (hl : C.env.kindOf x = some .local) (h : Ex C ((x, .dat (.list (kept f ds.length))) :: ρ) τ μ rest Φ)
    (hsw : swapsWith (.ListComp elt [⟨tgt, iter, ifs, 0⟩] scope pos) (some (.Name x np)) tpos.line C.env = pure true := by rfl) (hs : ∀ x, foldedSetIterable iter C.env x = pure x := by intro _; rfl) :
    Ex C ρ τ μ (.Assign [.Name x np] (.ListComp elt [⟨tgt, iter, ifs, 0⟩] scope pos) tpos :: rest) Φ := ex_cons fun s E st => by
  rw [exec_Assign_Name_used _ _ _ _ hsw]
  refine wpAny_bind (wpAny_standAt (wpAny_bind ?_))
  show wpAny _ C.A (do let _ ← comprehension (.ListComp elt [⟨tgt, iter, ifs, 0⟩] scope pos) scope C.env _ (newList []) false (eval iter C.env) (some (assign (.Name x np) C.env))) _ _ s
  refine wpAny_bind (wpAny_mono (wpAny_comprehension_free (use := some (assign (.Name x np) C.env)) (Q := fun _ s' => Thn C rest Φ .next s') rfl hs hclos hkind hnames
    (comp_core ok hcell hkind hv hI hn hb st _ fun D Lc oc vs n s' m' hlen hns hge st' => ?_)) (fun _ s' hq => wpAny_pure (wpAny_pure hq)) fun _ _ e => e)
  show wpAny _ C.A (assign (.Name x np) C.env (.ref D)) _ _ _
  have hoc : ∀ h : Heap, h.get? Lc = some oc → h.Ns Lc m' := by
    obtain ⟨o, es, ep, e1, e2⟩ := hns
    intro h e3
    have := st'.muGet (.head _)
    rw [show s'.heap.get? Lc = some oc from this] at e1
    cases e1
    exact ⟨_, es, ep, e3, e2⟩
  refine wpAny_assign_Name (wp_store ok hl st' (fun p hp => hp) (a := .raw (.ref D)) rfl fun s'' st'' => ?_)
  refine ⟨m', hoc _ (st''.muGet (.head _)), fun h' hsb E' => ?_⟩
  have st₂ := st''.gone hsb.extBut s''.toks
  exact h.run _ E' ((st₂.calmName (AllIn.zip hlen)).tmpsOf fun p hp => List.mem_append.mpr (.inr hp))

/-- a cell gets its one value -/
theorem ex_assign_cell {c : Addr} {oc : Obj} {v₀ : Option Value} (ok : C.Ok) (he : Ev C ρ ((c, oc) :: μ) e d) (hl : C.env.kindOf x = some .cell) (hc : C.env.cells.lookup x = some c) (hd : oc.data = .cell v₀)
    (h : Ex C ((x, .dat d) :: ρ) τ μ rest Φ) (hsw : swapsWith e (some (.Name x np)) tpos.line C.env = pure false := by rfl) : Ex C ρ τ ((c, oc) :: μ) (.Assign [.Name x np] e tpos :: rest) Φ := ex_cons fun s E st => by
  refine wpAny_Assign_Name (he.run τ s _ E st fun v s₁ st₁ => ?_) hsw
  refine wpAny_storeName_cell ok.kind hl hc ⟨oc, st₁.muGet (.head _), hd⟩ fun h' hcell hsb => ?_
  obtain ⟨o', ho', hd'⟩ := hcell
  obtain ⟨m, nd, h2⟩ := St.upd st₁ hsb.extBut ho' s₁.toks
  have h3 := h2.calm
  refine fun E' => h.run _ E' ⟨m, (c, o') :: nd, h3.F, h3.N, h3.sep, h3.dis, h3.nodup, h3.keep, h3.gens, fun y b e => ?_, fun p hp => h3.tmps p (.tail _ hp), h3.os⟩
  rw [List.lookup_cons] at e
  split at e
  · rename_i q
    cases e
    obtain rfl := eq_of_beq q
    exact .inr ⟨.inl hl, c, o', v, hc, .head _, hd', h3.tmps _ (.head _)⟩
  · exact h3.vars y b e
/-- a cell gets another value -/
theorem ex_reassign_cell {c : Addr} {d₀ : Dat} (ok : C.Ok) (hkeep : C.keep = []) (he : Ev C ρ μ e d) (hl : C.env.kindOf x = some .cell) (hc : C.env.cells.lookup x = some c) (hx : ρ.lookup x = some (.dat d₀))
    (hinj : ∀ y, C.env.cells.lookup y = some c → y = x) (h : Ex C ((x, .dat d) :: ρ) τ μ rest Φ) (hsw : swapsWith e (some (.Name x np)) tpos.line C.env = pure false := by rfl) :
    Ex C ρ τ μ (.Assign [.Name x np] e tpos :: rest) Φ := ex_cons fun s E st => by
  refine wpAny_Assign_Name (he.run τ s _ E st fun v s₁ st₁ => ?_) hsw
  obtain ⟨m, nd, h2⟩ := st₁
  rcases h2.vars x _ hx with ⟨hk, _⟩ | ⟨_, c', o, v₀, hc', hm, hd, _⟩
  · rw [hl] at hk; cases hk
  rw [hc] at hc'; cases hc'
  have hget : ∀ p ∈ nd, p.1 = c → p.2 = o := fun p hp e => by
    have h1 := (h2.N p (List.mem_append.mpr (.inr (List.mem_append.mpr (.inr hp))))).1
    have h3 := (h2.N (c, o) (List.mem_append.mpr (.inr (List.mem_append.mpr (.inr hm))))).1
    rw [e, h3] at h1
    exact (Option.some.inj h1).symm
  refine wpAny_storeName_cell ok.kind hl hc ⟨o, (h2.N (c, o) (List.mem_append.mpr (.inr (List.mem_append.mpr (.inr hm))))).1, hd⟩ fun h' hcell hsb => ?_
  obtain ⟨o', ho', hd'⟩ := hcell
  have hcN := h2.N (c, o) (List.mem_append.mpr (.inr (List.mem_append.mpr (.inr hm))))
  have hdat : ∀ {v : Value} {d : Dat}, DatIn nd v d → DatIn (nd.map fun p => if p.1 = c then (c, o') else p) v d := fun hdd => datIn_sans (fun p hp hnc => by
    refine List.mem_map.mpr ⟨p, hp, ?_⟩
    rw [if_neg]
    intro e
    have := hget p hp e
    exact hnc (some v₀) (by rw [this]; exact hd)) hdd
  have hother : ∀ b o, b ≠ c → s₁.heap.get? b = some o → h'.get? b = some o := fun b o hb e => hsb.extBut b o hb e
  refine fun E' => h.run _ E' ⟨m, nd.map (fun p => if p.1 = c then (c, o') else p), ⟨h2.F.ns.sameBut hsb (Ne.symm hcN.2.1), fun b ob e => hother b ob (fun q => by rw [q, hcN.2.2] at e; cases e) (h2.F.keep b ob e), h2.F.above⟩, fun p hp => ?_, fun p hp q hq => ?_, h2.dis, h2.nodup, (fun p hp => by rw [hkeep] at hp; cases hp), h2.gens, fun y b e => ?_, fun p hp => hdat (h2.tmps p (.tail _ hp)), h2.os⟩
  · rcases List.mem_append.mp hp with hp | hp
    · have hN := h2.N p (List.mem_append.mpr (.inl hp))
      exact ⟨hother _ _ (h2.sep p (List.mem_append.mpr (.inl hp)) _ hm) hN.1, hN.2⟩
    · rcases List.mem_append.mp hp with hp | hp
      · have hN := h2.N p (List.mem_append.mpr (.inr (List.mem_append.mpr (.inl hp))))
        exact ⟨hother _ _ (h2.sep p (List.mem_append.mpr (.inr hp)) _ hm) hN.1, hN.2⟩
      · obtain ⟨q, hq, rfl⟩ := List.mem_map.mp hp
        have hN := h2.N q (List.mem_append.mpr (.inr (List.mem_append.mpr (.inr hq))))
        by_cases hqc : q.1 = c
        · rw [if_pos hqc]; exact ⟨ho', hcN.2⟩
        · rw [if_neg hqc]; exact ⟨hother _ _ hqc hN.1, hN.2⟩
  · obtain ⟨r, hr, rfl⟩ := List.mem_map.mp hq
    by_cases hrc : r.1 = c
    · rw [if_pos hrc]; exact hrc ▸ h2.sep p hp r hr
    · rw [if_neg hrc]; exact h2.sep p hp r hr
  · rw [List.lookup_cons] at e
    split at e
    · rename_i q
      cases e
      obtain rfl := eq_of_beq q
      exact .inr ⟨.inl hl, c, o', v, hc, List.mem_map.mpr ⟨(c, o), hm, by rw [if_pos rfl]⟩, hd', hdat (h2.tmps _ (.head _))⟩
    · rename_i q
      rcases h2.vars y b e with ⟨hk, hv⟩ | ⟨hk, c', o₂, v₂, e1, e2, e3, e4⟩
      · refine .inl ⟨hk, ?_⟩
        cases b with
        | raw u => exact hv
        | dat d => obtain ⟨u, q1, q2⟩ := hv; exact ⟨u, q1, hdat q2⟩
      · have hne : c' ≠ c := fun e => by
          have := hinj y (e ▸ e1)
          rw [this, beq_self_eq_true] at q
          cases q
        refine .inr ⟨hk, c', o₂, v₂, e1, List.mem_map.mpr ⟨(c', o₂), e2, by rw [if_neg hne]⟩, e3, ?_⟩
        cases b with
        | raw u => exact e4
        | dat d => exact hdat e4
end
end Mine
end

section
open PySem PySem.W PyProof.Rows PySem.Calls
open AutoSeq1 (wpAny_loadPart')
set_option maxRecDepth 100000
set_option linter.all false
set_option maxHeartbeats 1600000
namespace Mine
theorem meets_enum_newT (l : Addr) (items : Array Value) (n : Nat) (dct : Option Addr) (sl : Array (Option Value)) :
    Meets (Builtin.«enumerate.__new__» ⟨[.type "enumerate", .ref l], []⟩) (fun _ R s => s.heap.get? l = some { cls := .type "tuple", dict := dct, data := .seq items n, slots := sl } ∧
      R (.ok (.ret (.ref (s.heap.push { cls := .type "tuple_iterator", data := .fields #[.ref l, .int 0 0] }).objs.size)))
        { s with heap := (s.heap.push { cls := .type "tuple_iterator", data := .fields #[.ref l, .int 0 0] }).push { cls := .type "enumerate", data := .fields #[.none, .bool false, .ref s.heap.objs.size, rawInt 0, .none, .none] } }) :=
  .of_wp fun prog w A R s h => by
    obtain ⟨hp, g, d, tk, os⟩ := s; obtain ⟨hl, h⟩ := h
    have hsub := sub_enumerate
    have hL : Heap.IsTuple (Shared.heap ⟨hp, g, d, tk, os⟩) l items := ⟨_, hl, rfl, n, rfl⟩
    wp_walk using wpAny_loadPart' hl
    refine wpAny_stack_any fun st => wpAny_pure ?_
    split
    · rename_i c _ _ _ _ _
      cases (c == Value.type "enumerate")
      · wp_walk using wpAny_loadPart' hl, PySem.wpAny_pyIter_tuple hL
        exact ⟨_, rfl, h⟩
      · wp_walk using wpAny_loadPart' hl, PySem.wpAny_pyIter_tuple hL
        exact ⟨_, rfl, h⟩
    · wp_walk using wpAny_loadPart' hl, PySem.wpAny_pyIter_tuple hL
      exact ⟨_, rfl, h⟩
section
variable {prog : Program} {w : World} {A : Around} {E : Value → Shared → Prop} {s : Shared}
theorem nextOf_tuple_item {it l : Addr} {i : Nat} {items} {x : Value} {Q : Value → Shared → Prop} (hit : s.heap.IsTupleIter it l i)
    (hl : s.heap.IsTuple l items) (hx : items[i]? = some x)
    (hQ : ∀ h', h'.IsTupleIter it l (i + 1) → Heap.SameBut it s.heap h' → Q x { s with heap := h' }) :
    wpAny (model prog w) A (Builtin.SmallTypes.nextOf (.ref it)) Q E s := by
  obtain ⟨o, ho, hc, hd⟩ := id hit
  obtain ⟨ol, hol, _, nl, hdl⟩ := hl
  unfold Builtin.SmallTypes.nextOf
  refine wpAny_bind (wpAny_callSpecial?_slot (name := Str.ofString "__next__") hit.typeIs F.slot_tuple_iterator_next
    (wpAny_call_entry F.slot_tuple_iterator_next hit.typeIs F.entry_tuple_iterator_next ?_ (F.args_tuple_iterator_next_1 _)))
  show wpAny _ _ (field (.ref it) 0 >>= _) _ _ s
  refine wpAny_bind (wpAny_field ho hd (x := .ref l) rfl ?_)
  show wpAny _ _ (if (Value.ref l == Value.none) = true then _ else _) _ _ s
  rw [if_neg (show ¬ ((Value.ref l == Value.none) = true) from Bool.false_ne_true)]
  show wpAny _ _ (field (.ref it) 1 >>= _) _ _ s
  refine wpAny_bind (wpAny_field ho hd (x := .int i 0) rfl ?_)
  show wpAny _ _ (seqItems? (.ref l) >>= _) _ _ s
  refine wpAny_bind (wpAny_seqItems hol hdl ?_)
  simp only [Int.toNat_natCast, hx]
  refine wpAny_bind (wpAny_setField ho hd (by simp) (wpAny_pure ⟨x, rfl, wpAny_pure (hQ _ ?_ (Heap.SameBut.update ..))⟩))
  exact ⟨_, Heap.get?_update_self _ ho (Obj.isFreed_of_fields (Obj.data_mapFields hd _)), (Obj.cls_mapFields ..).trans hc, by
    rw [Obj.data_mapFields hd]; simp [rawInt]⟩
theorem nextOf_tuple_end {it l : Addr} {i : Nat} {items} {Q : Value → Shared → Prop} (hh : A.handled = none)
    (hit : s.heap.IsTupleIter it l i) (hl : s.heap.IsTuple l items) (hx : items[i]? = none)
    (hE : ∀ h' e, Heap.ExtBut it s.heap h' → (∃ o, h'.get? e = some o ∧ o.cls = .type "StopIteration") → E (.ref e) { s with heap := h' }) :
    wpAny (model prog w) A (Builtin.SmallTypes.nextOf (.ref it)) Q E s := by
  obtain ⟨o, ho, hc, hd⟩ := id hit
  obtain ⟨ol, hol, _, nl, hdl⟩ := hl
  unfold Builtin.SmallTypes.nextOf
  refine wpAny_bind (wpAny_callSpecial?_slot (name := Str.ofString "__next__") hit.typeIs F.slot_tuple_iterator_next
    (wpAny_call_entry F.slot_tuple_iterator_next hit.typeIs F.entry_tuple_iterator_next ?_ (F.args_tuple_iterator_next_1 _)))
  show wpAny _ _ (field (.ref it) 0 >>= _) _ _ s
  refine wpAny_bind (wpAny_field ho hd (x := .ref l) rfl ?_)
  show wpAny _ _ (if (Value.ref l == Value.none) = true then _ else _) _ _ s
  rw [if_neg (show ¬ ((Value.ref l == Value.none) = true) from Bool.false_ne_true)]
  show wpAny _ _ (field (.ref it) 1 >>= _) _ _ s
  refine wpAny_bind (wpAny_field ho hd (x := .int i 0) rfl ?_)
  show wpAny _ _ (seqItems? (.ref l) >>= _) _ _ s
  refine wpAny_bind (wpAny_seqItems hol hdl ?_)
  simp only [Int.toNat_natCast, hx]
  refine wpAny_bind (wpAny_rule (wpAny_bind (wpAny_setField ho hd (by simp) ?_)))
  show wpAny _ _ (newExc (.type "StopIteration") [] >>= _) _ _ _
  refine wpAny_bind ?_
  simp only [newExc, newTuple]
  refine wpAny_bind (wpAny_newObj_type ?_ (by size_fits))
  refine wpAny_bind (m := firstArgMember _ _) (wpAny_of_eq (a := Value.none) (by first | rfl | (simp only [firstArgMember]; rfl)) ?_)
  refine wpAny_newObj_type ?_ (by size_fits)
  simp only [raiseNew]
  refine wpAny_bind (wpAny_handled ?_)
  first | rw [show A.in1.handled = none from hh] | rw [hh]
  refine wpAny_bind (wpAny_pure (wpAny_throw ?_))
  exact hE _ _ (((Heap.SameBut.update ..).extBut.push _).push _) ⟨_, Heap.get?_push_size _ rfl, rfl⟩
end
theorem draws_tuple {w : World} {A : Around} (hh : A.handled = none) (it l : Addr) (hne : l ≠ it) (items : Array Value) :
    Draws P0 w A it [it, l] items.size (fun i v => items[i]? = some v) (fun i h => h.IsTupleIter it l i ∧ h.IsTuple l items) where
  live := fun _ _ st => let ⟨o, ho, _⟩ := st.1; ⟨o, ho⟩
  frame := fun _ _ _ st hk => ⟨let ⟨o, ho, r⟩ := st.1; ⟨o, hk it (by simp) o ho, r⟩, let ⟨o, ho, r⟩ := st.2; ⟨o, hk l (by simp) o ho, r⟩⟩
  item := fun i s Q E hi st hQ => by
    refine nextOf_tuple_item st.1 st.2 (x := items[i]) (by simp [hi]) fun h' hit' hs' => ?_
    exact hQ _ h' s.toks (by simp [hi]) ⟨hit', let ⟨o, ho, r⟩ := st.2; ⟨o, hs'.extBut l o hne ho, r⟩⟩ hs'
  done := fun s Q E st hE => nextOf_tuple_end hh st.1 st.2 (by simp) hE
end Mine
end

section
open PySem PySem.W PyProof.Rows PySem.Calls
set_option maxRecDepth 100000
set_option linter.all false
set_option maxHeartbeats 800000
namespace Mine
noncomputable def enumD : Nat → List Dat → List Dat
  | _, [] => []
  | i, d :: r => .tuple [.int i, d] :: enumD (i + 1) r
theorem enumD_get : ∀ (ds : List Dat) (a i : Nat) (x : Dat), (enumD a ds)[i]? = some x → ∃ d, ds[i]? = some d ∧ x = .tuple [.int ((a + i : Nat) : Int), d]
  | [], _, _, _, h => by simp [enumD] at h
  | d :: r, a, 0, x, h => by simp only [enumD, List.getElem?_cons_zero, Option.some.injEq] at h; exact ⟨d, rfl, by rw [← h]; rfl⟩
  | d :: r, a, i + 1, x, h => by
    simp only [enumD, List.getElem?_cons_succ] at h
    obtain ⟨d', h1, h2⟩ := enumD_get r (a + 1) i x h
    exact ⟨d', by simpa using h1, by rw [h2]; congr 3; (first | assumption | decide | exact Nat.le_trans (by assumption) (by decide) | exact Nat.le_trans (Nat.add_le_add (by assumption) (by assumption)) (by decide) | exact Nat.lt_of_le_of_lt (by assumption) (by decide) | exact Nat.lt_of_lt_of_le (by assumption) (by decide) | lia | omega)⟩
theorem enumD_length : ∀ (ds : List Dat) (a : Nat), (enumD a ds).length = ds.length
  | [], _ => rfl
  | d :: r, a => congrArg (· + 1) (enumD_length r (a + 1))

section
variable {C : Cx} {ρ : AEnv} {τ : Tmp} {μ : Mu} {s : Shared} {e e₁ l r : Expr} {np pos : Pos} {ds : List Dat}
theorem call_enum_tuple {w : World} {A : Around} {E : Value → Shared → Prop} {l : Addr} {items : Array Value} {Q : Value → Shared → Prop} (hL : s.heap.IsTuple l items)
    (h : ∀ h', IsEnum h' (s.heap.objs.size + 1) s.heap.objs.size 0 .none → h'.IsTupleIter s.heap.objs.size l 0 → h'.objs.size = s.heap.objs.size + 2 →
      (∀ b o, s.heap.get? b = some o → h'.get? b = some o) → Q (.ref (s.heap.objs.size + 1)) { s with heap := h' }) :
    wpAny (model P0 w) A (call (.type "enumerate") [.ref l]) Q E s := by
  obtain ⟨⟨c, dct, dt, sl⟩, hl, hc, n, hd⟩ := hL
  replace hc : c = .type "tuple" := hc
  replace hd : dt = .seq items n := hd
  subst hc hd
  refine callType_new F.called_enumerate (by decide) (F.typeCall_enumerate_1 _) (F.newCall_enumerate_1 _) (fun obj => F.args_object_init_2 obj _) F.entry_enumerate_new
    (meets_enum_newT l items n dct sl) ⟨hl, ?_⟩
  have hz : (s.heap.push { cls := .type "tuple_iterator", data := .fields #[.ref l, .int 0 0] }).objs.size = s.heap.objs.size + 1 := Heap.size_push ..
  show _ ∧ _
  rw [hz]
  have he : IsEnum ((s.heap.push { cls := .type "tuple_iterator", data := .fields #[.ref l, .int 0 0] }).push
      { cls := .type "enumerate", data := .fields #[.none, .bool false, .ref s.heap.objs.size, rawInt 0, .none, .none] }) (s.heap.objs.size + 1) s.heap.objs.size 0 .none := by
    have := Heap.get?_push_size (s.heap.push { cls := .type "tuple_iterator", data := .fields #[.ref l, .int 0 0] })
      (o := { cls := .type "enumerate", data := .fields #[.none, .bool false, .ref s.heap.objs.size, rawInt 0, .none, .none] }) rfl
    rw [hz] at this; exact this
  refine ⟨⟨_, he, rfl⟩, h _ he ⟨_, Heap.get?_push_of_some _ (Heap.get?_push_size _ rfl), rfl, rfl⟩ (by rw [Heap.size_push, hz]) fun b o x => Heap.get?_push_of_some _ (Heap.get?_push_of_some _ x)⟩

noncomputable def TiP (l : Addr) (oi : Obj) (i : Nat) : Prop := oi.cls = .type "tuple_iterator" ∧ oi.data = .fields #[.ref l, .int i 0]
theorem itT_enum {e it l : Addr} {elts : List Expr} {k : Nat} {tpos : Pos} (ok : C.Ok) : ItT C [(.ref l, .tuple ds)] e (.Tuple elts k tpos) (enumD 0 ds) (fun i own => ∃ oe oi, own = [(e, oe), (it, oi)] ∧ EnP it oe i ∧ TiP l oi i) where
  item := fun i d ρ τ μ own s R Q E hd hP hs st hQ => by
    obtain ⟨oe, oi, rfl, ⟨old, rfl⟩, hc, hdt⟩ := hP
    obtain ⟨d', hd', rfl⟩ := enumD_get ds 0 i d hd
    obtain ⟨a, vs, ea, hl, hlen, st₁⟩ := st.tuple (hs _ (.head _))
    cases ea
    obtain ⟨v, hv, hin⟩ := (AllIn.zip (τ := τ) hlen).get hd'
    obtain ⟨m, nd, h⟩ := st₁
    have hnd := h.nodup
    simp only [List.map_append, List.map_cons, List.map_nil, List.cons_append, List.nil_append, List.nodup_cons, List.mem_cons, not_or] at hnd
    have hei : e ≠ it := hnd.1.1
    have he := (h.N (e, _) (List.mem_append.mpr (.inl (.head _)))).1
    have hi := (h.N (it, _) (List.mem_append.mpr (.inl (.tail _ (.head _))))).1
    obtain ⟨ol, hol, hcl, nl, hdl⟩ := id (show s.heap.IsTuple l vs.toArray from hl)
    have hel : e ≠ l := fun q => by
      subst q
      rw [show s.heap.get? e = some (enO it i old) from he] at hol
      rw [← Option.some.inj hol] at hcl
      exact absurd hcl (by unfold enO; simp)
    have hil : l ≠ it := fun q => by
      subst q
      rw [show s.heap.get? l = some oi from hi] at hol
      rw [← Option.some.inj hol, hc] at hcl
      exact absurd hcl (by simp)
    have hlt : i < vs.toArray.size := by have := (List.getElem?_eq_some_iff.mp hv).1; simpa using this
    refine wpAny_pyNext_enum_itemD (draws_tuple (w := C.w) (A := C.A.in1) ok.hand it l hil vs.toArray) (e := e) (i := i) (old := old) he ⟨⟨oi, hi, hc, hdt⟩, hl⟩ hlt hei (fun hm => by
      rcases List.mem_cons.mp hm with q | hm
      · exact hei q
      · exact hel (List.mem_singleton.mp hm)) fun v' h' tk hP hout hst htup hsz hk => ?_
    have hv' : v' = v := by have : vs[i]? = some v' := by simpa using hP
                            rw [hv] at this; exact (Option.some.inj this).symm
    subst hv'
    refine wpAny_letOwnedTupleGo_enum hout fun h'' hen hsb => ?_
    obtain ⟨⟨oi', ho', hc1, hd1⟩, _⟩ := hst
    have hesz : e < s.heap.objs.size := Heap.lt_size he
    have hisz : it < s.heap.objs.size := Heap.lt_size hi
    have hT : StW C ρ (vs.zip ds ++ τ) ([(e, enO it ((i : Int) + 1) v'), (it, oi')] ++ μ) m ([(s.heap.objs.size, { cls := .type "tuple", data := .seq #[.int i tk, v'] })] ++ nd) { s with heap := h'', toks := tk + 1 } :=
      StW.turn (own := [(e, enO it i old), (it, oi)]) h ?_ ?_ ?_ ?_ ?_ ?_ rfl h.gens
    · have hz : ((0 + i : Nat) : Int) = (i : Int) := by simp
      rw [hz] at hQ
      refine hQ _ [(e, enO it ((i : Int) + 1) v'), (it, oi')] _ ⟨enO it ((i : Int) + 1) v', oi', rfl, ⟨v', rfl⟩, hc1, hd1⟩ ?_
      have := hT.push (v := .ref s.heap.objs.size) (d := .tuple [.int i, d']) (DatIn.tuple (List.Mem.head _) (.cons (.int _ _) (.cons (hT.tmps _ hin) .nil)))
      exact this.st.tmpsOf fun p hp => by
        rcases List.mem_cons.mp hp with rfl | hp
        · exact .head _
        · exact .tail _ (List.mem_append.mpr (.inr hp))
    · intro b o hb hs
      simp only [List.map_cons, List.map_nil, List.mem_cons, List.not_mem_nil, or_false, not_or] at hb
      exact hsb.extBut b o hb.1 (hk b o hb.1 hb.2 hs)
    · intro p hp
      rcases List.mem_append.mp hp with hp | hp
      · rcases List.mem_cons.mp hp with rfl | hp
        · exact hen
        · rcases List.mem_cons.mp hp with rfl | hp
          · exact hsb.extBut _ _ (Ne.symm hei) ho'
          · cases hp
      · cases List.mem_singleton.mp hp
        exact hsb.extBut _ _ (Nat.ne_of_gt hesz) htup
    · intro p hp
      rcases List.mem_cons.mp hp with rfl | hp
      · exact .inl (List.mem_cons_self ..)
      · rcases List.mem_cons.mp hp with rfl | hp
        · exact .inl (List.mem_cons_of_mem _ (List.mem_cons_self ..))
        · cases hp
    · intro p hp
      cases List.mem_singleton.mp hp
      exact .inr (Heap.get?_none_of_le (Nat.le_refl _))
    · intro p hp q hq
      cases List.mem_singleton.mp hq
      rcases List.mem_cons.mp hp with rfl | hp
      · exact Nat.ne_of_lt hesz
      · rcases List.mem_cons.mp hp with rfl | hp
        · exact Nat.ne_of_lt hisz
        · cases hp
    · simp only [List.map_cons, List.map_nil, List.nodup_cons, List.mem_cons, List.not_mem_nil, or_false, not_false_eq_true, List.nodup_nil, and_true]
      exact hei
  done := fun ρ τ μ own s Q E hP hs st hQ => by
    obtain ⟨oe, oi, rfl, ⟨old, rfl⟩, hc, hdt⟩ := hP
    rw [enumD_length] at hdt
    obtain ⟨a, vs, ea, hl, hlen, st₁⟩ := st.tuple (hs _ (.head _))
    cases ea
    rw [enumD_length] at st
    have he := st.muGet (.head _)
    have hi := st.muGet (.tail _ (.head _))
    obtain ⟨ol, hol, hcl, nl, hdl⟩ := id (show s.heap.IsTuple l vs.toArray from hl)
    have hil : l ≠ it := fun q => by
      subst q
      rw [show s.heap.get? l = some oi from hi] at hol
      rw [← Option.some.inj hol, hc] at hcl
      exact absurd hcl (by simp)
    refine wpAny_pyNext_enum_endD (draws_tuple (w := C.w) (A := C.A.in1) ok.hand it l hil vs.toArray) he ⟨⟨oi, hi, hc, by rw [hdt]; simp [hlen]⟩, hl⟩ fun h' hx => ?_
    exact hQ _ ((St.perm st (List.Perm.swap ..)).gone hx s.toks).drop
  self := fun i ρ τ μ own s Q E hP hs st hQ => by
    obtain ⟨oe, oi, rfl, ⟨old, rfl⟩, hc, hdt⟩ := hP
    exact wpAny_pyIter_enum (st.muGet (.head _)) hQ
theorem itbT_enum {elts : List Expr} {k : Nat} {tpos : Pos} (ok : C.Ok) (hx : C.env.kindOf "enumerate" = some .globalImplicit) (hm : ∀ P, nsIn (wtop.heap_39 P) mainGlobals "enumerate" = some none) (hv : Ev C ρ μ e (.tuple ds))
    (hse : starEach [e] C.env = [(false, eval e C.env)] := by rfl) : ItbT C ρ μ (.Call (.Name "enumerate" np) [e] [] pos) (.Tuple elts k tpos) (enumD 0 ds) := .of fun τ s Q E st hQ => by
  refine Call_name1 hse (wp_name_builtin ok hx (hm _) (v := .type "enumerate") rfl st ?_)
  refine callWith_type1 (hv.run τ s _ E st fun v s₁ st₁ => ?_)
  obtain ⟨l, vs, rfl, hl, hlen, st₂⟩ := st₁.tuple (.head _)
  refine call_enum_tuple (show s₁.heap.IsTuple l vs.toArray from hl) fun h' he hit hsz hk => ?_
  refine wpAny_pyIter_enum he ?_
  obtain ⟨oi, hoi, hc, hd⟩ := hit
  obtain ⟨m, nd, h⟩ := st₁
  have hT : StW C ρ ((.ref l, .tuple ds) :: τ) ([(s₁.heap.objs.size + 1, enO s₁.heap.objs.size 0 .none), (s₁.heap.objs.size, oi)] ++ μ) m ([] ++ nd) { s₁ with heap := h' } :=
    StW.turn (own := []) h (fun b o _ e => hk b o e) ?_ ?_ (fun _ hp => nomatch hp) (fun _ _ _ hq => nomatch hq) ?_ rfl h.gens
  · exact hQ _ [(s₁.heap.objs.size + 1, enO s₁.heap.objs.size 0 .none), (s₁.heap.objs.size, oi)] [(.ref l, .tuple ds)] _ _ (itT_enum ok) ⟨_, oi, rfl, ⟨.none, rfl⟩, hc, hd⟩ ⟨m, _, hT⟩
  · intro p hp
    rw [List.append_nil] at hp
    rcases List.mem_cons.mp hp with rfl | hp
    · exact he
    · rcases List.mem_cons.mp hp with rfl | hp
      · exact hoi
      · cases hp
  · intro p hp
    rcases List.mem_cons.mp hp with rfl | hp
    · exact .inr (Heap.get?_none_of_le (Nat.le_succ _))
    · rcases List.mem_cons.mp hp with rfl | hp
      · exact .inr (Heap.get?_none_of_le (Nat.le_refl _))
      · cases hp
  · simp
/-- a power -/
theorem ev_pow {a n : Int} (h1 : Ev C ρ μ l (.int a)) (h2 : Ev C ρ μ r (.int n)) (hn : 0 ≤ n) (hn2 : n ≤ 1000000) (ha : a.natAbs < 2 ^ 64) : Ev C ρ μ (.BinOp l .Pow r pos) (.int (a ^ n.toNat)) := ev_bin h1 h2 fun τ v u s Q E st hQ => by
  obtain ⟨t, t', rfl, rfl, st'⟩ := st.int2
  exact pow_int_small hn hn2 ha (hQ _ _ ((st'.toks _).pushInt _ _))
/-- sum of a slice of the given ints -/
theorem ev_sumSlice {x : Str} {a : Addr} {vs : List Value} {ns : List Int} {k st : Int} {e₃ : Expr} {p1 p2 p3 : Pos} (ok : C.Ok) (hx : C.env.kindOf "sum" = some .globalImplicit) (hm : ∀ P, nsIn (wtop.heap_39 P) mainGlobals "sum" = some none)
    (hr : ρ.lookup x = some (.raw (.ref a))) (hl : C.h₀.IsList a vs.toArray) (hi : IntsAre vs ns) (hsz : vs.length ≤ 1000) (h1 : Ev C ρ μ e₁ (.int k)) (h3 : Ev C ρ μ e₃ (.int st)) (h0 : st ≠ 0) (hlo : -(2 ^ 62) ≤ k) (hhi : k < 2 ^ 62) (hslo : -(2 ^ 62) ≤ st) (hshi : st < 2 ^ 62)
    (hd : (x == ("__debug__" : Str)) = false := by decide) (hn : (x == ("__classdict__" : Str)) = false := by decide)
    (hse : starEach [.Subscript (.Name x p1) (.Slice (some e₁) none (some e₃) p2) p3] C.env = [(false, eval (.Subscript (.Name x p1) (.Slice (some e₁) none (some e₃) p2) p3) C.env)] := by rfl) :
    Ev C ρ μ (.Call (.Name "sum" np) [.Subscript (.Name x p1) (.Slice (some e₁) none (some e₃) p2) p3] [] pos) (.int (pickNums ns (some k) none (some st)).sum) := .of fun τ s Q E st0 hQ => by
  refine Call_name1 hse (wp_name_builtin ok hx (hm _) (v := .builtin "sum") rfl st0 ?_)
  refine Calls.callWith_builtin rfl (Calls.evalArgs_plain (Calls.spliced_cons (Subscript_ (wp_name_raw ok hr st0 (wpAny_Slice (h1.run τ s _ E st0 fun i s₂ st₂ => wpAny_pure (h3.run _ s₂ _ E st₂ fun j s₃ st₃ => ?_))) hd hn))))
  obtain ⟨u1, u2, rfl, rfl, m, nd, w⟩ := st₃.int2
  have hls : s₃.heap.IsList a vs.toArray := by obtain ⟨o, ho, r⟩ := hl; exact ⟨o, w.F.keep _ _ ho, r⟩
  refine slice_list3 w.F w.N hls (lo := some k) (hi := none) (st := some st) ?_ ?_ ?_ ?_ (fun h' F' N' => Calls.spliced_nil ?_) rfl (fun _ => rfl) ?_
  · exact .int _ _
  · exact .none
  · exact .int _ _
  · intro q; exact h0 (Option.some.inj q)
  · have hL := N' _ (.head _)
    have hp := hi.pick (some k) none (some st)
    generalize slicePick vs.toArray (some k) none (some st) = sp at hL hp N'
    have hall : AllInts sp := by have := hp.allInts; simpa using this
    have hnum := hp.numsOf
    obtain ⟨xs, rfl⟩ := hall.items
    rw [nums_intItems] at hnum
    refine sum_intListG ok.hand ⟨_, hL.1, rfl, 0, rfl⟩ fun h'' tk t' hk => ?_
    have e : preSum (numAt xs) xs.size = (pickNums ns (some k) none (some st)).sum := by
      rw [preSum_eq, List.take_of_length_le (by simp), hnum]
    rw [e]
    have w2 := w.heap F' (fun p hp => N' p (.tail _ hp)) s₃.toks
    exact hQ _ _ ((w2.keeps hk tk).st.pushInt _ _)
  · rw [line_eq]; simp; (first | assumption | decide | exact Nat.le_trans (by assumption) (by decide) | exact Nat.le_trans (Nat.add_le_add (by assumption) (by assumption)) (by decide) | exact Nat.lt_of_le_of_lt (by assumption) (by decide) | exact Nat.lt_of_lt_of_le (by assumption) (by decide) | lia | omega)
end
end Mine
end

section
open PySem PySem.W PyProof.Rows PySem.Calls
set_option maxRecDepth 100000
set_option linter.all false
set_option maxHeartbeats 800000
namespace Mine
section
variable {C : Cx} {ρ : AEnv} {τ : Tmp} {μ : Mu} {s : Shared} {e e₁ l r : Expr} {np pos : Pos} {ds : List Dat}
theorem cmp_neNil (ok : C.Ok) : Cmp C ρ μ .NotEq (.list ds) (.list []) (ds.length != 0) := fun τ v u s Q E st hQ => by
  obtain ⟨b, us, rfl, hb, hbl, st₁⟩ := st.list (.head _)
  obtain ⟨a, vs, rfl, ha, hal, st₂⟩ := st.pop.list (.head _)
  have hu := ok.uni
  have h0 : us = [] := List.length_eq_zero_iff.mp hbl
  subst h0
  by_cases hz : ds.length = 0
  · have h1 : vs = [] := List.length_eq_zero_iff.mp (hal.trans hz)
    subst h1
    refine EqBoolInt.of_rcne (SeqAt.RcNeAt.lists (e := fun _ => true) ha hb rfl (by (first | assumption | decide | exact Nat.le_trans (by assumption) (by decide) | exact Nat.le_trans (Nat.add_le_add (by assumption) (by assumption)) (by decide) | exact Nat.lt_of_le_of_lt (by assumption) (by decide) | exact Nat.lt_of_lt_of_le (by assumption) (by decide) | lia | omega)) fun j h1 => absurd h1 (by simp)) ?_
    have e : (ds.length != 0) = false := by simp [hz]
    rw [e] at hQ
    exact hQ _ _ (st.pop.pop.pushBool _)
  · refine EqBoolInt.of_rcne (SeqAt.RcNeAt.lists_lengths ha hb (by simp; intro q; subst q; exact hz hal.symm) (by (first | assumption | decide | exact Nat.le_trans (by assumption) (by decide) | exact Nat.le_trans (Nat.add_le_add (by assumption) (by assumption)) (by decide) | exact Nat.lt_of_le_of_lt (by assumption) (by decide) | exact Nat.lt_of_lt_of_le (by assumption) (by decide) | lia | omega))) ?_
    have : (ds.length != 0) = true := by simpa using hz
    rw [this] at hQ
    exact hQ _ _ (st.pop.pop.pushBool _)
theorem cmp_nePair {x : Str} {i : Int} (ok : C.Ok) : Cmp C ρ μ .NotEq (.tuple [.str x, .int i]) (.tuple [.str x, .int i]) false := fun τ v u s Q E st hQ => by
  obtain ⟨b, us, rfl, hb, hbl, st₁⟩ := st.tuple (.head _)
  obtain ⟨a, vs, rfl, ha, hal, st₂⟩ := st₁.tuple (List.mem_append.mpr (.inr (.tail _ (.head _))))
  have hu := ok.uni
  obtain ⟨u1, u2, rfl⟩ := two_of hbl
  obtain ⟨v1, v2, rfl⟩ := two_of hal
  obtain ⟨m, nd, h⟩ := st₂
  have e1 := h.tmps (v1, .str x) (.head _)
  have e2 := h.tmps (v2, .int i) (.tail _ (.head _))
  have e3 := h.tmps (u1, .str x) (.tail _ (.tail _ (.head _)))
  have e4 := h.tmps (u2, .int i) (.tail _ (.tail _ (.tail _ (.head _))))
  cases e1 with | str _ t1 =>
  cases e2 with | int _ t2 =>
  cases e3 with | str _ t3 =>
  cases e4 with | int _ t4 =>
  refine EqBoolInt.of_rcne (SeqAt.RcNeAt.tuples (e := fun _ => true) (show s.heap.IsTuple a [Value.str x t1, .int i t2].toArray from ha) (show s.heap.IsTuple b [Value.str x t3, .int i t4].toArray from hb) (by (first | assumption | decide | exact Nat.le_trans (by assumption) (by decide) | exact Nat.le_trans (Nat.add_le_add (by assumption) (by assumption)) (by decide) | exact Nat.lt_of_le_of_lt (by assumption) (by decide) | exact Nat.lt_of_lt_of_le (by assumption) (by decide) | lia | omega)) fun j h1 h2 => ?_) ?_
  · match j, h1, h2 with
    | 0, _, _ => have := SeqAt.EqAt.str_str x t1 x t3 (A := C.A.in1) (s := s); simpa using this
    | 1, _, _ => have := SeqAt.EqAt.int_int i t2 i t4 (A := C.A.in1) (s := s); simpa using this
    | j + 2, h1, _ => exact absurd h1 (by simp)
  · exact hQ _ _ (st.pop.pop.pushBool _)
theorem cmp_ninPair {p a b : Int} (ok : C.Ok) : Cmp C ρ μ .NotIn (.int p) (.tuple [.int a, .int b]) (!(a == p || b == p)) := fun τ v u s Q E st hQ => by
  obtain ⟨t, us, rfl, hb, hbl, st₁⟩ := st.tuple (.head _)
  obtain ⟨u1, u2, rfl⟩ := two_of hbl
  obtain ⟨m, nd, h⟩ := st₁
  have e1 := h.tmps (u1, .int a) (.head _)
  have e2 := h.tmps (u2, .int b) (.tail _ (.head _))
  have e3 := h.tmps (v, .int p) (.tail _ (.tail _ (.tail _ (.head _))))
  cases e1 with | int _ t1 =>
  cases e2 with | int _ t2 =>
  cases e3 with | int _ t3 =>
  refine SeqAt.notIn_tupleAt (fun y => match y with | .int k _ => k == p | _ => false) (show s.heap.IsTuple t [Value.int a t1, .int b t2].toArray from hb) (fun y hy => ?_) ?_
  · rcases List.mem_cons.mp (show y ∈ [Value.int a t1, .int b t2] by simpa using hy) with rfl | hy
    · exact SeqAt.EqAt.int_int a t1 p t3
    · rw [List.mem_singleton.mp hy]; exact SeqAt.EqAt.int_int b t2 p t3
  · have := hQ _ _ (st.pop.pop.pushBool (!(a == p || b == p)))
    simpa using this
theorem cmp_inInts {p : Int} {is : List Int} (ok : C.Ok) : Cmp C ρ μ .In (.int p) (.list (is.map Dat.int)) (is.any (· == p)) := fun τ v u s Q E st hQ => by
  obtain ⟨t, us, rfl, hb, hbl, st₁⟩ := st.list (.head _)
  have hv : ∃ t3, v = .int p t3 := by
    obtain ⟨m, nd, h⟩ := st
    have e3 := h.tmps (v, .int p) (.tail _ (.head _))
    cases e3 with | int _ t3 => exact ⟨t3, rfl⟩
  obtain ⟨t3, rfl⟩ := hv
  have hints : ∀ (is : List Int) (us : List Value), us.length = is.length → (∀ q ∈ us.zip (is.map Dat.int), ∃ nd, DatIn nd q.1 q.2) → (us.any fun y => match y with | .int k _ => k == p | _ => false) = is.any (· == p) ∧ ∀ y ∈ us, ∃ k t, y = .int k t := fun is => by
    induction is with
    | nil => intro us hl _; rw [List.length_eq_zero_iff.mp hl]; exact ⟨rfl, fun _ h => nomatch h⟩
    | cons i is ih =>
      intro us hl hz
      match us, hl with
      | y :: us, hl =>
        obtain ⟨h1, h2⟩ := ih us (by simpa using hl) fun q hq => hz q (.tail _ hq)
        obtain ⟨nd, hd⟩ := hz (y, .int i) (.head _)
        cases hd with | int _ t => 
        refine ⟨by simp only [List.any_cons, h1], fun y hy => ?_⟩
        rcases List.mem_cons.mp hy with rfl | hy
        · exact ⟨_, _, rfl⟩
        · exact h2 y hy
  obtain ⟨h1, h2⟩ := hints is us (by simpa using hbl) fun q hq => by
    obtain ⟨m, nd, h⟩ := st₁
    exact ⟨nd, h.tmps q (List.mem_append.mpr (.inl hq))⟩
  refine SeqAt.in_listAt (fun y => match y with | .int k _ => k == p | _ => false) hb (fun y hy => ?_) ?_
  · obtain ⟨k, t, rfl⟩ := h2 y (by simpa using hy)
    exact SeqAt.EqAt.int_int k t p t3
  · have := hQ _ _ (st.pop.pop.pushBool (is.any (· == p)))
    rw [← h1] at this
    simpa using this
end
end Mine
end

section
open PySem PySem.W PyProof.Rows PySem.Calls
set_option maxRecDepth 100000
set_option linter.all false
set_option maxHeartbeats 800000
namespace Mine
/-- the frame of law -/
noncomputable abbrev lawC (w : World) (scope : Scope) (cd : Value) (L : Addr) (A : Around) (g : Heap) (os : OsState) (lvl : Nat) : Cx := ⟨w, envOfC "law" scope L 112 cd, A, g, [], [], os, lvl, []⟩
/-- something about law's body -/
noncomputable def LawSeg (P : PySem.Params) (X : List Stmt → Scope → Value → Prop) : Prop :=
  ∀ (oc : Value) (od : Option Addr) (osl : Array (Option Value)) (name qual : Str) (params : Arguments) (body : List Stmt) (scope : Scope) (dV kV doc pm : Value) (an : Option Addr) (cdv ct : Value),
    List.lookup 112 (wtop.heap_39 P) = some ⟨oc, od, .func (fnOf name qual params body scope dV kV doc pm an cdv ct), osl⟩ → X body scope cdv
theorem lawSeg_intro {P : PySem.Params} {X : List Stmt → Scope → Value → Prop} {oc : Value} {od : Option Addr} {osl : Array (Option Value)} {name qual : Str} {params : Arguments} {body : List Stmt} {scope : Scope} {dV kV doc pm : Value} {an : Option Addr} {cdv ct : Value}
    (ho : List.lookup 112 (wtop.heap_39 P) = some ⟨oc, od, .func (fnOf name qual params body scope dV kV doc pm an cdv ct), osl⟩) (h : X body scope cdv) : LawSeg P X := by
  intro oc' od' osl' name' qual' params' body' scope' dV' kV' doc' pm' an' cdv' ct' ho'
  rw [ho] at ho'
  have e1 := Option.some.inj ho'
  injection e1 with _ _ e2 _
  injection e2 with e3
  unfold fnOf at e3
  injection e3 with _ _ _ e4 e5 _ _ _ _ _ _ _ e6
  injection e4 with e4
  subst e4 e5 e6
  exact h
theorem lawSeg_use {P : PySem.Params} {X : List Stmt → Scope → Value → Prop} (h : LawSeg P X) {oc : Value} {od : Option Addr} {osl : Array (Option Value)} {name qual : Str} {params : Arguments} {body : List Stmt} {scope : Scope} {dV kV doc pm : Value} {an : Option Addr} {cdv ct : Value}
    (ho : List.lookup 112 (wtop.heap_39 P) = some ⟨oc, od, .func (fnOf name qual params body scope dV kV doc pm an cdv ct), osl⟩) : X body scope cdv := h _ _ _ _ _ _ _ _ _ _ _ _ _ _ _ ho

theorem comp_one {C : Cx} {ρ₀ ρ' : AEnv} {tgt elt : Expr} {d e : Dat} (hb : Bnd C ρ₀ tgt d ρ') (he : ∀ μ, Ev C ρ' μ elt e) : CompT C ρ₀ tgt elt [] d (some e) := ⟨ρ', hb, he, .inl rfl⟩
theorem comp_if {C : Cx} {ρ₀ ρ' : AEnv} {tgt elt t : Expr} {d e : Dat} {b : Bool} (hb : Bnd C ρ₀ tgt d ρ') (ht : ∀ μ, Tr C ρ' μ t b) (he : ∀ μ, Ev C ρ' μ elt e) : CompT C ρ₀ tgt elt [t] d (if b then some e else none) := by
  cases b with
  | true => exact ⟨ρ', hb, he, .inr ⟨t, rfl, ht⟩⟩
  | false => exact ⟨ρ', hb, t, rfl, ht⟩

noncomputable def AllSeen (C : Cx) (scope : Scope) (cl : List (Str × Addr)) (ρ : AEnv) : AEnv → Prop
  | [] => True
  | p :: r => (ρ.lookup p.1 = some p.2 ∧ C.env.kindOf p.1 = some .cell ∧ (∀ Lc, (compEnvC scope cl Lc C.env).kindOf p.1 = some .cell) ∧ cl.lookup p.1 = C.env.cells.lookup p.1) ∧ AllSeen C scope cl ρ r
theorem seen_of {C : Cx} {scope : Scope} {cl : List (Str × Addr)} {ρ : AEnv} : ∀ {ρ₀ : AEnv}, AllSeen C scope cl ρ ρ₀ → Seen C scope cl ρ ρ₀
  | [], _, x, a, e => by cases e
  | p :: r, h, x, a, e => by
    rw [List.lookup_cons] at e
    split at e
    · rename_i q; cases e; rw [eq_of_beq q]; exact h.1
    · exact seen_of h.2 x a e
noncomputable def ownOf : Nat → Int
  | 0 => 12
  | 1 => 21
  | 2 => 700
  | _ => 77
noncomputable def cellI (ns : List Int) (i : Nat) : Int := (ownOf i + (pickNums ns (some (i : Int)) none (some 4)).sum).fmod ((10 : Int) ^ (6 : Int).toNat)
theorem cellI_nat (ns : List Int) (i : Nat) : ∃ c : Nat, cellI ns i = (c : Int) ∧ c < 1000000 := by
  have h1 : (0 : Int) ≤ cellI ns i := Int.fmod_nonneg_of_pos _ (by decide)
  have h2 : cellI ns i < 1000000 := Int.fmod_lt_of_pos _ (by decide)
  exact ⟨(cellI ns i).toNat, by (first | assumption | decide | exact Nat.le_trans (by assumption) (by decide) | exact Nat.le_trans (Nat.add_le_add (by assumption) (by assumption)) (by decide) | exact Nat.lt_of_le_of_lt (by assumption) (by decide) | exact Nat.lt_of_lt_of_le (by assumption) (by decide) | lia | omega), by (first | assumption | decide | exact Nat.le_trans (by assumption) (by decide) | exact Nat.le_trans (Nat.add_le_add (by assumption) (by assumption)) (by decide) | exact Nat.lt_of_le_of_lt (by assumption) (by decide) | exact Nat.lt_of_lt_of_le (by assumption) (by decide) | lia | omega)⟩

/-- what comes before the loop over n -/
noncomputable def M1 (P : PySem.Params) (n₀ : Nat) (X : List Stmt → Cx → Prop) : Prop := LawSeg P fun b sc cd => ∀ (w : World) (L : Addr) (A : Around) (g : Heap) (os : OsState) (lvl : Nat), w.params = P → (lawC w sc cd L A g os lvl).Ok → (lawC w sc cd L A g os lvl).Cal → 4 ≤ lvl → X (b.drop n₀) (lawC w sc cd L A g os lvl)

noncomputable def cellO (v : Option Value) : Obj → Prop := fun o => o.data = .cell v

theorem law_cells (P : PySem.Params) : M1 P 0 fun b C => ∀ (a : Addr) (vs : List Value) (ns : List Int) (Φ : Flow → Shared → Prop) (μ : Mu), C.h₀.IsList a vs.toArray → IntsAre vs ns → vs.length ≤ 1000 →
    Ex C [("cells", .dat (.list [.int (cellI ns 0), .int (cellI ns 1), .int (cellI ns 2), .int (cellI ns 3)]))] [] μ (b.drop 1) Φ → Ex C [("script", .raw (.ref a))] [] μ b Φ := by
  refine lawSeg_intro rfl ?_
  intro w L A g os lvl hP ok cal hlv a vs ns Φ μ hl hi hsz h
  refine ex_assign_comp (ρ₀ := [("script", .raw (.ref a))]) (ds := enumD 0 [.int 12, .int 21, .int 700, .int 77]) (f := fun i => some (.int (cellI ns i))) ok rfl (by decide) rfl (by decide) (seen_of ⟨⟨rfl, rfl, fun _ => rfl, rfl⟩, trivial⟩) (itbT_enum ok rfl (fun _ => rfl) (ev_tuple ⟨ev_int, rfl, ev_int, rfl, ev_int, rfl, ev_int, rfl, trivial⟩ (by show 4 ≤ 100; (first | assumption | decide | exact Nat.le_trans (by assumption) (by decide) | exact Nat.le_trans (Nat.add_le_add (by assumption) (by assumption)) (by decide) | exact Nat.lt_of_le_of_lt (by assumption) (by decide) | exact Nat.lt_of_lt_of_le (by assumption) (by decide) | lia | omega)))) (by decide) ?_ rfl ?_
  · intro i d hd Lc opq keep ok'
    match i, hd with
    | 0, rfl => exact comp_one (bnd_pair ok' rfl rfl) fun μ => ev_mod (ev_add (ev_name ok' rfl) (ev_sumSlice ok' rfl (fun _ => rfl) rfl hl hi hsz (ev_name ok' rfl) ev_int (by decide) (by decide) (by decide) (by decide) (by decide))) (ev_pow ev_int ev_int (by decide) (by decide) (by decide)) (by decide)
    | 1, rfl => exact comp_one (bnd_pair ok' rfl rfl) fun μ => ev_mod (ev_add (ev_name ok' rfl) (ev_sumSlice ok' rfl (fun _ => rfl) rfl hl hi hsz (ev_name ok' rfl) ev_int (by decide) (by decide) (by decide) (by decide) (by decide))) (ev_pow ev_int ev_int (by decide) (by decide) (by decide)) (by decide)
    | 2, rfl => exact comp_one (bnd_pair ok' rfl rfl) fun μ => ev_mod (ev_add (ev_name ok' rfl) (ev_sumSlice ok' rfl (fun _ => rfl) rfl hl hi hsz (ev_name ok' rfl) ev_int (by decide) (by decide) (by decide) (by decide) (by decide))) (ev_pow ev_int ev_int (by decide) (by decide) (by decide)) (by decide)
    | 3, rfl => exact comp_one (bnd_pair ok' rfl rfl) fun μ => ev_mod (ev_add (ev_name ok' rfl) (ev_sumSlice ok' rfl (fun _ => rfl) rfl hl hi hsz (ev_name ok' rfl) ev_int (by decide) (by decide) (by decide) (by decide) (by decide))) (ev_pow ev_int ev_int (by decide) (by decide) (by decide)) (by decide)
    | i + 4, hd => exact absurd hd (by simp [enumD])
  · refine ex_weak (fun s st => ?_) h
    exact st.env (sub_of rfl)
end Mine
end

section
open PySem PySem.W PyProof.Rows PySem.Calls
set_option maxRecDepth 100000
set_option linter.all false
set_option maxHeartbeats 800000
namespace Mine
noncomputable def badN (m n : Nat) (d : Nat) : Bool := (m % d == 0) && (n % d == 0)
noncomputable def bad (m n : Nat) : Bool := badN m n 3 || badN m n 5 || badN m n 7 || badN m n 11
noncomputable def mOf (c0 : Nat) : Nat := 3 + 2 * (c0 % 5)
noncomputable def nOf (c0 c1 : Nat) : Nat := if bad (mOf c0) (mOf c1) then mOf c1 + 2 else mOf c1
theorem mOf_lt (c : Nat) : 3 ≤ mOf c ∧ mOf c ≤ 11 := by unfold mOf; (first | assumption | decide | exact Nat.le_trans (by assumption) (by decide) | exact Nat.le_trans (Nat.add_le_add (by assumption) (by assumption)) (by decide) | exact Nat.lt_of_le_of_lt (by assumption) (by decide) | exact Nat.lt_of_lt_of_le (by assumption) (by decide) | lia | omega)
theorem nOf_good (c0 c1 : Nat) : bad (mOf c0) (nOf c0 c1) = false := by
  unfold nOf mOf
  have h0 : c0 % 5 < 5 := Nat.mod_lt _ (by decide)
  have h1 : c1 % 5 < 5 := Nat.mod_lt _ (by decide)
  generalize c0 % 5 = a at *
  generalize c1 % 5 = b at *
  revert a b
  decide
noncomputable def primes : List Nat := [3, 5, 7, 11]
theorem beqN (a b : Nat) : (((a : Nat) : Int) == ((b : Nat) : Int)) = (a == b) := by
  by_cases h : a = b
  · subst h; simp
  · rw [beq_false_of_ne h, beq_false_of_ne (by (first | assumption | decide | exact Nat.le_trans (by assumption) (by decide) | exact Nat.le_trans (Nat.add_le_add (by assumption) (by assumption)) (by decide) | exact Nat.lt_of_le_of_lt (by assumption) (by decide) | exact Nat.lt_of_lt_of_le (by assumption) (by decide) | lia | omega))]
theorem tr_modz {C : Cx} {ρ : AEnv} {μ : Mu} {l r : Expr} {p1 p2 p3 : Pos} {k : Nat} {a : Nat} (b : Nat) (h1 : Ev C ρ μ l (.int (a : Nat))) (h2 : Ev C ρ μ r (.int (b : Nat))) (hb : 0 < b) :
    Tr C ρ μ (.Compare (.BinOp l .Mod r p1) [.Eq] [.Constant (.int 0) k p2] p3) (a % b == 0) := tr_of (tr_cmp (ev_modN b h1 h2 hb) ev_int cmp_eq) (beqN (a % b) 0)
theorem law_mn (P : PySem.Params) : M1 P 1 fun b C => ∀ (c0 c1 c2 c3 : Nat) (om on ob ow : Obj) (Φ : Flow → Shared → Prop), om.data = .cell none → on.data = .cell none → ob.data = .cell none → ow.data = .cell none →
    (∀ cm cn cb cw, C.env.cells.lookup ("m" : Str) = some cm → C.env.cells.lookup ("n" : Str) = some cn → C.env.cells.lookup ("base" : Str) = some cb → C.env.cells.lookup ("worth" : Str) = some cw →
    Ex C [("m", .dat (.int (mOf c0))), ("n", .dat (.int (nOf c0 c1))), ("base", .dat (.int (256 + c2 % 50000 : Nat))), ("worth", .dat (.int (1 + c3 % 900 : Nat))), ("cells", .dat (.list [.int c0, .int c1, .int c2, .int c3]))] [] [] (b.drop 5) Φ →
    Ex C [("cells", .dat (.list [.int c0, .int c1, .int c2, .int c3]))] [] [(cm, om), (cn, on), (cb, ob), (cw, ow)] b Φ) := by
  refine lawSeg_intro rfl ?_
  intro w L A g os lvl hP ok cal hlv c0 c1 c2 c3 om on ob ow Φ hm hn hb' hw cm cn cb cw e1 e2 e3 e4 h
  refine ex_assign_cell ok (d := .int (mOf c0)) (ev_addN (2 * (c0 % 5)) ev_int (ev_mulN (c0 % 5) ev_int (ev_modN 5 (ev_itemL (ev_name ok rfl) ev_int (by decide) (by decide) rfl) ev_int (by decide)) (by decide))) rfl e1 hm ?_
  refine ex_assign_cell ok (d := .int (mOf c1)) (ev_addN (2 * (c1 % 5)) ev_int (ev_mulN (c1 % 5) ev_int (ev_modN 5 (ev_itemL (ev_name ok rfl) ev_int (by decide) (by decide) rfl) ev_int (by decide)) (by decide))) rfl e2 hn ?_
  refine ex_while (σ := Nat) (fun a => [("m", .dat (.int (mOf c0))), ("n", .dat (.int a)), ("cells", .dat (.list [.int c0, .int c1, .int c2, .int c3]))]) (fun _ => []) (fun _ => [(cb, ob), (cw, ow)])
    (fun k a => (k = 1 ∧ a = mOf c1) ∨ (k = 0 ∧ a = nOf c0 c1)) 1 (mOf c1) (.inl ⟨rfl, rfl⟩) (sub_of rfl) tmp_nil rfl ?_
  intro k a hJ
  have ha : a < 100 := by
    have := mOf_lt c1
    rcases hJ with ⟨_, rfl⟩ | ⟨_, rfl⟩
    · (first | assumption | decide | exact Nat.le_trans (by assumption) (by decide) | exact Nat.le_trans (Nat.add_le_add (by assumption) (by assumption)) (by decide) | exact Nat.lt_of_le_of_lt (by assumption) (by decide) | exact Nat.lt_of_lt_of_le (by assumption) (by decide) | lia | omega)
    · unfold nOf; split <;> (first | assumption | decide | exact Nat.le_trans (by assumption) (by decide) | exact Nat.le_trans (Nat.add_le_add (by assumption) (by assumption)) (by decide) | exact Nat.lt_of_le_of_lt (by assumption) (by decide) | exact Nat.lt_of_lt_of_le (by assumption) (by decide) | lia | omega)
  refine ⟨(kept (fun i => if badN (mOf c0) a (primes.getD i 0) then some (.int ((primes.getD i 0 : Nat) : Int)) else none) 4).length != 0, tr_cmp (ev_comp (ρ₀ := [("m", .dat (.int (mOf c0))), ("n", .dat (.int a))]) (ds := [.int 3, .int 5, .int 7, .int 11]) ok rfl (by decide) rfl (by decide)
      (seen_of ⟨⟨rfl, rfl, fun _ => rfl, rfl⟩, ⟨rfl, rfl, fun _ => rfl, rfl⟩, trivial⟩) (Itb.toT _ (itb_tuple ok (ev_tuple (ds := [.int 3, .int 5, .int 7, .int 11]) ⟨ev_int, rfl, ev_int, rfl, ev_int, rfl, ev_int, rfl, trivial⟩ (by show 4 ≤ 100; (first | assumption | decide | exact Nat.le_trans (by assumption) (by decide) | exact Nat.le_trans (Nat.add_le_add (by assumption) (by assumption)) (by decide) | exact Nat.lt_of_le_of_lt (by assumption) (by decide) | exact Nat.lt_of_lt_of_le (by assumption) (by decide) | lia | omega))))) (by decide) ?_) (ev_list (ds := []) trivial (by decide)) (cmp_neNil ok), fun hb => ?_, fun hb => ?_⟩
  · intro i d hd Lc opq keep ok'
    match i, hd with
    | 0, rfl => exact comp_if (b := badN (mOf c0) a 3) (bnd_name ok' rfl) (fun μ => tr_and (c := mOf c0 % 3 == 0) (c' := a % 3 == 0) (tr_modz 3 (ev_name ok' rfl) (ev_name ok' rfl) (by decide)) fun _ => tr_modz 3 (ev_name ok' rfl) (ev_name ok' rfl) (by decide)) fun μ => ev_name ok' rfl
    | 1, rfl => exact comp_if (b := badN (mOf c0) a 5) (bnd_name ok' rfl) (fun μ => tr_and (c := mOf c0 % 5 == 0) (c' := a % 5 == 0) (tr_modz 5 (ev_name ok' rfl) (ev_name ok' rfl) (by decide)) fun _ => tr_modz 5 (ev_name ok' rfl) (ev_name ok' rfl) (by decide)) fun μ => ev_name ok' rfl
    | 2, rfl => exact comp_if (b := badN (mOf c0) a 7) (bnd_name ok' rfl) (fun μ => tr_and (c := mOf c0 % 7 == 0) (c' := a % 7 == 0) (tr_modz 7 (ev_name ok' rfl) (ev_name ok' rfl) (by decide)) fun _ => tr_modz 7 (ev_name ok' rfl) (ev_name ok' rfl) (by decide)) fun μ => ev_name ok' rfl
    | 3, rfl => exact comp_if (b := badN (mOf c0) a 11) (bnd_name ok' rfl) (fun μ => tr_and (c := mOf c0 % 11 == 0) (c' := a % 11 == 0) (tr_modz 11 (ev_name ok' rfl) (ev_name ok' rfl) (by decide)) fun _ => tr_modz 11 (ev_name ok' rfl) (ev_name ok' rfl) (by decide)) fun μ => ev_name ok' rfl
    | i + 4, hd => exact absurd hd (by simp)
  · have hbad : bad (mOf c0) a = true := by
      cases hq : bad (mOf c0) a with
      | true => rfl
      | false =>
        unfold bad at hq
        simp only [Bool.or_eq_false_iff] at hq
        obtain ⟨⟨⟨h3, h5⟩, h7⟩, h11⟩ := hq
        simp [kept, primes, h3, h5, h7, h11] at hb
    have hk : k = 1 ∧ a = mOf c1 := by
      rcases hJ with h | ⟨_, rfl⟩
      · exact h
      · rw [nOf_good] at hbad; cases hbad
    obtain ⟨rfl, rfl⟩ := hk
    refine ex_reassign_cell (c := cn) ok rfl (ev_addN 2 (ev_name ok rfl) ev_int) rfl e2 rfl (fun y hy => ?_) ?_
    · have ecn : cn = L + 1 + 1 + 1 := (Option.some.inj e2).symm
      have hy' : List.lookup y [(("worth" : Str), L + 1 + 1 + 1 + 1 + 1), ("base", L + 1 + 1 + 1 + 1), ("n", L + 1 + 1 + 1), ("m", L + 1 + 1), ("script", L + 1)] = some cn := hy
      simp only [List.lookup_cons, List.lookup_nil] at hy'
      split at hy'
      · have q : @Eq Nat (L + 1 + 1 + 1 + 1 + 1) (L + 1 + 1 + 1) := (Option.some.inj hy').trans ecn; (first | assumption | decide | exact Nat.le_trans (by assumption) (by decide) | exact Nat.le_trans (Nat.add_le_add (by assumption) (by assumption)) (by decide) | exact Nat.lt_of_le_of_lt (by assumption) (by decide) | exact Nat.lt_of_lt_of_le (by assumption) (by decide) | lia | omega)
      · split at hy'
        · have q : @Eq Nat (L + 1 + 1 + 1 + 1) (L + 1 + 1 + 1) := (Option.some.inj hy').trans ecn; (first | assumption | decide | exact Nat.le_trans (by assumption) (by decide) | exact Nat.le_trans (Nat.add_le_add (by assumption) (by assumption)) (by decide) | exact Nat.lt_of_le_of_lt (by assumption) (by decide) | exact Nat.lt_of_lt_of_le (by assumption) (by decide) | lia | omega)
        · split at hy'
          · rename_i q; exact eq_of_beq q
          · split at hy'
            · have q : @Eq Nat (L + 1 + 1) (L + 1 + 1 + 1) := (Option.some.inj hy').trans ecn; (first | assumption | decide | exact Nat.le_trans (by assumption) (by decide) | exact Nat.le_trans (Nat.add_le_add (by assumption) (by assumption)) (by decide) | exact Nat.lt_of_le_of_lt (by assumption) (by decide) | exact Nat.lt_of_lt_of_le (by assumption) (by decide) | lia | omega)
            · split at hy'
              · have q : @Eq Nat (L + 1) (L + 1 + 1 + 1) := (Option.some.inj hy').trans ecn; (first | assumption | decide | exact Nat.le_trans (by assumption) (by decide) | exact Nat.le_trans (Nat.add_le_add (by assumption) (by assumption)) (by decide) | exact Nat.lt_of_le_of_lt (by assumption) (by decide) | exact Nat.lt_of_lt_of_le (by assumption) (by decide) | lia | omega)
              · cases hy'
    · refine while_end (mOf c1 + 2) ⟨0, by (first | assumption | decide | exact Nat.le_trans (by assumption) (by decide) | exact Nat.le_trans (Nat.add_le_add (by assumption) (by assumption)) (by decide) | exact Nat.lt_of_le_of_lt (by assumption) (by decide) | exact Nat.lt_of_lt_of_le (by assumption) (by decide) | lia | omega), .inr ⟨rfl, by unfold nOf; rw [if_pos hbad]⟩⟩ (sub_of rfl) tmp_nil rfl
  · have hbad : bad (mOf c0) a = false := by
      cases hq : bad (mOf c0) a with
      | false => rfl
      | true =>
        exfalso
        unfold bad at hq
        simp only [Bool.or_eq_true] at hq
        rcases hq with ((h3 | h3) | h3) | h3 <;> simp [kept, primes, h3] at hb
    have hk : a = nOf c0 c1 := by
      rcases hJ with ⟨_, rfl⟩ | ⟨_, rfl⟩
      · unfold nOf; rw [if_neg (by rw [hbad]; decide)]
      · rfl
    subst hk
    refine ex_assign_cell ok (d := .int (256 + c2 % 50000 : Nat)) (ev_addN (c2 % 50000) ev_int (ev_modN 50000 (ev_itemL (ev_name ok rfl) ev_int (by decide) (by decide) rfl) ev_int (by decide))) rfl e3 hb' ?_
    refine ex_assign_cell ok (d := .int (1 + c3 % 900 : Nat)) (ev_addN (c3 % 900) ev_int (ev_modN 900 (ev_itemL (ev_name ok rfl) ev_int (by decide) (by decide) rfl) ev_int (by decide))) rfl e4 hw ?_
    refine ex_weak (fun s st => ?_) h
    exact st.env (sub_of rfl)
end Mine
end

section
open PySem PySem.W PyProof.Rows PySem.Calls
set_option maxRecDepth 100000
set_option linter.all false
set_option maxHeartbeats 800000
namespace Mine
section
variable {C : Cx} {ρ : AEnv} {τ : Tmp} {μ : Mu} {s : Shared} {e e₁ l r : Expr} {np pos : Pos} {ds : List Dat}
theorem itb_range1N {e e' : Expr} {h : Nat} (ok : C.Ok) (hx : C.env.kindOf "range" = some .globalImplicit) (hm : ∀ P, nsIn (wtop.heap_39 P) mainGlobals "range" = some none) (he' : Ev C ρ μ e' (.int 1)) (he : Ev C ρ μ e (.int ((h + 1 : Nat) : Int))) (hhi : h < 2 ^ 60)
    (hse : starEach [e', e] C.env = [(false, eval e' C.env), (false, eval e C.env)] := by rfl) :
    Itb C ρ μ (.Call (.Name "range" np) [e', e] [] pos) (intsFrom 1 h) := by
  have := itb_range2 (np := np) (pos := pos) ok hx hm he' he (by decide) (by (first | assumption | decide | exact Nat.le_trans (by assumption) (by decide) | exact Nat.le_trans (Nat.add_le_add (by assumption) (by assumption)) (by decide) | exact Nat.lt_of_le_of_lt (by assumption) (by decide) | exact Nat.lt_of_lt_of_le (by assumption) (by decide) | lia | omega)) (by (first | assumption | decide | exact Nat.le_trans (by assumption) (by decide) | exact Nat.le_trans (Nat.add_le_add (by assumption) (by assumption)) (by decide) | exact Nat.lt_of_le_of_lt (by assumption) (by decide) | exact Nat.lt_of_lt_of_le (by assumption) (by decide) | lia | omega)) hse
  rw [show (((h + 1 : Nat) : Int) - 1).toNat = h by (first | assumption | decide | exact Nat.le_trans (by assumption) (by decide) | exact Nat.le_trans (Nat.add_le_add (by assumption) (by assumption)) (by decide) | exact Nat.lt_of_le_of_lt (by assumption) (by decide) | exact Nat.lt_of_lt_of_le (by assumption) (by decide) | lia | omega)] at this
  exact this
theorem kept_some (g : Nat → Dat) : ∀ n, kept (fun i => some (g i)) n = (List.range n).map g
  | 0 => rfl
  | n + 1 => by rw [List.range_succ, List.map_append, ← kept_some g n]; rfl
theorem ev_chrN {a : Nat} (ok : C.Ok) (hx : C.env.kindOf "chr" = some .globalImplicit) (hm : ∀ P, nsIn (wtop.heap_39 P) mainGlobals "chr" = some none) (h1 : Ev C ρ μ e (.int (a : Nat))) (h2 : a ≤ 0x10FFFF) (hse : starEach [e] C.env = [(false, eval e C.env)] := by rfl) :
    Ev C ρ μ (.Call (.Name "chr" np) [e] [] pos) (.str (S [a])) := ev_of (ev_chr ok hx hm h1 (by (first | assumption | decide | exact Nat.le_trans (by assumption) (by decide) | exact Nat.le_trans (Nat.add_le_add (by assumption) (by assumption)) (by decide) | exact Nat.lt_of_le_of_lt (by assumption) (by decide) | exact Nat.lt_of_lt_of_le (by assumption) (by decide) | lia | omega)) (by (first | assumption | decide | exact Nat.le_trans (by assumption) (by decide) | exact Nat.le_trans (Nat.add_le_add (by assumption) (by assumption)) (by decide) | exact Nat.lt_of_le_of_lt (by assumption) (by decide) | exact Nat.lt_of_lt_of_le (by assumption) (by decide) | lia | omega)) hse) rfl
theorem StW.note {m : Str → Option Value} {nd : Mu} {a : Addr} {o : Obj} {h' : Heap} (w : StW C ρ τ μ m nd s) (ha : ∀ p ∈ μ ++ C.opq, p.1 ≠ a) (F' : Fr C.h₀ C.env.locals h' m) (N' : News C.h₀ C.env.locals h' ((a, o) :: (μ ++ (C.opq ++ nd)))) (t : Tok) :
    StW C ρ τ μ m ((a, o) :: nd) { s with heap := h', toks := t } := by
  have hsub : ∀ p ∈ nd, p ∈ (a, o) :: nd := fun p hp => .tail _ hp
  refine ⟨F', fun p hp => N' p ?_, fun p hp q hq => ?_, w.dis, w.nodup, fun p hp => .tail _ (w.keep p hp), w.gens, fun x a e => (w.vars x a e).mono hsub, fun p hp => (w.tmps p hp).mono hsub, w.os⟩
  · rcases List.mem_append.mp hp with hp | hp
    · exact .tail _ (List.mem_append.mpr (.inl hp))
    · rcases List.mem_append.mp hp with hp | hp
      · exact .tail _ (List.mem_append.mpr (.inr (List.mem_append.mpr (.inl hp))))
      · rcases List.mem_cons.mp hp with rfl | hp
        · exact .head _
        · exact .tail _ (List.mem_append.mpr (.inr (List.mem_append.mpr (.inr hp))))
  · rcases List.mem_cons.mp hq with rfl | hq
    · exact ha p hp
    · exact w.sep p hp q hq
theorem StW.lt {m : Str → Option Value} {nd : Mu} (w : StW C ρ τ μ m nd s) : ∀ p ∈ μ ++ C.opq, p.1 < s.heap.objs.size := fun p hp => Heap.lt_size (w.N p (by
  rcases List.mem_append.mp hp with hp | hp
  · exact List.mem_append.mpr (.inl hp)
  · exact List.mem_append.mpr (.inr (List.mem_append.mpr (.inl hp))))).1
theorem ev_addL {es : List Dat} (h1 : Ev C ρ μ l (.list ds)) (h2 : Ev C ρ μ r (.list es)) (hd : ds.length ≤ 1000) (he : es.length ≤ 1000) : Ev C ρ μ (.BinOp l .Add r pos) (.list (ds ++ es)) := ev_bin h1 h2 fun τ v u s Q E st hQ => by
  obtain ⟨b, us, rfl, hb, hbl, st₁⟩ := st.list (.head _)
  obtain ⟨a, vs, rfl, ha, hal, st₂⟩ := st₁.list (List.mem_append.mpr (.inr (.tail _ (.head _))))
  obtain ⟨m, nd, w⟩ := st₂
  refine add_lists w.F w.N ha hb (fun h' F' N' => ?_) (by rw [line_eq]; (first | assumption | decide | exact Nat.le_trans (by assumption) (by decide) | exact Nat.le_trans (Nat.add_le_add (by assumption) (by assumption)) (by decide) | exact Nat.lt_of_le_of_lt (by assumption) (by decide) | exact Nat.lt_of_lt_of_le (by assumption) (by decide) | lia | omega))
  have w2 := w.note (fun p hp => Nat.ne_of_lt (w.lt p hp)) F' N' s.toks
  refine hQ _ _ ((w2.push (d := .list (ds ++ es)) (DatIn.list (n := 0) (List.Mem.head _) ?_)).st.tmpsOf fun p hp => ?_)
  · have h1 : AllIn (vs.zip ds ++ (us.zip es ++ (Value.ref b, Dat.list es) :: (Value.ref a, Dat.list ds) :: τ)) vs ds := AllIn.zip hal
    have h2 : AllIn (vs.zip ds ++ (us.zip es ++ (Value.ref b, Dat.list es) :: (Value.ref a, Dat.list ds) :: τ)) us es := AllIn.mono (fun p hp => List.mem_append.mpr (.inr hp)) (AllIn.zip (τ := (Value.ref b, Dat.list es) :: (Value.ref a, Dat.list ds) :: τ) hbl)
    exact (h1.append h2).data w2.tmps
  · rcases List.mem_cons.mp hp with rfl | hp
    · exact .head _
    · exact .tail _ (List.mem_append.mpr (.inr (List.mem_append.mpr (.inr (.tail _ (.tail _ hp))))))
end
noncomputable def opensL (h base n worth : Nat) : List (Nat × Nat × Nat) := (List.range h).map fun i => (40, base + (i + 1), (i + 1) * n * worth)
noncomputable def closesL (h base m worth : Nat) : List (Nat × Nat × Nat) := (List.range h).map fun i => (41, base + 31 + (i + 1), (i + 1) * m * worth)
noncomputable def thingsL (m n base worth : Nat) : List (Nat × Nat × Nat) := opensL (m / 2) base n worth ++ closesL (n / 2) base m worth
noncomputable def thD (t : Nat × Nat × Nat) : Dat := .tuple [.str (S [t.1]), .str (S [t.2.1]), .int t.2.2]

theorem law_things (P : PySem.Params) : M1 P 6 fun b C => ∀ (m n base worth : Nat) (cs : Dat) (Φ : Flow → Shared → Prop), m ≤ 100 → n ≤ 100 → base ≤ 100000 → worth ≤ 1000 →
    Ex C [("things", .dat (.list ((thingsL m n base worth).map thD))), ("m", .dat (.int m)), ("n", .dat (.int n)), ("base", .dat (.int base)), ("worth", .dat (.int worth)), ("cells", .dat cs)] [] [] (b.drop 2) Φ →
    Ex C [("m", .dat (.int m)), ("n", .dat (.int n)), ("base", .dat (.int base)), ("worth", .dat (.int worth)), ("cells", .dat cs)] [] [] b Φ := by
  refine lawSeg_intro rfl ?_
  intro w L A g os lvl hP ok cal hlv m n base worth cs Φ hm hn hb hw h
  refine ex_assign_comp (ρ₀ := [("n", .dat (.int n)), ("base", .dat (.int base)), ("worth", .dat (.int worth))]) (ds := intsFrom 1 (m / 2)) (f := fun i => some (thD (40, base + (i + 1), (i + 1) * n * worth))) ok rfl (by decide) rfl (by decide)
    (seen_of ⟨⟨rfl, rfl, fun _ => rfl, rfl⟩, ⟨rfl, rfl, fun _ => rfl, rfl⟩, ⟨rfl, rfl, fun _ => rfl, rfl⟩, trivial⟩)
    (Itb.toT _ (itb_range1N ok rfl (fun _ => rfl) ev_int (ev_addN 1 (ev_fdivN 2 (ev_name ok rfl) ev_int (by decide) (by decide)) ev_int) (by (first | assumption | decide | exact Nat.le_trans (by assumption) (by decide) | exact Nat.le_trans (Nat.add_le_add (by assumption) (by assumption)) (by decide) | exact Nat.lt_of_le_of_lt (by assumption) (by decide) | exact Nat.lt_of_lt_of_le (by assumption) (by decide) | lia | omega)))) (by rw [intsFrom_length]; (first | assumption | decide | exact Nat.le_trans (by assumption) (by decide) | exact Nat.le_trans (Nat.add_le_add (by assumption) (by assumption)) (by decide) | exact Nat.lt_of_le_of_lt (by assumption) (by decide) | exact Nat.lt_of_lt_of_le (by assumption) (by decide) | lia | omega)) ?_ rfl ?_
  · intro i d hd Lc opq keep ok'
    obtain ⟨rfl, hlt⟩ := intsFrom_get _ _ _ _ hd
    rw [show (1 + (i : Int)) = ((i + 1 : Nat) : Int) by (first | assumption | decide | exact Nat.le_trans (by assumption) (by decide) | exact Nat.le_trans (Nat.add_le_add (by assumption) (by assumption)) (by decide) | exact Nat.lt_of_le_of_lt (by assumption) (by decide) | exact Nat.lt_of_lt_of_le (by assumption) (by decide) | lia | omega)]
    have h1 : (i + 1) * n ≤ 100 * 100 := Nat.mul_le_mul (by (first | assumption | decide | exact Nat.le_trans (by assumption) (by decide) | exact Nat.le_trans (Nat.add_le_add (by assumption) (by assumption)) (by decide) | exact Nat.lt_of_le_of_lt (by assumption) (by decide) | exact Nat.lt_of_lt_of_le (by assumption) (by decide) | lia | omega)) hn
    exact comp_one (bnd_name ok' rfl) fun μ => ev_tuple (ds := [.str (S [40]), .str (S [base + (i + 1)]), .int (((i + 1) * n * worth : Nat) : Int)]) ⟨ev_strS [40] rfl, rfl, ev_chrN ok' rfl (fun _ => rfl) (ev_addN (i + 1) (ev_name ok' rfl) (ev_name ok' rfl)) (by (first | assumption | decide | exact Nat.le_trans (by assumption) (by decide) | exact Nat.le_trans (Nat.add_le_add (by assumption) (by assumption)) (by decide) | exact Nat.lt_of_le_of_lt (by assumption) (by decide) | exact Nat.lt_of_lt_of_le (by assumption) (by decide) | lia | omega)), rfl,
      ev_mulN worth (ev_mulN n (ev_name ok' rfl) (ev_name ok' rfl) (by (first | assumption | decide | exact Nat.le_trans (by assumption) (by decide) | exact Nat.le_trans (Nat.add_le_add (by assumption) (by assumption)) (by decide) | exact Nat.lt_of_le_of_lt (by assumption) (by decide) | exact Nat.lt_of_lt_of_le (by assumption) (by decide) | lia | omega))) (ev_name ok' rfl) (by (first | assumption | decide | exact Nat.le_trans (by assumption) (by decide) | exact Nat.le_trans (Nat.add_le_add (by assumption) (by assumption)) (by decide) | exact Nat.lt_of_le_of_lt (by assumption) (by decide) | exact Nat.lt_of_lt_of_le (by assumption) (by decide) | lia | omega)), rfl, trivial⟩ (by show 3 ≤ 100; (first | assumption | decide | exact Nat.le_trans (by assumption) (by decide) | exact Nat.le_trans (Nat.add_le_add (by assumption) (by assumption)) (by decide) | exact Nat.lt_of_le_of_lt (by assumption) (by decide) | exact Nat.lt_of_lt_of_le (by assumption) (by decide) | lia | omega))
  · refine ex_assign ok (ev_addL (ds := kept (fun i => some (thD (40, base + (i + 1), (i + 1) * n * worth))) (intsFrom 1 (m / 2)).length) (es := kept (fun i => some (thD (41, base + 31 + (i + 1), (i + 1) * m * worth))) (intsFrom 1 (n / 2)).length) (ev_name ok rfl)
      (ev_comp (ρ₀ := [("m", .dat (.int m)), ("base", .dat (.int base)), ("worth", .dat (.int worth))]) (ds := intsFrom 1 (n / 2)) ok rfl (by decide) rfl (by decide)
        (seen_of ⟨⟨rfl, rfl, fun _ => rfl, rfl⟩, ⟨rfl, rfl, fun _ => rfl, rfl⟩, ⟨rfl, rfl, fun _ => rfl, rfl⟩, trivial⟩)
        (Itb.toT _ (itb_range1N ok rfl (fun _ => rfl) ev_int (ev_addN 1 (ev_fdivN 2 (ev_name ok rfl) ev_int (by decide) (by decide)) ev_int) (by (first | assumption | decide | exact Nat.le_trans (by assumption) (by decide) | exact Nat.le_trans (Nat.add_le_add (by assumption) (by assumption)) (by decide) | exact Nat.lt_of_le_of_lt (by assumption) (by decide) | exact Nat.lt_of_lt_of_le (by assumption) (by decide) | lia | omega)))) (by rw [intsFrom_length]; (first | assumption | decide | exact Nat.le_trans (by assumption) (by decide) | exact Nat.le_trans (Nat.add_le_add (by assumption) (by assumption)) (by decide) | exact Nat.lt_of_le_of_lt (by assumption) (by decide) | exact Nat.lt_of_lt_of_le (by assumption) (by decide) | lia | omega)) ?_)
      (by have := kept_len (fun i => some (thD (40, base + (i + 1), (i + 1) * n * worth))) (intsFrom 1 (m / 2)).length; rw [intsFrom_length] at this ⊢; (first | assumption | decide | exact Nat.le_trans (by assumption) (by decide) | exact Nat.le_trans (Nat.add_le_add (by assumption) (by assumption)) (by decide) | exact Nat.lt_of_le_of_lt (by assumption) (by decide) | exact Nat.lt_of_lt_of_le (by assumption) (by decide) | lia | omega))
      (by have := kept_len (fun i => some (thD (41, base + 31 + (i + 1), (i + 1) * m * worth))) (intsFrom 1 (n / 2)).length; rw [intsFrom_length] at this ⊢; (first | assumption | decide | exact Nat.le_trans (by assumption) (by decide) | exact Nat.le_trans (Nat.add_le_add (by assumption) (by assumption)) (by decide) | exact Nat.lt_of_le_of_lt (by assumption) (by decide) | exact Nat.lt_of_lt_of_le (by assumption) (by decide) | lia | omega))) rfl ?_
    · intro i d hd Lc opq keep ok'
      obtain ⟨rfl, hlt⟩ := intsFrom_get _ _ _ _ hd
      rw [show (1 + (i : Int)) = ((i + 1 : Nat) : Int) by (first | assumption | decide | exact Nat.le_trans (by assumption) (by decide) | exact Nat.le_trans (Nat.add_le_add (by assumption) (by assumption)) (by decide) | exact Nat.lt_of_le_of_lt (by assumption) (by decide) | exact Nat.lt_of_lt_of_le (by assumption) (by decide) | lia | omega)]
      have h1 : (i + 1) * m ≤ 100 * 100 := Nat.mul_le_mul (by (first | assumption | decide | exact Nat.le_trans (by assumption) (by decide) | exact Nat.le_trans (Nat.add_le_add (by assumption) (by assumption)) (by decide) | exact Nat.lt_of_le_of_lt (by assumption) (by decide) | exact Nat.lt_of_lt_of_le (by assumption) (by decide) | lia | omega)) hm
      exact comp_one (bnd_name ok' rfl) fun μ => ev_tuple (ds := [.str (S [41]), .str (S [base + 31 + (i + 1)]), .int (((i + 1) * m * worth : Nat) : Int)]) ⟨ev_strS [41] rfl, rfl, ev_chrN ok' rfl (fun _ => rfl) (ev_addN (i + 1) (ev_addN 31 (ev_name ok' rfl) ev_int) (ev_name ok' rfl)) (by (first | assumption | decide | exact Nat.le_trans (by assumption) (by decide) | exact Nat.le_trans (Nat.add_le_add (by assumption) (by assumption)) (by decide) | exact Nat.lt_of_le_of_lt (by assumption) (by decide) | exact Nat.lt_of_lt_of_le (by assumption) (by decide) | lia | omega)), rfl,
        ev_mulN worth (ev_mulN m (ev_name ok' rfl) (ev_name ok' rfl) (by (first | assumption | decide | exact Nat.le_trans (by assumption) (by decide) | exact Nat.le_trans (Nat.add_le_add (by assumption) (by assumption)) (by decide) | exact Nat.lt_of_le_of_lt (by assumption) (by decide) | exact Nat.lt_of_lt_of_le (by assumption) (by decide) | lia | omega))) (ev_name ok' rfl) (by (first | assumption | decide | exact Nat.le_trans (by assumption) (by decide) | exact Nat.le_trans (Nat.add_le_add (by assumption) (by assumption)) (by decide) | exact Nat.lt_of_le_of_lt (by assumption) (by decide) | exact Nat.lt_of_lt_of_le (by assumption) (by decide) | lia | omega)), rfl, trivial⟩ (by show 3 ≤ 100; (first | assumption | decide | exact Nat.le_trans (by assumption) (by decide) | exact Nat.le_trans (Nat.add_le_add (by assumption) (by assumption)) (by decide) | exact Nat.lt_of_le_of_lt (by assumption) (by decide) | exact Nat.lt_of_lt_of_le (by assumption) (by decide) | lia | omega))
    · refine ex_weak (fun s st => ?_) h
      have e : (thingsL m n base worth).map thD = kept (fun i => some (thD (40, base + (i + 1), (i + 1) * n * worth))) (intsFrom 1 (m / 2)).length ++ kept (fun i => some (thD (41, base + 31 + (i + 1), (i + 1) * m * worth))) (intsFrom 1 (n / 2)).length := by
        rw [kept_some, kept_some, intsFrom_length, intsFrom_length]
        unfold thingsL opensL closesL
        rw [List.map_append, List.map_map, List.map_map]
        rfl
      rw [e]
      exact st.env (sub_of rfl)
end Mine
end

section
open PySem PySem.W PyProof.Rows PySem.Calls
set_option maxRecDepth 100000
set_option linter.all false
set_option maxHeartbeats 1600000
namespace Mine
section
variable {C : Cx} {ρ : AEnv} {τ : Tmp} {μ : Mu} {s : Shared} {e e₁ l r : Expr} {np np' pos : Pos} {ds : List Dat}
theorem ev_isInt {i : Int} (ok : C.Ok) (hx : C.env.kindOf "isinstance" = some .globalImplicit) (hm : ∀ P, nsIn (wtop.heap_39 P) mainGlobals "isinstance" = some none) (hx2 : C.env.kindOf "int" = some .globalImplicit) (hm2 : ∀ P, nsIn (wtop.heap_39 P) mainGlobals "int" = some none)
    (he : Ev C ρ μ e (.int i)) (hse : starEach [e, .Name "int" np'] C.env = [(false, eval e C.env), (false, eval (.Name "int" np') C.env)] := by rfl) :
    Ev C ρ μ (.Call (.Name "isinstance" np) [e, .Name "int" np'] [] pos) (.bool true) := .of fun τ s Q E st hQ => by
  refine wpAny_Call_NameR (wp_name_builtin ok hx (hm _) (v := .builtin "isinstance") rfl st ?_)
  rw [hse]
  refine Calls.callWith_builtin rfl (Calls.evalArgs_plain (Calls.spliced_cons (he.run τ s _ E st fun v s₁ st₁ => Calls.spliced_cons (wp_name_builtin ok hx2 (hm2 _) (v := .type "int") rfl st₁ (Calls.spliced_nil ?_)))))
  obtain ⟨⟨t, rfl⟩, st₂⟩ := st₁.int
  exact IsiPair.int_int (hQ _ _ (st₂.pushBool _))
end
noncomputable def hids : List (List Nat) := [[10], [92, 40], [92, 41], [34, 40, 34], [34, 92, 34, 41, 34], [92, 92]]
noncomputable def hidOf (c3 i : Nat) : List Nat := if i % 4 == 0 then hids.getD ((c3 / 7 + i) % 6) [] else []
noncomputable def heardE (c3 i : Nat) (t : Nat × Nat × Nat) : Nat × List Nat := (t.2.2, [t.1] ++ [t.2.1] ++ hidOf c3 i)
noncomputable def heardL (c3 : Nat) : Nat → List (Nat × Nat × Nat) → List (Nat × List Nat)
  | _, [] => []
  | i, t :: r => heardE c3 i t :: heardL c3 (i + 1) r
theorem heardL_get (c3 : Nat) : ∀ (l : List (Nat × Nat × Nat)) (a i : Nat) (t : Nat × Nat × Nat), l[i]? = some t → (heardL c3 a l)[i]? = some (heardE c3 (a + i) t)
  | [], _, _, _, h => by simp at h
  | t :: r, a, 0, t', h => by simp at h; subst h; rfl
  | t :: r, a, i + 1, t', h => by
    simp only [List.getElem?_cons_succ] at h
    have := heardL_get c3 r (a + 1) i t' h
    simp only [heardL, List.getElem?_cons_succ, this]
    congr 2; (first | assumption | decide | exact Nat.le_trans (by assumption) (by decide) | exact Nat.le_trans (Nat.add_le_add (by assumption) (by assumption)) (by decide) | exact Nat.lt_of_le_of_lt (by assumption) (by decide) | exact Nat.lt_of_lt_of_le (by assumption) (by decide) | lia | omega)
theorem heardL_length (c3 : Nat) : ∀ (l : List (Nat × Nat × Nat)) (a : Nat), (heardL c3 a l).length = l.length
  | [], _ => rfl
  | t :: r, a => congrArg (· + 1) (heardL_length c3 r (a + 1))

theorem law_heard (P : PySem.Params) : M1 P 8 fun b C => ∀ (m n base worth c0 c1 c2 c3 : Nat) (th : List (Nat × Nat × Nat)), m ≤ 100 → n ≤ 100 → base ≤ 100000 → worth ≤ 1000 → c3 < 1000000 → th.length ≤ 100 → (∀ t ∈ th, t.2.2 < 1000000000) →
    (∀ D vs nn, vs.length = th.length → Ex C [("heard", .raw (.ref D)), ("m", .dat (.int m)), ("n", .dat (.int n)), ("base", .dat (.int base)), ("worth", .dat (.int worth)), ("cells", .dat (.list [.int c0, .int c1, .int c2, .int c3]))] (vs.zip ((heardL c3 0 th).map itD)) [(D, lstO vs nn)] (b.drop 2) (RetP C (.bool true))) →
    Ex C [("things", .dat (.list (th.map thD))), ("m", .dat (.int m)), ("n", .dat (.int n)), ("base", .dat (.int base)), ("worth", .dat (.int worth)), ("cells", .dat (.list [.int c0, .int c1, .int c2, .int c3]))] [] [] b (RetP C (.bool true)) := by
  refine lawSeg_intro rfl ?_
  intro w L A g os lvl hP ok cal hlv m n base worth c0 c1 c2 c3 th hm hn hb hw hc3 hth hport h
  refine ex_assign_nil ok rfl fun D => ?_
  refine ex_for (σ := Nat × List Value × Nat) (fun a => [("things", .dat (.list (th.map thD))), ("heard", .raw (.ref D)), ("m", .dat (.int m)), ("n", .dat (.int n)), ("base", .dat (.int base)), ("worth", .dat (.int worth)), ("cells", .dat (.list [.int c0, .int c1, .int c2, .int c3]))])
    (fun a => a.2.1.zip (((heardL c3 0 th).map itD).take a.1)) (fun a => [(D, lstO a.2.1 a.2.2)]) (fun i a => a.1 = i ∧ a.2.1.length = i) (0, [], 0)
    ok (itb_range ok rfl (fun _ => rfl) (ev_lenL ok rfl (fun _ => rfl) (ev_name ok rfl) (by rw [List.length_map]; (first | assumption | decide | exact Nat.le_trans (by assumption) (by decide) | exact Nat.le_trans (Nat.add_le_add (by assumption) (by assumption)) (by decide) | exact Nat.lt_of_le_of_lt (by assumption) (by decide) | exact Nat.lt_of_lt_of_le (by assumption) (by decide) | lia | omega))) (by (first | assumption | decide | exact Nat.le_trans (by assumption) (by decide) | exact Nat.le_trans (Nat.add_le_add (by assumption) (by assumption)) (by decide) | exact Nat.lt_of_le_of_lt (by assumption) (by decide) | exact Nat.lt_of_lt_of_le (by assumption) (by decide) | lia | omega)) (by rw [List.length_map]; (first | assumption | decide | exact Nat.le_trans (by assumption) (by decide) | exact Nat.le_trans (Nat.add_le_add (by assumption) (by assumption)) (by decide) | exact Nat.lt_of_le_of_lt (by assumption) (by decide) | exact Nat.lt_of_lt_of_le (by assumption) (by decide) | lia | omega))) ⟨rfl, rfl⟩ (sub_of rfl) (fun p hp => by simp at hp) rfl ?_ ?_
  · rintro i ⟨j, vs, nn⟩ d τ' I o Pp hd ⟨rfl, hvl⟩ hτ hPo
    dsimp only at hvl ⊢
    obtain ⟨rfl, hlt⟩ := intsFrom_get _ _ _ _ hd
    rw [List.length_map] at hlt
    have hlt' : j < th.length := by (first | assumption | decide | exact Nat.le_trans (by assumption) (by decide) | exact Nat.le_trans (Nat.add_le_add (by assumption) (by assumption)) (by decide) | exact Nat.lt_of_le_of_lt (by assumption) (by decide) | exact Nat.lt_of_lt_of_le (by assumption) (by decide) | lia | omega)
    rw [show (0 + (j : Int)) = ((j : Nat) : Int) by (first | assumption | decide | exact Nat.le_trans (by assumption) (by decide) | exact Nat.le_trans (Nat.add_le_add (by assumption) (by assumption)) (by decide) | exact Nat.lt_of_le_of_lt (by assumption) (by decide) | exact Nat.lt_of_lt_of_le (by assumption) (by decide) | lia | omega)]
    refine ⟨_, bnd_name ok rfl, ?_⟩
    obtain ⟨⟨br, sg, po⟩, hget⟩ : ∃ t, th[j]? = some t := ⟨_, List.getElem?_eq_getElem hlt'⟩
    have hpo : po < 1000000000 := hport _ (List.mem_of_getElem? hget)
    have hgd : (th.map thD)[((j : Nat) : Int).toNat]? = some (.tuple [.str (S [br]), .str (S [sg]), .int po]) := by rw [Int.toNat_natCast, List.getElem?_map, hget]; rfl
    refine ex_assign_tuple (ev_itemL (ev_name ok rfl) (ev_name ok rfl) (by (first | assumption | decide | exact Nat.le_trans (by assumption) (by decide) | exact Nat.le_trans (Nat.add_le_add (by assumption) (by assumption)) (by decide) | exact Nat.lt_of_le_of_lt (by assumption) (by decide) | exact Nat.lt_of_lt_of_le (by assumption) (by decide) | lia | omega)) (by (first | assumption | decide | exact Nat.le_trans (by assumption) (by decide) | exact Nat.le_trans (Nat.add_le_add (by assumption) (by assumption)) (by decide) | exact Nat.lt_of_le_of_lt (by assumption) (by decide) | exact Nat.lt_of_lt_of_le (by assumption) (by decide) | lia | omega)) hgd) (bnd_three ok rfl rfl rfl) ?_
    refine ex_assign ok (d := .tuple [.str (S [sg]), .int po]) (ev_call2 ok cal (fn229 (p := po) (k := c3 + 5 * j) (sg := S [sg]) hpo) (by show 1 ≤ lvl; (first | assumption | decide | exact Nat.le_trans (by assumption) (by decide) | exact Nat.le_trans (Nat.add_le_add (by assumption) (by assumption)) (by decide) | exact Nat.lt_of_le_of_lt (by assumption) (by decide) | exact Nat.lt_of_lt_of_le (by assumption) (by decide) | lia | omega)) rfl (fun _ => rfl) (fun _ => rfl)
      (ev_call2 ok cal (fnReply po (c3 + 5 * j) hpo (by (first | assumption | decide | exact Nat.le_trans (by assumption) (by decide) | exact Nat.le_trans (Nat.add_le_add (by assumption) (by assumption)) (by decide) | exact Nat.lt_of_le_of_lt (by assumption) (by decide) | exact Nat.lt_of_lt_of_le (by assumption) (by decide) | lia | omega))) (by show 1 ≤ lvl; (first | assumption | decide | exact Nat.le_trans (by assumption) (by decide) | exact Nat.le_trans (Nat.add_le_add (by assumption) (by assumption)) (by decide) | exact Nat.lt_of_le_of_lt (by assumption) (by decide) | exact Nat.lt_of_lt_of_le (by assumption) (by decide) | lia | omega)) rfl (fun _ => rfl) (fun _ => rfl) (ev_name ok rfl) (ev_addN (5 * j) (ev_itemL (ev_name ok rfl) ev_int (by decide) (by decide) rfl) (ev_mulN j ev_int (ev_name ok rfl) (by decide))))
      (ev_tuple (ds := [.str (S [sg]), .int 21]) ⟨ev_name ok rfl, rfl, ev_int, rfl, trivial⟩ (by show 2 ≤ 100; (first | assumption | decide | exact Nat.le_trans (by assumption) (by decide) | exact Nat.le_trans (Nat.add_le_add (by assumption) (by assumption)) (by decide) | exact Nat.lt_of_le_of_lt (by assumption) (by decide) | exact Nat.lt_of_lt_of_le (by assumption) (by decide) | lia | omega)))) rfl ?_
    refine ex_if_no (tr_or (c := false) (c' := false) (tr_cmp (ev_name ok rfl) (ev_tuple (ds := [.str (S [sg]), .int po]) ⟨ev_name ok rfl, rfl, ev_name ok rfl, rfl, trivial⟩ (by show 2 ≤ 100; (first | assumption | decide | exact Nat.le_trans (by assumption) (by decide) | exact Nat.le_trans (Nat.add_le_add (by assumption) (by assumption)) (by decide) | exact Nat.lt_of_le_of_lt (by assumption) (by decide) | exact Nat.lt_of_lt_of_le (by assumption) (by decide) | lia | omega))) (cmp_nePair ok)) fun _ =>
      tr_not (c := true) (tr_bool (ev_isInt (i := po) ok rfl (fun _ => rfl) rfl (fun _ => rfl) (ev_itemTN (a := 1) (ds := [.str (S [sg]), .int po]) (ev_name ok rfl) ev_int rfl (by show 2 ≤ 100; (first | assumption | decide | exact Nat.le_trans (by assumption) (by decide) | exact Nat.le_trans (Nat.add_le_add (by assumption) (by assumption)) (by decide) | exact Nat.lt_of_le_of_lt (by assumption) (by decide) | exact Nat.lt_of_lt_of_le (by assumption) (by decide) | lia | omega)))))) ?_
    have hix : ∀ a, a < 6 → ([.str (S [10]), .str (S [92, 40]), .str (S [92, 41]), .str (S [34, 40, 34]), .str (S [34, 92, 34, 41, 34]), .str (S [92, 92])] : List Dat)[a]? = some (.str (S (hids.getD a []))) := fun a ha => by
      match a, ha with
      | 0, _ => rfl
      | 1, _ => rfl
      | 2, _ => rfl
      | 3, _ => rfl
      | 4, _ => rfl
      | 5, _ => rfl
    refine ex_assign ok (d := .str (S (hids.getD ((c3 / 7 + j) % 6) []))) (ev_itemTN (a := (c3 / 7 + j) % 6) (ds := [.str (S [10]), .str (S [92, 40]), .str (S [92, 41]), .str (S [34, 40, 34]), .str (S [34, 92, 34, 41, 34]), .str (S [92, 92])]) (ev_tuple ⟨ev_strS [10] rfl, rfl, ev_strS [92, 40] rfl, rfl, ev_strS [92, 41] rfl, rfl, ev_strS [34, 40, 34] rfl, rfl, ev_strS [34, 92, 34, 41, 34] rfl, rfl, ev_strS [92, 92] rfl, rfl, trivial⟩ (by show 6 ≤ 100; (first | assumption | decide | exact Nat.le_trans (by assumption) (by decide) | exact Nat.le_trans (Nat.add_le_add (by assumption) (by assumption)) (by decide) | exact Nat.lt_of_le_of_lt (by assumption) (by decide) | exact Nat.lt_of_lt_of_le (by assumption) (by decide) | lia | omega)))
      (ev_modN 6 (ev_addN j (ev_fdivN 7 (ev_itemL (ev_name ok rfl) ev_int (by decide) (by decide) rfl) ev_int (by decide) (by decide)) (ev_name ok rfl)) ev_int (by decide)) (hix _ (Nat.mod_lt _ (by decide))) (by show 6 ≤ 100; (first | assumption | decide | exact Nat.le_trans (by assumption) (by decide) | exact Nat.le_trans (Nat.add_le_add (by assumption) (by assumption)) (by decide) | exact Nat.lt_of_le_of_lt (by assumption) (by decide) | exact Nat.lt_of_lt_of_le (by assumption) (by decide) | lia | omega))) rfl ?_
    have hhid : ∀ a, (hids.getD (a % 6) []).length ≤ 5 := fun a => by
      have : a % 6 < 6 := Nat.mod_lt _ (by decide)
      generalize a % 6 = b at *
      match b, this with
      | 0, _ => decide
      | 1, _ => decide
      | 2, _ => decide
      | 3, _ => decide
      | 4, _ => decide
      | 5, _ => decide
    have hho : (hidOf c3 j).length ≤ 5 := by unfold hidOf; split; exact hhid _; exact Nat.zero_le _
    refine ex_weak (fun s st => st.perm (List.Perm.swap ..)) ?_
    refine ex_append ok (d := itD (heardE c3 j (br, sg, po))) (ev_tuple (ds := [.int po, .str (S ([br] ++ [sg] ++ hidOf c3 j))]) ⟨ev_itemTN (a := 1) (ds := [.str (S [sg]), .int po]) (ev_name ok rfl) ev_int rfl (by show 2 ≤ 100; (first | assumption | decide | exact Nat.le_trans (by assumption) (by decide) | exact Nat.le_trans (Nat.add_le_add (by assumption) (by assumption)) (by decide) | exact Nat.lt_of_le_of_lt (by assumption) (by decide) | exact Nat.lt_of_lt_of_le (by assumption) (by decide) | lia | omega)), rfl,
      ev_catS (ev_catS (ev_name ok rfl) (ev_itemTN (a := 0) (ds := [.str (S [sg]), .int po]) (ev_name ok rfl) ev_int rfl (by show 2 ≤ 100; (first | assumption | decide | exact Nat.le_trans (by assumption) (by decide) | exact Nat.le_trans (Nat.add_le_add (by assumption) (by assumption)) (by decide) | exact Nat.lt_of_le_of_lt (by assumption) (by decide) | exact Nat.lt_of_lt_of_le (by assumption) (by decide) | lia | omega))) (by show 1 ≤ 8000; (first | assumption | decide | exact Nat.le_trans (by assumption) (by decide) | exact Nat.le_trans (Nat.add_le_add (by assumption) (by assumption)) (by decide) | exact Nat.lt_of_le_of_lt (by assumption) (by decide) | exact Nat.lt_of_lt_of_le (by assumption) (by decide) | lia | omega)) (by show 1 ≤ 8000; (first | assumption | decide | exact Nat.le_trans (by assumption) (by decide) | exact Nat.le_trans (Nat.add_le_add (by assumption) (by assumption)) (by decide) | exact Nat.lt_of_le_of_lt (by assumption) (by decide) | exact Nat.lt_of_lt_of_le (by assumption) (by decide) | lia | omega)))
        (ev_ifexp (c := j % 4 == 0) (tr_modz 4 (ev_name ok rfl) ev_int (by decide)) (fun hc => ev_of (ev_name ok rfl) (by unfold hidOf; rw [if_pos hc])) (fun hc => ev_of (ev_strS [] rfl) (by unfold hidOf; rw [if_neg (by rw [hc]; decide)]))) (by show 2 ≤ 8000; (first | assumption | decide | exact Nat.le_trans (by assumption) (by decide) | exact Nat.le_trans (Nat.add_le_add (by assumption) (by assumption)) (by decide) | exact Nat.lt_of_le_of_lt (by assumption) (by decide) | exact Nat.lt_of_lt_of_le (by assumption) (by decide) | lia | omega)) (by (first | assumption | decide | exact Nat.le_trans (by assumption) (by decide) | exact Nat.le_trans (Nat.add_le_add (by assumption) (by assumption)) (by decide) | exact Nat.lt_of_le_of_lt (by assumption) (by decide) | exact Nat.lt_of_lt_of_le (by assumption) (by decide) | lia | omega)), rfl, trivial⟩ (by show 2 ≤ 100; (first | assumption | decide | exact Nat.le_trans (by assumption) (by decide) | exact Nat.le_trans (Nat.add_le_add (by assumption) (by assumption)) (by decide) | exact Nat.lt_of_le_of_lt (by assumption) (by decide) | exact Nat.lt_of_lt_of_le (by assumption) (by decide) | lia | omega))) rfl (by (first | assumption | decide | exact Nat.le_trans (by assumption) (by decide) | exact Nat.le_trans (Nat.add_le_add (by assumption) (by assumption)) (by decide) | exact Nat.lt_of_le_of_lt (by assumption) (by decide) | exact Nat.lt_of_lt_of_le (by assumption) (by decide) | lia | omega)) fun v n' _ => ?_
    refine ex_weak (fun s st => st.perm (List.Perm.swap ..)) ?_
    refine turn_end (j + 1, vs ++ [v], n') ⟨rfl, by simp [hvl]⟩ hPo (sub_of rfl) (fun p hp => ?_) rfl
    have hg2 : ((heardL c3 0 th).map itD)[j]? = some (itD (heardE c3 j (br, sg, po))) := by rw [List.getElem?_map, heardL_get c3 th 0 j _ hget]; simp
    have htk : ((heardL c3 0 th).map itD).take (j + 1) = ((heardL c3 0 th).map itD).take j ++ [itD (heardE c3 j (br, sg, po))] := by rw [List.take_add_one, hg2]; rfl
    dsimp only at hp
    rw [htk, List.zip_append (by rw [List.length_take, List.length_map, heardL_length]; (first | assumption | decide | exact Nat.le_trans (by assumption) (by decide) | exact Nat.le_trans (Nat.add_le_add (by assumption) (by assumption)) (by decide) | exact Nat.lt_of_le_of_lt (by assumption) (by decide) | exact Nat.lt_of_lt_of_le (by assumption) (by decide) | lia | omega))] at hp
    rcases List.mem_append.mp hp with hp | hp
    · rcases List.mem_append.mp hp with hp | hp
      · exact .tail _ (List.mem_append.mpr (.inl hp))
      · rw [List.mem_singleton.mp hp]; exact .head _
    · exact .tail _ (List.mem_append.mpr (.inr hp))
  · rintro ⟨j, vs, nn⟩ ⟨hj, hvl⟩
    dsimp only at hj hvl ⊢
    rw [intsFrom_length, List.length_map] at hj hvl
    have hj' : j = th.length := by (first | assumption | decide | exact Nat.le_trans (by assumption) (by decide) | exact Nat.le_trans (Nat.add_le_add (by assumption) (by assumption)) (by decide) | exact Nat.lt_of_le_of_lt (by assumption) (by decide) | exact Nat.lt_of_lt_of_le (by assumption) (by decide) | lia | omega)
    subst hj'
    refine ex_weak (fun s st => ?_) (h D vs nn (by (first | assumption | decide | exact Nat.le_trans (by assumption) (by decide) | exact Nat.le_trans (Nat.add_le_add (by assumption) (by assumption)) (by decide) | exact Nat.lt_of_le_of_lt (by assumption) (by decide) | exact Nat.lt_of_lt_of_le (by assumption) (by decide) | lia | omega)))
    have e : ((heardL c3 0 th).map itD).take th.length = (heardL c3 0 th).map itD := List.take_of_length_le (by rw [List.length_map, heardL_length]; (first | assumption | decide | exact Nat.le_trans (by assumption) (by decide) | exact Nat.le_trans (Nat.add_le_add (by assumption) (by assumption)) (by decide) | exact Nat.lt_of_le_of_lt (by assumption) (by decide) | exact Nat.lt_of_lt_of_le (by assumption) (by decide) | lia | omega))
    rw [e] at st
    have st2 := st.tmpsOf (τ' := vs.zip ((heardL c3 0 th).map itD)) fun p hp => List.mem_append.mpr (.inl hp)
    exact st2.env (sub_of rfl)
end Mine
end

section
open PySem PySem.W PyProof.Rows PySem.Calls
set_option maxRecDepth 100000
set_option linter.all false
set_option maxHeartbeats 1600000
namespace Mine
/-- a sort's tree with the answers known -/
noncomputable def runK {α : Type} (lt : Nat → Nat → Option Bool) : KasT α → Option α
  | .ret a => some a
  | .ask i j k => match lt i j with
    | none => none
    | some b => runK lt (k b)
theorem kas_pure {α : Type} {cmp : Nat → Nat → (Bool → Shared → Prop) → Shared → Prop} {lt : Nat → Nat → Option Bool} {I : Shared → Prop} {Q : α → Shared → Prop} {a : α}
    (hcmp : ∀ i j b (C : Bool → Shared → Prop) s, lt i j = some b → I s → (∀ s', I s' → C b s') → cmp i j C s) (hQ : ∀ s', I s' → Q a s') : ∀ (t : KasT α) (s : Shared), runK lt t = some a → I s → t.kasWp cmp Q s
  | .ret a', s, h, hI => by cases h; exact hQ s hI
  | .ask i j k, s, h, hI => by
    unfold runK at h
    cases hl : lt i j with
    | none => rw [hl] at h; cases h
    | some b =>
      rw [hl] at h
      exact hcmp i j b _ s hl hI fun s' hI' => kas_pure hcmp hQ (k b) s' h hI'

theorem pair_in {nd : Mu} {v : Value} {a : Nat × List Nat} (h : DatIn nd v (itD a)) : ∃ T t1 t2 n, v = .ref T ∧ (T, ({ cls := .type "tuple", data := .seq #[.int a.1 t1, .str (S a.2) t2] n } : Obj)) ∈ nd := by
  have h' : DatIn nd v (.tuple [.int a.1, .str (S a.2)]) := h
  cases h' with
  | tuple hm ha =>
    cases ha with
    | cons h1 h2 =>
      cases h1 with
      | int _ t1 =>
        cases h2 with
        | cons h3 h4 =>
          cases h3 with
          | str _ t2 =>
            cases h4
            exact ⟨_, t1, t2, _, rfl, hm⟩
theorem katTups_of {h : Heap} {nd : Mu} (hN : ∀ p ∈ nd, h.get? p.1 = some p.2) : ∀ (vs : List Value) (l : List (Nat × List Nat)), vs.length = l.length → (∀ q ∈ vs.zip (l.map itD), DatIn nd q.1 q.2) → ∃ fs, KatTups h vs fs ∧ fs.length = vs.length ∧ ∀ f ∈ fs, ∃ i t, f = .int i t
  | [], [], _, _ => ⟨[], trivial, rfl, fun _ h => nomatch h⟩
  | [], _ :: _, h, _ => by simp at h
  | _ :: _, [], h, _ => by simp at h
  | v :: vs, a :: l, hl, hz => by
    obtain ⟨fs, h1, h2, h3⟩ := katTups_of hN vs l (by simpa using hl) fun q hq => hz q (.tail _ hq)
    obtain ⟨T, t1, t2, n, rfl, hm⟩ := pair_in (hz (v, itD a) (.head _))
    exact ⟨.int a.1 t1 :: fs, KatTups.cons (hN _ hm) rfl rfl rfl h1, by simp [h2], fun f hf => by
      rcases List.mem_cons.mp hf with rfl | hf
      · exact ⟨_, _, rfl⟩
      · exact h3 f hf⟩
section
variable {C : Cx} {ρ : AEnv} {τ τ' : Tmp} {μ : Mu} {s : Shared} {rest : List Stmt} {Φ : Flow → Shared → Prop} {np np' np2 pos tpos : Pos} {x : Str} {D : Addr}
/-- x = sorted(x), x an own list of pairs of an int and a text -/
theorem ex_sorted {l : List (Nat × List Nat)} {vs : List Value} {nn : Nat} {p : Array Nat} {lt : Nat → Nat → Option Bool} (ok : C.Ok) (hx : C.env.kindOf "sorted" = some .globalImplicit) (hm : ∀ P, nsIn (wtop.heap_39 P) mainGlobals "sorted" = some none)
    (hl : C.env.kindOf x = some .local) (hr : ρ.lookup x = some (.raw (.ref D))) (hlen : vs.length = l.length) (h2 : 2 ≤ l.length) (h64 : l.length < 64)
    (hlt : ∀ i j b, lt i j = some b → ∃ a c, l[i]? = some a ∧ l[j]? = some c ∧ b = decide (a.1 < c.1) ∧ (a.1 = c.1 → i = j)) (hp : runK lt (kas_sort l.length) = some p)
    (h : Ex C ((x, .dat (.list (p.toList.map fun i => itD (l.getD i (0, []))))) :: ρ) [] μ rest Φ) (hpl : ∀ i ∈ p.toList, i < l.length)
    (hd : (x == ("__debug__" : Str)) = false := by decide) (hn : (x == ("__classdict__" : Str)) = false := by decide)
    (hse : starEach [.Name x np2] C.env = [(false, eval (.Name x np2) C.env)] := by rfl) (hsw : swapsWith (.Call (.Name "sorted" np) [.Name x np2] [] pos) (some (.Name x np')) tpos.line C.env = pure false := by rfl) :
    Ex C ρ (vs.zip (l.map itD)) ((D, lstO vs nn) :: μ) (.Assign [.Name x np'] (.Call (.Name "sorted" np) [.Name x np2] [] pos) tpos :: rest) Φ := ex_cons fun s E st => by
  refine wpAny_Assign_Name ?_ hsw
  refine Call_name1 hse (wp_name_builtin ok hx (hm _) (v := .builtin "sorted") rfl st ?_)
  refine callWith_builtin1 (wp_name_raw ok hr st ?_ hd hn)
  have hL : s.heap.IsList D vs.toArray := ⟨_, st.muGet (.head _), rfl, nn, rfl⟩
  obtain ⟨m, nd, w⟩ := st
  have hpair : ∀ i a, l[i]? = some a → ∃ v, vs.getD i Value.none = v ∧ DatIn nd v (itD a) := fun i a ha => by
    obtain ⟨hi, _⟩ := List.getElem?_eq_some_iff.mp ha
    obtain ⟨v, hvi⟩ : ∃ v, vs[i]? = some v := ⟨_, List.getElem?_eq_getElem (by (first | assumption | decide | exact Nat.le_trans (by assumption) (by decide) | exact Nat.le_trans (Nat.add_le_add (by assumption) (by assumption)) (by decide) | exact Nat.lt_of_le_of_lt (by assumption) (by decide) | exact Nat.lt_of_lt_of_le (by assumption) (by decide) | lia | omega))⟩
    have hz : (v, itD a) ∈ vs.zip (l.map itD) := by
      refine List.mem_of_getElem? (i := i) ?_
      rw [List.getElem?_zip_eq_some]
      exact ⟨hvi, by rw [List.getElem?_map, ha]; rfl⟩
    exact ⟨v, by rw [List.getD_eq_getElem?_getD, hvi]; rfl, w.tmps _ hz⟩
  refine kat_sorted w.F w.N hL (by (first | assumption | decide | exact Nat.le_trans (by assumption) (by decide) | exact Nat.le_trans (Nat.add_le_add (by assumption) (by assumption)) (by decide) | exact Nat.lt_of_le_of_lt (by assumption) (by decide) | exact Nat.lt_of_lt_of_le (by assumption) (by decide) | lia | omega)) (by (first | assumption | decide | exact Nat.le_trans (by assumption) (by decide) | exact Nat.le_trans (Nat.add_le_add (by assumption) (by assumption)) (by decide) | exact Nat.lt_of_le_of_lt (by assumption) (by decide) | exact Nat.lt_of_lt_of_le (by assumption) (by decide) | lia | omega)) fun D' e1 h' F' N' hlt' => ?_
  have hnd : ∀ p ∈ nd, h'.get? p.1 = some p.2 := fun p hp => (N' p (.tail _ (List.mem_append.mpr (.inr (List.mem_append.mpr (.inr hp)))))).1
  obtain ⟨fs, hk1, hk2, hk3⟩ := katTups_of hnd vs l hlen w.tmps
  refine kat_kind (T := .type "int") (s := { s with heap := h' }) hk1 (by (first | assumption | decide | exact Nat.le_trans (by assumption) (by decide) | exact Nat.le_trans (Nat.add_le_add (by assumption) (by assumption)) (by decide) | exact Nat.lt_of_le_of_lt (by assumption) (by decide) | exact Nat.lt_of_lt_of_le (by assumption) (by decide) | lia | omega)) (fun f hf => ?_) rfl ?_
  · obtain ⟨i, t, rfl⟩ := hk3 f hf
    exact Looks.now
  rw [hlen]
  refine kas_pure (lt := lt) (I := fun s' => ∃ tk, s' = { s with heap := h', toks := tk }) (fun i j b C' s' hb hI hC' => ?_) (fun s' hI => ?_) _ _ hp ⟨s.toks, rfl⟩
  · obtain ⟨tk, rfl⟩ := hI
    obtain ⟨a, c, ha, hc, rfl, hij⟩ := hlt i j b hb
    obtain ⟨v1, e1, hd1⟩ := hpair i a ha
    obtain ⟨v2, e2, hd2⟩ := hpair j c hc
    obtain ⟨T1, t1, t2, n1, rfl, hm1⟩ := pair_in hd1
    obtain ⟨T2, t3, t4, n2, rfl, hm2⟩ := pair_in hd2
    unfold kas_ask
    rw [e1, e2]
    refine kat_lt (hnd _ hm1) rfl (hnd _ hm2) rfl (kat_cons (wpAny_eqBool_int ?_))
    by_cases hac : a.1 = c.1
    · obtain rfl := hij hac
      rw [ha] at hc
      cases hc
      rw [show ((a.1 : Int) == (a.1 : Int)) = true by simp]
      refine kat_yes (kat_cons (wpAny_eqBool_str ?_))
      rw [show decide (S a.2 = S a.2) = true by simp]
      refine kat_yes (kat_nil ?_)
      have := hC' _ ⟨tk, rfl⟩
      rw [show decide (a.1 < a.1) = false by simp] at this
      simpa using this
    · rw [show ((a.1 : Int) == (c.1 : Int)) = false from beq_false_of_ne (by (first | assumption | decide | exact Nat.le_trans (by assumption) (by decide) | exact Nat.le_trans (Nat.add_le_add (by assumption) (by assumption)) (by decide) | exact Nat.lt_of_le_of_lt (by assumption) (by decide) | exact Nat.lt_of_lt_of_le (by assumption) (by decide) | lia | omega))]
      refine kat_no (oneLt_int ?_)
      rw [show decide ((a.1 : Int) < (c.1 : Int)) = decide (a.1 < c.1) from decide_eq_decide.mpr (by (first | assumption | decide | exact Nat.le_trans (by assumption) (by decide) | exact Nat.le_trans (Nat.add_le_add (by assumption) (by assumption)) (by decide) | exact Nat.lt_of_le_of_lt (by assumption) (by decide) | exact Nat.lt_of_lt_of_le (by assumption) (by decide) | lia | omega))]
      exact hC' _ ⟨tk, rfl⟩
  · obtain ⟨tk, rfl⟩ := hI
    refine KasFin.intro F' N' (.head fun q hq => Nat.ne_of_lt (hlt' q hq)) fun h'' c F'' N'' => ?_
    have hall : ∀ js : List Nat, (∀ i ∈ js, i < l.length) → DatAll nd (js.map fun i => vs.getD i Value.none) (js.map fun i => itD (l.getD i (0, []))) := fun js => by
      induction js with
      | nil => intro _; exact .nil
      | cons i js ih =>
        intro hj
        have hi := hj i (by simp)
        obtain ⟨v, e1, hd1⟩ := hpair i l[i] (List.getElem?_eq_getElem hi)
        refine .cons ?_ (ih fun k hk => hj k (by simp [hk]))
        show DatIn nd (vs.getD i Value.none) (itD (l.getD i (0, [])))
        rw [e1, show l.getD i (0, []) = l[i] by simp [hi]]
        exact hd1
    have w2 := w.note (h' := h'') (a := D') (fun q hq => Nat.ne_of_lt (hlt' q (by
      rcases List.mem_append.mp hq with hq | hq
      · exact List.mem_append.mpr (.inl hq)
      · exact List.mem_append.mpr (.inr (List.mem_append.mpr (.inl hq)))))) F'' N'' tk
    have w3 := (w2.push (d := .list (p.toList.map fun i => itD (l.getD i (0, [])))) (DatIn.list (List.Mem.head _) ((hall p.toList hpl).mono fun _ hq => .tail _ hq))).st.drop
    exact wp_store ok hl w3 (τ' := []) (fun _ hq => nomatch hq) (a := .dat (.list (p.toList.map fun i => itD (l.getD i (0, []))))) (.head _) fun s4 st4 E' => h.run s4 E' st4
end
end Mine
end

section
open PySem PySem.W PyProof.Rows PySem.Calls
set_option maxRecDepth 100000
set_option linter.all false
set_option maxHeartbeats 1600000
namespace Mine
noncomputable def qsL (m n : Nat) : List Nat := ((List.range (m / 2)).map fun i => (i + 1) * n) ++ (List.range (n / 2)).map fun i => (i + 1) * m
noncomputable def ltQ (m n i j : Nat) : Option Bool := match (qsL m n)[i]?, (qsL m n)[j]? with
  | some a, some b => some (decide (a < b))
  | _, _ => none
noncomputable def permL (m n : Nat) : List Nat := match runK (ltQ m n) (kas_sort (m / 2 + n / 2)) with
  | some p => p.toList
  | none => []
noncomputable def rising : List Nat → Bool
  | a :: b :: r => decide (a < b) && rising (b :: r)
  | _ => true
noncomputable def sortOk (m n : Nat) : Bool := (runK (ltQ m n) (kas_sort (m / 2 + n / 2))).isSome && (permL m n).all (fun i => decide (i < m / 2 + n / 2)) && ((permL m n).length == m / 2 + n / 2) && rising ((permL m n).map fun i => (qsL m n).getD i 0)
noncomputable def nPair (a b : Nat) : Nat := if bad (3 + 2 * a) (3 + 2 * b) then 3 + 2 * b + 2 else 3 + 2 * b
theorem sortOk_all : ∀ a, a < 5 → ∀ b, b < 5 → sortOk (3 + 2 * a) (nPair a b) = true := by decide +kernel
section
variable {C : Cx} {ρ : AEnv} {τ : Tmp} {μ : Mu} {s : Shared} {e e₁ l r o : Expr} {np pos apos : Pos} {ds : List Dat} {d : Dat}
theorem ev_itemLneg (hv : Ev C ρ μ e (.list ds)) (hi : Ev C ρ μ e₁ (.int (-1))) (h1 : 1 ≤ ds.length) (hl : ds.length ≤ 1000) (hx : ds[ds.length - 1]? = some d)
    (hs : ∀ t k u, subscripted e₁ false (.ref t) (.int k u) = operate [.ref t, .int k u] (getItem (.ref t) (.int k u)) := by intro _ _ _; rfl) : Ev C ρ μ (.Subscript e e₁ pos) d := .of fun τ s Q E st hQ => by
  refine Subscript_ (hv.run τ s _ E st fun v s₁ st₁ => hi.run _ s₁ _ E st₁ fun i s₂ st₂ => ?_)
  obtain ⟨⟨t, rfl⟩, st₃⟩ := st₂.int
  obtain ⟨tt, vs, rfl, ht, hlen, st₄⟩ := st₃.list (.head _)
  obtain ⟨u, hu, hin⟩ := (AllIn.zip (τ := (.ref tt, .list ds) :: τ) hlen).get hx
  refine tail_any ht.typeIs slot_list_getitem.lookup (wpAny_getItem_list_neg ht (by (first | assumption | decide | exact Nat.le_trans (by assumption) (by decide) | exact Nat.le_trans (Nat.add_le_add (by assumption) (by assumption)) (by decide) | exact Nat.lt_of_le_of_lt (by assumption) (by decide) | exact Nat.lt_of_lt_of_le (by assumption) (by decide) | lia | omega)) (by simp only [List.size_toArray, hlen]; (first | assumption | decide | exact Nat.le_trans (by assumption) (by decide) | exact Nat.le_trans (Nat.add_le_add (by assumption) (by assumption)) (by decide) | exact Nat.lt_of_le_of_lt (by assumption) (by decide) | exact Nat.lt_of_lt_of_le (by assumption) (by decide) | lia | omega)) (by (first | assumption | decide | exact Nat.le_trans (by assumption) (by decide) | exact Nat.le_trans (Nat.add_le_add (by assumption) (by assumption)) (by decide) | exact Nat.lt_of_le_of_lt (by assumption) (by decide) | exact Nat.lt_of_lt_of_le (by assumption) (by decide) | lia | omega)) (x := u) (by simp only [List.size_toArray, hlen]; rw [show (-1 + (ds.length : Int)).toNat = ds.length - 1 by (first | assumption | decide | exact Nat.le_trans (by assumption) (by decide) | exact Nat.le_trans (Nat.add_le_add (by assumption) (by assumption)) (by decide) | exact Nat.lt_of_le_of_lt (by assumption) (by decide) | exact Nat.lt_of_lt_of_le (by assumption) (by decide) | lia | omega)]; simpa using hu) ?_) (hs _ _ _)
  obtain ⟨m, nd, w⟩ := st₄
  exact hQ _ _ ((w.push (w.tmps _ hin)).st.tmpsOf fun p hp => by
    rcases List.mem_cons.mp hp with rfl | hp
    · exact .head _
    · exact .tail _ (List.mem_append.mpr (.inr (.tail _ hp))))
theorem strs_back {nd : Mu} : ∀ (L : List (List Nat)) (vs : List Value), vs.length = L.length → (∀ q ∈ vs.zip (L.map fun x => Dat.str (S x)), DatIn nd q.1 q.2) → ∃ l : List (Str × Tok), vs = strValues l ∧ l.map (·.1) = L.map S
  | [], [], _, _ => ⟨[], rfl, rfl⟩
  | [], _ :: _, h, _ => by simp at h
  | _ :: _, [], h, _ => by simp at h
  | x :: L, v :: vs, hl, hz => by
    obtain ⟨l, h1, h2⟩ := strs_back L vs (by simpa using hl) fun q hq => hz q (.tail _ hq)
    have := hz (v, Dat.str (S x)) (.head _)
    cases this with
    | str _ t => exact ⟨(S x, t) :: l, by rw [h1]; rfl, by simp [h2]⟩
theorem ev_joinL {L : List (List Nat)} (ho : Ev C ρ μ o (.str "")) (he : Ev C ρ μ e (.list (L.map fun x => Dat.str (S x)))) (hw : (L.map List.length).sum ≤ 1000000)
    (hbase : attributeBase o "join" C.env (eval o C.env) = eval o C.env := by rfl) (hs : starEach [e] C.env = [(false, eval e C.env)] := by rfl) (hline : (apos.endLine == pos.line) = true := by rfl) :
    Ev C ρ μ (.Call (.Attribute o "join" apos) [e] [] pos) (.str (S L.flatten)) := .of fun τ s Q E st hQ => by
  refine Call_method1 hbase hs hline (ho.run τ s _ E st fun ov s₁ st₁ => ?_)
  obtain ⟨⟨t, rfl⟩, st₂⟩ := st₁.str
  refine methodOn_str F.slot_str_join F.type_str_join (Calls.callWith_builtin rfl (Calls.evalArgs_plain (Calls.spliced_cons (he.run _ s₁ _ _ st₂ fun v s₂ st₃ => Calls.spliced_nil ?_))))
  obtain ⟨a, vs, rfl, hl, hlen, st₄⟩ := st₃.list (.head _)
  have hback : ∃ l : List (Str × Tok), vs = strValues l ∧ l.map (·.1) = L.map S := by
    obtain ⟨m, nd, w⟩ := st₄
    exact strs_back L vs (by simpa using hlen) fun q hq => w.tmps q (List.mem_append.mpr (.inl hq))
  obtain ⟨l, rfl, hl2⟩ := hback
  refine SC.join hl rfl (joinOk_of ?_) fun t' k => ?_
  · rw [hl2, List.map_map]
    show (L.map (Str.length ∘ S)).sum + (L.map S).length * 0 ≤ _
    have e : L.map (Str.length ∘ S) = L.map List.length := List.map_congr_left fun x _ => S_length x
    rw [e]
    (first | assumption | decide | exact Nat.le_trans (by assumption) (by decide) | exact Nat.le_trans (Nat.add_le_add (by assumption) (by assumption)) (by decide) | exact Nat.lt_of_le_of_lt (by assumption) (by decide) | exact Nat.lt_of_lt_of_le (by assumption) (by decide) | lia | omega)
  · rw [hl2, join_S]
    exact hQ _ _ ((st₃.pop.toks k).pushStr _ _)
end
noncomputable def sortedL (c3 m n base worth : Nat) : List (Nat × List Nat) := (permL m n).map fun i => (heardL c3 0 (thingsL m n base worth)).getD i (0, [])
noncomputable def rowL (c3 m n base worth : Nat) : List Nat := ((sortedL c3 m n base worth).map (·.2)).flatten
end Mine
end

section
open PySem PySem.W PyProof.Rows PySem.Calls
set_option maxRecDepth 100000
set_option linter.all false
set_option maxHeartbeats 1600000
namespace Mine
theorem qs_nodup : ∀ a, a < 5 → ∀ b, b < 5 → decide (qsL (3 + 2 * a) (nPair a b)).Nodup = true := by decide +kernel
theorem kept_take {α : Type} (l : List α) (g : α → Dat) : ∀ k, kept (fun i => (l[i]?).map g) k = (l.take k).map g
  | 0 => rfl
  | k + 1 => by
    show kept _ k ++ _ = _
    rw [kept_take l g k, List.take_add_one, List.map_append]
    congr 1
    show ((l[k]?).map g).toList = _
    cases l[k]? <;> rfl
theorem things_ports (m n base worth : Nat) : (thingsL m n base worth).map (·.2.2) = (qsL m n).map (· * worth) := by
  unfold thingsL opensL closesL qsL
  simp only [List.map_append, List.map_map]
  rfl
theorem heard_ports (c3 : Nat) : ∀ (l : List (Nat × Nat × Nat)) (a : Nat), (heardL c3 a l).map (·.1) = l.map (·.2.2)
  | [], _ => rfl
  | t :: r, a => by simp only [heardL, List.map_cons, heard_ports c3 r (a + 1)]; rfl
theorem qs_length (m n : Nat) : (qsL m n).length = m / 2 + n / 2 := by unfold qsL; simp
theorem things_length (m n base worth : Nat) : (thingsL m n base worth).length = m / 2 + n / 2 := by unfold thingsL opensL closesL; simp
theorem heard_port {c3 m n base worth i : Nat} {a : Nat × List Nat} (h : (heardL c3 0 (thingsL m n base worth))[i]? = some a) : ∃ q, (qsL m n)[i]? = some q ∧ a.1 = q * worth := by
  have h1 : ((heardL c3 0 (thingsL m n base worth)).map (·.1))[i]? = some a.1 := by rw [List.getElem?_map, h]; rfl
  rw [heard_ports, things_ports, List.getElem?_map] at h1
  cases hq : (qsL m n)[i]? with
  | none => rw [hq] at h1; cases h1
  | some q => rw [hq] at h1; exact ⟨q, rfl, (Option.some.inj h1).symm⟩
theorem lt_heard {c3 m n base worth : Nat} (hnd : (qsL m n).Nodup) (hw : 1 ≤ worth) : ∀ i j b, ltQ m n i j = some b → ∃ a c, (heardL c3 0 (thingsL m n base worth))[i]? = some a ∧ (heardL c3 0 (thingsL m n base worth))[j]? = some c ∧ b = decide (a.1 < c.1) ∧ (a.1 = c.1 → i = j) := by
  intro i j b h
  unfold ltQ at h
  have hlen : (heardL c3 0 (thingsL m n base worth)).length = (qsL m n).length := by rw [heardL_length, things_length, qs_length]
  cases hi : (qsL m n)[i]? with
  | none => rw [hi] at h; cases h
  | some q =>
    cases hj : (qsL m n)[j]? with
    | none => rw [hi, hj] at h; cases h
    | some r =>
      rw [hi, hj] at h
      cases h
      obtain ⟨hil, hie⟩ := List.getElem?_eq_some_iff.mp hi
      obtain ⟨hjl, hje⟩ := List.getElem?_eq_some_iff.mp hj
      obtain ⟨a, ha⟩ : ∃ a, (heardL c3 0 (thingsL m n base worth))[i]? = some a := ⟨_, List.getElem?_eq_getElem (by (first | assumption | decide | exact Nat.le_trans (by assumption) (by decide) | exact Nat.le_trans (Nat.add_le_add (by assumption) (by assumption)) (by decide) | exact Nat.lt_of_le_of_lt (by assumption) (by decide) | exact Nat.lt_of_lt_of_le (by assumption) (by decide) | lia | omega))⟩
      obtain ⟨c, hc⟩ : ∃ a, (heardL c3 0 (thingsL m n base worth))[j]? = some a := ⟨_, List.getElem?_eq_getElem (by (first | assumption | decide | exact Nat.le_trans (by assumption) (by decide) | exact Nat.le_trans (Nat.add_le_add (by assumption) (by assumption)) (by decide) | exact Nat.lt_of_le_of_lt (by assumption) (by decide) | exact Nat.lt_of_lt_of_le (by assumption) (by decide) | lia | omega))⟩
      obtain ⟨q', hq', e1⟩ := heard_port ha
      obtain ⟨r', hr', e2⟩ := heard_port hc
      rw [hi] at hq'; cases hq'
      rw [hj] at hr'; cases hr'
      refine ⟨a, c, ha, hc, ?_, fun e => ?_⟩
      · rw [e1, e2]
        refine decide_eq_decide.mpr ⟨fun h => Nat.mul_lt_mul_of_pos_right h hw, fun h => Nat.lt_of_mul_lt_mul_right h⟩
      · rw [e1, e2] at e
        have : q = r := Nat.eq_of_mul_eq_mul_right hw e
        rw [← hie, ← hje] at this
        exact (List.getElem_inj hnd).mp this
theorem runK_perm {m n : Nat} (h : sortOk m n = true) : ∃ p, runK (ltQ m n) (kas_sort (m / 2 + n / 2)) = some p ∧ p.toList = permL m n := by
  unfold sortOk at h
  simp only [Bool.and_eq_true] at h
  obtain ⟨⟨⟨h1, _⟩, _⟩, _⟩ := h
  unfold permL
  cases hq : runK (ltQ m n) (kas_sort (m / 2 + n / 2)) with
  | none => rw [hq] at h1; cases h1
  | some p => exact ⟨p, rfl, rfl⟩
theorem perm_lt {m n : Nat} (h : sortOk m n = true) : (permL m n).length = m / 2 + n / 2 ∧ ∀ i ∈ permL m n, i < m / 2 + n / 2 := by
  unfold sortOk at h
  simp only [Bool.and_eq_true, beq_iff_eq, List.all_eq_true, decide_eq_true_eq] at h
  exact ⟨h.1.2, h.1.1.2⟩
theorem heard_len (c3 i : Nat) (t : Nat × Nat × Nat) : (heardE c3 i t).2.length ≤ 7 := by
  have h : (hids.getD ((c3 / 7 + i) % 6) []).length ≤ 5 := by
    have : (c3 / 7 + i) % 6 < 6 := Nat.mod_lt _ (by decide)
    generalize (c3 / 7 + i) % 6 = b at *
    match b, this with
    | 0, _ => decide
    | 1, _ => decide
    | 2, _ => decide
    | 3, _ => decide
    | 4, _ => decide
    | 5, _ => decide
  unfold heardE hidOf
  simp only [List.length_append, List.length_singleton]
  split
  · (first | assumption | decide | exact Nat.le_trans (by assumption) (by decide) | exact Nat.le_trans (Nat.add_le_add (by assumption) (by assumption)) (by decide) | exact Nat.lt_of_le_of_lt (by assumption) (by decide) | exact Nat.lt_of_lt_of_le (by assumption) (by decide) | lia | omega)
  · simp
theorem heardL_mem (c3 : Nat) : ∀ (l : List (Nat × Nat × Nat)) (a : Nat) (x : Nat × List Nat), x ∈ heardL c3 a l → x.2.length ≤ 7
  | t :: r, a, x, h => by
    rcases List.mem_cons.mp h with rfl | h
    · exact heard_len c3 a t
    · exact heardL_mem c3 r (a + 1) x h
theorem sorted_len {c3 m n base worth : Nat} : ∀ x ∈ sortedL c3 m n base worth, x.2.length ≤ 7 := fun x hx => by
  unfold sortedL at hx
  obtain ⟨i, _, rfl⟩ := List.mem_map.mp hx
  rw [List.getD_eq_getElem?_getD]
  cases hq : (heardL c3 0 (thingsL m n base worth))[i]? with
  | none => exact Nat.zero_le _
  | some y => exact heardL_mem c3 _ 0 y (List.mem_of_getElem? hq)
theorem sum_le {L : List (List Nat)} (h : ∀ x ∈ L, x.length ≤ 7) : (L.map List.length).sum ≤ 7 * L.length := by
  induction L with
  | nil => simp
  | cons a r ih =>
    have h1 := h a (by simp)
    have h2 := ih fun x hx => h x (by simp [hx])
    simp only [List.map_cons, List.sum_cons, List.length_cons]
    (first | assumption | decide | exact Nat.le_trans (by assumption) (by decide) | exact Nat.le_trans (Nat.add_le_add (by assumption) (by assumption)) (by decide) | exact Nat.lt_of_le_of_lt (by assumption) (by decide) | exact Nat.lt_of_lt_of_le (by assumption) (by decide) | lia | omega)

theorem law_sort (P : PySem.Params) : M1 P 10 fun b C => ∀ (m n base worth c0 c1 c2 c3 : Nat) (D : Addr) (vs : List Value) (nn : Nat) (p0 pl : Nat × List Nat) (Φ : Flow → Shared → Prop), sortOk m n = true → (qsL m n).Nodup → 1 ≤ worth → 2 ≤ m / 2 + n / 2 → m / 2 + n / 2 < 64 → vs.length = (thingsL m n base worth).length →
    (sortedL c3 m n base worth)[0]? = some p0 → (sortedL c3 m n base worth)[m / 2 + n / 2 - 1]? = some pl →
    Ex C [("heard", .dat (.list ((sortedL c3 m n base worth).map itD))), ("row", .dat (.str (S (rowL c3 m n base worth)))), ("least", .dat (.int p0.1)), ("first", .dat (.str (S p0.2))), ("most", .dat (.int pl.1)), ("last", .dat (.str (S pl.2))), ("m", .dat (.int m)), ("n", .dat (.int n)), ("base", .dat (.int base)), ("cells", .dat (.list [.int c0, .int c1, .int c2, .int c3]))] [] [] (b.drop 4) Φ →
    Ex C [("heard", .raw (.ref D)), ("m", .dat (.int m)), ("n", .dat (.int n)), ("base", .dat (.int base)), ("worth", .dat (.int worth)), ("cells", .dat (.list [.int c0, .int c1, .int c2, .int c3]))] (vs.zip ((heardL c3 0 (thingsL m n base worth)).map itD)) [(D, lstO vs nn)] b Φ := by
  refine lawSeg_intro rfl ?_
  intro w L A g os lvl hP ok cal hlv m n base worth c0 c1 c2 c3 D vs nn p0 pl Φ hso hnd hw h2 h64 hvl h0 hl h
  obtain ⟨p, hp, hpe⟩ := runK_perm hso
  obtain ⟨hpl, hplt⟩ := perm_lt hso
  have hN : (heardL c3 0 (thingsL m n base worth)).length = m / 2 + n / 2 := by rw [heardL_length, things_length]
  have hsl : (sortedL c3 m n base worth).length = m / 2 + n / 2 := by unfold sortedL; rw [List.length_map, hpl]
  refine ex_sorted (l := heardL c3 0 (thingsL m n base worth)) (p := p) (lt := ltQ m n) ok rfl (fun _ => rfl) rfl rfl (by rw [hvl, heardL_length]) (by (first | assumption | decide | exact Nat.le_trans (by assumption) (by decide) | exact Nat.le_trans (Nat.add_le_add (by assumption) (by assumption)) (by decide) | exact Nat.lt_of_le_of_lt (by assumption) (by decide) | exact Nat.lt_of_lt_of_le (by assumption) (by decide) | lia | omega)) (by (first | assumption | decide | exact Nat.le_trans (by assumption) (by decide) | exact Nat.le_trans (Nat.add_le_add (by assumption) (by assumption)) (by decide) | exact Nat.lt_of_le_of_lt (by assumption) (by decide) | exact Nat.lt_of_lt_of_le (by assumption) (by decide) | lia | omega)) (lt_heard hnd hw) (by rw [hN]; exact hp) ?_ (fun i hi => by rw [hN]; exact hplt i (hpe ▸ hi))
  have hmap : (p.toList.map fun i => itD ((heardL c3 0 (thingsL m n base worth)).getD i (0, []))) = (sortedL c3 m n base worth).map itD := by
    unfold sortedL; rw [hpe, List.map_map]; rfl
  rw [hmap]
  have hrow : kept (fun i => ((sortedL c3 m n base worth)[i]?).map fun p => Dat.str (S p.2)) ((sortedL c3 m n base worth).map itD).length = ((sortedL c3 m n base worth).map (·.2)).map fun x => Dat.str (S x) := by
    rw [kept_take, List.length_map, List.take_length, List.map_map]; rfl
  refine ex_assign ok (d := .str (S (rowL c3 m n base worth))) (ev_joinL (L := (sortedL c3 m n base worth).map (·.2)) ev_str (ev_of (ev_comp (ρ₀ := []) (ds := (sortedL c3 m n base worth).map itD) (f := fun i => ((sortedL c3 m n base worth)[i]?).map fun p => Dat.str (S p.2)) ok rfl (by decide) rfl (by decide)
      (fun x a e => by cases e) (Itb.toT _ (itb_list ok (ev_name ok rfl))) (by rw [List.length_map]; (first | assumption | decide | exact Nat.le_trans (by assumption) (by decide) | exact Nat.le_trans (Nat.add_le_add (by assumption) (by assumption)) (by decide) | exact Nat.lt_of_le_of_lt (by assumption) (by decide) | exact Nat.lt_of_lt_of_le (by assumption) (by decide) | lia | omega)) ?_) (congrArg Dat.list hrow)) ?_) rfl ?_
  · intro i d hd Lc opq keep ok'
    rw [List.getElem?_map] at hd
    obtain ⟨q, hq, rfl⟩ := Option.map_eq_some_iff.mp hd
    rw [hq]
    exact comp_one (bnd_pair ok' rfl rfl) fun μ => ev_name ok' rfl
  · have := sum_le (L := (sortedL c3 m n base worth).map (·.2)) (fun x hx => by obtain ⟨y, hy, rfl⟩ := List.mem_map.mp hx; exact sorted_len y hy)
    rw [List.length_map] at this
    (first | assumption | decide | exact Nat.le_trans (by assumption) (by decide) | exact Nat.le_trans (Nat.add_le_add (by assumption) (by assumption)) (by decide) | exact Nat.lt_of_le_of_lt (by assumption) (by decide) | exact Nat.lt_of_lt_of_le (by assumption) (by decide) | lia | omega)
  · refine ex_assign_tuple (d := itD p0) (ev_itemL (ev_name ok rfl) ev_int (by decide) (by decide) (by rw [List.getElem?_map]; show Option.map itD ((sortedL c3 m n base worth)[0]?) = _; rw [h0]; rfl)) (bnd_pair ok rfl rfl) ?_
    refine ex_assign_tuple (d := itD pl) (ev_itemLneg (ev_name ok rfl) (ev_neg ev_int) (by rw [List.length_map]; (first | assumption | decide | exact Nat.le_trans (by assumption) (by decide) | exact Nat.le_trans (Nat.add_le_add (by assumption) (by assumption)) (by decide) | exact Nat.lt_of_le_of_lt (by assumption) (by decide) | exact Nat.lt_of_lt_of_le (by assumption) (by decide) | lia | omega)) (by rw [List.length_map]; (first | assumption | decide | exact Nat.le_trans (by assumption) (by decide) | exact Nat.le_trans (Nat.add_le_add (by assumption) (by assumption)) (by decide) | exact Nat.lt_of_le_of_lt (by assumption) (by decide) | exact Nat.lt_of_lt_of_le (by assumption) (by decide) | lia | omega)) (by rw [List.length_map, hsl, List.getElem?_map, hl]; rfl)) (bnd_pair ok rfl rfl) ?_
    refine ex_weak (fun s st => ?_) h
    exact st.env (sub_of rfl)
end Mine
end

section
open PySem PySem.W PyProof.Rows PySem.Calls
set_option maxRecDepth 100000
set_option linter.all false
set_option maxHeartbeats 1600000
namespace Mine
/-- what the law's loop over heard asks of one piece -/
structure PieceOk (row : List Nat) (p0 pl p : Nat × List Nat) : Prop where
  a : ellL (p.2 ++ [46, 46, 46]) row = (p.1 == p0.1)
  b : ellL ([46, 46, 46] ++ p.2) row = (p.1 == pl.1)
  c : ellL (p0.2 ++ [46, 46, 46] ++ p.2 ++ [46, 46, 46] ++ pl.2) row = !(p0.1 == p.1 || pl.1 == p.1)
  d : ellL ([46, 46, 46] ++ p.2.take 2 ++ [46, 46, 46] ++ ((p.2.drop 1).take 1 ++ [46, 46, 46])) row = false
  e : ∃ ix, fnd ((p.2.drop 1).take 1) row = some ix ∧ ellL ([46, 46, 46] ++ p.2.take 2 ++ [46, 46, 46] ++ row.drop ix) row = false
  two : 2 ≤ p.2.length
  len : p.2.length ≤ 7
section
variable {C : Cx} {ρ : AEnv} {μ : Mu} {e₁ e₂ e : Expr} {pos np p3 : Pos}
theorem ev_ell {want got : List Nat} (ok : C.Ok) (cal : C.Cal) (hlv : 4 ≤ C.lvl) (hx : C.env.kindOf "_ellipsis_match" = some .globalImplicit) (h1 : Ev C ρ μ e₁ (.str (S want))) (h2 : Ev C ρ μ e₂ (.str (S got))) (hw : want.length ≤ 2000) (hg : got.length ≤ 2000)
    (hse : starEach [e₁, e₂] C.env = [(false, eval e₁ C.env), (false, eval e₂ C.env)] := by rfl) :
    Ev C ρ μ (.Call (.Name "_ellipsis_match" np) [e₁, e₂] [] pos) (.bool (ellL want got)) := ev_call2 ok cal (fnEll want got hw hg) (by (first | assumption | decide | exact Nat.le_trans (by assumption) (by decide) | exact Nat.le_trans (Nat.add_le_add (by assumption) (by assumption)) (by decide) | exact Nat.lt_of_le_of_lt (by assumption) (by decide) | exact Nat.lt_of_lt_of_le (by assumption) (by decide) | lia | omega)) hx (fun _ => rfl) (fun _ => rfl) h1 h2 hse
/-- X is not Y, both the same -/
theorem tr_isnt {b c : Bool} (h1 : Ev C ρ μ e₁ (.bool b)) (h2 : Ev C ρ μ e₂ (.bool c)) (hbc : b = c) (hm : behindInMarks .IsNot e₂ = false := by with_unfolding_all rfl) : Tr C ρ μ (.Compare e₁ [.IsNot] [e₂] pos) false :=
  tr_of (tr_cmp h1 h2 cmp_isNotB hm) (by rw [hbc]; simp)
theorem ev_indexS {x y : List Nat} {i : Nat} {o : Expr} {apos : Pos} (ho : Ev C ρ μ o (.str (S x))) (he : Ev C ρ μ e (.str (S y))) (hi : fnd y x = some i) (hbase : attributeBase o "index" C.env (eval o C.env) = eval o C.env := by rfl) (hs : starEach [e] C.env = [(false, eval e C.env)] := by rfl) (hline : (apos.endLine == pos.line) = true := by rfl) :
    Ev C ρ μ (.Call (.Attribute o "index" apos) [e] [] pos) (.int i) := by
  obtain ⟨r, hr⟩ := index_S hi
  exact ev_index ho he hr hbase hs hline
theorem ev_sliceNs {x : List Nat} {b : Nat} {q : Expr} (hv : Ev C ρ μ e (.str (S x))) (h1 : Ev C ρ μ q (.int (b : Nat))) (hb : b ≤ x.length) (hsz : x.length ≤ 8000) (hl : ∀ t k r, letTemporaryGo e (.str t k) r = pure () := by intro _ _ _; rfl) :
    Ev C ρ μ (.Subscript e (.Slice none (some q) none np) pos) (.str (S (x.take b))) := ev_of (ev_slice_ns hv h1 (by rw [S_length, line_eq]; (first | assumption | decide | exact Nat.le_trans (by assumption) (by decide) | exact Nat.le_trans (Nat.add_le_add (by assumption) (by assumption)) (by decide) | exact Nat.lt_of_le_of_lt (by assumption) (by decide) | exact Nat.lt_of_lt_of_le (by assumption) (by decide) | lia | omega)) hl) (by rw [slice_ns (by (first | assumption | decide | exact Nat.le_trans (by assumption) (by decide) | exact Nat.le_trans (Nat.add_le_add (by assumption) (by assumption)) (by decide) | exact Nat.lt_of_le_of_lt (by assumption) (by decide) | exact Nat.lt_of_lt_of_le (by assumption) (by decide) | lia | omega)) (by (first | assumption | decide | exact Nat.le_trans (by assumption) (by decide) | exact Nat.le_trans (Nat.add_le_add (by assumption) (by assumption)) (by decide) | exact Nat.lt_of_le_of_lt (by assumption) (by decide) | exact Nat.lt_of_lt_of_le (by assumption) (by decide) | lia | omega))]; rfl)
theorem ev_sliceSn {x : List Nat} {b : Nat} {q : Expr} (hv : Ev C ρ μ e (.str (S x))) (h1 : Ev C ρ μ q (.int (b : Nat))) (hb : b ≤ x.length) (hsz : x.length ≤ 8000) (hl : ∀ t k r, letTemporaryGo e (.str t k) r = pure () := by intro _ _ _; rfl) :
    Ev C ρ μ (.Subscript e (.Slice (some q) none none np) pos) (.str (S (x.drop b))) := ev_of (ev_slice_sn hv h1 (by rw [S_length, line_eq]; (first | assumption | decide | exact Nat.le_trans (by assumption) (by decide) | exact Nat.le_trans (Nat.add_le_add (by assumption) (by assumption)) (by decide) | exact Nat.lt_of_le_of_lt (by assumption) (by decide) | exact Nat.lt_of_lt_of_le (by assumption) (by decide) | lia | omega)) hl) (by rw [slice_sn (by (first | assumption | decide | exact Nat.le_trans (by assumption) (by decide) | exact Nat.le_trans (Nat.add_le_add (by assumption) (by assumption)) (by decide) | exact Nat.lt_of_le_of_lt (by assumption) (by decide) | exact Nat.lt_of_lt_of_le (by assumption) (by decide) | lia | omega)) (by (first | assumption | decide | exact Nat.le_trans (by assumption) (by decide) | exact Nat.le_trans (Nat.add_le_add (by assumption) (by assumption)) (by decide) | exact Nat.lt_of_le_of_lt (by assumption) (by decide) | exact Nat.lt_of_lt_of_le (by assumption) (by decide) | lia | omega))]; rfl)
theorem ev_sliceSs {x : List Nat} {a b : Nat} {q r : Expr} (hv : Ev C ρ μ e (.str (S x))) (h1 : Ev C ρ μ q (.int (a : Nat))) (h2 : Ev C ρ μ r (.int (b : Nat))) (hab : a ≤ b) (hb : b ≤ x.length) (hsz : x.length ≤ 8000) (hl : ∀ t k r, letTemporaryGo e (.str t k) r = pure () := by intro _ _ _; rfl) :
    Ev C ρ μ (.Subscript e (.Slice (some q) (some r) none np) pos) (.str (S ((x.drop a).take (b - a)))) := ev_of (ev_slice_ss hv h1 h2 (by rw [S_length, line_eq]; (first | assumption | decide | exact Nat.le_trans (by assumption) (by decide) | exact Nat.le_trans (Nat.add_le_add (by assumption) (by assumption)) (by decide) | exact Nat.lt_of_le_of_lt (by assumption) (by decide) | exact Nat.lt_of_lt_of_le (by assumption) (by decide) | lia | omega)) hl) (by rw [slice_ss (by (first | assumption | decide | exact Nat.le_trans (by assumption) (by decide) | exact Nat.le_trans (Nat.add_le_add (by assumption) (by assumption)) (by decide) | exact Nat.lt_of_le_of_lt (by assumption) (by decide) | exact Nat.lt_of_lt_of_le (by assumption) (by decide) | lia | omega)) (by (first | assumption | decide | exact Nat.le_trans (by assumption) (by decide) | exact Nat.le_trans (Nat.add_le_add (by assumption) (by assumption)) (by decide) | exact Nat.lt_of_le_of_lt (by assumption) (by decide) | exact Nat.lt_of_lt_of_le (by assumption) (by decide) | lia | omega)) (by (first | assumption | decide | exact Nat.le_trans (by assumption) (by decide) | exact Nat.le_trans (Nat.add_le_add (by assumption) (by assumption)) (by decide) | exact Nat.lt_of_le_of_lt (by assumption) (by decide) | exact Nat.lt_of_lt_of_le (by assumption) (by decide) | lia | omega))]; congr 3; (first | assumption | decide | exact Nat.le_trans (by assumption) (by decide) | exact Nat.le_trans (Nat.add_le_add (by assumption) (by assumption)) (by decide) | exact Nat.lt_of_le_of_lt (by assumption) (by decide) | exact Nat.lt_of_lt_of_le (by assumption) (by decide) | lia | omega))
end

theorem law_pieces (P : PySem.Params) : M1 P 14 fun b C => ∀ (l : List (Nat × List Nat)) (row : List Nat) (m n base c0 c1 c2 c3 : Nat) (p0 pl : Nat × List Nat), (∀ p ∈ l, PieceOk row p0 pl p) → p0 ∈ l → pl ∈ l → row.length ≤ 1000 →
    Ex C [("row", .dat (.str (S row))), ("m", .dat (.int m)), ("n", .dat (.int n)), ("base", .dat (.int base)), ("cells", .dat (.list [.int c0, .int c1, .int c2, .int c3]))] [] [] (b.drop 1) (RetP C (.bool true)) →
    Ex C [("heard", .dat (.list (l.map itD))), ("row", .dat (.str (S row))), ("least", .dat (.int p0.1)), ("first", .dat (.str (S p0.2))), ("most", .dat (.int pl.1)), ("last", .dat (.str (S pl.2))), ("m", .dat (.int m)), ("n", .dat (.int n)), ("base", .dat (.int base)), ("cells", .dat (.list [.int c0, .int c1, .int c2, .int c3]))] [] [] b (RetP C (.bool true)) := by
  refine lawSeg_intro rfl ?_
  intro w L A g os lvl hP ok cal hlv l row m n base c0 c1 c2 c3 p0 pl hl h0 hpl hrow h
  refine ex_for0 ok (itb_list ok (ev_name ok rfl)) ?_ ?_
  · intro i d τ' I o Pp hd hτ hPo
    rw [List.getElem?_map] at hd
    obtain ⟨p, hp, rfl⟩ := Option.map_eq_some_iff.mp hd
    have hpm := List.mem_of_getElem? hp
    have k := hl p hpm
    have k0 := (hl p0 h0).len
    have kl := (hl pl hpl).len
    have kp := k.len
    have kt := k.two
    obtain ⟨ix, hix, hie⟩ := k.e
    have hixl : ix ≤ row.length := by
      rcases fnd_spec ((p.2.drop 1).take 1) row with ⟨e, _⟩ | ⟨j, e, hj, _⟩
      · rw [e] at hix; cases hix
      · rw [e] at hix; cases hix; exact hj
    refine ⟨_, bnd_pair ok rfl rfl, ?_⟩
    refine ex_if_no (tr_isnt (ev_ell ok cal hlv rfl (ev_catS (ev_name ok rfl) (ev_strS [46, 46, 46] rfl) (by (first | assumption | decide | exact Nat.le_trans (by assumption) (by decide) | exact Nat.le_trans (Nat.add_le_add (by assumption) (by assumption)) (by decide) | exact Nat.lt_of_le_of_lt (by assumption) (by decide) | exact Nat.lt_of_lt_of_le (by assumption) (by decide) | lia | omega)) (by show 3 ≤ 8000; (first | assumption | decide | exact Nat.le_trans (by assumption) (by decide) | exact Nat.le_trans (Nat.add_le_add (by assumption) (by assumption)) (by decide) | exact Nat.lt_of_le_of_lt (by assumption) (by decide) | exact Nat.lt_of_lt_of_le (by assumption) (by decide) | lia | omega))) (ev_name ok rfl) (by simp; (first | assumption | decide | exact Nat.le_trans (by assumption) (by decide) | exact Nat.le_trans (Nat.add_le_add (by assumption) (by assumption)) (by decide) | exact Nat.lt_of_le_of_lt (by assumption) (by decide) | exact Nat.lt_of_lt_of_le (by assumption) (by decide) | lia | omega)) (by (first | assumption | decide | exact Nat.le_trans (by assumption) (by decide) | exact Nat.le_trans (Nat.add_le_add (by assumption) (by assumption)) (by decide) | exact Nat.lt_of_le_of_lt (by assumption) (by decide) | exact Nat.lt_of_lt_of_le (by assumption) (by decide) | lia | omega))) (ev_cmp (d := .bool (p.1 == p0.1)) (ev_name ok rfl) (ev_name ok rfl) (by rw [← beqN]; exact cmp_eq)) k.a) ?_
    refine ex_if_no (tr_isnt (ev_ell ok cal hlv rfl (ev_catS (ev_strS [46, 46, 46] rfl) (ev_name ok rfl) (by show 3 ≤ 8000; (first | assumption | decide | exact Nat.le_trans (by assumption) (by decide) | exact Nat.le_trans (Nat.add_le_add (by assumption) (by assumption)) (by decide) | exact Nat.lt_of_le_of_lt (by assumption) (by decide) | exact Nat.lt_of_lt_of_le (by assumption) (by decide) | lia | omega)) (by (first | assumption | decide | exact Nat.le_trans (by assumption) (by decide) | exact Nat.le_trans (Nat.add_le_add (by assumption) (by assumption)) (by decide) | exact Nat.lt_of_le_of_lt (by assumption) (by decide) | exact Nat.lt_of_lt_of_le (by assumption) (by decide) | lia | omega))) (ev_name ok rfl) (by simp; (first | assumption | decide | exact Nat.le_trans (by assumption) (by decide) | exact Nat.le_trans (Nat.add_le_add (by assumption) (by assumption)) (by decide) | exact Nat.lt_of_le_of_lt (by assumption) (by decide) | exact Nat.lt_of_lt_of_le (by assumption) (by decide) | lia | omega)) (by (first | assumption | decide | exact Nat.le_trans (by assumption) (by decide) | exact Nat.le_trans (Nat.add_le_add (by assumption) (by assumption)) (by decide) | exact Nat.lt_of_le_of_lt (by assumption) (by decide) | exact Nat.lt_of_lt_of_le (by assumption) (by decide) | lia | omega))) (ev_cmp (d := .bool (p.1 == pl.1)) (ev_name ok rfl) (ev_name ok rfl) (by rw [← beqN]; exact cmp_eq)) k.b) ?_
    refine ex_if_no (tr_isnt (ev_ell ok cal hlv rfl (ev_catS (ev_catS (ev_catS (ev_catS (ev_name ok rfl) (ev_strS [46, 46, 46] rfl) (by (first | assumption | decide | exact Nat.le_trans (by assumption) (by decide) | exact Nat.le_trans (Nat.add_le_add (by assumption) (by assumption)) (by decide) | exact Nat.lt_of_le_of_lt (by assumption) (by decide) | exact Nat.lt_of_lt_of_le (by assumption) (by decide) | lia | omega)) (by show 3 ≤ 8000; (first | assumption | decide | exact Nat.le_trans (by assumption) (by decide) | exact Nat.le_trans (Nat.add_le_add (by assumption) (by assumption)) (by decide) | exact Nat.lt_of_le_of_lt (by assumption) (by decide) | exact Nat.lt_of_lt_of_le (by assumption) (by decide) | lia | omega))) (ev_name ok rfl) (by simp; (first | assumption | decide | exact Nat.le_trans (by assumption) (by decide) | exact Nat.le_trans (Nat.add_le_add (by assumption) (by assumption)) (by decide) | exact Nat.lt_of_le_of_lt (by assumption) (by decide) | exact Nat.lt_of_lt_of_le (by assumption) (by decide) | lia | omega)) (by (first | assumption | decide | exact Nat.le_trans (by assumption) (by decide) | exact Nat.le_trans (Nat.add_le_add (by assumption) (by assumption)) (by decide) | exact Nat.lt_of_le_of_lt (by assumption) (by decide) | exact Nat.lt_of_lt_of_le (by assumption) (by decide) | lia | omega))) (ev_strS [46, 46, 46] rfl) (by simp; (first | assumption | decide | exact Nat.le_trans (by assumption) (by decide) | exact Nat.le_trans (Nat.add_le_add (by assumption) (by assumption)) (by decide) | exact Nat.lt_of_le_of_lt (by assumption) (by decide) | exact Nat.lt_of_lt_of_le (by assumption) (by decide) | lia | omega)) (by show 3 ≤ 8000; (first | assumption | decide | exact Nat.le_trans (by assumption) (by decide) | exact Nat.le_trans (Nat.add_le_add (by assumption) (by assumption)) (by decide) | exact Nat.lt_of_le_of_lt (by assumption) (by decide) | exact Nat.lt_of_lt_of_le (by assumption) (by decide) | lia | omega))) (ev_name ok rfl) (by simp; (first | assumption | decide | exact Nat.le_trans (by assumption) (by decide) | exact Nat.le_trans (Nat.add_le_add (by assumption) (by assumption)) (by decide) | exact Nat.lt_of_le_of_lt (by assumption) (by decide) | exact Nat.lt_of_lt_of_le (by assumption) (by decide) | lia | omega)) (by (first | assumption | decide | exact Nat.le_trans (by assumption) (by decide) | exact Nat.le_trans (Nat.add_le_add (by assumption) (by assumption)) (by decide) | exact Nat.lt_of_le_of_lt (by assumption) (by decide) | exact Nat.lt_of_lt_of_le (by assumption) (by decide) | lia | omega))) (ev_name ok rfl) (by simp; (first | assumption | decide | exact Nat.le_trans (by assumption) (by decide) | exact Nat.le_trans (Nat.add_le_add (by assumption) (by assumption)) (by decide) | exact Nat.lt_of_le_of_lt (by assumption) (by decide) | exact Nat.lt_of_lt_of_le (by assumption) (by decide) | lia | omega)) (by (first | assumption | decide | exact Nat.le_trans (by assumption) (by decide) | exact Nat.le_trans (Nat.add_le_add (by assumption) (by assumption)) (by decide) | exact Nat.lt_of_le_of_lt (by assumption) (by decide) | exact Nat.lt_of_lt_of_le (by assumption) (by decide) | lia | omega)))
      (ev_cmp (d := .bool (!(p0.1 == p.1 || pl.1 == p.1))) (ev_name ok rfl) (ev_tuple (ds := [.int p0.1, .int pl.1]) ⟨ev_name ok rfl, rfl, ev_name ok rfl, rfl, trivial⟩ (by show 2 ≤ 100; (first | assumption | decide | exact Nat.le_trans (by assumption) (by decide) | exact Nat.le_trans (Nat.add_le_add (by assumption) (by assumption)) (by decide) | exact Nat.lt_of_le_of_lt (by assumption) (by decide) | exact Nat.lt_of_lt_of_le (by assumption) (by decide) | lia | omega))) (by rw [← beqN, ← beqN]; exact cmp_ninPair ok)) k.c) ?_
    refine ex_for0 ok (itb_tuple ok (ev_tuple (ds := [.str (S ((p.2.drop 1).take 1 ++ [46, 46, 46])), .str (S (row.drop ix))]) ⟨ev_catS (ev_sliceSs (a := 1) (b := 2) (ev_name ok rfl) ev_int ev_int (by decide) kt (by (first | assumption | decide | exact Nat.le_trans (by assumption) (by decide) | exact Nat.le_trans (Nat.add_le_add (by assumption) (by assumption)) (by decide) | exact Nat.lt_of_le_of_lt (by assumption) (by decide) | exact Nat.lt_of_lt_of_le (by assumption) (by decide) | lia | omega))) (ev_strS [46, 46, 46] rfl) (by simp; (first | assumption | decide | exact Nat.le_trans (by assumption) (by decide) | exact Nat.le_trans (Nat.add_le_add (by assumption) (by assumption)) (by decide) | exact Nat.lt_of_le_of_lt (by assumption) (by decide) | exact Nat.lt_of_lt_of_le (by assumption) (by decide) | lia | omega)) (by show 3 ≤ 8000; (first | assumption | decide | exact Nat.le_trans (by assumption) (by decide) | exact Nat.le_trans (Nat.add_le_add (by assumption) (by assumption)) (by decide) | exact Nat.lt_of_le_of_lt (by assumption) (by decide) | exact Nat.lt_of_lt_of_le (by assumption) (by decide) | lia | omega)), rfl,
      ev_sliceSn (ev_name ok rfl) (ev_indexS (ev_name ok rfl) (ev_sliceSs (a := 1) (b := 2) (ev_name ok rfl) ev_int ev_int (by decide) kt (by (first | assumption | decide | exact Nat.le_trans (by assumption) (by decide) | exact Nat.le_trans (Nat.add_le_add (by assumption) (by assumption)) (by decide) | exact Nat.lt_of_le_of_lt (by assumption) (by decide) | exact Nat.lt_of_lt_of_le (by assumption) (by decide) | lia | omega))) hix) hixl (by (first | assumption | decide | exact Nat.le_trans (by assumption) (by decide) | exact Nat.le_trans (Nat.add_le_add (by assumption) (by assumption)) (by decide) | exact Nat.lt_of_le_of_lt (by assumption) (by decide) | exact Nat.lt_of_lt_of_le (by assumption) (by decide) | lia | omega)), rfl, trivial⟩ (by show 2 ≤ 100; (first | assumption | decide | exact Nat.le_trans (by assumption) (by decide) | exact Nat.le_trans (Nat.add_le_add (by assumption) (by assumption)) (by decide) | exact Nat.lt_of_le_of_lt (by assumption) (by decide) | exact Nat.lt_of_lt_of_le (by assumption) (by decide) | lia | omega)))) ?_ ?_
    · intro i2 d2 τ2 I2 o2 P2 hd2 hτ2 hP2
      match i2, hd2 with
      | 0, rfl =>
        refine ⟨_, bnd_name ok rfl, ?_⟩
        refine ex_if_no (tr_isnt (ev_ell ok cal hlv rfl (ev_catS (ev_catS (ev_catS (ev_strS [46, 46, 46] rfl) (ev_sliceNs (b := 2) (ev_name ok rfl) ev_int kt (by (first | assumption | decide | exact Nat.le_trans (by assumption) (by decide) | exact Nat.le_trans (Nat.add_le_add (by assumption) (by assumption)) (by decide) | exact Nat.lt_of_le_of_lt (by assumption) (by decide) | exact Nat.lt_of_lt_of_le (by assumption) (by decide) | lia | omega))) (by show 3 ≤ 8000; (first | assumption | decide | exact Nat.le_trans (by assumption) (by decide) | exact Nat.le_trans (Nat.add_le_add (by assumption) (by assumption)) (by decide) | exact Nat.lt_of_le_of_lt (by assumption) (by decide) | exact Nat.lt_of_lt_of_le (by assumption) (by decide) | lia | omega)) (by rw [List.length_take]; (first | assumption | decide | exact Nat.le_trans (by assumption) (by decide) | exact Nat.le_trans (Nat.add_le_add (by assumption) (by assumption)) (by decide) | exact Nat.lt_of_le_of_lt (by assumption) (by decide) | exact Nat.lt_of_lt_of_le (by assumption) (by decide) | lia | omega))) (ev_strS [46, 46, 46] rfl) (by simp; (first | assumption | decide | exact Nat.le_trans (by assumption) (by decide) | exact Nat.le_trans (Nat.add_le_add (by assumption) (by assumption)) (by decide) | exact Nat.lt_of_le_of_lt (by assumption) (by decide) | exact Nat.lt_of_lt_of_le (by assumption) (by decide) | lia | omega)) (by show 3 ≤ 8000; (first | assumption | decide | exact Nat.le_trans (by assumption) (by decide) | exact Nat.le_trans (Nat.add_le_add (by assumption) (by assumption)) (by decide) | exact Nat.lt_of_le_of_lt (by assumption) (by decide) | exact Nat.lt_of_lt_of_le (by assumption) (by decide) | lia | omega))) (ev_name ok rfl) (by simp; (first | assumption | decide | exact Nat.le_trans (by assumption) (by decide) | exact Nat.le_trans (Nat.add_le_add (by assumption) (by assumption)) (by decide) | exact Nat.lt_of_le_of_lt (by assumption) (by decide) | exact Nat.lt_of_lt_of_le (by assumption) (by decide) | lia | omega)) (by simp; (first | assumption | decide | exact Nat.le_trans (by assumption) (by decide) | exact Nat.le_trans (Nat.add_le_add (by assumption) (by assumption)) (by decide) | exact Nat.lt_of_le_of_lt (by assumption) (by decide) | exact Nat.lt_of_lt_of_le (by assumption) (by decide) | lia | omega))) (ev_name ok rfl) (by simp; (first | assumption | decide | exact Nat.le_trans (by assumption) (by decide) | exact Nat.le_trans (Nat.add_le_add (by assumption) (by assumption)) (by decide) | exact Nat.lt_of_le_of_lt (by assumption) (by decide) | exact Nat.lt_of_lt_of_le (by assumption) (by decide) | lia | omega)) (by (first | assumption | decide | exact Nat.le_trans (by assumption) (by decide) | exact Nat.le_trans (Nat.add_le_add (by assumption) (by assumption)) (by decide) | exact Nat.lt_of_le_of_lt (by assumption) (by decide) | exact Nat.lt_of_lt_of_le (by assumption) (by decide) | lia | omega))) ev_bool k.d) ?_
        exact turn_end0 hP2 (sub_of rfl) rfl
      | 1, rfl =>
        refine ⟨_, bnd_name ok rfl, ?_⟩
        refine ex_if_no (tr_isnt (ev_ell ok cal hlv rfl (ev_catS (ev_catS (ev_catS (ev_strS [46, 46, 46] rfl) (ev_sliceNs (b := 2) (ev_name ok rfl) ev_int kt (by (first | assumption | decide | exact Nat.le_trans (by assumption) (by decide) | exact Nat.le_trans (Nat.add_le_add (by assumption) (by assumption)) (by decide) | exact Nat.lt_of_le_of_lt (by assumption) (by decide) | exact Nat.lt_of_lt_of_le (by assumption) (by decide) | lia | omega))) (by show 3 ≤ 8000; (first | assumption | decide | exact Nat.le_trans (by assumption) (by decide) | exact Nat.le_trans (Nat.add_le_add (by assumption) (by assumption)) (by decide) | exact Nat.lt_of_le_of_lt (by assumption) (by decide) | exact Nat.lt_of_lt_of_le (by assumption) (by decide) | lia | omega)) (by rw [List.length_take]; (first | assumption | decide | exact Nat.le_trans (by assumption) (by decide) | exact Nat.le_trans (Nat.add_le_add (by assumption) (by assumption)) (by decide) | exact Nat.lt_of_le_of_lt (by assumption) (by decide) | exact Nat.lt_of_lt_of_le (by assumption) (by decide) | lia | omega))) (ev_strS [46, 46, 46] rfl) (by simp; (first | assumption | decide | exact Nat.le_trans (by assumption) (by decide) | exact Nat.le_trans (Nat.add_le_add (by assumption) (by assumption)) (by decide) | exact Nat.lt_of_le_of_lt (by assumption) (by decide) | exact Nat.lt_of_lt_of_le (by assumption) (by decide) | lia | omega)) (by show 3 ≤ 8000; (first | assumption | decide | exact Nat.le_trans (by assumption) (by decide) | exact Nat.le_trans (Nat.add_le_add (by assumption) (by assumption)) (by decide) | exact Nat.lt_of_le_of_lt (by assumption) (by decide) | exact Nat.lt_of_lt_of_le (by assumption) (by decide) | lia | omega))) (ev_name ok rfl) (by simp; (first | assumption | decide | exact Nat.le_trans (by assumption) (by decide) | exact Nat.le_trans (Nat.add_le_add (by assumption) (by assumption)) (by decide) | exact Nat.lt_of_le_of_lt (by assumption) (by decide) | exact Nat.lt_of_lt_of_le (by assumption) (by decide) | lia | omega)) (by simp; (first | assumption | decide | exact Nat.le_trans (by assumption) (by decide) | exact Nat.le_trans (Nat.add_le_add (by assumption) (by assumption)) (by decide) | exact Nat.lt_of_le_of_lt (by assumption) (by decide) | exact Nat.lt_of_lt_of_le (by assumption) (by decide) | lia | omega))) (ev_name ok rfl) (by simp; (first | assumption | decide | exact Nat.le_trans (by assumption) (by decide) | exact Nat.le_trans (Nat.add_le_add (by assumption) (by assumption)) (by decide) | exact Nat.lt_of_le_of_lt (by assumption) (by decide) | exact Nat.lt_of_lt_of_le (by assumption) (by decide) | lia | omega)) (by (first | assumption | decide | exact Nat.le_trans (by assumption) (by decide) | exact Nat.le_trans (Nat.add_le_add (by assumption) (by assumption)) (by decide) | exact Nat.lt_of_le_of_lt (by assumption) (by decide) | exact Nat.lt_of_lt_of_le (by assumption) (by decide) | lia | omega))) ev_bool hie) ?_
        exact turn_end0 hP2 (sub_of rfl) rfl
      | i2 + 2, hd2 => exact absurd hd2 (by simp)
    · exact turn_end0 hPo (sub_of rfl) rfl
  · refine ex_weak (fun s st => ?_) h
    exact st.env (sub_of rfl)
end Mine
end

section
open PySem PySem.W PyProof.Rows PySem.Calls
set_option maxRecDepth 100000
set_option linter.all false
set_option maxHeartbeats 1600000
namespace Mine
theorem slice_neg1 {x : List Nat} (h : 1 ≤ x.length) : Txt.slice (S x) none (some (-1)) = S (x.take (x.length - 1)) := by
  have h1 := slice_ns (x := x) (b := ((x.length - 1 : Nat) : Int)) (by (first | assumption | decide | exact Nat.le_trans (by assumption) (by decide) | exact Nat.le_trans (Nat.add_le_add (by assumption) (by assumption)) (by decide) | exact Nat.lt_of_le_of_lt (by assumption) (by decide) | exact Nat.lt_of_lt_of_le (by assumption) (by decide) | lia | omega)) (by (first | assumption | decide | exact Nat.le_trans (by assumption) (by decide) | exact Nat.le_trans (Nat.add_le_add (by assumption) (by assumption)) (by decide) | exact Nat.lt_of_le_of_lt (by assumption) (by decide) | exact Nat.lt_of_lt_of_le (by assumption) (by decide) | lia | omega))
  rw [Int.toNat_natCast] at h1
  rw [← h1]
  unfold Txt.slice
  have e : Builtin.Str.strSliceIndices none (some (-1)) 1 (S x).length = Builtin.Str.strSliceIndices none (some ((x.length - 1 : Nat) : Int)) 1 (S x).length := by
    rw [S_length]
    unfold Builtin.Str.strSliceIndices
    simp only [show (1 : Int) > 0 by decide, if_true]
    rw [if_pos (by decide : (-1 : Int) < 0), if_neg (by (first | assumption | decide | exact Nat.le_trans (by assumption) (by decide) | exact Nat.le_trans (Nat.add_le_add (by assumption) (by assumption)) (by decide) | exact Nat.lt_of_le_of_lt (by assumption) (by decide) | exact Nat.lt_of_lt_of_le (by assumption) (by decide) | lia | omega) : ¬ (((x.length - 1 : Nat) : Int) < 0))]
    congr 1
    (first | assumption | decide | exact Nat.le_trans (by assumption) (by decide) | exact Nat.le_trans (Nat.add_le_add (by assumption) (by assumption)) (by decide) | exact Nat.lt_of_le_of_lt (by assumption) (by decide) | exact Nat.lt_of_lt_of_le (by assumption) (by decide) | lia | omega)
  rw [e]
noncomputable def dot3 : List Nat := [46, 46, 46]
noncomputable def dot6 : List Nat := [46, 46, 46, 46, 46, 46]
/-- what the law asks of the row whole -/
structure RowOk (row : List Nat) (cut : Nat) : Prop where
  c30 : ellL (row.take (cut + 0) ++ [46, 46, 46] ++ row.drop cut) row = true
  c31 : ellL (row.take (cut + 1) ++ [46, 46, 46] ++ row.drop cut) row = false
  c60 : ellL (row.take (cut + 0) ++ [46, 46, 46, 46, 46, 46] ++ row.drop cut) row = true
  c61 : ellL (row.take (cut + 1) ++ [46, 46, 46, 46, 46, 46] ++ row.drop cut) row = false
  t1 : ellL row row = true
  t2 : ellL [46, 46, 46, 40, 46, 46, 46, 41, 46, 46, 46] row = true
  t3 : ellL [46, 46, 46, 41, 46, 46, 46, 40, 46, 46, 46] row = true
  f1 : ellL (row.drop 1) row = false
  f2 : ellL (row.take (row.length - 1)) row = false
  f3 : ellL (row.drop 1 ++ row.take 1) row = false
  f4 : ellL (row ++ row.take 1) row = false
  f5 : ellL (row.take 1 ++ row) row = false
  f6 : ellL (row.take cut ++ [46, 46] ++ row.drop cut) row = false
  f7 : ellL (row.take cut ++ [46, 46, 46, 46] ++ row.drop cut) row = false
section
variable {C : Cx} {ρ : AEnv} {μ : Mu} {e₁ e₂ e : Expr} {pos np p3 : Pos}
theorem ev_sliceNeg {x : List Nat} {q : Expr} (hv : Ev C ρ μ e (.str (S x))) (h1 : Ev C ρ μ q (.int (-1))) (hb : 1 ≤ x.length) (hsz : x.length ≤ 8000) (hl : ∀ t k r, letTemporaryGo e (.str t k) r = pure () := by intro _ _ _; rfl) :
    Ev C ρ μ (.Subscript e (.Slice none (some q) none np) pos) (.str (S (x.take (x.length - 1)))) := ev_of (ev_slice_ns hv h1 (by rw [S_length, line_eq]; (first | assumption | decide | exact Nat.le_trans (by assumption) (by decide) | exact Nat.le_trans (Nat.add_le_add (by assumption) (by assumption)) (by decide) | exact Nat.lt_of_le_of_lt (by assumption) (by decide) | exact Nat.lt_of_lt_of_le (by assumption) (by decide) | lia | omega)) hl) (by rw [slice_neg1 hb])
theorem ev_item0 {x : List Nat} {q : Expr} (hv : Ev C ρ μ e (.str (S x))) (h1 : Ev C ρ μ q (.int 0)) (hb : 1 ≤ x.length)
    (hs : ∀ y t k u, subscripted q false (.str y t) (.int k u) = operate [.str y t, .int k u] (getItem (.str y t) (.int k u)) := by intro _ _ _ _; rfl) : Ev C ρ μ (.Subscript e q pos) (.str (S (x.take 1))) := by
  match x, hb with
  | c :: r, _ => exact ev_of (ev_itemS (n := c) hv h1 (by decide) (by decide) (by show (c :: r).toArray[0]? = _; simp) hs) rfl
end
theorem law_row (P : PySem.Params) : M1 P 15 fun b C => ∀ (row : List Nat) (m n base c0 c1 c2 c3 : Nat), RowOk row (c2 % row.length) → 1 ≤ row.length → row.length ≤ 500 →
    Ex C [("row", .dat (.str (S row))), ("m", .dat (.int m)), ("n", .dat (.int n)), ("base", .dat (.int base))] [] [] (b.drop 4) (RetP C (.bool true)) →
    Ex C [("row", .dat (.str (S row))), ("m", .dat (.int m)), ("n", .dat (.int n)), ("base", .dat (.int base)), ("cells", .dat (.list [.int c0, .int c1, .int c2, .int c3]))] [] [] b (RetP C (.bool true)) := by
  refine lawSeg_intro rfl ?_
  intro w L A g os lvl hP ok cal hlv row m n base c0 c1 c2 c3 k h1 h2 h
  have hsl : (S row).length ≤ sizeLine := by rw [S_length, line_eq]; (first | assumption | decide | exact Nat.le_trans (by assumption) (by decide) | exact Nat.le_trans (Nat.add_le_add (by assumption) (by assumption)) (by decide) | exact Nat.lt_of_le_of_lt (by assumption) (by decide) | exact Nat.lt_of_lt_of_le (by assumption) (by decide) | lia | omega)
  refine ex_assign ok (d := .int (c2 % row.length : Nat)) (ev_modN row.length (ev_itemL (ev_name ok rfl) ev_int (by decide) (by decide) rfl) (ev_of (ev_lenS ok rfl (fun _ => rfl) (ev_name ok rfl) hsl) (by rw [S_length])) (by (first | assumption | decide | exact Nat.le_trans (by assumption) (by decide) | exact Nat.le_trans (Nat.add_le_add (by assumption) (by assumption)) (by decide) | exact Nat.lt_of_le_of_lt (by assumption) (by decide) | exact Nat.lt_of_lt_of_le (by assumption) (by decide) | lia | omega))) rfl ?_
  have hcut : c2 % row.length < row.length := Nat.mod_lt _ (by (first | assumption | decide | exact Nat.le_trans (by assumption) (by decide) | exact Nat.le_trans (Nat.add_le_add (by assumption) (by assumption)) (by decide) | exact Nat.lt_of_le_of_lt (by assumption) (by decide) | exact Nat.lt_of_lt_of_le (by assumption) (by decide) | lia | omega))
  generalize c2 % row.length = cut at k hcut ⊢
  refine ex_for0 ok (itb_tuple ok (ev_tuple (ds := [.str (S [46, 46, 46]), .str (S [46, 46, 46, 46, 46, 46])]) ⟨ev_strS [46, 46, 46] rfl, rfl, ev_strS [46, 46, 46, 46, 46, 46] rfl, rfl, trivial⟩ (by show 2 ≤ 100; (first | assumption | decide | exact Nat.le_trans (by assumption) (by decide) | exact Nat.le_trans (Nat.add_le_add (by assumption) (by assumption)) (by decide) | exact Nat.lt_of_le_of_lt (by assumption) (by decide) | exact Nat.lt_of_lt_of_le (by assumption) (by decide) | lia | omega)))) ?_ ?_
  · intro i d τ' I o Pp hd hτ hPo
    match i, hd with
    | 0, rfl =>
      refine ⟨_, bnd_name ok rfl, ?_⟩
      refine ex_for0 ok (itb_tuple ok (ev_tuple (ds := [.int 0, .int 1]) ⟨ev_int, rfl, ev_int, rfl, trivial⟩ (by show 2 ≤ 100; (first | assumption | decide | exact Nat.le_trans (by assumption) (by decide) | exact Nat.le_trans (Nat.add_le_add (by assumption) (by assumption)) (by decide) | exact Nat.lt_of_le_of_lt (by assumption) (by decide) | exact Nat.lt_of_lt_of_le (by assumption) (by decide) | lia | omega)))) ?_ (turn_end0 hPo (sub_of rfl) rfl)
      intro i2 d2 τ2 I2 o2 P2 hd2 hτ2 hP2
      match i2, hd2 with
      | 0, rfl =>
        refine ⟨_, bnd_name ok rfl, ?_⟩
        refine ex_if_no (tr_isnt (ev_ell ok cal hlv rfl (ev_catS (ev_catS (ev_sliceNs (b := cut + 0) (ev_name ok rfl) (ev_addN 0 (ev_name ok rfl) (ev_name ok rfl)) (by (first | assumption | decide | exact Nat.le_trans (by assumption) (by decide) | exact Nat.le_trans (Nat.add_le_add (by assumption) (by assumption)) (by decide) | exact Nat.lt_of_le_of_lt (by assumption) (by decide) | exact Nat.lt_of_lt_of_le (by assumption) (by decide) | lia | omega)) (by (first | assumption | decide | exact Nat.le_trans (by assumption) (by decide) | exact Nat.le_trans (Nat.add_le_add (by assumption) (by assumption)) (by decide) | exact Nat.lt_of_le_of_lt (by assumption) (by decide) | exact Nat.lt_of_lt_of_le (by assumption) (by decide) | lia | omega))) (ev_name ok rfl) (by rw [List.length_take]; (first | assumption | decide | exact Nat.le_trans (by assumption) (by decide) | exact Nat.le_trans (Nat.add_le_add (by assumption) (by assumption)) (by decide) | exact Nat.lt_of_le_of_lt (by assumption) (by decide) | exact Nat.lt_of_lt_of_le (by assumption) (by decide) | lia | omega)) (by show 3 ≤ 8000; (first | assumption | decide | exact Nat.le_trans (by assumption) (by decide) | exact Nat.le_trans (Nat.add_le_add (by assumption) (by assumption)) (by decide) | exact Nat.lt_of_le_of_lt (by assumption) (by decide) | exact Nat.lt_of_lt_of_le (by assumption) (by decide) | lia | omega))) (ev_sliceSn (ev_name ok rfl) (ev_name ok rfl) (by (first | assumption | decide | exact Nat.le_trans (by assumption) (by decide) | exact Nat.le_trans (Nat.add_le_add (by assumption) (by assumption)) (by decide) | exact Nat.lt_of_le_of_lt (by assumption) (by decide) | exact Nat.lt_of_lt_of_le (by assumption) (by decide) | lia | omega)) (by (first | assumption | decide | exact Nat.le_trans (by assumption) (by decide) | exact Nat.le_trans (Nat.add_le_add (by assumption) (by assumption)) (by decide) | exact Nat.lt_of_le_of_lt (by assumption) (by decide) | exact Nat.lt_of_lt_of_le (by assumption) (by decide) | lia | omega))) (by first | (first | assumption | decide | exact Nat.le_trans (by assumption) (by decide) | exact Nat.le_trans (Nat.add_le_add (by assumption) (by assumption)) (by decide) | exact Nat.lt_of_le_of_lt (by assumption) (by decide) | exact Nat.lt_of_lt_of_le (by assumption) (by decide) | lia | omega) | (simp only [List.length_append, List.length_take, List.length_drop, List.length_cons, List.length_nil]; (first | assumption | decide | exact Nat.le_trans (by assumption) (by decide) | exact Nat.le_trans (Nat.add_le_add (by assumption) (by assumption)) (by decide) | exact Nat.lt_of_le_of_lt (by assumption) (by decide) | exact Nat.lt_of_lt_of_le (by assumption) (by decide) | lia | omega))) (by first | (first | assumption | decide | exact Nat.le_trans (by assumption) (by decide) | exact Nat.le_trans (Nat.add_le_add (by assumption) (by assumption)) (by decide) | exact Nat.lt_of_le_of_lt (by assumption) (by decide) | exact Nat.lt_of_lt_of_le (by assumption) (by decide) | lia | omega) | (simp only [List.length_append, List.length_take, List.length_drop, List.length_cons, List.length_nil]; (first | assumption | decide | exact Nat.le_trans (by assumption) (by decide) | exact Nat.le_trans (Nat.add_le_add (by assumption) (by assumption)) (by decide) | exact Nat.lt_of_le_of_lt (by assumption) (by decide) | exact Nat.lt_of_lt_of_le (by assumption) (by decide) | lia | omega)))) (ev_name ok rfl) (by first | (first | assumption | decide | exact Nat.le_trans (by assumption) (by decide) | exact Nat.le_trans (Nat.add_le_add (by assumption) (by assumption)) (by decide) | exact Nat.lt_of_le_of_lt (by assumption) (by decide) | exact Nat.lt_of_lt_of_le (by assumption) (by decide) | lia | omega) | (simp only [List.length_append, List.length_take, List.length_drop, List.length_cons, List.length_nil]; (first | assumption | decide | exact Nat.le_trans (by assumption) (by decide) | exact Nat.le_trans (Nat.add_le_add (by assumption) (by assumption)) (by decide) | exact Nat.lt_of_le_of_lt (by assumption) (by decide) | exact Nat.lt_of_lt_of_le (by assumption) (by decide) | lia | omega))) (by (first | assumption | decide | exact Nat.le_trans (by assumption) (by decide) | exact Nat.le_trans (Nat.add_le_add (by assumption) (by assumption)) (by decide) | exact Nat.lt_of_le_of_lt (by assumption) (by decide) | exact Nat.lt_of_lt_of_le (by assumption) (by decide) | lia | omega))) (ev_of (ev_cmp (d := .bool true) (ev_name ok rfl) ev_int cmp_eq) rfl) k.c30) ?_
        exact turn_end0 hP2 (sub_of rfl) rfl
      | 1, rfl =>
        refine ⟨_, bnd_name ok rfl, ?_⟩
        refine ex_if_no (tr_isnt (ev_ell ok cal hlv rfl (ev_catS (ev_catS (ev_sliceNs (b := cut + 1) (ev_name ok rfl) (ev_addN 1 (ev_name ok rfl) (ev_name ok rfl)) (by (first | assumption | decide | exact Nat.le_trans (by assumption) (by decide) | exact Nat.le_trans (Nat.add_le_add (by assumption) (by assumption)) (by decide) | exact Nat.lt_of_le_of_lt (by assumption) (by decide) | exact Nat.lt_of_lt_of_le (by assumption) (by decide) | lia | omega)) (by (first | assumption | decide | exact Nat.le_trans (by assumption) (by decide) | exact Nat.le_trans (Nat.add_le_add (by assumption) (by assumption)) (by decide) | exact Nat.lt_of_le_of_lt (by assumption) (by decide) | exact Nat.lt_of_lt_of_le (by assumption) (by decide) | lia | omega))) (ev_name ok rfl) (by rw [List.length_take]; (first | assumption | decide | exact Nat.le_trans (by assumption) (by decide) | exact Nat.le_trans (Nat.add_le_add (by assumption) (by assumption)) (by decide) | exact Nat.lt_of_le_of_lt (by assumption) (by decide) | exact Nat.lt_of_lt_of_le (by assumption) (by decide) | lia | omega)) (by show 3 ≤ 8000; (first | assumption | decide | exact Nat.le_trans (by assumption) (by decide) | exact Nat.le_trans (Nat.add_le_add (by assumption) (by assumption)) (by decide) | exact Nat.lt_of_le_of_lt (by assumption) (by decide) | exact Nat.lt_of_lt_of_le (by assumption) (by decide) | lia | omega))) (ev_sliceSn (ev_name ok rfl) (ev_name ok rfl) (by (first | assumption | decide | exact Nat.le_trans (by assumption) (by decide) | exact Nat.le_trans (Nat.add_le_add (by assumption) (by assumption)) (by decide) | exact Nat.lt_of_le_of_lt (by assumption) (by decide) | exact Nat.lt_of_lt_of_le (by assumption) (by decide) | lia | omega)) (by (first | assumption | decide | exact Nat.le_trans (by assumption) (by decide) | exact Nat.le_trans (Nat.add_le_add (by assumption) (by assumption)) (by decide) | exact Nat.lt_of_le_of_lt (by assumption) (by decide) | exact Nat.lt_of_lt_of_le (by assumption) (by decide) | lia | omega))) (by first | (first | assumption | decide | exact Nat.le_trans (by assumption) (by decide) | exact Nat.le_trans (Nat.add_le_add (by assumption) (by assumption)) (by decide) | exact Nat.lt_of_le_of_lt (by assumption) (by decide) | exact Nat.lt_of_lt_of_le (by assumption) (by decide) | lia | omega) | (simp only [List.length_append, List.length_take, List.length_drop, List.length_cons, List.length_nil]; (first | assumption | decide | exact Nat.le_trans (by assumption) (by decide) | exact Nat.le_trans (Nat.add_le_add (by assumption) (by assumption)) (by decide) | exact Nat.lt_of_le_of_lt (by assumption) (by decide) | exact Nat.lt_of_lt_of_le (by assumption) (by decide) | lia | omega))) (by first | (first | assumption | decide | exact Nat.le_trans (by assumption) (by decide) | exact Nat.le_trans (Nat.add_le_add (by assumption) (by assumption)) (by decide) | exact Nat.lt_of_le_of_lt (by assumption) (by decide) | exact Nat.lt_of_lt_of_le (by assumption) (by decide) | lia | omega) | (simp only [List.length_append, List.length_take, List.length_drop, List.length_cons, List.length_nil]; (first | assumption | decide | exact Nat.le_trans (by assumption) (by decide) | exact Nat.le_trans (Nat.add_le_add (by assumption) (by assumption)) (by decide) | exact Nat.lt_of_le_of_lt (by assumption) (by decide) | exact Nat.lt_of_lt_of_le (by assumption) (by decide) | lia | omega)))) (ev_name ok rfl) (by first | (first | assumption | decide | exact Nat.le_trans (by assumption) (by decide) | exact Nat.le_trans (Nat.add_le_add (by assumption) (by assumption)) (by decide) | exact Nat.lt_of_le_of_lt (by assumption) (by decide) | exact Nat.lt_of_lt_of_le (by assumption) (by decide) | lia | omega) | (simp only [List.length_append, List.length_take, List.length_drop, List.length_cons, List.length_nil]; (first | assumption | decide | exact Nat.le_trans (by assumption) (by decide) | exact Nat.le_trans (Nat.add_le_add (by assumption) (by assumption)) (by decide) | exact Nat.lt_of_le_of_lt (by assumption) (by decide) | exact Nat.lt_of_lt_of_le (by assumption) (by decide) | lia | omega))) (by (first | assumption | decide | exact Nat.le_trans (by assumption) (by decide) | exact Nat.le_trans (Nat.add_le_add (by assumption) (by assumption)) (by decide) | exact Nat.lt_of_le_of_lt (by assumption) (by decide) | exact Nat.lt_of_lt_of_le (by assumption) (by decide) | lia | omega))) (ev_of (ev_cmp (d := .bool false) (ev_name ok rfl) ev_int cmp_eq) rfl) k.c31) ?_
        exact turn_end0 hP2 (sub_of rfl) rfl
      | i2 + 2, hd2 => exact absurd hd2 (by simp)
    | 1, rfl =>
      refine ⟨_, bnd_name ok rfl, ?_⟩
      refine ex_for0 ok (itb_tuple ok (ev_tuple (ds := [.int 0, .int 1]) ⟨ev_int, rfl, ev_int, rfl, trivial⟩ (by show 2 ≤ 100; (first | assumption | decide | exact Nat.le_trans (by assumption) (by decide) | exact Nat.le_trans (Nat.add_le_add (by assumption) (by assumption)) (by decide) | exact Nat.lt_of_le_of_lt (by assumption) (by decide) | exact Nat.lt_of_lt_of_le (by assumption) (by decide) | lia | omega)))) ?_ (turn_end0 hPo (sub_of rfl) rfl)
      intro i2 d2 τ2 I2 o2 P2 hd2 hτ2 hP2
      match i2, hd2 with
      | 0, rfl =>
        refine ⟨_, bnd_name ok rfl, ?_⟩
        refine ex_if_no (tr_isnt (ev_ell ok cal hlv rfl (ev_catS (ev_catS (ev_sliceNs (b := cut + 0) (ev_name ok rfl) (ev_addN 0 (ev_name ok rfl) (ev_name ok rfl)) (by (first | assumption | decide | exact Nat.le_trans (by assumption) (by decide) | exact Nat.le_trans (Nat.add_le_add (by assumption) (by assumption)) (by decide) | exact Nat.lt_of_le_of_lt (by assumption) (by decide) | exact Nat.lt_of_lt_of_le (by assumption) (by decide) | lia | omega)) (by (first | assumption | decide | exact Nat.le_trans (by assumption) (by decide) | exact Nat.le_trans (Nat.add_le_add (by assumption) (by assumption)) (by decide) | exact Nat.lt_of_le_of_lt (by assumption) (by decide) | exact Nat.lt_of_lt_of_le (by assumption) (by decide) | lia | omega))) (ev_name ok rfl) (by rw [List.length_take]; (first | assumption | decide | exact Nat.le_trans (by assumption) (by decide) | exact Nat.le_trans (Nat.add_le_add (by assumption) (by assumption)) (by decide) | exact Nat.lt_of_le_of_lt (by assumption) (by decide) | exact Nat.lt_of_lt_of_le (by assumption) (by decide) | lia | omega)) (by show 6 ≤ 8000; (first | assumption | decide | exact Nat.le_trans (by assumption) (by decide) | exact Nat.le_trans (Nat.add_le_add (by assumption) (by assumption)) (by decide) | exact Nat.lt_of_le_of_lt (by assumption) (by decide) | exact Nat.lt_of_lt_of_le (by assumption) (by decide) | lia | omega))) (ev_sliceSn (ev_name ok rfl) (ev_name ok rfl) (by (first | assumption | decide | exact Nat.le_trans (by assumption) (by decide) | exact Nat.le_trans (Nat.add_le_add (by assumption) (by assumption)) (by decide) | exact Nat.lt_of_le_of_lt (by assumption) (by decide) | exact Nat.lt_of_lt_of_le (by assumption) (by decide) | lia | omega)) (by (first | assumption | decide | exact Nat.le_trans (by assumption) (by decide) | exact Nat.le_trans (Nat.add_le_add (by assumption) (by assumption)) (by decide) | exact Nat.lt_of_le_of_lt (by assumption) (by decide) | exact Nat.lt_of_lt_of_le (by assumption) (by decide) | lia | omega))) (by first | (first | assumption | decide | exact Nat.le_trans (by assumption) (by decide) | exact Nat.le_trans (Nat.add_le_add (by assumption) (by assumption)) (by decide) | exact Nat.lt_of_le_of_lt (by assumption) (by decide) | exact Nat.lt_of_lt_of_le (by assumption) (by decide) | lia | omega) | (simp only [List.length_append, List.length_take, List.length_drop, List.length_cons, List.length_nil]; (first | assumption | decide | exact Nat.le_trans (by assumption) (by decide) | exact Nat.le_trans (Nat.add_le_add (by assumption) (by assumption)) (by decide) | exact Nat.lt_of_le_of_lt (by assumption) (by decide) | exact Nat.lt_of_lt_of_le (by assumption) (by decide) | lia | omega))) (by first | (first | assumption | decide | exact Nat.le_trans (by assumption) (by decide) | exact Nat.le_trans (Nat.add_le_add (by assumption) (by assumption)) (by decide) | exact Nat.lt_of_le_of_lt (by assumption) (by decide) | exact Nat.lt_of_lt_of_le (by assumption) (by decide) | lia | omega) | (simp only [List.length_append, List.length_take, List.length_drop, List.length_cons, List.length_nil]; (first | assumption | decide | exact Nat.le_trans (by assumption) (by decide) | exact Nat.le_trans (Nat.add_le_add (by assumption) (by assumption)) (by decide) | exact Nat.lt_of_le_of_lt (by assumption) (by decide) | exact Nat.lt_of_lt_of_le (by assumption) (by decide) | lia | omega)))) (ev_name ok rfl) (by first | (first | assumption | decide | exact Nat.le_trans (by assumption) (by decide) | exact Nat.le_trans (Nat.add_le_add (by assumption) (by assumption)) (by decide) | exact Nat.lt_of_le_of_lt (by assumption) (by decide) | exact Nat.lt_of_lt_of_le (by assumption) (by decide) | lia | omega) | (simp only [List.length_append, List.length_take, List.length_drop, List.length_cons, List.length_nil]; (first | assumption | decide | exact Nat.le_trans (by assumption) (by decide) | exact Nat.le_trans (Nat.add_le_add (by assumption) (by assumption)) (by decide) | exact Nat.lt_of_le_of_lt (by assumption) (by decide) | exact Nat.lt_of_lt_of_le (by assumption) (by decide) | lia | omega))) (by (first | assumption | decide | exact Nat.le_trans (by assumption) (by decide) | exact Nat.le_trans (Nat.add_le_add (by assumption) (by assumption)) (by decide) | exact Nat.lt_of_le_of_lt (by assumption) (by decide) | exact Nat.lt_of_lt_of_le (by assumption) (by decide) | lia | omega))) (ev_of (ev_cmp (d := .bool true) (ev_name ok rfl) ev_int cmp_eq) rfl) k.c60) ?_
        exact turn_end0 hP2 (sub_of rfl) rfl
      | 1, rfl =>
        refine ⟨_, bnd_name ok rfl, ?_⟩
        refine ex_if_no (tr_isnt (ev_ell ok cal hlv rfl (ev_catS (ev_catS (ev_sliceNs (b := cut + 1) (ev_name ok rfl) (ev_addN 1 (ev_name ok rfl) (ev_name ok rfl)) (by (first | assumption | decide | exact Nat.le_trans (by assumption) (by decide) | exact Nat.le_trans (Nat.add_le_add (by assumption) (by assumption)) (by decide) | exact Nat.lt_of_le_of_lt (by assumption) (by decide) | exact Nat.lt_of_lt_of_le (by assumption) (by decide) | lia | omega)) (by (first | assumption | decide | exact Nat.le_trans (by assumption) (by decide) | exact Nat.le_trans (Nat.add_le_add (by assumption) (by assumption)) (by decide) | exact Nat.lt_of_le_of_lt (by assumption) (by decide) | exact Nat.lt_of_lt_of_le (by assumption) (by decide) | lia | omega))) (ev_name ok rfl) (by rw [List.length_take]; (first | assumption | decide | exact Nat.le_trans (by assumption) (by decide) | exact Nat.le_trans (Nat.add_le_add (by assumption) (by assumption)) (by decide) | exact Nat.lt_of_le_of_lt (by assumption) (by decide) | exact Nat.lt_of_lt_of_le (by assumption) (by decide) | lia | omega)) (by show 6 ≤ 8000; (first | assumption | decide | exact Nat.le_trans (by assumption) (by decide) | exact Nat.le_trans (Nat.add_le_add (by assumption) (by assumption)) (by decide) | exact Nat.lt_of_le_of_lt (by assumption) (by decide) | exact Nat.lt_of_lt_of_le (by assumption) (by decide) | lia | omega))) (ev_sliceSn (ev_name ok rfl) (ev_name ok rfl) (by (first | assumption | decide | exact Nat.le_trans (by assumption) (by decide) | exact Nat.le_trans (Nat.add_le_add (by assumption) (by assumption)) (by decide) | exact Nat.lt_of_le_of_lt (by assumption) (by decide) | exact Nat.lt_of_lt_of_le (by assumption) (by decide) | lia | omega)) (by (first | assumption | decide | exact Nat.le_trans (by assumption) (by decide) | exact Nat.le_trans (Nat.add_le_add (by assumption) (by assumption)) (by decide) | exact Nat.lt_of_le_of_lt (by assumption) (by decide) | exact Nat.lt_of_lt_of_le (by assumption) (by decide) | lia | omega))) (by first | (first | assumption | decide | exact Nat.le_trans (by assumption) (by decide) | exact Nat.le_trans (Nat.add_le_add (by assumption) (by assumption)) (by decide) | exact Nat.lt_of_le_of_lt (by assumption) (by decide) | exact Nat.lt_of_lt_of_le (by assumption) (by decide) | lia | omega) | (simp only [List.length_append, List.length_take, List.length_drop, List.length_cons, List.length_nil]; (first | assumption | decide | exact Nat.le_trans (by assumption) (by decide) | exact Nat.le_trans (Nat.add_le_add (by assumption) (by assumption)) (by decide) | exact Nat.lt_of_le_of_lt (by assumption) (by decide) | exact Nat.lt_of_lt_of_le (by assumption) (by decide) | lia | omega))) (by first | (first | assumption | decide | exact Nat.le_trans (by assumption) (by decide) | exact Nat.le_trans (Nat.add_le_add (by assumption) (by assumption)) (by decide) | exact Nat.lt_of_le_of_lt (by assumption) (by decide) | exact Nat.lt_of_lt_of_le (by assumption) (by decide) | lia | omega) | (simp only [List.length_append, List.length_take, List.length_drop, List.length_cons, List.length_nil]; (first | assumption | decide | exact Nat.le_trans (by assumption) (by decide) | exact Nat.le_trans (Nat.add_le_add (by assumption) (by assumption)) (by decide) | exact Nat.lt_of_le_of_lt (by assumption) (by decide) | exact Nat.lt_of_lt_of_le (by assumption) (by decide) | lia | omega)))) (ev_name ok rfl) (by first | (first | assumption | decide | exact Nat.le_trans (by assumption) (by decide) | exact Nat.le_trans (Nat.add_le_add (by assumption) (by assumption)) (by decide) | exact Nat.lt_of_le_of_lt (by assumption) (by decide) | exact Nat.lt_of_lt_of_le (by assumption) (by decide) | lia | omega) | (simp only [List.length_append, List.length_take, List.length_drop, List.length_cons, List.length_nil]; (first | assumption | decide | exact Nat.le_trans (by assumption) (by decide) | exact Nat.le_trans (Nat.add_le_add (by assumption) (by assumption)) (by decide) | exact Nat.lt_of_le_of_lt (by assumption) (by decide) | exact Nat.lt_of_lt_of_le (by assumption) (by decide) | lia | omega))) (by (first | assumption | decide | exact Nat.le_trans (by assumption) (by decide) | exact Nat.le_trans (Nat.add_le_add (by assumption) (by assumption)) (by decide) | exact Nat.lt_of_le_of_lt (by assumption) (by decide) | exact Nat.lt_of_lt_of_le (by assumption) (by decide) | lia | omega))) (ev_of (ev_cmp (d := .bool false) (ev_name ok rfl) ev_int cmp_eq) rfl) k.c61) ?_
        exact turn_end0 hP2 (sub_of rfl) rfl
      | i2 + 2, hd2 => exact absurd hd2 (by simp)
    | i + 2, hd => exact absurd hd (by simp)
  · refine ex_for0 ok (itb_tuple ok (ev_tuple (ds := [.str (S (row)), .str (S ([46, 46, 46, 40, 46, 46, 46, 41, 46, 46, 46])), .str (S ([46, 46, 46, 41, 46, 46, 46, 40, 46, 46, 46]))]) ⟨ev_name ok rfl, rfl, ev_strS [46, 46, 46, 40, 46, 46, 46, 41, 46, 46, 46] rfl, rfl, ev_strS [46, 46, 46, 41, 46, 46, 46, 40, 46, 46, 46] rfl, rfl, trivial⟩ (by show 3 ≤ 100; (first | assumption | decide | exact Nat.le_trans (by assumption) (by decide) | exact Nat.le_trans (Nat.add_le_add (by assumption) (by assumption)) (by decide) | exact Nat.lt_of_le_of_lt (by assumption) (by decide) | exact Nat.lt_of_lt_of_le (by assumption) (by decide) | lia | omega)))) ?_ ?_
    · intro i d τ' I o Pp hd hτ hPo
      match i, hd with
      | 0, rfl =>
        refine ⟨_, bnd_name ok rfl, ?_⟩
        refine ex_if_no (tr_isnt (ev_ell (want := row) ok cal hlv rfl (ev_name ok rfl) (ev_name ok rfl) (by first | (first | assumption | decide | exact Nat.le_trans (by assumption) (by decide) | exact Nat.le_trans (Nat.add_le_add (by assumption) (by assumption)) (by decide) | exact Nat.lt_of_le_of_lt (by assumption) (by decide) | exact Nat.lt_of_lt_of_le (by assumption) (by decide) | lia | omega) | (simp only [List.length_append, List.length_take, List.length_drop, List.length_cons, List.length_nil]; (first | assumption | decide | exact Nat.le_trans (by assumption) (by decide) | exact Nat.le_trans (Nat.add_le_add (by assumption) (by assumption)) (by decide) | exact Nat.lt_of_le_of_lt (by assumption) (by decide) | exact Nat.lt_of_lt_of_le (by assumption) (by decide) | lia | omega))) (by (first | assumption | decide | exact Nat.le_trans (by assumption) (by decide) | exact Nat.le_trans (Nat.add_le_add (by assumption) (by assumption)) (by decide) | exact Nat.lt_of_le_of_lt (by assumption) (by decide) | exact Nat.lt_of_lt_of_le (by assumption) (by decide) | lia | omega))) ev_bool k.t1) ?_
        exact turn_end0 hPo (sub_of rfl) rfl
      | 1, rfl =>
        refine ⟨_, bnd_name ok rfl, ?_⟩
        refine ex_if_no (tr_isnt (ev_ell (want := [46, 46, 46, 40, 46, 46, 46, 41, 46, 46, 46]) ok cal hlv rfl (ev_name ok rfl) (ev_name ok rfl) (by first | (first | assumption | decide | exact Nat.le_trans (by assumption) (by decide) | exact Nat.le_trans (Nat.add_le_add (by assumption) (by assumption)) (by decide) | exact Nat.lt_of_le_of_lt (by assumption) (by decide) | exact Nat.lt_of_lt_of_le (by assumption) (by decide) | lia | omega) | (simp only [List.length_append, List.length_take, List.length_drop, List.length_cons, List.length_nil]; (first | assumption | decide | exact Nat.le_trans (by assumption) (by decide) | exact Nat.le_trans (Nat.add_le_add (by assumption) (by assumption)) (by decide) | exact Nat.lt_of_le_of_lt (by assumption) (by decide) | exact Nat.lt_of_lt_of_le (by assumption) (by decide) | lia | omega))) (by (first | assumption | decide | exact Nat.le_trans (by assumption) (by decide) | exact Nat.le_trans (Nat.add_le_add (by assumption) (by assumption)) (by decide) | exact Nat.lt_of_le_of_lt (by assumption) (by decide) | exact Nat.lt_of_lt_of_le (by assumption) (by decide) | lia | omega))) ev_bool k.t2) ?_
        exact turn_end0 hPo (sub_of rfl) rfl
      | 2, rfl =>
        refine ⟨_, bnd_name ok rfl, ?_⟩
        refine ex_if_no (tr_isnt (ev_ell (want := [46, 46, 46, 41, 46, 46, 46, 40, 46, 46, 46]) ok cal hlv rfl (ev_name ok rfl) (ev_name ok rfl) (by first | (first | assumption | decide | exact Nat.le_trans (by assumption) (by decide) | exact Nat.le_trans (Nat.add_le_add (by assumption) (by assumption)) (by decide) | exact Nat.lt_of_le_of_lt (by assumption) (by decide) | exact Nat.lt_of_lt_of_le (by assumption) (by decide) | lia | omega) | (simp only [List.length_append, List.length_take, List.length_drop, List.length_cons, List.length_nil]; (first | assumption | decide | exact Nat.le_trans (by assumption) (by decide) | exact Nat.le_trans (Nat.add_le_add (by assumption) (by assumption)) (by decide) | exact Nat.lt_of_le_of_lt (by assumption) (by decide) | exact Nat.lt_of_lt_of_le (by assumption) (by decide) | lia | omega))) (by (first | assumption | decide | exact Nat.le_trans (by assumption) (by decide) | exact Nat.le_trans (Nat.add_le_add (by assumption) (by assumption)) (by decide) | exact Nat.lt_of_le_of_lt (by assumption) (by decide) | exact Nat.lt_of_lt_of_le (by assumption) (by decide) | lia | omega))) ev_bool k.t3) ?_
        exact turn_end0 hPo (sub_of rfl) rfl
      | i + 3, hd => exact absurd hd (by simp)
    · refine ex_for0 ok (itb_tuple ok (ev_tuple (ds := [.str (S (row.drop 1)), .str (S (row.take (row.length - 1))), .str (S (row.drop 1 ++ row.take 1)), .str (S (row ++ row.take 1)), .str (S (row.take 1 ++ row)), .str (S (row.take cut ++ [46, 46] ++ row.drop cut)), .str (S (row.take cut ++ [46, 46, 46, 46] ++ row.drop cut))]) ⟨ev_sliceSn (b := 1) (ev_name ok rfl) ev_int (by (first | assumption | decide | exact Nat.le_trans (by assumption) (by decide) | exact Nat.le_trans (Nat.add_le_add (by assumption) (by assumption)) (by decide) | exact Nat.lt_of_le_of_lt (by assumption) (by decide) | exact Nat.lt_of_lt_of_le (by assumption) (by decide) | lia | omega)) (by (first | assumption | decide | exact Nat.le_trans (by assumption) (by decide) | exact Nat.le_trans (Nat.add_le_add (by assumption) (by assumption)) (by decide) | exact Nat.lt_of_le_of_lt (by assumption) (by decide) | exact Nat.lt_of_lt_of_le (by assumption) (by decide) | lia | omega)), rfl, ev_sliceNeg (ev_name ok rfl) (ev_neg ev_int) (by (first | assumption | decide | exact Nat.le_trans (by assumption) (by decide) | exact Nat.le_trans (Nat.add_le_add (by assumption) (by assumption)) (by decide) | exact Nat.lt_of_le_of_lt (by assumption) (by decide) | exact Nat.lt_of_lt_of_le (by assumption) (by decide) | lia | omega)) (by (first | assumption | decide | exact Nat.le_trans (by assumption) (by decide) | exact Nat.le_trans (Nat.add_le_add (by assumption) (by assumption)) (by decide) | exact Nat.lt_of_le_of_lt (by assumption) (by decide) | exact Nat.lt_of_lt_of_le (by assumption) (by decide) | lia | omega)), rfl, ev_catS (ev_sliceSn (b := 1) (ev_name ok rfl) ev_int (by (first | assumption | decide | exact Nat.le_trans (by assumption) (by decide) | exact Nat.le_trans (Nat.add_le_add (by assumption) (by assumption)) (by decide) | exact Nat.lt_of_le_of_lt (by assumption) (by decide) | exact Nat.lt_of_lt_of_le (by assumption) (by decide) | lia | omega)) (by (first | assumption | decide | exact Nat.le_trans (by assumption) (by decide) | exact Nat.le_trans (Nat.add_le_add (by assumption) (by assumption)) (by decide) | exact Nat.lt_of_le_of_lt (by assumption) (by decide) | exact Nat.lt_of_lt_of_le (by assumption) (by decide) | lia | omega))) (ev_item0 (ev_name ok rfl) ev_int (by (first | assumption | decide | exact Nat.le_trans (by assumption) (by decide) | exact Nat.le_trans (Nat.add_le_add (by assumption) (by assumption)) (by decide) | exact Nat.lt_of_le_of_lt (by assumption) (by decide) | exact Nat.lt_of_lt_of_le (by assumption) (by decide) | lia | omega))) (by first | (first | assumption | decide | exact Nat.le_trans (by assumption) (by decide) | exact Nat.le_trans (Nat.add_le_add (by assumption) (by assumption)) (by decide) | exact Nat.lt_of_le_of_lt (by assumption) (by decide) | exact Nat.lt_of_lt_of_le (by assumption) (by decide) | lia | omega) | (simp only [List.length_append, List.length_take, List.length_drop, List.length_cons, List.length_nil]; (first | assumption | decide | exact Nat.le_trans (by assumption) (by decide) | exact Nat.le_trans (Nat.add_le_add (by assumption) (by assumption)) (by decide) | exact Nat.lt_of_le_of_lt (by assumption) (by decide) | exact Nat.lt_of_lt_of_le (by assumption) (by decide) | lia | omega))) (by first | (first | assumption | decide | exact Nat.le_trans (by assumption) (by decide) | exact Nat.le_trans (Nat.add_le_add (by assumption) (by assumption)) (by decide) | exact Nat.lt_of_le_of_lt (by assumption) (by decide) | exact Nat.lt_of_lt_of_le (by assumption) (by decide) | lia | omega) | (simp only [List.length_append, List.length_take, List.length_drop, List.length_cons, List.length_nil]; (first | assumption | decide | exact Nat.le_trans (by assumption) (by decide) | exact Nat.le_trans (Nat.add_le_add (by assumption) (by assumption)) (by decide) | exact Nat.lt_of_le_of_lt (by assumption) (by decide) | exact Nat.lt_of_lt_of_le (by assumption) (by decide) | lia | omega))), rfl, ev_catS (ev_name ok rfl) (ev_item0 (ev_name ok rfl) ev_int (by (first | assumption | decide | exact Nat.le_trans (by assumption) (by decide) | exact Nat.le_trans (Nat.add_le_add (by assumption) (by assumption)) (by decide) | exact Nat.lt_of_le_of_lt (by assumption) (by decide) | exact Nat.lt_of_lt_of_le (by assumption) (by decide) | lia | omega))) (by first | (first | assumption | decide | exact Nat.le_trans (by assumption) (by decide) | exact Nat.le_trans (Nat.add_le_add (by assumption) (by assumption)) (by decide) | exact Nat.lt_of_le_of_lt (by assumption) (by decide) | exact Nat.lt_of_lt_of_le (by assumption) (by decide) | lia | omega) | (simp only [List.length_append, List.length_take, List.length_drop, List.length_cons, List.length_nil]; (first | assumption | decide | exact Nat.le_trans (by assumption) (by decide) | exact Nat.le_trans (Nat.add_le_add (by assumption) (by assumption)) (by decide) | exact Nat.lt_of_le_of_lt (by assumption) (by decide) | exact Nat.lt_of_lt_of_le (by assumption) (by decide) | lia | omega))) (by first | (first | assumption | decide | exact Nat.le_trans (by assumption) (by decide) | exact Nat.le_trans (Nat.add_le_add (by assumption) (by assumption)) (by decide) | exact Nat.lt_of_le_of_lt (by assumption) (by decide) | exact Nat.lt_of_lt_of_le (by assumption) (by decide) | lia | omega) | (simp only [List.length_append, List.length_take, List.length_drop, List.length_cons, List.length_nil]; (first | assumption | decide | exact Nat.le_trans (by assumption) (by decide) | exact Nat.le_trans (Nat.add_le_add (by assumption) (by assumption)) (by decide) | exact Nat.lt_of_le_of_lt (by assumption) (by decide) | exact Nat.lt_of_lt_of_le (by assumption) (by decide) | lia | omega))), rfl, ev_catS (ev_item0 (ev_name ok rfl) ev_int (by (first | assumption | decide | exact Nat.le_trans (by assumption) (by decide) | exact Nat.le_trans (Nat.add_le_add (by assumption) (by assumption)) (by decide) | exact Nat.lt_of_le_of_lt (by assumption) (by decide) | exact Nat.lt_of_lt_of_le (by assumption) (by decide) | lia | omega))) (ev_name ok rfl) (by first | (first | assumption | decide | exact Nat.le_trans (by assumption) (by decide) | exact Nat.le_trans (Nat.add_le_add (by assumption) (by assumption)) (by decide) | exact Nat.lt_of_le_of_lt (by assumption) (by decide) | exact Nat.lt_of_lt_of_le (by assumption) (by decide) | lia | omega) | (simp only [List.length_append, List.length_take, List.length_drop, List.length_cons, List.length_nil]; (first | assumption | decide | exact Nat.le_trans (by assumption) (by decide) | exact Nat.le_trans (Nat.add_le_add (by assumption) (by assumption)) (by decide) | exact Nat.lt_of_le_of_lt (by assumption) (by decide) | exact Nat.lt_of_lt_of_le (by assumption) (by decide) | lia | omega))) (by first | (first | assumption | decide | exact Nat.le_trans (by assumption) (by decide) | exact Nat.le_trans (Nat.add_le_add (by assumption) (by assumption)) (by decide) | exact Nat.lt_of_le_of_lt (by assumption) (by decide) | exact Nat.lt_of_lt_of_le (by assumption) (by decide) | lia | omega) | (simp only [List.length_append, List.length_take, List.length_drop, List.length_cons, List.length_nil]; (first | assumption | decide | exact Nat.le_trans (by assumption) (by decide) | exact Nat.le_trans (Nat.add_le_add (by assumption) (by assumption)) (by decide) | exact Nat.lt_of_le_of_lt (by assumption) (by decide) | exact Nat.lt_of_lt_of_le (by assumption) (by decide) | lia | omega))), rfl, ev_catS (ev_catS (ev_sliceNs (b := cut) (ev_name ok rfl) (ev_name ok rfl) (by (first | assumption | decide | exact Nat.le_trans (by assumption) (by decide) | exact Nat.le_trans (Nat.add_le_add (by assumption) (by assumption)) (by decide) | exact Nat.lt_of_le_of_lt (by assumption) (by decide) | exact Nat.lt_of_lt_of_le (by assumption) (by decide) | lia | omega)) (by (first | assumption | decide | exact Nat.le_trans (by assumption) (by decide) | exact Nat.le_trans (Nat.add_le_add (by assumption) (by assumption)) (by decide) | exact Nat.lt_of_le_of_lt (by assumption) (by decide) | exact Nat.lt_of_lt_of_le (by assumption) (by decide) | lia | omega))) (ev_strS [46, 46] rfl) (by first | (first | assumption | decide | exact Nat.le_trans (by assumption) (by decide) | exact Nat.le_trans (Nat.add_le_add (by assumption) (by assumption)) (by decide) | exact Nat.lt_of_le_of_lt (by assumption) (by decide) | exact Nat.lt_of_lt_of_le (by assumption) (by decide) | lia | omega) | (simp only [List.length_append, List.length_take, List.length_drop, List.length_cons, List.length_nil]; (first | assumption | decide | exact Nat.le_trans (by assumption) (by decide) | exact Nat.le_trans (Nat.add_le_add (by assumption) (by assumption)) (by decide) | exact Nat.lt_of_le_of_lt (by assumption) (by decide) | exact Nat.lt_of_lt_of_le (by assumption) (by decide) | lia | omega))) (by first | (first | assumption | decide | exact Nat.le_trans (by assumption) (by decide) | exact Nat.le_trans (Nat.add_le_add (by assumption) (by assumption)) (by decide) | exact Nat.lt_of_le_of_lt (by assumption) (by decide) | exact Nat.lt_of_lt_of_le (by assumption) (by decide) | lia | omega) | (simp only [List.length_append, List.length_take, List.length_drop, List.length_cons, List.length_nil]; (first | assumption | decide | exact Nat.le_trans (by assumption) (by decide) | exact Nat.le_trans (Nat.add_le_add (by assumption) (by assumption)) (by decide) | exact Nat.lt_of_le_of_lt (by assumption) (by decide) | exact Nat.lt_of_lt_of_le (by assumption) (by decide) | lia | omega)))) (ev_sliceSn (b := cut) (ev_name ok rfl) (ev_name ok rfl) (by (first | assumption | decide | exact Nat.le_trans (by assumption) (by decide) | exact Nat.le_trans (Nat.add_le_add (by assumption) (by assumption)) (by decide) | exact Nat.lt_of_le_of_lt (by assumption) (by decide) | exact Nat.lt_of_lt_of_le (by assumption) (by decide) | lia | omega)) (by (first | assumption | decide | exact Nat.le_trans (by assumption) (by decide) | exact Nat.le_trans (Nat.add_le_add (by assumption) (by assumption)) (by decide) | exact Nat.lt_of_le_of_lt (by assumption) (by decide) | exact Nat.lt_of_lt_of_le (by assumption) (by decide) | lia | omega))) (by first | (first | assumption | decide | exact Nat.le_trans (by assumption) (by decide) | exact Nat.le_trans (Nat.add_le_add (by assumption) (by assumption)) (by decide) | exact Nat.lt_of_le_of_lt (by assumption) (by decide) | exact Nat.lt_of_lt_of_le (by assumption) (by decide) | lia | omega) | (simp only [List.length_append, List.length_take, List.length_drop, List.length_cons, List.length_nil]; (first | assumption | decide | exact Nat.le_trans (by assumption) (by decide) | exact Nat.le_trans (Nat.add_le_add (by assumption) (by assumption)) (by decide) | exact Nat.lt_of_le_of_lt (by assumption) (by decide) | exact Nat.lt_of_lt_of_le (by assumption) (by decide) | lia | omega))) (by first | (first | assumption | decide | exact Nat.le_trans (by assumption) (by decide) | exact Nat.le_trans (Nat.add_le_add (by assumption) (by assumption)) (by decide) | exact Nat.lt_of_le_of_lt (by assumption) (by decide) | exact Nat.lt_of_lt_of_le (by assumption) (by decide) | lia | omega) | (simp only [List.length_append, List.length_take, List.length_drop, List.length_cons, List.length_nil]; (first | assumption | decide | exact Nat.le_trans (by assumption) (by decide) | exact Nat.le_trans (Nat.add_le_add (by assumption) (by assumption)) (by decide) | exact Nat.lt_of_le_of_lt (by assumption) (by decide) | exact Nat.lt_of_lt_of_le (by assumption) (by decide) | lia | omega))), rfl, ev_catS (ev_catS (ev_sliceNs (b := cut) (ev_name ok rfl) (ev_name ok rfl) (by (first | assumption | decide | exact Nat.le_trans (by assumption) (by decide) | exact Nat.le_trans (Nat.add_le_add (by assumption) (by assumption)) (by decide) | exact Nat.lt_of_le_of_lt (by assumption) (by decide) | exact Nat.lt_of_lt_of_le (by assumption) (by decide) | lia | omega)) (by (first | assumption | decide | exact Nat.le_trans (by assumption) (by decide) | exact Nat.le_trans (Nat.add_le_add (by assumption) (by assumption)) (by decide) | exact Nat.lt_of_le_of_lt (by assumption) (by decide) | exact Nat.lt_of_lt_of_le (by assumption) (by decide) | lia | omega))) (ev_strS [46, 46, 46, 46] rfl) (by first | (first | assumption | decide | exact Nat.le_trans (by assumption) (by decide) | exact Nat.le_trans (Nat.add_le_add (by assumption) (by assumption)) (by decide) | exact Nat.lt_of_le_of_lt (by assumption) (by decide) | exact Nat.lt_of_lt_of_le (by assumption) (by decide) | lia | omega) | (simp only [List.length_append, List.length_take, List.length_drop, List.length_cons, List.length_nil]; (first | assumption | decide | exact Nat.le_trans (by assumption) (by decide) | exact Nat.le_trans (Nat.add_le_add (by assumption) (by assumption)) (by decide) | exact Nat.lt_of_le_of_lt (by assumption) (by decide) | exact Nat.lt_of_lt_of_le (by assumption) (by decide) | lia | omega))) (by first | (first | assumption | decide | exact Nat.le_trans (by assumption) (by decide) | exact Nat.le_trans (Nat.add_le_add (by assumption) (by assumption)) (by decide) | exact Nat.lt_of_le_of_lt (by assumption) (by decide) | exact Nat.lt_of_lt_of_le (by assumption) (by decide) | lia | omega) | (simp only [List.length_append, List.length_take, List.length_drop, List.length_cons, List.length_nil]; (first | assumption | decide | exact Nat.le_trans (by assumption) (by decide) | exact Nat.le_trans (Nat.add_le_add (by assumption) (by assumption)) (by decide) | exact Nat.lt_of_le_of_lt (by assumption) (by decide) | exact Nat.lt_of_lt_of_le (by assumption) (by decide) | lia | omega)))) (ev_sliceSn (b := cut) (ev_name ok rfl) (ev_name ok rfl) (by (first | assumption | decide | exact Nat.le_trans (by assumption) (by decide) | exact Nat.le_trans (Nat.add_le_add (by assumption) (by assumption)) (by decide) | exact Nat.lt_of_le_of_lt (by assumption) (by decide) | exact Nat.lt_of_lt_of_le (by assumption) (by decide) | lia | omega)) (by (first | assumption | decide | exact Nat.le_trans (by assumption) (by decide) | exact Nat.le_trans (Nat.add_le_add (by assumption) (by assumption)) (by decide) | exact Nat.lt_of_le_of_lt (by assumption) (by decide) | exact Nat.lt_of_lt_of_le (by assumption) (by decide) | lia | omega))) (by first | (first | assumption | decide | exact Nat.le_trans (by assumption) (by decide) | exact Nat.le_trans (Nat.add_le_add (by assumption) (by assumption)) (by decide) | exact Nat.lt_of_le_of_lt (by assumption) (by decide) | exact Nat.lt_of_lt_of_le (by assumption) (by decide) | lia | omega) | (simp only [List.length_append, List.length_take, List.length_drop, List.length_cons, List.length_nil]; (first | assumption | decide | exact Nat.le_trans (by assumption) (by decide) | exact Nat.le_trans (Nat.add_le_add (by assumption) (by assumption)) (by decide) | exact Nat.lt_of_le_of_lt (by assumption) (by decide) | exact Nat.lt_of_lt_of_le (by assumption) (by decide) | lia | omega))) (by first | (first | assumption | decide | exact Nat.le_trans (by assumption) (by decide) | exact Nat.le_trans (Nat.add_le_add (by assumption) (by assumption)) (by decide) | exact Nat.lt_of_le_of_lt (by assumption) (by decide) | exact Nat.lt_of_lt_of_le (by assumption) (by decide) | lia | omega) | (simp only [List.length_append, List.length_take, List.length_drop, List.length_cons, List.length_nil]; (first | assumption | decide | exact Nat.le_trans (by assumption) (by decide) | exact Nat.le_trans (Nat.add_le_add (by assumption) (by assumption)) (by decide) | exact Nat.lt_of_le_of_lt (by assumption) (by decide) | exact Nat.lt_of_lt_of_le (by assumption) (by decide) | lia | omega))), rfl, trivial⟩ (by show 7 ≤ 100; (first | assumption | decide | exact Nat.le_trans (by assumption) (by decide) | exact Nat.le_trans (Nat.add_le_add (by assumption) (by assumption)) (by decide) | exact Nat.lt_of_le_of_lt (by assumption) (by decide) | exact Nat.lt_of_lt_of_le (by assumption) (by decide) | lia | omega)))) ?_ ?_
      · intro i d τ' I o Pp hd hτ hPo
        match i, hd with
        | 0, rfl =>
          refine ⟨_, bnd_name ok rfl, ?_⟩
          refine ex_if_no (tr_isnt (ev_ell (want := row.drop 1) ok cal hlv rfl (ev_name ok rfl) (ev_name ok rfl) (by first | (first | assumption | decide | exact Nat.le_trans (by assumption) (by decide) | exact Nat.le_trans (Nat.add_le_add (by assumption) (by assumption)) (by decide) | exact Nat.lt_of_le_of_lt (by assumption) (by decide) | exact Nat.lt_of_lt_of_le (by assumption) (by decide) | lia | omega) | (simp only [List.length_append, List.length_take, List.length_drop, List.length_cons, List.length_nil]; (first | assumption | decide | exact Nat.le_trans (by assumption) (by decide) | exact Nat.le_trans (Nat.add_le_add (by assumption) (by assumption)) (by decide) | exact Nat.lt_of_le_of_lt (by assumption) (by decide) | exact Nat.lt_of_lt_of_le (by assumption) (by decide) | lia | omega))) (by (first | assumption | decide | exact Nat.le_trans (by assumption) (by decide) | exact Nat.le_trans (Nat.add_le_add (by assumption) (by assumption)) (by decide) | exact Nat.lt_of_le_of_lt (by assumption) (by decide) | exact Nat.lt_of_lt_of_le (by assumption) (by decide) | lia | omega))) ev_bool k.f1) ?_
          exact turn_end0 hPo (sub_of rfl) rfl
        | 1, rfl =>
          refine ⟨_, bnd_name ok rfl, ?_⟩
          refine ex_if_no (tr_isnt (ev_ell (want := row.take (row.length - 1)) ok cal hlv rfl (ev_name ok rfl) (ev_name ok rfl) (by first | (first | assumption | decide | exact Nat.le_trans (by assumption) (by decide) | exact Nat.le_trans (Nat.add_le_add (by assumption) (by assumption)) (by decide) | exact Nat.lt_of_le_of_lt (by assumption) (by decide) | exact Nat.lt_of_lt_of_le (by assumption) (by decide) | lia | omega) | (simp only [List.length_append, List.length_take, List.length_drop, List.length_cons, List.length_nil]; (first | assumption | decide | exact Nat.le_trans (by assumption) (by decide) | exact Nat.le_trans (Nat.add_le_add (by assumption) (by assumption)) (by decide) | exact Nat.lt_of_le_of_lt (by assumption) (by decide) | exact Nat.lt_of_lt_of_le (by assumption) (by decide) | lia | omega))) (by (first | assumption | decide | exact Nat.le_trans (by assumption) (by decide) | exact Nat.le_trans (Nat.add_le_add (by assumption) (by assumption)) (by decide) | exact Nat.lt_of_le_of_lt (by assumption) (by decide) | exact Nat.lt_of_lt_of_le (by assumption) (by decide) | lia | omega))) ev_bool k.f2) ?_
          exact turn_end0 hPo (sub_of rfl) rfl
        | 2, rfl =>
          refine ⟨_, bnd_name ok rfl, ?_⟩
          refine ex_if_no (tr_isnt (ev_ell (want := row.drop 1 ++ row.take 1) ok cal hlv rfl (ev_name ok rfl) (ev_name ok rfl) (by first | (first | assumption | decide | exact Nat.le_trans (by assumption) (by decide) | exact Nat.le_trans (Nat.add_le_add (by assumption) (by assumption)) (by decide) | exact Nat.lt_of_le_of_lt (by assumption) (by decide) | exact Nat.lt_of_lt_of_le (by assumption) (by decide) | lia | omega) | (simp only [List.length_append, List.length_take, List.length_drop, List.length_cons, List.length_nil]; (first | assumption | decide | exact Nat.le_trans (by assumption) (by decide) | exact Nat.le_trans (Nat.add_le_add (by assumption) (by assumption)) (by decide) | exact Nat.lt_of_le_of_lt (by assumption) (by decide) | exact Nat.lt_of_lt_of_le (by assumption) (by decide) | lia | omega))) (by (first | assumption | decide | exact Nat.le_trans (by assumption) (by decide) | exact Nat.le_trans (Nat.add_le_add (by assumption) (by assumption)) (by decide) | exact Nat.lt_of_le_of_lt (by assumption) (by decide) | exact Nat.lt_of_lt_of_le (by assumption) (by decide) | lia | omega))) ev_bool k.f3) ?_
          exact turn_end0 hPo (sub_of rfl) rfl
        | 3, rfl =>
          refine ⟨_, bnd_name ok rfl, ?_⟩
          refine ex_if_no (tr_isnt (ev_ell (want := row ++ row.take 1) ok cal hlv rfl (ev_name ok rfl) (ev_name ok rfl) (by first | (first | assumption | decide | exact Nat.le_trans (by assumption) (by decide) | exact Nat.le_trans (Nat.add_le_add (by assumption) (by assumption)) (by decide) | exact Nat.lt_of_le_of_lt (by assumption) (by decide) | exact Nat.lt_of_lt_of_le (by assumption) (by decide) | lia | omega) | (simp only [List.length_append, List.length_take, List.length_drop, List.length_cons, List.length_nil]; (first | assumption | decide | exact Nat.le_trans (by assumption) (by decide) | exact Nat.le_trans (Nat.add_le_add (by assumption) (by assumption)) (by decide) | exact Nat.lt_of_le_of_lt (by assumption) (by decide) | exact Nat.lt_of_lt_of_le (by assumption) (by decide) | lia | omega))) (by (first | assumption | decide | exact Nat.le_trans (by assumption) (by decide) | exact Nat.le_trans (Nat.add_le_add (by assumption) (by assumption)) (by decide) | exact Nat.lt_of_le_of_lt (by assumption) (by decide) | exact Nat.lt_of_lt_of_le (by assumption) (by decide) | lia | omega))) ev_bool k.f4) ?_
          exact turn_end0 hPo (sub_of rfl) rfl
        | 4, rfl =>
          refine ⟨_, bnd_name ok rfl, ?_⟩
          refine ex_if_no (tr_isnt (ev_ell (want := row.take 1 ++ row) ok cal hlv rfl (ev_name ok rfl) (ev_name ok rfl) (by first | (first | assumption | decide | exact Nat.le_trans (by assumption) (by decide) | exact Nat.le_trans (Nat.add_le_add (by assumption) (by assumption)) (by decide) | exact Nat.lt_of_le_of_lt (by assumption) (by decide) | exact Nat.lt_of_lt_of_le (by assumption) (by decide) | lia | omega) | (simp only [List.length_append, List.length_take, List.length_drop, List.length_cons, List.length_nil]; (first | assumption | decide | exact Nat.le_trans (by assumption) (by decide) | exact Nat.le_trans (Nat.add_le_add (by assumption) (by assumption)) (by decide) | exact Nat.lt_of_le_of_lt (by assumption) (by decide) | exact Nat.lt_of_lt_of_le (by assumption) (by decide) | lia | omega))) (by (first | assumption | decide | exact Nat.le_trans (by assumption) (by decide) | exact Nat.le_trans (Nat.add_le_add (by assumption) (by assumption)) (by decide) | exact Nat.lt_of_le_of_lt (by assumption) (by decide) | exact Nat.lt_of_lt_of_le (by assumption) (by decide) | lia | omega))) ev_bool k.f5) ?_
          exact turn_end0 hPo (sub_of rfl) rfl
        | 5, rfl =>
          refine ⟨_, bnd_name ok rfl, ?_⟩
          refine ex_if_no (tr_isnt (ev_ell (want := row.take cut ++ [46, 46] ++ row.drop cut) ok cal hlv rfl (ev_name ok rfl) (ev_name ok rfl) (by first | (first | assumption | decide | exact Nat.le_trans (by assumption) (by decide) | exact Nat.le_trans (Nat.add_le_add (by assumption) (by assumption)) (by decide) | exact Nat.lt_of_le_of_lt (by assumption) (by decide) | exact Nat.lt_of_lt_of_le (by assumption) (by decide) | lia | omega) | (simp only [List.length_append, List.length_take, List.length_drop, List.length_cons, List.length_nil]; (first | assumption | decide | exact Nat.le_trans (by assumption) (by decide) | exact Nat.le_trans (Nat.add_le_add (by assumption) (by assumption)) (by decide) | exact Nat.lt_of_le_of_lt (by assumption) (by decide) | exact Nat.lt_of_lt_of_le (by assumption) (by decide) | lia | omega))) (by (first | assumption | decide | exact Nat.le_trans (by assumption) (by decide) | exact Nat.le_trans (Nat.add_le_add (by assumption) (by assumption)) (by decide) | exact Nat.lt_of_le_of_lt (by assumption) (by decide) | exact Nat.lt_of_lt_of_le (by assumption) (by decide) | lia | omega))) ev_bool k.f6) ?_
          exact turn_end0 hPo (sub_of rfl) rfl
        | 6, rfl =>
          refine ⟨_, bnd_name ok rfl, ?_⟩
          refine ex_if_no (tr_isnt (ev_ell (want := row.take cut ++ [46, 46, 46, 46] ++ row.drop cut) ok cal hlv rfl (ev_name ok rfl) (ev_name ok rfl) (by first | (first | assumption | decide | exact Nat.le_trans (by assumption) (by decide) | exact Nat.le_trans (Nat.add_le_add (by assumption) (by assumption)) (by decide) | exact Nat.lt_of_le_of_lt (by assumption) (by decide) | exact Nat.lt_of_lt_of_le (by assumption) (by decide) | lia | omega) | (simp only [List.length_append, List.length_take, List.length_drop, List.length_cons, List.length_nil]; (first | assumption | decide | exact Nat.le_trans (by assumption) (by decide) | exact Nat.le_trans (Nat.add_le_add (by assumption) (by assumption)) (by decide) | exact Nat.lt_of_le_of_lt (by assumption) (by decide) | exact Nat.lt_of_lt_of_le (by assumption) (by decide) | lia | omega))) (by (first | assumption | decide | exact Nat.le_trans (by assumption) (by decide) | exact Nat.le_trans (Nat.add_le_add (by assumption) (by assumption)) (by decide) | exact Nat.lt_of_le_of_lt (by assumption) (by decide) | exact Nat.lt_of_lt_of_le (by assumption) (by decide) | lia | omega))) ev_bool k.f7) ?_
          exact turn_end0 hPo (sub_of rfl) rfl
        | i + 7, hd => exact absurd hd (by simp)
      · refine ex_weak (fun s st => ?_) h
        exact st.env (sub_of rfl)
end Mine
end

section
open PySem PySem.W PyProof.Rows PySem.Calls
set_option maxRecDepth 100000
set_option linter.all false
set_option maxHeartbeats 1600000
namespace Mine
theorem flat1 (c : Nat) : ∀ n, (List.replicate n [c]).flatten = List.replicate n c
  | 0 => rfl
  | n + 1 => by rw [List.replicate_succ, List.flatten_cons, flat1 c n]; rfl
section
variable {C : Cx} {ρ : AEnv} {μ : Mu} {e₁ e₂ e l r : Expr} {pos np p3 : Pos}
theorem ev_mulSI {c : Nat} {a : Int} (h1 : Ev C ρ μ l (.str (S [c]))) (h2 : Ev C ρ μ r (.int a)) (hlo : -1000 ≤ a) (hhi : a ≤ 1000) : Ev C ρ μ (.BinOp l .Mult r pos) (.str (S (List.replicate a.toNat c))) := by
  by_cases h0 : 0 ≤ a
  · have e : a = ((a.toNat : Nat) : Int) := by (first | assumption | decide | exact Nat.le_trans (by assumption) (by decide) | exact Nat.le_trans (Nat.add_le_add (by assumption) (by assumption)) (by decide) | exact Nat.lt_of_le_of_lt (by assumption) (by decide) | exact Nat.lt_of_lt_of_le (by assumption) (by decide) | lia | omega)
    rw [e] at h2
    exact ev_of (ev_mulSN a.toNat h1 h2 (by show 1 ≤ 1000; (first | assumption | decide | exact Nat.le_trans (by assumption) (by decide) | exact Nat.le_trans (Nat.add_le_add (by assumption) (by assumption)) (by decide) | exact Nat.lt_of_le_of_lt (by assumption) (by decide) | exact Nat.lt_of_lt_of_le (by assumption) (by decide) | lia | omega)) (by (first | assumption | decide | exact Nat.le_trans (by assumption) (by decide) | exact Nat.le_trans (Nat.add_le_add (by assumption) (by assumption)) (by decide) | exact Nat.lt_of_le_of_lt (by assumption) (by decide) | exact Nat.lt_of_lt_of_le (by assumption) (by decide) | lia | omega))) (by rw [flat1])
  · refine ev_of (ev_mulS h1 h2 ⟨?_, fun h => absurd (by (first | assumption | decide | exact Nat.le_trans (by assumption) (by decide) | exact Nat.le_trans (Nat.add_le_add (by assumption) (by assumption)) (by decide) | exact Nat.lt_of_le_of_lt (by assumption) (by decide) | exact Nat.lt_of_lt_of_le (by assumption) (by decide) | lia | omega)) h, fun h => absurd (by (first | assumption | decide | exact Nat.le_trans (by assumption) (by decide) | exact Nat.le_trans (Nat.add_le_add (by assumption) (by assumption)) (by decide) | exact Nat.lt_of_le_of_lt (by assumption) (by decide) | exact Nat.lt_of_lt_of_le (by assumption) (by decide) | lia | omega)) h⟩) ?_
    · rw [decide_eq_false (by (first | assumption | decide | exact Nat.le_trans (by assumption) (by decide) | exact Nat.le_trans (Nat.add_le_add (by assumption) (by assumption)) (by decide) | exact Nat.lt_of_le_of_lt (by assumption) (by decide) | exact Nat.lt_of_lt_of_le (by assumption) (by decide) | lia | omega)), decide_eq_false (by (first | assumption | decide | exact Nat.le_trans (by assumption) (by decide) | exact Nat.le_trans (Nat.add_le_add (by assumption) (by assumption)) (by decide) | exact Nat.lt_of_le_of_lt (by assumption) (by decide) | exact Nat.lt_of_lt_of_le (by assumption) (by decide) | lia | omega))]; rfl
    · have e : a.toNat = 0 := by (first | assumption | decide | exact Nat.le_trans (by assumption) (by decide) | exact Nat.le_trans (Nat.add_le_add (by assumption) (by assumption)) (by decide) | exact Nat.lt_of_le_of_lt (by assumption) (by decide) | exact Nat.lt_of_lt_of_le (by assumption) (by decide) | lia | omega)
      rw [e]
      unfold Txt.mul
      rw [if_pos (by (first | assumption | decide | exact Nat.le_trans (by assumption) (by decide) | exact Nat.le_trans (Nat.add_le_add (by assumption) (by assumption)) (by decide) | exact Nat.lt_of_le_of_lt (by assumption) (by decide) | exact Nat.lt_of_lt_of_le (by assumption) (by decide) | lia | omega))]
      rfl
theorem ev_chk {x : List Nat} (ok : C.Ok) (cal : C.Cal) (hlv : 4 ≤ C.lvl) (hx : C.env.kindOf "_check_parenthesis" = some .globalImplicit) (h1 : Ev C ρ μ e₁ (.str (S x))) (hw : x.length ≤ 2000)
    (hse : starEach [e₁] C.env = [(false, eval e₁ C.env)] := by rfl) :
    Ev C ρ μ (.Call (.Name "_check_parenthesis" np) [e₁] [] pos) (.bool (chkL x)) := ev_call1 ok cal (fn42 x hw) (by (first | assumption | decide | exact Nat.le_trans (by assumption) (by decide) | exact Nat.le_trans (Nat.add_le_add (by assumption) (by assumption)) (by decide) | exact Nat.lt_of_le_of_lt (by assumption) (by decide) | exact Nat.lt_of_lt_of_le (by assumption) (by decide) | lia | omega)) hx (fun _ => rfl) (fun _ => rfl) h1 hse
end
/-- how many of the first k are ahead of j -/
noncomputable def manyTo (m n j : Nat) : Nat → Nat
  | 0 => 0
  | k + 1 => manyTo m n j k + (if (k + 1) * n < j * m then 1 else 0)
theorem manyTo_le (m n j : Nat) : ∀ k, manyTo m n j k ≤ k
  | 0 => Nat.le_refl _
  | k + 1 => by have := manyTo_le m n j k; unfold manyTo; split <;> (first | assumption | decide | exact Nat.le_trans (by assumption) (by decide) | exact Nat.le_trans (Nat.add_le_add (by assumption) (by assumption)) (by decide) | exact Nat.lt_of_le_of_lt (by assumption) (by decide) | exact Nat.lt_of_lt_of_le (by assumption) (by decide) | lia | omega)
noncomputable def aheadTo (m n : Nat) : Nat → Nat
  | 0 => 0
  | j + 1 => aheadTo m n j + manyTo m n (j + 1) (m / 2)
/-- what the law asks at the j-th closing sign -/
structure LowOk (row : List Nat) (m n base j : Nat) : Prop where
  a : ∀ k, 1 ≤ k → k ≤ m / 2 → ellL ([46, 46, 46, 40] ++ [base + k] ++ [46, 46, 46] ++ [41, base + 31 + j] ++ [46, 46, 46]) row = decide (k * n < j * m)
  b : ∃ ix, fnd [41, base + 31 + j] row = some ix ∧ ix + 2 ≤ row.length ∧ chkL (List.replicate (j - manyTo m n j (m / 2)) 40 ++ row.take (ix + 2) ++ List.replicate (manyTo m n j (m / 2) - j) 41) = true

theorem law_low (P : PySem.Params) : M1 P 19 fun b C => ∀ (row : List Nat) (m n base : Nat), (∀ j, 1 ≤ j → j ≤ n / 2 → LowOk row m n base j) → m ≤ 100 → n ≤ 100 → base ≤ 100000 → row.length ≤ 500 →
    Ex C [("ahead", .dat (.int (aheadTo m n (n / 2)))), ("row", .dat (.str (S row))), ("m", .dat (.int m)), ("n", .dat (.int n)), ("base", .dat (.int base))] [] [] (b.drop 2) (RetP C (.bool true)) →
    Ex C [("row", .dat (.str (S row))), ("m", .dat (.int m)), ("n", .dat (.int n)), ("base", .dat (.int base))] [] [] b (RetP C (.bool true)) := by
  refine lawSeg_intro rfl ?_
  intro w L A g os lvl hP ok cal hlv row m n base hk hm hn hb hr h
  refine ex_assign ok ev_int rfl ?_
  refine ex_for (σ := Nat) (fun a => [("ahead", .dat (.int (aheadTo m n a))), ("row", .dat (.str (S row))), ("m", .dat (.int m)), ("n", .dat (.int n)), ("base", .dat (.int base))]) (fun _ => []) (fun _ => []) (fun i a => a = i) 0 ok
    (itb_range1N (h := n / 2) ok rfl (fun _ => rfl) ev_int (ev_addN 1 (ev_fdivN 2 (ev_name ok rfl) ev_int (by decide) (by decide)) ev_int) (by (first | assumption | decide | exact Nat.le_trans (by assumption) (by decide) | exact Nat.le_trans (Nat.add_le_add (by assumption) (by assumption)) (by decide) | exact Nat.lt_of_le_of_lt (by assumption) (by decide) | exact Nat.lt_of_lt_of_le (by assumption) (by decide) | lia | omega))) rfl (sub_of rfl) tmp_nil rfl ?_ ?_
  · rintro i a d τ' I o Pp hd rfl hτ hPo
    obtain ⟨rfl, hlt⟩ := intsFrom_get _ _ _ _ hd
    rw [show (1 + (a : Int)) = ((a + 1 : Nat) : Int) by (first | assumption | decide | exact Nat.le_trans (by assumption) (by decide) | exact Nat.le_trans (Nat.add_le_add (by assumption) (by assumption)) (by decide) | exact Nat.lt_of_le_of_lt (by assumption) (by decide) | exact Nat.lt_of_lt_of_le (by assumption) (by decide) | lia | omega)]
    refine ⟨_, bnd_name ok rfl, ?_⟩
    have k := hk (a + 1) (by (first | assumption | decide | exact Nat.le_trans (by assumption) (by decide) | exact Nat.le_trans (Nat.add_le_add (by assumption) (by assumption)) (by decide) | exact Nat.lt_of_le_of_lt (by assumption) (by decide) | exact Nat.lt_of_lt_of_le (by assumption) (by decide) | lia | omega)) (by (first | assumption | decide | exact Nat.le_trans (by assumption) (by decide) | exact Nat.le_trans (Nat.add_le_add (by assumption) (by assumption)) (by decide) | exact Nat.lt_of_le_of_lt (by assumption) (by decide) | exact Nat.lt_of_lt_of_le (by assumption) (by decide) | lia | omega))
    obtain ⟨ix, hix, hixl, hchk⟩ := k.b
    refine ex_assign ok (d := .str (S [41, base + 31 + (a + 1)])) (ev_catS (x := [41]) (y := [base + 31 + (a + 1)]) (ev_strS [41] rfl) (ev_chrN ok rfl (fun _ => rfl) (ev_addN (a + 1) (ev_addN 31 (ev_name ok rfl) ev_int) (ev_name ok rfl)) (by (first | assumption | decide | exact Nat.le_trans (by assumption) (by decide) | exact Nat.le_trans (Nat.add_le_add (by assumption) (by assumption)) (by decide) | exact Nat.lt_of_le_of_lt (by assumption) (by decide) | exact Nat.lt_of_lt_of_le (by assumption) (by decide) | lia | omega))) (by show 1 ≤ 8000; (first | assumption | decide | exact Nat.le_trans (by assumption) (by decide) | exact Nat.le_trans (Nat.add_le_add (by assumption) (by assumption)) (by decide) | exact Nat.lt_of_le_of_lt (by assumption) (by decide) | exact Nat.lt_of_lt_of_le (by assumption) (by decide) | lia | omega)) (by show 1 ≤ 8000; (first | assumption | decide | exact Nat.le_trans (by assumption) (by decide) | exact Nat.le_trans (Nat.add_le_add (by assumption) (by assumption)) (by decide) | exact Nat.lt_of_le_of_lt (by assumption) (by decide) | exact Nat.lt_of_lt_of_le (by assumption) (by decide) | lia | omega))) rfl ?_
    refine ex_assign ok ev_int rfl ?_
    refine ex_for (σ := Nat) (fun c => [("many", .dat (.int (manyTo m n (a + 1) c))), ("low", .dat (.str (S [41, base + 31 + (a + 1)]))), ("j", .dat (.int ((a + 1 : Nat) : Int))), ("ahead", .dat (.int (aheadTo m n a))), ("row", .dat (.str (S row))), ("m", .dat (.int m)), ("n", .dat (.int n)), ("base", .dat (.int base))]) (fun _ => []) (fun _ => [(I, o)]) (fun i c => c = i) 0 ok
      (itb_range1N (h := m / 2) ok rfl (fun _ => rfl) ev_int (ev_addN 1 (ev_fdivN 2 (ev_name ok rfl) ev_int (by decide) (by decide)) ev_int) (by (first | assumption | decide | exact Nat.le_trans (by assumption) (by decide) | exact Nat.le_trans (Nat.add_le_add (by assumption) (by assumption)) (by decide) | exact Nat.lt_of_le_of_lt (by assumption) (by decide) | exact Nat.lt_of_lt_of_le (by assumption) (by decide) | lia | omega))) rfl (sub_of rfl) tmp_nil rfl ?_ ?_
    · rintro i2 c d2 τ2 I2 o2 P2 hd2 rfl hτ2 hP2
      obtain ⟨rfl, hlt2⟩ := intsFrom_get _ _ _ _ hd2
      rw [show (1 + (c : Int)) = ((c + 1 : Nat) : Int) by (first | assumption | decide | exact Nat.le_trans (by assumption) (by decide) | exact Nat.le_trans (Nat.add_le_add (by assumption) (by assumption)) (by decide) | exact Nat.lt_of_le_of_lt (by assumption) (by decide) | exact Nat.lt_of_lt_of_le (by assumption) (by decide) | lia | omega)]
      refine ⟨_, bnd_name ok rfl, ?_⟩
      have h1 : (c + 1) * n ≤ 100 * 100 := Nat.mul_le_mul (by (first | assumption | decide | exact Nat.le_trans (by assumption) (by decide) | exact Nat.le_trans (Nat.add_le_add (by assumption) (by assumption)) (by decide) | exact Nat.lt_of_le_of_lt (by assumption) (by decide) | exact Nat.lt_of_lt_of_le (by assumption) (by decide) | lia | omega)) hn
      have h2 : (a + 1) * m ≤ 100 * 100 := Nat.mul_le_mul (by (first | assumption | decide | exact Nat.le_trans (by assumption) (by decide) | exact Nat.le_trans (Nat.add_le_add (by assumption) (by assumption)) (by decide) | exact Nat.lt_of_le_of_lt (by assumption) (by decide) | exact Nat.lt_of_lt_of_le (by assumption) (by decide) | lia | omega)) hm
      refine ex_assign ok (d := .bool (decide ((c + 1) * n < (a + 1) * m))) (ev_of (ev_ell (want := [46, 46, 46, 40] ++ [base + (c + 1)] ++ [46, 46, 46] ++ [41, base + 31 + (a + 1)] ++ [46, 46, 46]) ok cal hlv rfl
        (ev_catS (ev_catS (ev_catS (ev_catS (ev_strS [46, 46, 46, 40] rfl) (ev_chrN (a := base + (c + 1)) ok rfl (fun _ => rfl) (ev_addN (c + 1) (ev_name ok rfl) (ev_name ok rfl)) (by (first | assumption | decide | exact Nat.le_trans (by assumption) (by decide) | exact Nat.le_trans (Nat.add_le_add (by assumption) (by assumption)) (by decide) | exact Nat.lt_of_le_of_lt (by assumption) (by decide) | exact Nat.lt_of_lt_of_le (by assumption) (by decide) | lia | omega))) (by show 4 ≤ 8000; (first | assumption | decide | exact Nat.le_trans (by assumption) (by decide) | exact Nat.le_trans (Nat.add_le_add (by assumption) (by assumption)) (by decide) | exact Nat.lt_of_le_of_lt (by assumption) (by decide) | exact Nat.lt_of_lt_of_le (by assumption) (by decide) | lia | omega)) (by show 1 ≤ 8000; (first | assumption | decide | exact Nat.le_trans (by assumption) (by decide) | exact Nat.le_trans (Nat.add_le_add (by assumption) (by assumption)) (by decide) | exact Nat.lt_of_le_of_lt (by assumption) (by decide) | exact Nat.lt_of_lt_of_le (by assumption) (by decide) | lia | omega))) (ev_strS [46, 46, 46] rfl) (by show 5 ≤ 8000; (first | assumption | decide | exact Nat.le_trans (by assumption) (by decide) | exact Nat.le_trans (Nat.add_le_add (by assumption) (by assumption)) (by decide) | exact Nat.lt_of_le_of_lt (by assumption) (by decide) | exact Nat.lt_of_lt_of_le (by assumption) (by decide) | lia | omega)) (by show 3 ≤ 8000; (first | assumption | decide | exact Nat.le_trans (by assumption) (by decide) | exact Nat.le_trans (Nat.add_le_add (by assumption) (by assumption)) (by decide) | exact Nat.lt_of_le_of_lt (by assumption) (by decide) | exact Nat.lt_of_lt_of_le (by assumption) (by decide) | lia | omega))) (ev_name ok rfl) (by show 8 ≤ 8000; (first | assumption | decide | exact Nat.le_trans (by assumption) (by decide) | exact Nat.le_trans (Nat.add_le_add (by assumption) (by assumption)) (by decide) | exact Nat.lt_of_le_of_lt (by assumption) (by decide) | exact Nat.lt_of_lt_of_le (by assumption) (by decide) | lia | omega)) (by show 2 ≤ 8000; (first | assumption | decide | exact Nat.le_trans (by assumption) (by decide) | exact Nat.le_trans (Nat.add_le_add (by assumption) (by assumption)) (by decide) | exact Nat.lt_of_le_of_lt (by assumption) (by decide) | exact Nat.lt_of_lt_of_le (by assumption) (by decide) | lia | omega))) (ev_strS [46, 46, 46] rfl) (by show 10 ≤ 8000; (first | assumption | decide | exact Nat.le_trans (by assumption) (by decide) | exact Nat.le_trans (Nat.add_le_add (by assumption) (by assumption)) (by decide) | exact Nat.lt_of_le_of_lt (by assumption) (by decide) | exact Nat.lt_of_lt_of_le (by assumption) (by decide) | lia | omega)) (by show 3 ≤ 8000; (first | assumption | decide | exact Nat.le_trans (by assumption) (by decide) | exact Nat.le_trans (Nat.add_le_add (by assumption) (by assumption)) (by decide) | exact Nat.lt_of_le_of_lt (by assumption) (by decide) | exact Nat.lt_of_lt_of_le (by assumption) (by decide) | lia | omega)))
        (ev_name ok rfl) (by show 13 ≤ 2000; (first | assumption | decide | exact Nat.le_trans (by assumption) (by decide) | exact Nat.le_trans (Nat.add_le_add (by assumption) (by assumption)) (by decide) | exact Nat.lt_of_le_of_lt (by assumption) (by decide) | exact Nat.lt_of_lt_of_le (by assumption) (by decide) | lia | omega)) (by (first | assumption | decide | exact Nat.le_trans (by assumption) (by decide) | exact Nat.le_trans (Nat.add_le_add (by assumption) (by assumption)) (by decide) | exact Nat.lt_of_le_of_lt (by assumption) (by decide) | exact Nat.lt_of_lt_of_le (by assumption) (by decide) | lia | omega))) (congrArg Dat.bool (k.a (c + 1) (by (first | assumption | decide | exact Nat.le_trans (by assumption) (by decide) | exact Nat.le_trans (Nat.add_le_add (by assumption) (by assumption)) (by decide) | exact Nat.lt_of_le_of_lt (by assumption) (by decide) | exact Nat.lt_of_lt_of_le (by assumption) (by decide) | lia | omega)) (by (first | assumption | decide | exact Nat.le_trans (by assumption) (by decide) | exact Nat.le_trans (Nat.add_le_add (by assumption) (by assumption)) (by decide) | exact Nat.lt_of_le_of_lt (by assumption) (by decide) | exact Nat.lt_of_lt_of_le (by assumption) (by decide) | lia | omega))))) rfl ?_
      refine ex_if_no (tr_isnt (ev_name ok rfl) (ev_of (ev_cmp (ev_mulN n (ev_name ok rfl) (ev_name ok rfl) (by (first | assumption | decide | exact Nat.le_trans (by assumption) (by decide) | exact Nat.le_trans (Nat.add_le_add (by assumption) (by assumption)) (by decide) | exact Nat.lt_of_le_of_lt (by assumption) (by decide) | exact Nat.lt_of_lt_of_le (by assumption) (by decide) | lia | omega))) (ev_mulN m (ev_name ok rfl) (ev_name ok rfl) (by (first | assumption | decide | exact Nat.le_trans (by assumption) (by decide) | exact Nat.le_trans (Nat.add_le_add (by assumption) (by assumption)) (by decide) | exact Nat.lt_of_le_of_lt (by assumption) (by decide) | exact Nat.lt_of_lt_of_le (by assumption) (by decide) | lia | omega))) cmp_lt) (congrArg Dat.bool (decide_eq_decide.mpr Int.ofNat_lt : decide (((((c + 1) * n : Nat) : Int)) < (((a + 1) * m : Nat) : Int)) = decide ((c + 1) * n < (a + 1) * m)))) rfl) ?_
      refine ex_assign ok (d := .int (manyTo m n (a + 1) (c + 1))) (ev_addN (if (c + 1) * n < (a + 1) * m then 1 else 0) (ev_name ok rfl) (ev_ifexp (tr_bool (ev_name ok rfl)) (fun hc => ev_of ev_int (by rw [if_pos (of_decide_eq_true hc)]; rfl)) (fun hc => ev_of ev_int (by rw [if_neg (of_decide_eq_false hc)]; rfl)))) rfl ?_
      exact turn_end (c + 1) rfl hP2 (sub_of rfl) (fun p hp => hp) rfl
    · rintro c hc
      rw [intsFrom_length] at hc
      subst hc
      have hml := manyTo_le m n (a + 1) (m / 2)
      generalize hM : manyTo m n (a + 1) (m / 2) = M at *
      have ha1 : a + 1 ≤ 100 := by (first | assumption | decide | exact Nat.le_trans (by assumption) (by decide) | exact Nat.le_trans (Nat.add_le_add (by assumption) (by assumption)) (by decide) | exact Nat.lt_of_le_of_lt (by assumption) (by decide) | exact Nat.lt_of_lt_of_le (by assumption) (by decide) | lia | omega)
      have hM1 : M ≤ 100 := by (first | assumption | decide | exact Nat.le_trans (by assumption) (by decide) | exact Nat.le_trans (Nat.add_le_add (by assumption) (by assumption)) (by decide) | exact Nat.lt_of_le_of_lt (by assumption) (by decide) | exact Nat.lt_of_lt_of_le (by assumption) (by decide) | lia | omega)
      have q1 : (((a + 1 : Nat) : Int) - (M : Int)).toNat = a + 1 - M := Int.toNat_sub _ _
      have q2 : ((M : Int) - ((a + 1 : Nat) : Int)).toNat = M - (a + 1) := Int.toNat_sub _ _
      have g1 : a + 1 - M ≤ 100 := Nat.le_trans (Nat.sub_le _ _) ha1
      have g2 : M - (a + 1) ≤ 100 := Nat.le_trans (Nat.sub_le _ _) hM1
      have g3 : (row.take (ix + 2)).length ≤ 500 := Nat.le_trans (List.length_take_le' _ _) hr
      have g4 : -1000 ≤ ((a + 1 : Nat) : Int) - (M : Int) ∧ ((a + 1 : Nat) : Int) - (M : Int) ≤ 1000 := by (first | assumption | decide | exact Nat.le_trans (by assumption) (by decide) | exact Nat.le_trans (Nat.add_le_add (by assumption) (by assumption)) (by decide) | exact Nat.lt_of_le_of_lt (by assumption) (by decide) | exact Nat.lt_of_lt_of_le (by assumption) (by decide) | lia | omega)
      have g5 : -1000 ≤ (M : Int) - ((a + 1 : Nat) : Int) ∧ (M : Int) - ((a + 1 : Nat) : Int) ≤ 1000 := by (first | assumption | decide | exact Nat.le_trans (by assumption) (by decide) | exact Nat.le_trans (Nat.add_le_add (by assumption) (by assumption)) (by decide) | exact Nat.lt_of_le_of_lt (by assumption) (by decide) | exact Nat.lt_of_lt_of_le (by assumption) (by decide) | lia | omega)
      refine ex_assign ok (d := .str (S (row.take (ix + 2)))) (ev_sliceNs (b := ix + 2) (ev_name ok rfl) (ev_addN 2 (ev_indexS (ev_name ok rfl) (ev_name ok rfl) hix) ev_int) hixl (by (first | assumption | decide | exact Nat.le_trans (by assumption) (by decide) | exact Nat.le_trans (Nat.add_le_add (by assumption) (by assumption)) (by decide) | exact Nat.lt_of_le_of_lt (by assumption) (by decide) | exact Nat.lt_of_lt_of_le (by assumption) (by decide) | lia | omega))) rfl ?_
      refine ex_if_no (tr_isnt (ev_chk (x := List.replicate (((a + 1 : Nat) : Int) - (M : Int)).toNat 40 ++ row.take (ix + 2) ++ List.replicate ((M : Int) - ((a + 1 : Nat) : Int)).toNat 41) ok cal hlv rfl
        (ev_catS (ev_catS (ev_mulSI (c := 40) (ev_strS [40] rfl) (ev_sub (ev_name ok rfl) (ev_name ok rfl)) g4.1 g4.2) (ev_name ok rfl) (by rw [List.length_replicate, q1]; exact Nat.le_trans g1 (by decide)) (Nat.le_trans g3 (by decide))) (ev_mulSI (c := 41) (ev_strS [41] rfl) (ev_sub (ev_name ok rfl) (ev_name ok rfl)) g5.1 g5.2) (by rw [List.length_append, List.length_replicate, q1]; exact Nat.le_trans (Nat.add_le_add g1 g3) (by decide)) (by rw [List.length_replicate, q2]; exact Nat.le_trans g2 (by decide)))
        (by rw [List.length_append, List.length_append, List.length_replicate, List.length_replicate, q1, q2]; exact Nat.le_trans (Nat.add_le_add (Nat.add_le_add g1 g3) g2) (by decide))) ev_bool (by rw [q1, q2]; exact hchk)) ?_
      refine ex_assign ok (d := .int (aheadTo m n (a + 1))) (ev_of (ev_addN M (ev_name ok rfl) (ev_name ok rfl)) (by rw [← hM]; rfl)) rfl ?_
      exact turn_end (a + 1) rfl hPo (sub_of rfl) (fun p hp => hp) rfl
  · rintro a ha
    rw [intsFrom_length] at ha
    subst ha
    exact h
end Mine
end

section
open PySem PySem.W PyProof.Rows PySem.Calls
set_option maxRecDepth 100000
set_option linter.all false
set_option maxHeartbeats 1600000
namespace Mine
noncomputable def leadOf (m n : Nat) : Int := ((m : Int) - (n : Int)).fdiv 2
noncomputable def squares (m : Nat) : List Int := (List.range (m - 1)).map fun i => (((i + 1) * (i + 1) % m : Nat) : Int)
noncomputable def squareB (m n : Nat) : Bool := (m == 9) || (squares m).any (· == ((n % m : Nat) : Int))
/-- what the law asks at its end -/
structure EndOk (row : List Nat) (m n base : Nat) : Prop where
  w1 : chkL (List.replicate (leadOf m n).toNat 41 ++ row ++ List.replicate (-leadOf m n).toNat 40) = false
  w2 : chkL (List.replicate (-leadOf m n).toNat 40 ++ row ++ List.replicate (leadOf m n).toNat 41 ++ [40]) = false
  le : aheadTo m n (n / 2) ≤ m / 2 * (n / 2)
  p1 : p257 (List.replicate (aheadTo m n (n / 2)) 34 ++ [base]) = List.replicate (aheadTo m n (n / 2) / 2) 34 ++ (if oddL m n then [] else [base])
  p2 : p257 (List.replicate (m / 2 * (n / 2) - aheadTo m n (n / 2)) 34 ++ [base]) = List.replicate ((m / 2 * (n / 2) - aheadTo m n (n / 2)) / 2) 34 ++ (if squareB m n then [base] else [])
section
variable {C : Cx} {ρ : AEnv} {μ : Mu} {e₁ e₂ e l r : Expr} {pos np p3 : Pos}
theorem ev_257 {rest : List Nat} (ok : C.Ok) (cal : C.Cal) (hlv : 4 ≤ C.lvl) (hx : C.env.kindOf "parse257" = some .globalImplicit) (h1 : Ev C ρ μ e₁ (.str (S ([50, 53, 55, 32, 34] ++ rest)))) (hw : rest.length ≤ 1000)
    (hse : starEach [e₁] C.env = [(false, eval e₁ C.env)] := by rfl) :
    Ev C ρ μ (.Call (.Name "parse257" np) [e₁] [] pos) (.str (S (p257 rest))) := ev_call1 ok cal (fn257 rest hw) (by (first | assumption | decide | exact Nat.le_trans (by assumption) (by decide) | exact Nat.le_trans (Nat.add_le_add (by assumption) (by assumption)) (by decide) | exact Nat.lt_of_le_of_lt (by assumption) (by decide) | exact Nat.lt_of_lt_of_le (by assumption) (by decide) | lia | omega)) hx (fun _ => rfl) (fun _ => rfl) h1 hse
end
theorem law_end (P : PySem.Params) : M1 P 21 fun b C => ∀ (row : List Nat) (m n base : Nat), EndOk row m n base → 1 ≤ m → m ≤ 100 → 1 ≤ n → n ≤ 100 → base ≤ 100000 → row.length ≤ 500 → aheadTo m n (n / 2) ≤ 500 → m / 2 * (n / 2) ≤ 500 →
    Ex C [("ahead", .dat (.int (aheadTo m n (n / 2)))), ("row", .dat (.str (S row))), ("m", .dat (.int m)), ("n", .dat (.int n)), ("base", .dat (.int base))] [] [] b (RetP C (.bool true)) := by
  refine lawSeg_intro rfl ?_
  intro w L A g os lvl hP ok cal hlv row m n base k hm1 hm hn1 hn hb hr hah hmn
  have hlead : -50 ≤ leadOf m n ∧ leadOf m n ≤ 50 := by
    unfold leadOf
    rw [Int.fdiv_eq_ediv_of_nonneg _ (by decide)]
    (first | assumption | decide | exact Nat.le_trans (by assumption) (by decide) | exact Nat.le_trans (Nat.add_le_add (by assumption) (by assumption)) (by decide) | exact Nat.lt_of_le_of_lt (by assumption) (by decide) | exact Nat.lt_of_lt_of_le (by assumption) (by decide) | lia | omega)
  have hle := k.le
  refine ex_assign ok (d := .int (leadOf m n)) (ev_fdiv (ev_sub (ev_name ok rfl) (ev_name ok rfl)) ev_int (by decide) (by decide)) rfl ?_
  have k1 := k.w1
  have k2 := k.w2
  generalize leadOf m n = ld at *
  have hl1 : (List.replicate ld.toNat 41).length ≤ 50 := by rw [List.length_replicate]; (first | assumption | decide | exact Nat.le_trans (by assumption) (by decide) | exact Nat.le_trans (Nat.add_le_add (by assumption) (by assumption)) (by decide) | exact Nat.lt_of_le_of_lt (by assumption) (by decide) | exact Nat.lt_of_lt_of_le (by assumption) (by decide) | lia | omega)
  have hl2 : (List.replicate (-ld).toNat 40).length ≤ 50 := by rw [List.length_replicate]; (first | assumption | decide | exact Nat.le_trans (by assumption) (by decide) | exact Nat.le_trans (Nat.add_le_add (by assumption) (by assumption)) (by decide) | exact Nat.lt_of_le_of_lt (by assumption) (by decide) | exact Nat.lt_of_lt_of_le (by assumption) (by decide) | lia | omega)
  have z1 : -1000 ≤ ld := by (first | assumption | decide | exact Nat.le_trans (by assumption) (by decide) | exact Nat.le_trans (Nat.add_le_add (by assumption) (by assumption)) (by decide) | exact Nat.lt_of_le_of_lt (by assumption) (by decide) | exact Nat.lt_of_lt_of_le (by assumption) (by decide) | lia | omega)
  have z2 : ld ≤ 1000 := by (first | assumption | decide | exact Nat.le_trans (by assumption) (by decide) | exact Nat.le_trans (Nat.add_le_add (by assumption) (by assumption)) (by decide) | exact Nat.lt_of_le_of_lt (by assumption) (by decide) | exact Nat.lt_of_lt_of_le (by assumption) (by decide) | lia | omega)
  have z3 : -1000 ≤ -ld := by (first | assumption | decide | exact Nat.le_trans (by assumption) (by decide) | exact Nat.le_trans (Nat.add_le_add (by assumption) (by assumption)) (by decide) | exact Nat.lt_of_le_of_lt (by assumption) (by decide) | exact Nat.lt_of_lt_of_le (by assumption) (by decide) | lia | omega)
  have z4 : -ld ≤ 1000 := by (first | assumption | decide | exact Nat.le_trans (by assumption) (by decide) | exact Nat.le_trans (Nat.add_le_add (by assumption) (by assumption)) (by decide) | exact Nat.lt_of_le_of_lt (by assumption) (by decide) | exact Nat.lt_of_lt_of_le (by assumption) (by decide) | lia | omega)
  refine ex_for0 ok (itb_tuple ok (ev_tuple (ds := [.str (S (List.replicate ld.toNat 41 ++ row ++ List.replicate (-ld).toNat 40)), .str (S (List.replicate (-ld).toNat 40 ++ row ++ List.replicate ld.toNat 41 ++ [40]))])
    ⟨ev_catS (ev_catS (ev_mulSI (ev_strS [41] rfl) (ev_name ok rfl) (by (first | assumption | decide | exact Nat.le_trans (by assumption) (by decide) | exact Nat.le_trans (Nat.add_le_add (by assumption) (by assumption)) (by decide) | exact Nat.lt_of_le_of_lt (by assumption) (by decide) | exact Nat.lt_of_lt_of_le (by assumption) (by decide) | lia | omega)) (by (first | assumption | decide | exact Nat.le_trans (by assumption) (by decide) | exact Nat.le_trans (Nat.add_le_add (by assumption) (by assumption)) (by decide) | exact Nat.lt_of_le_of_lt (by assumption) (by decide) | exact Nat.lt_of_lt_of_le (by assumption) (by decide) | lia | omega))) (ev_name ok rfl) (by (first | assumption | decide | exact Nat.le_trans (by assumption) (by decide) | exact Nat.le_trans (Nat.add_le_add (by assumption) (by assumption)) (by decide) | exact Nat.lt_of_le_of_lt (by assumption) (by decide) | exact Nat.lt_of_lt_of_le (by assumption) (by decide) | lia | omega)) (by (first | assumption | decide | exact Nat.le_trans (by assumption) (by decide) | exact Nat.le_trans (Nat.add_le_add (by assumption) (by assumption)) (by decide) | exact Nat.lt_of_le_of_lt (by assumption) (by decide) | exact Nat.lt_of_lt_of_le (by assumption) (by decide) | lia | omega))) (ev_mulSI (ev_strS [40] rfl) (ev_neg (ev_name ok rfl)) (by (first | assumption | decide | exact Nat.le_trans (by assumption) (by decide) | exact Nat.le_trans (Nat.add_le_add (by assumption) (by assumption)) (by decide) | exact Nat.lt_of_le_of_lt (by assumption) (by decide) | exact Nat.lt_of_lt_of_le (by assumption) (by decide) | lia | omega)) (by (first | assumption | decide | exact Nat.le_trans (by assumption) (by decide) | exact Nat.le_trans (Nat.add_le_add (by assumption) (by assumption)) (by decide) | exact Nat.lt_of_le_of_lt (by assumption) (by decide) | exact Nat.lt_of_lt_of_le (by assumption) (by decide) | lia | omega))) (by rw [List.length_append]; (first | assumption | decide | exact Nat.le_trans (by assumption) (by decide) | exact Nat.le_trans (Nat.add_le_add (by assumption) (by assumption)) (by decide) | exact Nat.lt_of_le_of_lt (by assumption) (by decide) | exact Nat.lt_of_lt_of_le (by assumption) (by decide) | lia | omega)) (by (first | assumption | decide | exact Nat.le_trans (by assumption) (by decide) | exact Nat.le_trans (Nat.add_le_add (by assumption) (by assumption)) (by decide) | exact Nat.lt_of_le_of_lt (by assumption) (by decide) | exact Nat.lt_of_lt_of_le (by assumption) (by decide) | lia | omega)), rfl,
      ev_catS (ev_catS (ev_catS (ev_mulSI (ev_strS [40] rfl) (ev_neg (ev_name ok rfl)) (by (first | assumption | decide | exact Nat.le_trans (by assumption) (by decide) | exact Nat.le_trans (Nat.add_le_add (by assumption) (by assumption)) (by decide) | exact Nat.lt_of_le_of_lt (by assumption) (by decide) | exact Nat.lt_of_lt_of_le (by assumption) (by decide) | lia | omega)) (by (first | assumption | decide | exact Nat.le_trans (by assumption) (by decide) | exact Nat.le_trans (Nat.add_le_add (by assumption) (by assumption)) (by decide) | exact Nat.lt_of_le_of_lt (by assumption) (by decide) | exact Nat.lt_of_lt_of_le (by assumption) (by decide) | lia | omega))) (ev_name ok rfl) (by (first | assumption | decide | exact Nat.le_trans (by assumption) (by decide) | exact Nat.le_trans (Nat.add_le_add (by assumption) (by assumption)) (by decide) | exact Nat.lt_of_le_of_lt (by assumption) (by decide) | exact Nat.lt_of_lt_of_le (by assumption) (by decide) | lia | omega)) (by (first | assumption | decide | exact Nat.le_trans (by assumption) (by decide) | exact Nat.le_trans (Nat.add_le_add (by assumption) (by assumption)) (by decide) | exact Nat.lt_of_le_of_lt (by assumption) (by decide) | exact Nat.lt_of_lt_of_le (by assumption) (by decide) | lia | omega))) (ev_mulSI (ev_strS [41] rfl) (ev_name ok rfl) (by (first | assumption | decide | exact Nat.le_trans (by assumption) (by decide) | exact Nat.le_trans (Nat.add_le_add (by assumption) (by assumption)) (by decide) | exact Nat.lt_of_le_of_lt (by assumption) (by decide) | exact Nat.lt_of_lt_of_le (by assumption) (by decide) | lia | omega)) (by (first | assumption | decide | exact Nat.le_trans (by assumption) (by decide) | exact Nat.le_trans (Nat.add_le_add (by assumption) (by assumption)) (by decide) | exact Nat.lt_of_le_of_lt (by assumption) (by decide) | exact Nat.lt_of_lt_of_le (by assumption) (by decide) | lia | omega))) (by rw [List.length_append]; (first | assumption | decide | exact Nat.le_trans (by assumption) (by decide) | exact Nat.le_trans (Nat.add_le_add (by assumption) (by assumption)) (by decide) | exact Nat.lt_of_le_of_lt (by assumption) (by decide) | exact Nat.lt_of_lt_of_le (by assumption) (by decide) | lia | omega)) (by (first | assumption | decide | exact Nat.le_trans (by assumption) (by decide) | exact Nat.le_trans (Nat.add_le_add (by assumption) (by assumption)) (by decide) | exact Nat.lt_of_le_of_lt (by assumption) (by decide) | exact Nat.lt_of_lt_of_le (by assumption) (by decide) | lia | omega))) (ev_strS [40] rfl) (by rw [List.length_append, List.length_append]; exact Nat.le_trans (Nat.add_le_add (Nat.add_le_add hl2 hr) hl1) (by decide)) (by show 1 ≤ 8000; (first | assumption | decide | exact Nat.le_trans (by assumption) (by decide) | exact Nat.le_trans (Nat.add_le_add (by assumption) (by assumption)) (by decide) | exact Nat.lt_of_le_of_lt (by assumption) (by decide) | exact Nat.lt_of_lt_of_le (by assumption) (by decide) | lia | omega)), rfl, trivial⟩ (by show 2 ≤ 100; (first | assumption | decide | exact Nat.le_trans (by assumption) (by decide) | exact Nat.le_trans (Nat.add_le_add (by assumption) (by assumption)) (by decide) | exact Nat.lt_of_le_of_lt (by assumption) (by decide) | exact Nat.lt_of_lt_of_le (by assumption) (by decide) | lia | omega)))) ?_ ?_
  · intro i d τ' I o Pp hd hτ hPo
    match i, hd with
    | 0, rfl =>
      refine ⟨_, bnd_name ok rfl, ?_⟩
      refine ex_if_no (tr_isnt (ev_chk ok cal hlv rfl (ev_name ok rfl) (by rw [List.length_append, List.length_append]; exact Nat.le_trans (Nat.add_le_add (Nat.add_le_add hl1 hr) hl2) (by decide))) ev_bool k1) ?_
      exact turn_end0 hPo (sub_of rfl) rfl
    | 1, rfl =>
      refine ⟨_, bnd_name ok rfl, ?_⟩
      refine ex_if_no (tr_isnt (ev_chk ok cal hlv rfl (ev_name ok rfl) (by rw [List.length_append, List.length_append, List.length_append]; exact Nat.le_trans (Nat.add_le_add (Nat.add_le_add (Nat.add_le_add hl2 hr) hl1) (Nat.le_refl _)) (by decide))) ev_bool k2) ?_
      exact turn_end0 hPo (sub_of rfl) rfl
    | i + 2, hd => exact absurd hd (by simp)
  · refine ex_assign ok (d := .str (S [base])) (ev_chrN ok rfl (fun _ => rfl) (ev_name ok rfl) (by (first | assumption | decide | exact Nat.le_trans (by assumption) (by decide) | exact Nat.le_trans (Nat.add_le_add (by assumption) (by assumption)) (by decide) | exact Nat.lt_of_le_of_lt (by assumption) (by decide) | exact Nat.lt_of_lt_of_le (by assumption) (by decide) | lia | omega))) rfl ?_
    have hp1 := k.p1
    have hp2 := k.p2
    generalize hA : aheadTo m n (n / 2) = ah at *
    refine ex_if_no (tr_of (tr_cmp (ev_257 (rest := List.replicate ah 34 ++ [base]) ok cal hlv rfl (ev_of (ev_catS (ev_catS (ev_strS [50, 53, 55, 32, 34] rfl) (ev_mulSI (c := 34) (a := (ah : Nat)) (ev_strS [34] rfl) (ev_name ok rfl) (by (first | assumption | decide | exact Nat.le_trans (by assumption) (by decide) | exact Nat.le_trans (Nat.add_le_add (by assumption) (by assumption)) (by decide) | exact Nat.lt_of_le_of_lt (by assumption) (by decide) | exact Nat.lt_of_lt_of_le (by assumption) (by decide) | lia | omega)) (by (first | assumption | decide | exact Nat.le_trans (by assumption) (by decide) | exact Nat.le_trans (Nat.add_le_add (by assumption) (by assumption)) (by decide) | exact Nat.lt_of_le_of_lt (by assumption) (by decide) | exact Nat.lt_of_lt_of_le (by assumption) (by decide) | lia | omega))) (by show 5 ≤ 8000; (first | assumption | decide | exact Nat.le_trans (by assumption) (by decide) | exact Nat.le_trans (Nat.add_le_add (by assumption) (by assumption)) (by decide) | exact Nat.lt_of_le_of_lt (by assumption) (by decide) | exact Nat.lt_of_lt_of_le (by assumption) (by decide) | lia | omega)) (by rw [List.length_replicate]; (first | assumption | decide | exact Nat.le_trans (by assumption) (by decide) | exact Nat.le_trans (Nat.add_le_add (by assumption) (by assumption)) (by decide) | exact Nat.lt_of_le_of_lt (by assumption) (by decide) | exact Nat.lt_of_lt_of_le (by assumption) (by decide) | lia | omega))) (ev_name ok rfl) (by rw [List.length_append, List.length_replicate]; show 5 + _ ≤ 8000; (first | assumption | decide | exact Nat.le_trans (by assumption) (by decide) | exact Nat.le_trans (Nat.add_le_add (by assumption) (by assumption)) (by decide) | exact Nat.lt_of_le_of_lt (by assumption) (by decide) | exact Nat.lt_of_lt_of_le (by assumption) (by decide) | lia | omega)) (by show 1 ≤ 8000; (first | assumption | decide | exact Nat.le_trans (by assumption) (by decide) | exact Nat.le_trans (Nat.add_le_add (by assumption) (by assumption)) (by decide) | exact Nat.lt_of_le_of_lt (by assumption) (by decide) | exact Nat.lt_of_lt_of_le (by assumption) (by decide) | lia | omega))) (by rw [List.append_assoc, Int.toNat_natCast])) (by rw [List.length_append, List.length_replicate, List.length_singleton]; (first | assumption | decide | exact Nat.le_trans (by assumption) (by decide) | exact Nat.le_trans (Nat.add_le_add (by assumption) (by assumption)) (by decide) | exact Nat.lt_of_le_of_lt (by assumption) (by decide) | exact Nat.lt_of_lt_of_le (by assumption) (by decide) | lia | omega)))
      (ev_catS (x := List.replicate (ah / 2) 34) (y := if oddL m n then [] else [base]) (ev_of (ev_mulSI (c := 34) (a := ((ah / 2 : Nat) : Int)) (ev_strS [34] rfl) (ev_fdivN 2 (ev_name ok rfl) ev_int (by decide) (by decide)) (by (first | assumption | decide | exact Nat.le_trans (by assumption) (by decide) | exact Nat.le_trans (Nat.add_le_add (by assumption) (by assumption)) (by decide) | exact Nat.lt_of_le_of_lt (by assumption) (by decide) | exact Nat.lt_of_lt_of_le (by assumption) (by decide) | lia | omega)) (by (first | assumption | decide | exact Nat.le_trans (by assumption) (by decide) | exact Nat.le_trans (Nat.add_le_add (by assumption) (by assumption)) (by decide) | exact Nat.lt_of_le_of_lt (by assumption) (by decide) | exact Nat.lt_of_lt_of_le (by assumption) (by decide) | lia | omega))) (by rw [Int.toNat_natCast]))
        (ev_ifexp (tr_bool (ev_call2 ok cal (fnOdd m n (by (first | assumption | decide | exact Nat.le_trans (by assumption) (by decide) | exact Nat.le_trans (Nat.add_le_add (by assumption) (by assumption)) (by decide) | exact Nat.lt_of_le_of_lt (by assumption) (by decide) | exact Nat.lt_of_lt_of_le (by assumption) (by decide) | lia | omega)) hn1 (by (first | assumption | decide | exact Nat.le_trans (by assumption) (by decide) | exact Nat.le_trans (Nat.add_le_add (by assumption) (by assumption)) (by decide) | exact Nat.lt_of_le_of_lt (by assumption) (by decide) | exact Nat.lt_of_lt_of_le (by assumption) (by decide) | lia | omega))) (by show 1 ≤ lvl; (first | assumption | decide | exact Nat.le_trans (by assumption) (by decide) | exact Nat.le_trans (Nat.add_le_add (by assumption) (by assumption)) (by decide) | exact Nat.lt_of_le_of_lt (by assumption) (by decide) | exact Nat.lt_of_lt_of_le (by assumption) (by decide) | lia | omega)) rfl (fun _ => rfl) (fun _ => rfl) (ev_name ok rfl) (ev_name ok rfl))) (fun hc => ev_of (ev_strS [] rfl) (by rw [if_pos hc])) (fun hc => ev_of (ev_name ok rfl) (by rw [if_neg (by rw [hc]; decide)]))) (by rw [List.length_replicate]; (first | assumption | decide | exact Nat.le_trans (by assumption) (by decide) | exact Nat.le_trans (Nat.add_le_add (by assumption) (by assumption)) (by decide) | exact Nat.lt_of_le_of_lt (by assumption) (by decide) | exact Nat.lt_of_lt_of_le (by assumption) (by decide) | lia | omega)) (by split; exact Nat.zero_le _; (show 1 ≤ 8000; (first | assumption | decide | exact Nat.le_trans (by assumption) (by decide) | exact Nat.le_trans (Nat.add_le_add (by assumption) (by assumption)) (by decide) | exact Nat.lt_of_le_of_lt (by assumption) (by decide) | exact Nat.lt_of_lt_of_le (by assumption) (by decide) | lia | omega)))) cmp_neS) (by rw [hp1]; simp)) ?_
    refine ex_assign ok (d := .int ((m / 2 * (n / 2) - ah : Nat) : Int)) (ev_of (ev_sub (ev_mulN (n / 2) (ev_fdivN 2 (ev_name ok rfl) ev_int (by decide) (by decide)) (ev_fdivN 2 (ev_name ok rfl) ev_int (by decide) (by decide)) (by (first | assumption | decide | exact Nat.le_trans (by assumption) (by decide) | exact Nat.le_trans (Nat.add_le_add (by assumption) (by assumption)) (by decide) | exact Nat.lt_of_le_of_lt (by assumption) (by decide) | exact Nat.lt_of_lt_of_le (by assumption) (by decide) | lia | omega))) (ev_name ok rfl)) (congrArg Dat.int (by (first | assumption | decide | exact Nat.le_trans (by assumption) (by decide) | exact Nat.le_trans (Nat.add_le_add (by assumption) (by assumption)) (by decide) | exact Nat.lt_of_le_of_lt (by assumption) (by decide) | exact Nat.lt_of_lt_of_le (by assumption) (by decide) | lia | omega)))) rfl ?_
    generalize hB : m / 2 * (n / 2) - ah = bh at *
    have hkept : kept (fun i => some (Dat.int (((i + 1) * (i + 1) % m : Nat) : Int))) (intsFrom 1 (m - 1)).length = (squares m).map Dat.int := by
      rw [kept_some, intsFrom_length]
      unfold squares
      rw [List.map_map]; rfl
    refine ex_assign ok (d := .bool (squareB m n)) (ev_or (c := m == 9) (c' := (squares m).any (· == ((n % m : Nat) : Int))) (ev_of (ev_cmp (ev_name ok rfl) ev_int cmp_eq) (congrArg Dat.bool (beqN m 9))) fun _ =>
      ev_cmp (ev_modN m (ev_name ok rfl) (ev_name ok rfl) (by (first | assumption | decide | exact Nat.le_trans (by assumption) (by decide) | exact Nat.le_trans (Nat.add_le_add (by assumption) (by assumption)) (by decide) | exact Nat.lt_of_le_of_lt (by assumption) (by decide) | exact Nat.lt_of_lt_of_le (by assumption) (by decide) | lia | omega))) (ev_of (ev_comp (ρ₀ := [("m", .dat (.int m))]) (ds := intsFrom 1 (m - 1)) (f := fun i => some (Dat.int (((i + 1) * (i + 1) % m : Nat) : Int))) ok rfl (by decide) rfl (by decide) (seen_of ⟨⟨rfl, rfl, fun _ => rfl, rfl⟩, trivial⟩)
        (Itb.toT _ (itb_range1N (h := m - 1) ok rfl (fun _ => rfl) ev_int (ev_of (ev_name ok rfl) (congrArg Dat.int (by (first | assumption | decide | exact Nat.le_trans (by assumption) (by decide) | exact Nat.le_trans (Nat.add_le_add (by assumption) (by assumption)) (by decide) | exact Nat.lt_of_le_of_lt (by assumption) (by decide) | exact Nat.lt_of_lt_of_le (by assumption) (by decide) | lia | omega)))) (by (first | assumption | decide | exact Nat.le_trans (by assumption) (by decide) | exact Nat.le_trans (Nat.add_le_add (by assumption) (by assumption)) (by decide) | exact Nat.lt_of_le_of_lt (by assumption) (by decide) | exact Nat.lt_of_lt_of_le (by assumption) (by decide) | lia | omega)))) (by rw [intsFrom_length]; (first | assumption | decide | exact Nat.le_trans (by assumption) (by decide) | exact Nat.le_trans (Nat.add_le_add (by assumption) (by assumption)) (by decide) | exact Nat.lt_of_le_of_lt (by assumption) (by decide) | exact Nat.lt_of_lt_of_le (by assumption) (by decide) | lia | omega)) ?_) (congrArg Dat.list hkept)) (cmp_inInts ok)) rfl ?_
    · intro i d hd Lc opq keep ok'
      obtain ⟨rfl, hlt⟩ := intsFrom_get _ _ _ _ hd
      rw [show (1 + (i : Int)) = ((i + 1 : Nat) : Int) by (first | assumption | decide | exact Nat.le_trans (by assumption) (by decide) | exact Nat.le_trans (Nat.add_le_add (by assumption) (by assumption)) (by decide) | exact Nat.lt_of_le_of_lt (by assumption) (by decide) | exact Nat.lt_of_lt_of_le (by assumption) (by decide) | lia | omega)]
      exact comp_one (bnd_name ok' rfl) fun μ => ev_modN m (ev_mulN (i + 1) (ev_name ok' rfl) (ev_name ok' rfl) (by (first | assumption | decide | exact Nat.le_trans (by assumption) (by decide) | exact Nat.le_trans (Nat.add_le_add (by assumption) (by assumption)) (by decide) | exact Nat.lt_of_le_of_lt (by assumption) (by decide) | exact Nat.lt_of_lt_of_le (by assumption) (by decide) | lia | omega))) (ev_name ok' rfl) (by (first | assumption | decide | exact Nat.le_trans (by assumption) (by decide) | exact Nat.le_trans (Nat.add_le_add (by assumption) (by assumption)) (by decide) | exact Nat.lt_of_le_of_lt (by assumption) (by decide) | exact Nat.lt_of_lt_of_le (by assumption) (by decide) | lia | omega))
    · refine ex_ret' (d' := .bool true) (ev_cmp (ev_257 (rest := List.replicate bh 34 ++ [base]) ok cal hlv rfl (ev_of (ev_catS (ev_catS (ev_strS [50, 53, 55, 32, 34] rfl) (ev_mulSI (c := 34) (a := (bh : Nat)) (ev_strS [34] rfl) (ev_name ok rfl) (by (first | assumption | decide | exact Nat.le_trans (by assumption) (by decide) | exact Nat.le_trans (Nat.add_le_add (by assumption) (by assumption)) (by decide) | exact Nat.lt_of_le_of_lt (by assumption) (by decide) | exact Nat.lt_of_lt_of_le (by assumption) (by decide) | lia | omega)) (by (first | assumption | decide | exact Nat.le_trans (by assumption) (by decide) | exact Nat.le_trans (Nat.add_le_add (by assumption) (by assumption)) (by decide) | exact Nat.lt_of_le_of_lt (by assumption) (by decide) | exact Nat.lt_of_lt_of_le (by assumption) (by decide) | lia | omega))) (by show 5 ≤ 8000; (first | assumption | decide | exact Nat.le_trans (by assumption) (by decide) | exact Nat.le_trans (Nat.add_le_add (by assumption) (by assumption)) (by decide) | exact Nat.lt_of_le_of_lt (by assumption) (by decide) | exact Nat.lt_of_lt_of_le (by assumption) (by decide) | lia | omega)) (by rw [List.length_replicate]; (first | assumption | decide | exact Nat.le_trans (by assumption) (by decide) | exact Nat.le_trans (Nat.add_le_add (by assumption) (by assumption)) (by decide) | exact Nat.lt_of_le_of_lt (by assumption) (by decide) | exact Nat.lt_of_lt_of_le (by assumption) (by decide) | lia | omega))) (ev_name ok rfl) (by rw [List.length_append, List.length_replicate]; show 5 + _ ≤ 8000; (first | assumption | decide | exact Nat.le_trans (by assumption) (by decide) | exact Nat.le_trans (Nat.add_le_add (by assumption) (by assumption)) (by decide) | exact Nat.lt_of_le_of_lt (by assumption) (by decide) | exact Nat.lt_of_lt_of_le (by assumption) (by decide) | lia | omega)) (by show 1 ≤ 8000; (first | assumption | decide | exact Nat.le_trans (by assumption) (by decide) | exact Nat.le_trans (Nat.add_le_add (by assumption) (by assumption)) (by decide) | exact Nat.lt_of_le_of_lt (by assumption) (by decide) | exact Nat.lt_of_lt_of_le (by assumption) (by decide) | lia | omega))) (by rw [List.append_assoc, Int.toNat_natCast])) (by rw [List.length_append, List.length_replicate, List.length_singleton]; (first | assumption | decide | exact Nat.le_trans (by assumption) (by decide) | exact Nat.le_trans (Nat.add_le_add (by assumption) (by assumption)) (by decide) | exact Nat.lt_of_le_of_lt (by assumption) (by decide) | exact Nat.lt_of_lt_of_le (by assumption) (by decide) | lia | omega)))
        (ev_catS (x := List.replicate (bh / 2) 34) (y := if squareB m n then [base] else []) (ev_of (ev_mulSI (c := 34) (a := ((bh / 2 : Nat) : Int)) (ev_strS [34] rfl) (ev_fdivN 2 (ev_name ok rfl) ev_int (by decide) (by decide)) (by (first | assumption | decide | exact Nat.le_trans (by assumption) (by decide) | exact Nat.le_trans (Nat.add_le_add (by assumption) (by assumption)) (by decide) | exact Nat.lt_of_le_of_lt (by assumption) (by decide) | exact Nat.lt_of_lt_of_le (by assumption) (by decide) | lia | omega)) (by (first | assumption | decide | exact Nat.le_trans (by assumption) (by decide) | exact Nat.le_trans (Nat.add_le_add (by assumption) (by assumption)) (by decide) | exact Nat.lt_of_le_of_lt (by assumption) (by decide) | exact Nat.lt_of_lt_of_le (by assumption) (by decide) | lia | omega))) (by rw [Int.toNat_natCast]))
          (ev_ifexp (tr_bool (ev_name ok rfl)) (fun hc => ev_of (ev_name ok rfl) (by rw [if_pos hc])) (fun hc => ev_of (ev_strS [] rfl) (by rw [if_neg (by rw [hc]; decide)]))) (by rw [List.length_replicate]; (first | assumption | decide | exact Nat.le_trans (by assumption) (by decide) | exact Nat.le_trans (Nat.add_le_add (by assumption) (by assumption)) (by decide) | exact Nat.lt_of_le_of_lt (by assumption) (by decide) | exact Nat.lt_of_lt_of_le (by assumption) (by decide) | lia | omega)) (by split; (show 1 ≤ 8000; (first | assumption | decide | exact Nat.le_trans (by assumption) (by decide) | exact Nat.le_trans (Nat.add_le_add (by assumption) (by assumption)) (by decide) | exact Nat.lt_of_le_of_lt (by assumption) (by decide) | exact Nat.lt_of_lt_of_le (by assumption) (by decide) | lia | omega)); exact Nat.zero_le _)) cmp_eqS) (congrArg Dat.bool (by rw [hp2]; simp)) fun v s st => retP st
end Mine
end

section
open PySem PySem.W PyProof.Rows PySem.Calls
set_option maxRecDepth 100000
set_option linter.all false
set_option maxHeartbeats 1600000
namespace Mine
/-- what the plain law has to give for four cells -/
structure Facts (c0 c1 c2 c3 : Nat) : Prop where
  sort : sortOk (mOf c0) (nOf c0 c1) = true
  nodup : (qsL (mOf c0) (nOf c0 c1)).Nodup
  two : 2 ≤ mOf c0 / 2 + nOf c0 c1 / 2
  ends : ∃ p0 pl, (sortedL c3 (mOf c0) (nOf c0 c1) (256 + c2 % 50000) (1 + c3 % 900))[0]? = some p0 ∧ (sortedL c3 (mOf c0) (nOf c0 c1) (256 + c2 % 50000) (1 + c3 % 900))[mOf c0 / 2 + nOf c0 c1 / 2 - 1]? = some pl ∧
    ∀ p ∈ sortedL c3 (mOf c0) (nOf c0 c1) (256 + c2 % 50000) (1 + c3 % 900), PieceOk (rowL c3 (mOf c0) (nOf c0 c1) (256 + c2 % 50000) (1 + c3 % 900)) p0 pl p
  row : RowOk (rowL c3 (mOf c0) (nOf c0 c1) (256 + c2 % 50000) (1 + c3 % 900)) (c2 % (rowL c3 (mOf c0) (nOf c0 c1) (256 + c2 % 50000) (1 + c3 % 900)).length)
  len : 1 ≤ (rowL c3 (mOf c0) (nOf c0 c1) (256 + c2 % 50000) (1 + c3 % 900)).length ∧ (rowL c3 (mOf c0) (nOf c0 c1) (256 + c2 % 50000) (1 + c3 % 900)).length ≤ 500
  low : ∀ j, 1 ≤ j → j ≤ nOf c0 c1 / 2 → LowOk (rowL c3 (mOf c0) (nOf c0 c1) (256 + c2 % 50000) (1 + c3 % 900)) (mOf c0) (nOf c0 c1) (256 + c2 % 50000) j
  fin : EndOk (rowL c3 (mOf c0) (nOf c0 c1) (256 + c2 % 50000) (1 + c3 % 900)) (mOf c0) (nOf c0 c1) (256 + c2 % 50000)
theorem nOf_lt (c0 c1 : Nat) : 3 ≤ nOf c0 c1 ∧ nOf c0 c1 ≤ 13 := by
  have := mOf_lt c1
  unfold nOf; split <;> (first | assumption | decide | exact Nat.le_trans (by assumption) (by decide) | exact Nat.le_trans (Nat.add_le_add (by assumption) (by assumption)) (by decide) | exact Nat.lt_of_le_of_lt (by assumption) (by decide) | exact Nat.lt_of_lt_of_le (by assumption) (by decide) | lia | omega)
theorem things_le {m n base worth : Nat} (hm : m ≤ 100) (hn : n ≤ 100) (hw : worth ≤ 1000) : ∀ t ∈ thingsL m n base worth, t.2.2 < 1000000000 := by
  intro t ht
  unfold thingsL opensL closesL at ht
  rcases List.mem_append.mp ht with ht | ht
  · obtain ⟨i, hi, rfl⟩ := List.mem_map.mp ht
    have hi' := List.mem_range.mp hi
    have h1 : (i + 1) * n ≤ 100 * 100 := Nat.mul_le_mul (by (first | assumption | decide | exact Nat.le_trans (by assumption) (by decide) | exact Nat.le_trans (Nat.add_le_add (by assumption) (by assumption)) (by decide) | exact Nat.lt_of_le_of_lt (by assumption) (by decide) | exact Nat.lt_of_lt_of_le (by assumption) (by decide) | lia | omega)) hn
    have h2 : (i + 1) * n * worth ≤ 10000 * 1000 := Nat.mul_le_mul (by (first | assumption | decide | exact Nat.le_trans (by assumption) (by decide) | exact Nat.le_trans (Nat.add_le_add (by assumption) (by assumption)) (by decide) | exact Nat.lt_of_le_of_lt (by assumption) (by decide) | exact Nat.lt_of_lt_of_le (by assumption) (by decide) | lia | omega)) hw
    show (i + 1) * n * worth < _
    (first | assumption | decide | exact Nat.le_trans (by assumption) (by decide) | exact Nat.le_trans (Nat.add_le_add (by assumption) (by assumption)) (by decide) | exact Nat.lt_of_le_of_lt (by assumption) (by decide) | exact Nat.lt_of_lt_of_le (by assumption) (by decide) | lia | omega)
  · obtain ⟨i, hi, rfl⟩ := List.mem_map.mp ht
    have hi' := List.mem_range.mp hi
    have h1 : (i + 1) * m ≤ 100 * 100 := Nat.mul_le_mul (by (first | assumption | decide | exact Nat.le_trans (by assumption) (by decide) | exact Nat.le_trans (Nat.add_le_add (by assumption) (by assumption)) (by decide) | exact Nat.lt_of_le_of_lt (by assumption) (by decide) | exact Nat.lt_of_lt_of_le (by assumption) (by decide) | lia | omega)) hm
    have h2 : (i + 1) * m * worth ≤ 10000 * 1000 := Nat.mul_le_mul (by (first | assumption | decide | exact Nat.le_trans (by assumption) (by decide) | exact Nat.le_trans (Nat.add_le_add (by assumption) (by assumption)) (by decide) | exact Nat.lt_of_le_of_lt (by assumption) (by decide) | exact Nat.lt_of_lt_of_le (by assumption) (by decide) | lia | omega)) hw
    show (i + 1) * m * worth < _
    (first | assumption | decide | exact Nat.le_trans (by assumption) (by decide) | exact Nat.le_trans (Nat.add_le_add (by assumption) (by assumption)) (by decide) | exact Nat.lt_of_le_of_lt (by assumption) (by decide) | exact Nat.lt_of_lt_of_le (by assumption) (by decide) | lia | omega)
theorem ahead_le (m n : Nat) : ∀ j, aheadTo m n j ≤ j * (m / 2)
  | 0 => Nat.zero_le _
  | j + 1 => by
    have h1 := ahead_le m n j
    have h2 := manyTo_le m n (j + 1) (m / 2)
    show aheadTo m n j + manyTo m n (j + 1) (m / 2) ≤ _
    rw [Nat.succ_mul]
    (first | assumption | decide | exact Nat.le_trans (by assumption) (by decide) | exact Nat.le_trans (Nat.add_le_add (by assumption) (by assumption)) (by decide) | exact Nat.lt_of_le_of_lt (by assumption) (by decide) | exact Nat.lt_of_lt_of_le (by assumption) (by decide) | lia | omega)

theorem law_walk (hF : ∀ c0 c1 c2 c3, c2 < 1000000 → c3 < 1000000 → Facts c0 c1 c2 c3) (P : PySem.Params) : LawSeg P fun b sc cd => ∀ (w : World) (L : Addr) (A : Around) (g : Heap) (os : OsState) (lvl : Nat), w.params = P → (lawC w sc cd L A g os lvl).Ok → (lawC w sc cd L A g os lvl).Cal → 4 ≤ lvl →
    ∀ (a : Addr) (vs : List Value) (ns : List Int) (om on ob ow : Obj) (cm cn cb cw : Addr), (lawC w sc cd L A g os lvl).h₀.IsList a vs.toArray → IntsAre vs ns → vs.length ≤ 1000 → om.data = .cell none → on.data = .cell none → ob.data = .cell none → ow.data = .cell none →
      (lawC w sc cd L A g os lvl).env.cells.lookup ("m" : Str) = some cm → (lawC w sc cd L A g os lvl).env.cells.lookup ("n" : Str) = some cn → (lawC w sc cd L A g os lvl).env.cells.lookup ("base" : Str) = some cb → (lawC w sc cd L A g os lvl).env.cells.lookup ("worth" : Str) = some cw →
      Ex (lawC w sc cd L A g os lvl) [("script", .raw (.ref a))] [] [(cm, om), (cn, on), (cb, ob), (cw, ow)] b (RetP (lawC w sc cd L A g os lvl) (.bool true)) := by
  intro oc od osl name qual params body scope dV kV doc pm an cdv ct ho w L A g os lvl hP ok cal hlv a vs ns om on ob ow cm cn cb cw hl hi hsz h1 h2 h3 h4 e1 e2 e3 e4
  have s0 := law_cells P _ _ _ _ _ _ _ _ _ _ _ _ _ _ _ ho w L A g os lvl hP ok cal hlv
  have s1 := law_mn P _ _ _ _ _ _ _ _ _ _ _ _ _ _ _ ho w L A g os lvl hP ok cal hlv
  have s2 := law_things P _ _ _ _ _ _ _ _ _ _ _ _ _ _ _ ho w L A g os lvl hP ok cal hlv
  have s3 := law_heard P _ _ _ _ _ _ _ _ _ _ _ _ _ _ _ ho w L A g os lvl hP ok cal hlv
  have s4 := law_sort P _ _ _ _ _ _ _ _ _ _ _ _ _ _ _ ho w L A g os lvl hP ok cal hlv
  have s5 := law_pieces P _ _ _ _ _ _ _ _ _ _ _ _ _ _ _ ho w L A g os lvl hP ok cal hlv
  have s6 := law_row P _ _ _ _ _ _ _ _ _ _ _ _ _ _ _ ho w L A g os lvl hP ok cal hlv
  have s7 := law_low P _ _ _ _ _ _ _ _ _ _ _ _ _ _ _ ho w L A g os lvl hP ok cal hlv
  have s8 := law_end P _ _ _ _ _ _ _ _ _ _ _ _ _ _ _ ho w L A g os lvl hP ok cal hlv
  dsimp only at s0 s1 s2 s3 s4 s5 s6 s7 s8
  simp only [List.drop_drop, List.drop_zero] at s0 s1 s2 s3 s4 s5 s6 s7 s8
  obtain ⟨c0, x0, l0⟩ := cellI_nat ns 0
  obtain ⟨c1, x1, l1⟩ := cellI_nat ns 1
  obtain ⟨c2, x2, l2⟩ := cellI_nat ns 2
  obtain ⟨c3, x3, l3⟩ := cellI_nat ns 3
  refine s0 a vs ns _ _ hl hi hsz ?_
  rw [x0, x1, x2, x3]
  have F := hF c0 c1 c2 c3 l2 l3
  have hm := mOf_lt c0
  have hn := nOf_lt c0 c1
  obtain ⟨p0, pl, q0, ql, hpieces⟩ := F.ends
  have hlen : (thingsL (mOf c0) (nOf c0 c1) (256 + c2 % 50000) (1 + c3 % 900)).length = mOf c0 / 2 + nOf c0 c1 / 2 := things_length ..
  refine s1 c0 c1 c2 c3 om on ob ow _ h1 h2 h3 h4 cm cn cb cw e1 e2 e3 e4 ?_
  refine s2 (mOf c0) (nOf c0 c1) (256 + c2 % 50000) (1 + c3 % 900) _ _ (by (first | assumption | decide | exact Nat.le_trans (by assumption) (by decide) | exact Nat.le_trans (Nat.add_le_add (by assumption) (by assumption)) (by decide) | exact Nat.lt_of_le_of_lt (by assumption) (by decide) | exact Nat.lt_of_lt_of_le (by assumption) (by decide) | lia | omega)) (by (first | assumption | decide | exact Nat.le_trans (by assumption) (by decide) | exact Nat.le_trans (Nat.add_le_add (by assumption) (by assumption)) (by decide) | exact Nat.lt_of_le_of_lt (by assumption) (by decide) | exact Nat.lt_of_lt_of_le (by assumption) (by decide) | lia | omega)) (by (first | assumption | decide | exact Nat.le_trans (by assumption) (by decide) | exact Nat.le_trans (Nat.add_le_add (by assumption) (by assumption)) (by decide) | exact Nat.lt_of_le_of_lt (by assumption) (by decide) | exact Nat.lt_of_lt_of_le (by assumption) (by decide) | lia | omega)) (by (first | assumption | decide | exact Nat.le_trans (by assumption) (by decide) | exact Nat.le_trans (Nat.add_le_add (by assumption) (by assumption)) (by decide) | exact Nat.lt_of_le_of_lt (by assumption) (by decide) | exact Nat.lt_of_lt_of_le (by assumption) (by decide) | lia | omega)) ?_
  refine s3 (mOf c0) (nOf c0 c1) (256 + c2 % 50000) (1 + c3 % 900) c0 c1 c2 c3 _ (by (first | assumption | decide | exact Nat.le_trans (by assumption) (by decide) | exact Nat.le_trans (Nat.add_le_add (by assumption) (by assumption)) (by decide) | exact Nat.lt_of_le_of_lt (by assumption) (by decide) | exact Nat.lt_of_lt_of_le (by assumption) (by decide) | lia | omega)) (by (first | assumption | decide | exact Nat.le_trans (by assumption) (by decide) | exact Nat.le_trans (Nat.add_le_add (by assumption) (by assumption)) (by decide) | exact Nat.lt_of_le_of_lt (by assumption) (by decide) | exact Nat.lt_of_lt_of_le (by assumption) (by decide) | lia | omega)) (by (first | assumption | decide | exact Nat.le_trans (by assumption) (by decide) | exact Nat.le_trans (Nat.add_le_add (by assumption) (by assumption)) (by decide) | exact Nat.lt_of_le_of_lt (by assumption) (by decide) | exact Nat.lt_of_lt_of_le (by assumption) (by decide) | lia | omega)) (by (first | assumption | decide | exact Nat.le_trans (by assumption) (by decide) | exact Nat.le_trans (Nat.add_le_add (by assumption) (by assumption)) (by decide) | exact Nat.lt_of_le_of_lt (by assumption) (by decide) | exact Nat.lt_of_lt_of_le (by assumption) (by decide) | lia | omega)) l3 (by (first | assumption | decide | exact Nat.le_trans (by assumption) (by decide) | exact Nat.le_trans (Nat.add_le_add (by assumption) (by assumption)) (by decide) | exact Nat.lt_of_le_of_lt (by assumption) (by decide) | exact Nat.lt_of_lt_of_le (by assumption) (by decide) | lia | omega)) (things_le (by (first | assumption | decide | exact Nat.le_trans (by assumption) (by decide) | exact Nat.le_trans (Nat.add_le_add (by assumption) (by assumption)) (by decide) | exact Nat.lt_of_le_of_lt (by assumption) (by decide) | exact Nat.lt_of_lt_of_le (by assumption) (by decide) | lia | omega)) (by (first | assumption | decide | exact Nat.le_trans (by assumption) (by decide) | exact Nat.le_trans (Nat.add_le_add (by assumption) (by assumption)) (by decide) | exact Nat.lt_of_le_of_lt (by assumption) (by decide) | exact Nat.lt_of_lt_of_le (by assumption) (by decide) | lia | omega)) (by (first | assumption | decide | exact Nat.le_trans (by assumption) (by decide) | exact Nat.le_trans (Nat.add_le_add (by assumption) (by assumption)) (by decide) | exact Nat.lt_of_le_of_lt (by assumption) (by decide) | exact Nat.lt_of_lt_of_le (by assumption) (by decide) | lia | omega))) fun D us nn hus => ?_
  refine s4 (mOf c0) (nOf c0 c1) (256 + c2 % 50000) (1 + c3 % 900) c0 c1 c2 c3 D us nn p0 pl _ F.sort F.nodup (by (first | assumption | decide | exact Nat.le_trans (by assumption) (by decide) | exact Nat.le_trans (Nat.add_le_add (by assumption) (by assumption)) (by decide) | exact Nat.lt_of_le_of_lt (by assumption) (by decide) | exact Nat.lt_of_lt_of_le (by assumption) (by decide) | lia | omega)) F.two (by (first | assumption | decide | exact Nat.le_trans (by assumption) (by decide) | exact Nat.le_trans (Nat.add_le_add (by assumption) (by assumption)) (by decide) | exact Nat.lt_of_le_of_lt (by assumption) (by decide) | exact Nat.lt_of_lt_of_le (by assumption) (by decide) | lia | omega)) hus q0 ql ?_
  refine s5 _ _ (mOf c0) (nOf c0 c1) (256 + c2 % 50000) c0 c1 c2 c3 p0 pl hpieces (List.mem_of_getElem? q0) (List.mem_of_getElem? ql) (by have := F.len; (first | assumption | decide | exact Nat.le_trans (by assumption) (by decide) | exact Nat.le_trans (Nat.add_le_add (by assumption) (by assumption)) (by decide) | exact Nat.lt_of_le_of_lt (by assumption) (by decide) | exact Nat.lt_of_lt_of_le (by assumption) (by decide) | lia | omega)) ?_
  refine s6 _ (mOf c0) (nOf c0 c1) (256 + c2 % 50000) c0 c1 c2 c3 F.row F.len.1 F.len.2 ?_
  refine s7 _ (mOf c0) (nOf c0 c1) (256 + c2 % 50000) F.low (by (first | assumption | decide | exact Nat.le_trans (by assumption) (by decide) | exact Nat.le_trans (Nat.add_le_add (by assumption) (by assumption)) (by decide) | exact Nat.lt_of_le_of_lt (by assumption) (by decide) | exact Nat.lt_of_lt_of_le (by assumption) (by decide) | lia | omega)) (by (first | assumption | decide | exact Nat.le_trans (by assumption) (by decide) | exact Nat.le_trans (Nat.add_le_add (by assumption) (by assumption)) (by decide) | exact Nat.lt_of_le_of_lt (by assumption) (by decide) | exact Nat.lt_of_lt_of_le (by assumption) (by decide) | lia | omega)) (by (first | assumption | decide | exact Nat.le_trans (by assumption) (by decide) | exact Nat.le_trans (Nat.add_le_add (by assumption) (by assumption)) (by decide) | exact Nat.lt_of_le_of_lt (by assumption) (by decide) | exact Nat.lt_of_lt_of_le (by assumption) (by decide) | lia | omega)) F.len.2 ?_
  have hal := ahead_le (mOf c0) (nOf c0 c1) (nOf c0 c1 / 2)
  have hp : nOf c0 c1 / 2 * (mOf c0 / 2) ≤ 6 * 5 := Nat.mul_le_mul (by (first | assumption | decide | exact Nat.le_trans (by assumption) (by decide) | exact Nat.le_trans (Nat.add_le_add (by assumption) (by assumption)) (by decide) | exact Nat.lt_of_le_of_lt (by assumption) (by decide) | exact Nat.lt_of_lt_of_le (by assumption) (by decide) | lia | omega)) (by (first | assumption | decide | exact Nat.le_trans (by assumption) (by decide) | exact Nat.le_trans (Nat.add_le_add (by assumption) (by assumption)) (by decide) | exact Nat.lt_of_le_of_lt (by assumption) (by decide) | exact Nat.lt_of_lt_of_le (by assumption) (by decide) | lia | omega))
  exact s8 _ (mOf c0) (nOf c0 c1) (256 + c2 % 50000) F.fin (by (first | assumption | decide | exact Nat.le_trans (by assumption) (by decide) | exact Nat.le_trans (Nat.add_le_add (by assumption) (by assumption)) (by decide) | exact Nat.lt_of_le_of_lt (by assumption) (by decide) | exact Nat.lt_of_lt_of_le (by assumption) (by decide) | lia | omega)) (by (first | assumption | decide | exact Nat.le_trans (by assumption) (by decide) | exact Nat.le_trans (Nat.add_le_add (by assumption) (by assumption)) (by decide) | exact Nat.lt_of_le_of_lt (by assumption) (by decide) | exact Nat.lt_of_lt_of_le (by assumption) (by decide) | lia | omega)) (by (first | assumption | decide | exact Nat.le_trans (by assumption) (by decide) | exact Nat.le_trans (Nat.add_le_add (by assumption) (by assumption)) (by decide) | exact Nat.lt_of_le_of_lt (by assumption) (by decide) | exact Nat.lt_of_lt_of_le (by assumption) (by decide) | lia | omega)) (by (first | assumption | decide | exact Nat.le_trans (by assumption) (by decide) | exact Nat.le_trans (Nat.add_le_add (by assumption) (by assumption)) (by decide) | exact Nat.lt_of_le_of_lt (by assumption) (by decide) | exact Nat.lt_of_lt_of_le (by assumption) (by decide) | lia | omega)) (by (first | assumption | decide | exact Nat.le_trans (by assumption) (by decide) | exact Nat.le_trans (Nat.add_le_add (by assumption) (by assumption)) (by decide) | exact Nat.lt_of_le_of_lt (by assumption) (by decide) | exact Nat.lt_of_lt_of_le (by assumption) (by decide) | lia | omega)) F.len.2 (by (first | assumption | decide | exact Nat.le_trans (by assumption) (by decide) | exact Nat.le_trans (Nat.add_le_add (by assumption) (by assumption)) (by decide) | exact Nat.lt_of_le_of_lt (by assumption) (by decide) | exact Nat.lt_of_lt_of_le (by assumption) (by decide) | lia | omega)) (by rw [Nat.mul_comm]; (first | assumption | decide | exact Nat.le_trans (by assumption) (by decide) | exact Nat.le_trans (Nat.add_le_add (by assumption) (by assumption)) (by decide) | exact Nat.lt_of_le_of_lt (by assumption) (by decide) | exact Nat.lt_of_lt_of_le (by assumption) (by decide) | lia | omega))
end Mine
end

section
open PySem PySem.W PyProof.Rows PySem.Calls
set_option maxRecDepth 100000
set_option linter.all false
namespace Mine
/-- the pieces stand in the text one behind the other -/
noncomputable def Has : List (List Nat) → List Nat → Prop
  | [], _ => True
  | w :: ws, r => ∃ a b, r = a ++ w ++ b ∧ Has ws b
theorem Has.pre : ∀ {ws : List (List Nat)} {r : List Nat} (c : List Nat), Has ws r → Has ws (c ++ r)
  | [], _, _, _ => trivial
  | _ :: _, _, c, ⟨a, b, e, h⟩ => ⟨c ++ a, b, by rw [e]; simp, h⟩
theorem has_nil_cons {ws : List (List Nat)} {r : List Nat} : Has ([] :: ws) r ↔ Has ws r :=
  ⟨fun ⟨a, b, e, h⟩ => by rw [e]; exact h.pre _, fun h => ⟨[], r, by simp, h⟩⟩
theorem has_snoc : ∀ {ws : List (List Nat)} {r : List Nat}, Has (ws ++ [[]]) r ↔ Has ws r
  | [], r => ⟨fun _ => trivial, fun _ => ⟨[], r, by simp, trivial⟩⟩
  | w :: ws, r => ⟨fun ⟨a, b, e, h⟩ => ⟨a, b, e, has_snoc.mp h⟩, fun ⟨a, b, e, h⟩ => ⟨a, b, e, has_snoc.mpr h⟩⟩
theorem pre_drop {w x : List Nat} {i : Nat} (hp : w <+: x.drop i) : x = x.take i ++ w ++ x.drop (i + w.length) := by
  obtain ⟨t, ht⟩ := hp
  have h1 : x.drop (i + w.length) = t := by rw [← List.drop_drop, ← ht, List.drop_left' rfl]
  rw [h1, List.append_assoc, ht, List.take_append_drop]
theorem fits_iff : ∀ {ws : List (List Nat)} {r : List Nat}, fits ws r = true ↔ Has ws r
  | [], r => ⟨fun _ => trivial, fun _ => rfl⟩
  | w :: ws, r => by
    rcases fnd_spec w r with ⟨e, hn⟩ | ⟨i, e, hi, hp, hn⟩
    · constructor
      · intro h; simp only [fits, e] at h; cases h
      · rintro ⟨a, b, e', _⟩
        exact absurd (by rw [e', List.append_assoc, List.drop_left' rfl]; exact List.prefix_append _ _) (hn a.length (by rw [e']; simp))
    · have hsp : fits (w :: ws) r = fits ws (r.drop (i + w.length)) := by simp only [fits, e]
      rw [hsp, fits_iff]
      constructor
      · intro h; exact ⟨r.take i, r.drop (i + w.length), pre_drop hp, h⟩
      · rintro ⟨a, b, e', h⟩
        have hia : i ≤ a.length := by
          refine Nat.le_of_not_lt fun hlt => hn _ hlt ?_
          rw [e', List.append_assoc, List.drop_left' rfl]; exact List.prefix_append _ _
        have hb : r.drop (i + w.length) = ((a ++ w).drop (i + w.length)) ++ b := by
          rw [e', List.drop_append_of_le_length (by simp; (first | assumption | decide | exact Nat.le_trans (by assumption) (by decide) | exact Nat.le_trans (Nat.add_le_add (by assumption) (by assumption)) (by decide) | exact Nat.lt_of_le_of_lt (by assumption) (by decide) | exact Nat.lt_of_lt_of_le (by assumption) (by decide) | lia | omega))]
        rw [hb]; exact h.pre _
theorem ellW_iff {w0 wl got : List Nat} {mid : List (List Nat)} : ellW (w0 :: (mid ++ [wl])) got = true ↔ ∃ g, got = w0 ++ g ++ wl ∧ Has mid g := by
  have hv : ∀ {ws2 : List (List Nat)}, (∀ r, Has ws2 r ↔ Has mid r) → (ellV w0 wl ws2 got = true ↔ ∃ g, got = w0 ++ g ++ wl ∧ Has mid g) := by
    intro ws2 h2
    unfold ellV
    simp only [Bool.and_eq_true, decide_eq_true_eq, List.isPrefixOf_iff_prefix, List.isSuffixOf_iff_suffix, fits_iff, h2]
    constructor
    · rintro ⟨⟨t, ht⟩, ⟨u, hu⟩, hle, hh⟩
      refine ⟨_, ?_, hh⟩
      have h1 : got.take (got.length - wl.length) = u := by rw [← hu]; exact List.take_left' (by simp)
      have h2 : w0 <+: u := by
        refine List.prefix_of_prefix_length_le ⟨t, ht⟩ ⟨wl, hu⟩ ?_
        have := congrArg List.length hu
        simp at this; (first | assumption | decide | exact Nat.le_trans (by assumption) (by decide) | exact Nat.le_trans (Nat.add_le_add (by assumption) (by assumption)) (by decide) | exact Nat.lt_of_le_of_lt (by assumption) (by decide) | exact Nat.lt_of_lt_of_le (by assumption) (by decide) | lia | omega)
      obtain ⟨g, hg⟩ := h2
      rw [h1, ← hg, List.drop_left' rfl, hg, hu]
    · rintro ⟨g, rfl, hh⟩
      refine ⟨⟨g ++ wl, by simp⟩, ⟨w0 ++ g, by simp⟩, by simp, ?_⟩
      rw [List.take_left' (by simp; (first | assumption | decide | exact Nat.le_trans (by assumption) (by decide) | exact Nat.le_trans (Nat.add_le_add (by assumption) (by assumption)) (by decide) | exact Nat.lt_of_le_of_lt (by assumption) (by decide) | exact Nat.lt_of_lt_of_le (by assumption) (by decide) | lia | omega)), List.drop_left' rfl]; exact hh
  unfold ellW
  have hd : (w0 :: (mid ++ [wl])).headD [] = w0 := rfl
  rw [hd]
  by_cases h0 : w0 = []
  · have h1 : ws1Of (w0 :: (mid ++ [wl])) = ([] :: mid) ++ [wl] := by unfold ws1Of; rw [hd, if_pos h0, h0]; rfl
    rw [h1, List.getLastD_concat]
    unfold ws2Of
    rw [List.getLastD_concat]
    split
    · rename_i hl; rw [hl]; rw [hl] at hv; exact hv fun r => has_snoc.trans has_nil_cons
    · rw [List.dropLast_concat]; exact hv fun r => has_nil_cons
  · have h1 : ws1Of (w0 :: (mid ++ [wl])) = mid ++ [wl] := by unfold ws1Of; rw [hd, if_neg h0]; rfl
    rw [h1, List.getLastD_concat]
    unfold ws2Of
    rw [List.getLastD_concat]
    split
    · rename_i hl; rw [hl]; rw [hl] at hv; exact hv fun r => has_snoc
    · rw [List.dropLast_concat]; exact hv fun r => Iff.rfl

theorem fnd_dots {w r : List Nat} (h : 46 ∉ w) : fnd dots (w ++ dots ++ r) = some w.length := by
  refine fnd_some (by simp) (by rw [List.append_assoc, List.drop_left' rfl]; exact List.prefix_append _ _) fun k hk hp => ?_
  obtain ⟨t, ht⟩ := hp
  rw [List.append_assoc, List.drop_append_of_le_length (by (first | assumption | decide | exact Nat.le_trans (by assumption) (by decide) | exact Nat.le_trans (Nat.add_le_add (by assumption) (by assumption)) (by decide) | exact Nat.lt_of_le_of_lt (by assumption) (by decide) | exact Nat.lt_of_lt_of_le (by assumption) (by decide) | lia | omega)), List.drop_eq_getElem_cons hk] at ht
  have := (List.cons.inj ht).1
  exact h (this ▸ List.getElem_mem hk)
theorem fnd_nodot {w : List Nat} (h : 46 ∉ w) : fnd dots w = none := fnd_none fun k hk ⟨t, ht⟩ => h (List.mem_of_mem_drop (i := k) (by rw [← ht]; exact .head _))
theorem cut_dots {w r : List Nat} (h : 46 ∉ w) : cutL dots (w ++ dots ++ r) = w :: cutL dots r := by
  rw [cutL_some (by decide) (fnd_dots h), List.append_assoc, List.take_left' rfl, ← List.append_assoc, List.drop_left' (by simp)]
theorem cut_nodot {w : List Nat} (h : fnd dots w = none) : cutL dots w = [w] := cutL_none h
theorem ell_yes {want got : List Nat} {w0 wl : List Nat} {mid : List (List Nat)} (hc : cutL dots want = w0 :: (mid ++ [wl])) : ellL want got = true ↔ ∃ g, got = w0 ++ g ++ wl ∧ Has mid g := by
  have hn : fnd dots want ≠ none := fun e => by
    rw [cut_nodot e] at hc
    have := congrArg List.length hc
    simp at this
  unfold ellL
  rw [if_neg hn, hc]
  exact ellW_iff
/-- a ... b -/
theorem ell2 {a b got : List Nat} (ha : 46 ∉ a) (hb : fnd dots b = none) : ellL (a ++ dots ++ b) got = true ↔ ∃ g, got = a ++ g ++ b := by
  rw [ell_yes (mid := []) (w0 := a) (wl := b) (by rw [cut_dots ha, cut_nodot hb]; rfl)]
  exact ⟨fun ⟨g, h, _⟩ => ⟨g, h⟩, fun ⟨g, h⟩ => ⟨g, h, trivial⟩⟩
/-- a ... b ... c -/
theorem ell3 {a b c got : List Nat} (ha : 46 ∉ a) (hb : 46 ∉ b) (hc : fnd dots c = none) : ellL (a ++ dots ++ (b ++ dots ++ c)) got = true ↔ ∃ g h, got = a ++ g ++ b ++ h ++ c := by
  rw [ell_yes (mid := [b]) (w0 := a) (wl := c) (by rw [cut_dots ha, cut_dots hb, cut_nodot hc]; rfl)]
  exact ⟨fun ⟨g, h, x, y, e, _⟩ => ⟨x, y, by rw [h, e]; simp⟩, fun ⟨g, h, e⟩ => ⟨g ++ b ++ h, by rw [e]; simp, g, h, by simp, trivial⟩⟩
/-- a ... b ... c ... d -/
theorem ell4 {a b c d got : List Nat} (ha : 46 ∉ a) (hb : 46 ∉ b) (hc : 46 ∉ c) (hd : fnd dots d = none) : ellL (a ++ dots ++ (b ++ dots ++ (c ++ dots ++ d))) got = true ↔ ∃ g h k, got = a ++ g ++ b ++ h ++ c ++ k ++ d := by
  rw [ell_yes (mid := [b, c]) (w0 := a) (wl := d) (by rw [cut_dots ha, cut_dots hb, cut_dots hc, cut_nodot hd]; rfl)]
  exact ⟨fun ⟨g, h, x, y, e, x', y', e', _⟩ => ⟨x, x', y', by rw [h, e, e']; simp⟩, fun ⟨g, h, k, e⟩ => ⟨g ++ b ++ h ++ c ++ k, by rw [e]; simp, g, h ++ c ++ k, by simp, h, k, by simp, trivial⟩⟩
theorem ell_none {want got : List Nat} (h : fnd dots want = none) : ellL want got = decide (want = got) := by unfold ellL; rw [if_pos h]
theorem bfalse {b : Bool} (h : b = true → False) : b = false := by cases b; rfl; exact absurd rfl h
theorem biff {b : Bool} {P : Prop} [Decidable P] (h : b = true ↔ P) : b = decide P := by
  cases b with
  | false => exact (decide_eq_false fun p => by have := h.mpr p; cases this).symm
  | true => exact (decide_eq_true (h.mp rfl)).symm
end Mine
end

section
open PySem PySem.W PyProof.Rows PySem.Calls
set_option maxRecDepth 100000
set_option linter.all false
namespace Mine
theorem once {s : Nat} : ∀ {a b c d : List Nat}, s ∉ a → s ∉ b → a ++ s :: b = c ++ s :: d → a = c ∧ b = d
  | [], b, [], d, _, _, h => ⟨rfl, by simpa using h⟩
  | [], b, x :: c, d, _, hb, h => by
    have := (List.cons.inj h).2
    exact absurd (by rw [this]; simp) hb
  | x :: a, b, [], d, ha, _, h => absurd (by rw [(List.cons.inj h).1]; exact .head _) ha
  | x :: a, b, y :: c, d, ha, hb, h => by
    obtain ⟨h1, h2⟩ := List.cons.inj h
    obtain ⟨h3, h4⟩ := once (fun hm => ha (.tail _ hm)) hb h2
    exact ⟨by rw [h1, h3], h4⟩
theorem twice {s : Nat} {a b c d e : List Nat} (ha : s ∉ a) (hb : s ∉ b) (h : a ++ s :: b = c ++ s :: (d ++ s :: e)) : False := by
  have := (once ha hb h).2
  exact hb (by rw [this]; simp)
noncomputable def pc (br sg : Nat → Nat) (hd : Nat → List Nat) (i : Nat) : List Nat := [br i] ++ [sg i] ++ hd i
noncomputable def flat (br sg : Nat → Nat) (hd : Nat → List Nat) (l : List Nat) : List Nat := (l.map (pc br sg hd)).flatten
structure RowH (pl : List Nat) (br sg : Nat → Nat) (hd : Nat → List Nat) : Prop where
  nd : pl.Nodup
  brs : ∀ i ∈ pl, br i = 40 ∨ br i = 41
  sgs : ∀ i ∈ pl, 256 ≤ sg i
  inj : ∀ i ∈ pl, ∀ j ∈ pl, sg i = sg j → i = j
  hid : ∀ i ∈ pl, ∀ c ∈ hd i, c < 256 ∧ c ≠ 46
section
variable {pl : List Nat} {br sg : Nat → Nat} {hd : Nat → List Nat} (H : RowH pl br sg hd)
theorem mem_pc {x i : Nat} (h : x ∈ pc br sg hd i) : x = br i ∨ x = sg i ∨ x ∈ hd i := by
  unfold pc at h
  simpa using h
theorem mem_flat {x : Nat} {l : List Nat} (h : x ∈ flat br sg hd l) : ∃ j ∈ l, x = br j ∨ x = sg j ∨ x ∈ hd j := by
  unfold flat at h
  simp only [List.mem_flatten, List.mem_map] at h
  obtain ⟨w, ⟨j, hj, rfl⟩, hx⟩ := h
  exact ⟨j, hj, mem_pc hx⟩
theorem flat_append (l m : List Nat) : flat br sg hd (l ++ m) = flat br sg hd l ++ flat br sg hd m := by unfold flat; simp
theorem flat_cons (i : Nat) (m : List Nat) : flat br sg hd (i :: m) = pc br sg hd i ++ flat br sg hd m := rfl
include H
theorem not_sign {l : List Nat} {i : Nat} (hi : i ∈ pl) (hl : ∀ j ∈ l, j ∈ pl ∧ j ≠ i) : sg i ∉ flat br sg hd l := by
  intro h
  obtain ⟨j, hj, h⟩ := mem_flat h
  obtain ⟨h1, h2⟩ := hl j hj
  have := H.sgs i hi
  rcases h with h | h | h
  · have := H.brs j h1; (first | assumption | decide | exact Nat.le_trans (by assumption) (by decide) | exact Nat.le_trans (Nat.add_le_add (by assumption) (by assumption)) (by decide) | exact Nat.lt_of_le_of_lt (by assumption) (by decide) | exact Nat.lt_of_lt_of_le (by assumption) (by decide) | lia | omega)
  · exact h2 (H.inj i hi j h1 h).symm
  · have := (H.hid j h1 _ h).1; (first | assumption | decide | exact Nat.le_trans (by assumption) (by decide) | exact Nat.le_trans (Nat.add_le_add (by assumption) (by assumption)) (by decide) | exact Nat.lt_of_le_of_lt (by assumption) (by decide) | exact Nat.lt_of_lt_of_le (by assumption) (by decide) | lia | omega)
theorem not_dot {l : List Nat} (hl : ∀ j ∈ l, j ∈ pl) : 46 ∉ flat br sg hd l := by
  intro h
  obtain ⟨j, hj, h⟩ := mem_flat h
  rcases h with h | h | h
  · have := H.brs j (hl j hj); (first | assumption | decide | exact Nat.le_trans (by assumption) (by decide) | exact Nat.le_trans (Nat.add_le_add (by assumption) (by assumption)) (by decide) | exact Nat.lt_of_le_of_lt (by assumption) (by decide) | exact Nat.lt_of_lt_of_le (by assumption) (by decide) | lia | omega)
  · have := H.sgs j (hl j hj); (first | assumption | decide | exact Nat.le_trans (by assumption) (by decide) | exact Nat.le_trans (Nat.add_le_add (by assumption) (by assumption)) (by decide) | exact Nat.lt_of_le_of_lt (by assumption) (by decide) | exact Nat.lt_of_lt_of_le (by assumption) (by decide) | lia | omega)
  · exact (H.hid j (hl j hj) _ h).2 rfl
theorem not_dot1 {i : Nat} (hi : i ∈ pl) : 46 ∉ pc br sg hd i := by
  have := not_dot H (l := [i]) (by simpa using hi)
  rwa [show flat br sg hd [i] = pc br sg hd i by unfold flat; simp] at this
section
variable {l1 l2 : List Nat} {i : Nat} (e : pl = l1 ++ i :: l2)
include e
theorem row_mem : i ∈ pl := by rw [e]; simp
theorem row_parts : (∀ j ∈ l1, j ∈ pl ∧ j ≠ i) ∧ (∀ j ∈ l2, j ∈ pl ∧ j ≠ i) := by
  have hn := H.nd
  rw [e, List.nodup_append] at hn
  obtain ⟨_, h2, h3⟩ := hn
  refine ⟨fun j hj => ⟨by rw [e]; simp [hj], fun q => h3 j hj i (.head _) q⟩, fun j hj => ⟨by rw [e]; simp [hj], fun q => ?_⟩⟩
  rw [q] at hj
  exact (List.nodup_cons.mp h2).1 hj
theorem row_eq : flat br sg hd pl = (flat br sg hd l1 ++ [br i]) ++ sg i :: (hd i ++ flat br sg hd l2) := by
  rw [e, flat_append, flat_cons]; unfold pc; simp
theorem row_l : sg i ∉ flat br sg hd l1 ++ [br i] := by
  intro h
  rcases List.mem_append.mp h with h | h
  · exact not_sign H (row_mem H e) (row_parts H e).1 h
  · have h1 := H.brs i (row_mem H e); have h2 := H.sgs i (row_mem H e)
    simp at h; (first | assumption | decide | exact Nat.le_trans (by assumption) (by decide) | exact Nat.le_trans (Nat.add_le_add (by assumption) (by assumption)) (by decide) | exact Nat.lt_of_le_of_lt (by assumption) (by decide) | exact Nat.lt_of_lt_of_le (by assumption) (by decide) | lia | omega)
theorem row_r : sg i ∉ hd i ++ flat br sg hd l2 := by
  intro h
  rcases List.mem_append.mp h with h | h
  · have := (H.hid i (row_mem H e) _ h).1
    have h2 := H.sgs i (row_mem H e); (first | assumption | decide | exact Nat.le_trans (by assumption) (by decide) | exact Nat.le_trans (Nat.add_le_add (by assumption) (by assumption)) (by decide) | exact Nat.lt_of_le_of_lt (by assumption) (by decide) | exact Nat.lt_of_lt_of_le (by assumption) (by decide) | lia | omega)
  · exact not_sign H (row_mem H e) (row_parts H e).2 h
theorem row_once {c d : List Nat} (h : flat br sg hd pl = c ++ sg i :: d) : flat br sg hd l1 ++ [br i] = c ∧ hd i ++ flat br sg hd l2 = d := by
  rw [row_eq H e] at h
  exact once (row_l H e) (row_r H e) h
theorem row_twice {c d f : List Nat} (h : flat br sg hd pl = c ++ sg i :: (d ++ sg i :: f)) : False := by
  rw [row_eq H e] at h
  exact twice (row_l H e) (row_r H e) h
theorem flat_nil : flat br sg hd l1 = [] ↔ l1 = [] := by
  cases l1 with
  | nil => exact ⟨fun _ => rfl, fun _ => rfl⟩
  | cons x r => exact ⟨fun h => by rw [flat_cons] at h; unfold pc at h; simp at h, fun h => by cases h⟩
theorem flat_nil2 : flat br sg hd l2 = [] ↔ l2 = [] := by
  cases l2 with
  | nil => exact ⟨fun _ => rfl, fun _ => rfl⟩
  | cons x r => exact ⟨fun h => by rw [flat_cons] at h; unfold pc at h; simp at h, fun h => by cases h⟩
theorem row_a : ellL (pc br sg hd i ++ dots) (flat br sg hd pl) = decide (l1 = []) := by
  have h := ell2 (a := pc br sg hd i) (b := []) (got := flat br sg hd pl) (not_dot1 H (row_mem H e)) rfl
  rw [List.append_nil] at h
  refine biff (h.trans ⟨?_, ?_⟩)
  · rintro ⟨g, hg⟩
    have := (row_once H e (c := [br i]) (d := hd i ++ g) (by rw [hg]; unfold pc; simp)).1
    exact (flat_nil H e).mp (by simpa using this)
  · rintro rfl
    exact ⟨flat br sg hd l2, by rw [e]; show flat br sg hd (i :: l2) = _; rw [flat_cons]; simp⟩
theorem row_b : ellL (dots ++ pc br sg hd i) (flat br sg hd pl) = decide (l2 = []) := by
  have h := ell2 (a := []) (b := pc br sg hd i) (got := flat br sg hd pl) (by simp) (fnd_nodot (not_dot1 H (row_mem H e)))
  refine biff (h.trans ⟨?_, ?_⟩)
  · rintro ⟨g, hg⟩
    have := (row_once H e (c := g ++ [br i]) (d := hd i) (by rw [hg]; unfold pc; simp)).2
    exact (flat_nil2 H e).mp (by simpa using this)
  · rintro rfl
    exact ⟨flat br sg hd l1, by rw [e, flat_append, flat_cons]; unfold flat; simp⟩
theorem row_c {i0 il : Nat} {r0 rl : List Nat} (e0 : pl = i0 :: r0) (el : pl = rl ++ [il]) : ellL (pc br sg hd i0 ++ dots ++ pc br sg hd i ++ dots ++ pc br sg hd il) (flat br sg hd pl) = !(decide (l1 = []) || decide (l2 = [])) := by
  have h := ell3 (a := pc br sg hd i0) (b := pc br sg hd i) (c := pc br sg hd il) (got := flat br sg hd pl) (not_dot1 H (by rw [e0]; simp)) (not_dot1 H (row_mem H e)) (fnd_nodot (not_dot1 H (by rw [el]; simp)))
  rw [show pc br sg hd i0 ++ dots ++ pc br sg hd i ++ dots ++ pc br sg hd il = pc br sg hd i0 ++ dots ++ (pc br sg hd i ++ dots ++ pc br sg hd il) by simp]
  rw [Bool.eq_iff_iff, h, Bool.not_eq_true', Bool.or_eq_false_iff, decide_eq_false_iff_not, decide_eq_false_iff_not]
  constructor
  · rintro ⟨g, k, hg⟩
    refine ⟨?_, ?_⟩
    · rintro rfl
      rw [e] at e0
      cases (List.cons.inj e0).1
      exact row_twice H e (c := [br i]) (d := hd i ++ g ++ [br i]) (f := hd i ++ k ++ pc br sg hd il) (by rw [hg]; unfold pc; simp)
    · rintro rfl
      rw [e] at el
      obtain ⟨_, h2⟩ := List.append_inj' el rfl
      cases (List.cons.inj h2).1
      exact row_twice H e (c := pc br sg hd i0 ++ g ++ [br i]) (d := hd i ++ k ++ [br i]) (f := hd i) (by rw [hg]; unfold pc; simp)
  · rintro ⟨h1, h2⟩
    obtain ⟨x, r1, rfl⟩ := List.exists_cons_of_ne_nil h1
    obtain ⟨r2, y, rfl⟩ := (List.eq_nil_or_concat l2).resolve_left h2
    have hx : x = i0 := by rw [e] at e0; exact (List.cons.inj e0).1
    have hy : y = il := by
      rw [e] at el
      have : (x :: r1 ++ i :: r2) ++ [y] = rl ++ [il] := by rw [← el]; simp
      exact (List.cons.inj (List.append_inj' this rfl).2).1
    subst hx hy
    refine ⟨flat br sg hd r1, flat br sg hd r2, ?_⟩
    rw [e, flat_append, flat_cons, flat_cons, List.concat_eq_append, flat_append, show flat br sg hd [y] = pc br sg hd y by unfold flat; simp]
    simp
theorem row_d : ellL (dots ++ (pc br sg hd i).take 2 ++ dots ++ (((pc br sg hd i).drop 1).take 1 ++ dots)) (flat br sg hd pl) = false := by
  have hb := H.brs i (row_mem H e); have hs := H.sgs i (row_mem H e)
  have h := ell4 (a := []) (b := [br i, sg i]) (c := [sg i]) (d := []) (got := flat br sg hd pl) (by simp) (by simp; (first | assumption | decide | exact Nat.le_trans (by assumption) (by decide) | exact Nat.le_trans (Nat.add_le_add (by assumption) (by assumption)) (by decide) | exact Nat.lt_of_le_of_lt (by assumption) (by decide) | exact Nat.lt_of_lt_of_le (by assumption) (by decide) | lia | omega)) (by simp; (first | assumption | decide | exact Nat.le_trans (by assumption) (by decide) | exact Nat.le_trans (Nat.add_le_add (by assumption) (by assumption)) (by decide) | exact Nat.lt_of_le_of_lt (by assumption) (by decide) | exact Nat.lt_of_lt_of_le (by assumption) (by decide) | lia | omega)) rfl
  refine bfalse fun hh => ?_
  obtain ⟨g, k, l, hg⟩ := h.mp (by
    rw [← hh]; congr 1)
  exact row_twice H e (c := g ++ [br i]) (d := k) (f := l) (by rw [hg]; simp)
theorem row_e : ∃ ix, fnd (((pc br sg hd i).drop 1).take 1) (flat br sg hd pl) = some ix ∧ ellL (dots ++ (pc br sg hd i).take 2 ++ dots ++ (flat br sg hd pl).drop ix) (flat br sg hd pl) = false := by
  have hb := H.brs i (row_mem H e); have hs := H.sgs i (row_mem H e)
  refine ⟨(flat br sg hd l1 ++ [br i]).length, ?_, ?_⟩
  · refine fnd_some ?_ ?_ ?_
    · rw [row_eq H e]; simp
    · rw [row_eq H e, List.drop_left' rfl]; unfold pc; simp
    · intro k hk hp
      obtain ⟨t, ht⟩ := hp
      have h1 : (flat br sg hd pl).drop k = sg i :: t := by rw [← ht]; unfold pc; simp
      rw [row_eq H e, List.drop_append_of_le_length (by (first | assumption | decide | exact Nat.le_trans (by assumption) (by decide) | exact Nat.le_trans (Nat.add_le_add (by assumption) (by assumption)) (by decide) | exact Nat.lt_of_le_of_lt (by assumption) (by decide) | exact Nat.lt_of_lt_of_le (by assumption) (by decide) | lia | omega)), List.drop_eq_getElem_cons hk] at h1
      exact row_l H e ((List.cons.inj h1).1 ▸ List.getElem_mem hk)
  · rw [show (flat br sg hd pl).drop (flat br sg hd l1 ++ [br i]).length = sg i :: (hd i ++ flat br sg hd l2) by rw [row_eq H e]; exact List.drop_left' rfl]
    have hd' : 46 ∉ sg i :: (hd i ++ flat br sg hd l2) := by
      intro h
      rcases List.mem_cons.mp h with h | h
      · (first | assumption | decide | exact Nat.le_trans (by assumption) (by decide) | exact Nat.le_trans (Nat.add_le_add (by assumption) (by assumption)) (by decide) | exact Nat.lt_of_le_of_lt (by assumption) (by decide) | exact Nat.lt_of_lt_of_le (by assumption) (by decide) | lia | omega)
      · rcases List.mem_append.mp h with h | h
        · exact (H.hid i (row_mem H e) _ h).2 rfl
        · exact not_dot H (l := l2) (fun j hj => ((row_parts H e).2 j hj).1) h
    have h := ell3 (a := []) (b := [br i, sg i]) (c := sg i :: (hd i ++ flat br sg hd l2)) (got := flat br sg hd pl) (by simp) (by simp; (first | assumption | decide | exact Nat.le_trans (by assumption) (by decide) | exact Nat.le_trans (Nat.add_le_add (by assumption) (by assumption)) (by decide) | exact Nat.lt_of_le_of_lt (by assumption) (by decide) | exact Nat.lt_of_lt_of_le (by assumption) (by decide) | lia | omega)) (fnd_nodot hd')
    refine bfalse fun hh => ?_
    obtain ⟨g, k, hg⟩ := h.mp (by rw [← hh]; congr 1)
    exact row_twice H e (c := g ++ [br i]) (d := k) (f := hd i ++ flat br sg hd l2) (by rw [hg]; simp)
end
end
end Mine
end

section
open PySem PySem.W PyProof.Rows PySem.Calls
set_option maxRecDepth 100000
set_option linter.all false
namespace Mine
theorem rowOk {row : List Nat} {cut x y : Nat} {r : List Nat} (hd : 46 ∉ row) (hc : cut < row.length) (hr : row = x :: y :: r) (hxy : x ≠ y) (t2 : ∃ a b c, row = a ++ [40] ++ b ++ [41] ++ c) (t3 : ∃ a b c, row = a ++ [41] ++ b ++ [40] ++ c) : RowOk row cut := by
  have hT : ∀ k, 46 ∉ row.take k := fun k h => hd (List.mem_of_mem_take h)
  have hD : ∀ k, 46 ∉ row.drop k := fun k h => hd (List.mem_of_mem_drop h)
  have hl : row.length = r.length + 2 := by rw [hr]; rfl
  have hn : fnd dots row = none := fnd_nodot hd
  refine ⟨?_, ?_, ?_, ?_, ?_, ?_, ?_, ?_, ?_, ?_, ?_, ?_, ?_, ?_⟩
  · exact (ell2 (hT (cut + 0)) (fnd_nodot (hD cut))).mpr ⟨[], by simp⟩
  · refine bfalse fun h => ?_
    obtain ⟨g, hg⟩ := (ell2 (hT (cut + 1)) (fnd_nodot (hD cut))).mp h
    have := congrArg List.length hg
    simp at this; (first | assumption | decide | exact Nat.le_trans (by assumption) (by decide) | exact Nat.le_trans (Nat.add_le_add (by assumption) (by assumption)) (by decide) | exact Nat.lt_of_le_of_lt (by assumption) (by decide) | exact Nat.lt_of_lt_of_le (by assumption) (by decide) | lia | omega)
  · refine Eq.trans (by congr 1; simp) ((ell3 (a := row.take (cut + 0)) (b := []) (c := row.drop cut) (got := row) (hT (cut + 0)) (by simp) (fnd_nodot (hD cut))).mpr ⟨[], [], by simp⟩)
  · refine bfalse fun h => ?_
    obtain ⟨g, k, hg⟩ := (ell3 (a := row.take (cut + 1)) (b := []) (c := row.drop cut) (got := row) (hT (cut + 1)) (by simp) (fnd_nodot (hD cut))).mp (by rw [← h]; congr 1; simp)
    have := congrArg List.length hg
    simp at this; (first | assumption | decide | exact Nat.le_trans (by assumption) (by decide) | exact Nat.le_trans (Nat.add_le_add (by assumption) (by assumption)) (by decide) | exact Nat.lt_of_le_of_lt (by assumption) (by decide) | exact Nat.lt_of_lt_of_le (by assumption) (by decide) | lia | omega)
  · rw [ell_none hn]; exact decide_eq_true rfl
  · exact (ell4 (a := []) (b := [40]) (c := [41]) (d := []) (by simp) (by simp) (by simp) rfl).mpr (by obtain ⟨a, b, c, e⟩ := t2; exact ⟨a, b, c, by rw [e]; simp⟩)
  · exact (ell4 (a := []) (b := [41]) (c := [40]) (d := []) (by simp) (by simp) (by simp) rfl).mpr (by obtain ⟨a, b, c, e⟩ := t3; exact ⟨a, b, c, by rw [e]; simp⟩)
  · rw [ell_none (fnd_nodot (hD 1))]
    exact decide_eq_false fun h => by have := congrArg List.length h; simp at this; (first | assumption | decide | exact Nat.le_trans (by assumption) (by decide) | exact Nat.le_trans (Nat.add_le_add (by assumption) (by assumption)) (by decide) | exact Nat.lt_of_le_of_lt (by assumption) (by decide) | exact Nat.lt_of_lt_of_le (by assumption) (by decide) | lia | omega)
  · rw [ell_none (fnd_nodot (hT _))]
    exact decide_eq_false fun h => by have := congrArg List.length h; simp at this; (first | assumption | decide | exact Nat.le_trans (by assumption) (by decide) | exact Nat.le_trans (Nat.add_le_add (by assumption) (by assumption)) (by decide) | exact Nat.lt_of_le_of_lt (by assumption) (by decide) | exact Nat.lt_of_lt_of_le (by assumption) (by decide) | lia | omega)
  · rw [ell_none (fnd_nodot fun h => by rcases List.mem_append.mp h with h | h; exact hD _ h; exact hT _ h)]
    refine decide_eq_false fun h => ?_
    rw [hr] at h
    exact hxy (List.cons.inj h).1.symm
  · rw [ell_none (fnd_nodot fun h => by rcases List.mem_append.mp h with h | h; exact hd h; exact hT _ h)]
    exact decide_eq_false fun h => by have := congrArg List.length h; rw [List.length_append, List.length_take] at this; (first | assumption | decide | exact Nat.le_trans (by assumption) (by decide) | exact Nat.le_trans (Nat.add_le_add (by assumption) (by assumption)) (by decide) | exact Nat.lt_of_le_of_lt (by assumption) (by decide) | exact Nat.lt_of_lt_of_le (by assumption) (by decide) | lia | omega)
  · rw [ell_none (fnd_nodot fun h => by rcases List.mem_append.mp h with h | h; exact hT _ h; exact hd h)]
    exact decide_eq_false fun h => by have := congrArg List.length h; rw [List.length_append, List.length_take] at this; (first | assumption | decide | exact Nat.le_trans (by assumption) (by decide) | exact Nat.le_trans (Nat.add_le_add (by assumption) (by assumption)) (by decide) | exact Nat.lt_of_le_of_lt (by assumption) (by decide) | exact Nat.lt_of_lt_of_le (by assumption) (by decide) | lia | omega)
  · rw [ell_none]
    · exact decide_eq_false fun h => by have := congrArg List.length h; simp at this; (first | assumption | decide | exact Nat.le_trans (by assumption) (by decide) | exact Nat.le_trans (Nat.add_le_add (by assumption) (by assumption)) (by decide) | exact Nat.lt_of_le_of_lt (by assumption) (by decide) | exact Nat.lt_of_lt_of_le (by assumption) (by decide) | lia | omega)
    · refine fnd_none fun k hk hp => ?_
      have h1 := ((hp.sublist).trans (List.drop_sublist k _)).count_le 46
      rw [List.count_append, List.count_append, List.count_eq_zero_of_not_mem (hT _), List.count_eq_zero_of_not_mem (hD _)] at h1
      revert h1; decide
  · refine bfalse fun h => ?_
    have h46 : fnd dots (46 :: row.drop cut) = none := by
      refine fnd_none fun k hk hp => ?_
      have h1 := ((hp.sublist).trans (List.drop_sublist k _)).count_le 46
      have h2 : (46 :: row.drop cut).count 46 = 1 := by rw [List.count_cons, List.count_eq_zero_of_not_mem (hD _)]; rfl
      rw [h2] at h1
      revert h1; decide
    obtain ⟨g, hg⟩ := (ell2 (a := row.take cut) (b := 46 :: row.drop cut) (got := row) (hT _) h46).mp (by rw [← h]; congr 1; simp)
    exact hd (by rw [hg]; simp)
section
variable {pl : List Nat} {br sg : Nat → Nat} {hd : Nat → List Nat} (H : RowH pl br sg hd)
include H
theorem row_low {l1 l2 : List Nat} {i j : Nat} (e : pl = l1 ++ i :: l2) (hj : j ∈ pl) (bi : br i = 40) (bj : br j = 41) :
    ellL ([46, 46, 46, 40] ++ [sg i] ++ [46, 46, 46] ++ [41, sg j] ++ [46, 46, 46]) (flat br sg hd pl) = decide (j ∈ l2) := by
  have hi := H.sgs i (row_mem H e); have hjs := H.sgs j hj
  have h := ell4 (a := []) (b := [40, sg i]) (c := [41, sg j]) (d := []) (got := flat br sg hd pl) (by simp) (by simp; (first | assumption | decide | exact Nat.le_trans (by assumption) (by decide) | exact Nat.le_trans (Nat.add_le_add (by assumption) (by assumption)) (by decide) | exact Nat.lt_of_le_of_lt (by assumption) (by decide) | exact Nat.lt_of_lt_of_le (by assumption) (by decide) | lia | omega)) (by simp; (first | assumption | decide | exact Nat.le_trans (by assumption) (by decide) | exact Nat.le_trans (Nat.add_le_add (by assumption) (by assumption)) (by decide) | exact Nat.lt_of_le_of_lt (by assumption) (by decide) | exact Nat.lt_of_lt_of_le (by assumption) (by decide) | lia | omega)) rfl
  refine biff (Iff.trans (Iff.trans (Eq.to_iff (by congr 1)) h) ⟨?_, ?_⟩)
  · rintro ⟨g, k, l, hg⟩
    have h1 := (row_once H e (c := g ++ [40]) (d := k ++ [41, sg j] ++ l) (by rw [hg]; simp)).2
    have h2 : sg j ∈ hd i ++ flat br sg hd l2 := by rw [h1]; simp
    rcases List.mem_append.mp h2 with h2 | h2
    · have := (H.hid i (row_mem H e) _ h2).1; (first | assumption | decide | exact Nat.le_trans (by assumption) (by decide) | exact Nat.le_trans (Nat.add_le_add (by assumption) (by assumption)) (by decide) | exact Nat.lt_of_le_of_lt (by assumption) (by decide) | exact Nat.lt_of_lt_of_le (by assumption) (by decide) | lia | omega)
    · obtain ⟨j', hj', h3⟩ := mem_flat h2
      have hp := ((row_parts H e).2 j' hj').1
      rcases h3 with h3 | h3 | h3
      · have := H.brs j' hp; (first | assumption | decide | exact Nat.le_trans (by assumption) (by decide) | exact Nat.le_trans (Nat.add_le_add (by assumption) (by assumption)) (by decide) | exact Nat.lt_of_le_of_lt (by assumption) (by decide) | exact Nat.lt_of_lt_of_le (by assumption) (by decide) | lia | omega)
      · rw [H.inj j hj j' hp h3]; exact hj'
      · have := (H.hid j' hp _ h3).1; (first | assumption | decide | exact Nat.le_trans (by assumption) (by decide) | exact Nat.le_trans (Nat.add_le_add (by assumption) (by assumption)) (by decide) | exact Nat.lt_of_le_of_lt (by assumption) (by decide) | exact Nat.lt_of_lt_of_le (by assumption) (by decide) | lia | omega)
  · intro hm
    obtain ⟨m1, m2, rfl⟩ := List.append_of_mem hm
    refine ⟨flat br sg hd l1, hd i ++ flat br sg hd m1, hd j ++ flat br sg hd m2, ?_⟩
    rw [e, flat_append, flat_cons, flat_append, flat_cons]
    unfold pc
    rw [bi, bj]; simp
theorem row_find {l1 l2 : List Nat} {j : Nat} (e : pl = l1 ++ j :: l2) (bj : br j = 41) : fnd [41, sg j] (flat br sg hd pl) = some (flat br sg hd l1).length ∧ (flat br sg hd l1).length + 2 ≤ (flat br sg hd pl).length ∧ (flat br sg hd pl).take ((flat br sg hd l1).length + 2) = flat br sg hd l1 ++ [41, sg j] := by
  have he : flat br sg hd pl = flat br sg hd l1 ++ [41, sg j] ++ (hd j ++ flat br sg hd l2) := by
    rw [e, flat_append, flat_cons]; unfold pc; rw [bj]; simp
  refine ⟨fnd_some (by rw [he]; simp) (by rw [he, List.append_assoc, List.drop_left' rfl]; exact List.prefix_append _ _) fun k hk hp => ?_, by rw [he]; simp, by rw [he]; exact List.take_left' (by simp)⟩
  obtain ⟨t, ht⟩ := hp
  rw [row_eq H e] at ht
  have h1 : ((flat br sg hd l1 ++ [br j]) ++ sg j :: (hd j ++ flat br sg hd l2)).drop (k + 1) = sg j :: t := by rw [← List.drop_drop, ← ht]; rfl
  rw [List.drop_append_of_le_length (by simp; (first | assumption | decide | exact Nat.le_trans (by assumption) (by decide) | exact Nat.le_trans (Nat.add_le_add (by assumption) (by assumption)) (by decide) | exact Nat.lt_of_le_of_lt (by assumption) (by decide) | exact Nat.lt_of_lt_of_le (by assumption) (by decide) | lia | omega)), List.drop_eq_getElem_cons (by simp; (first | assumption | decide | exact Nat.le_trans (by assumption) (by decide) | exact Nat.le_trans (Nat.add_le_add (by assumption) (by assumption)) (by decide) | exact Nat.lt_of_le_of_lt (by assumption) (by decide) | exact Nat.lt_of_lt_of_le (by assumption) (by decide) | lia | omega))] at h1
  exact row_l H e ((List.cons.inj h1).1 ▸ List.getElem_mem _)
end
end Mine
end

section
open PySem PySem.W PyProof.Rows PySem.Calls
set_option maxRecDepth 100000
set_option linter.all false
namespace Mine
/-- one sign of a text, bare or behind a backslash -/
noncomputable def sT (p : Nat × Bool) : List Nat := if p.2 then [92, p.1] else [p.1]
noncomputable def sOk (p : Nat × Bool) : Prop := p.2 = true ∨ (p.1 ≠ 34 ∧ p.1 ≠ 92)
noncomputable def sTs (l : List (Nat × Bool)) : List Nat := (l.map sT).flatten
inductive Tk where
  | s (p : Nat × Bool)
  | q (l : List (Nat × Bool))
noncomputable def Tk.txt : Tk → List Nat
  | .s p => sT p
  | .q l => [34] ++ sTs l ++ [34]
noncomputable def Tk.ok : Tk → Prop
  | .s p => sOk p
  | .q l => ∀ p ∈ l, sOk p
noncomputable def txts (ts : List Tk) : List Nat := (ts.map Tk.txt).flatten
noncomputable def bare : List Tk → List (Nat × Bool)
  | [] => []
  | .s p :: r => p :: bare r
  | .q _ :: r => bare r
theorem escP_s (p : Nat × Bool) (hp : sOk p) (r : List Nat) (i : Nat) : ∃ j, escP (sT p ++ r) i false = (j, sT p) :: escP r (i + (sT p).length) false := by
  obtain ⟨c, e⟩ := p
  cases e with
  | true => exact ⟨i + 1, rfl⟩
  | false =>
    rcases hp with hp | ⟨_, hp⟩
    · cases hp
    · refine ⟨i, ?_⟩
      show (if c = 92 then _ else _) = _
      rw [if_neg hp]; rfl
theorem sT_ne {p : Nat × Bool} (hp : sOk p) : sT p ≠ [34] := by
  obtain ⟨c, e⟩ := p
  cases e with
  | true => intro h; simp [sT] at h
  | false =>
    rcases hp with hp | ⟨hp, _⟩
    · cases hp
    · intro h; simp [sT] at h; exact hp h
theorem strip_in (x : List Nat) (q st : Nat) : ∀ (l : List (Nat × Bool)) (r : List Nat) (i : Nat), (∀ p ∈ l, sOk p) → stripGo x (escP (sTs l ++ r) i false) st (some q) = stripGo x (escP r (i + (sTs l).length) false) st (some q)
  | [], r, i, _ => rfl
  | p :: l, r, i, h => by
    have hp := h p (.head _)
    have e : sTs (p :: l) = sT p ++ sTs l := rfl
    obtain ⟨j, hj⟩ := escP_s p hp (sTs l ++ r) i
    rw [e, List.append_assoc, hj]
    show (if sT p = [34] then _ else stripGo x (escP (sTs l ++ r) (i + (sT p).length) false) st (some q)) = _
    rw [if_neg (sT_ne hp), strip_in x q st l r _ (fun p hp => h p (.tail _ hp)), List.length_append, Nat.add_assoc]
theorem strip_tk (x : List Nat) : ∀ (ts : List Tk) (a : List Nat) (st : Nat), (∀ t ∈ ts, t.ok) → x = a ++ txts ts → st ≤ a.length → (stripGo x (escP (txts ts) a.length false) st none).flatten = a.drop st ++ sTs (bare ts)
  | [], a, st, _, hx, hs => by
    have hx' : x = a := by rw [hx]; show a ++ [] = a; simp
    subst hx'
    show (if st < x.length then [x.drop st] else []).flatten = _
    show _ = x.drop st ++ []
    split
    · simp
    · rw [List.drop_eq_nil_of_le (by (first | assumption | decide | exact Nat.le_trans (by assumption) (by decide) | exact Nat.le_trans (Nat.add_le_add (by assumption) (by assumption)) (by decide) | exact Nat.lt_of_le_of_lt (by assumption) (by decide) | exact Nat.lt_of_lt_of_le (by assumption) (by decide) | lia | omega))]; rfl
  | .s p :: ts, a, st, h, hx, hs => by
    have hp : sOk p := h _ (.head _)
    have e : txts (.s p :: ts) = sT p ++ txts ts := rfl
    obtain ⟨j, hj⟩ := escP_s p hp (txts ts) a.length
    rw [e, hj]
    show (if sT p = [34] then _ else stripGo x (escP (txts ts) (a.length + (sT p).length) false) st none).flatten = _
    rw [if_neg (sT_ne hp)]
    have ih := strip_tk x ts (a ++ sT p) st (fun t ht => h t (.tail _ ht)) (by rw [hx, e]; simp) (by simp; (first | assumption | decide | exact Nat.le_trans (by assumption) (by decide) | exact Nat.le_trans (Nat.add_le_add (by assumption) (by assumption)) (by decide) | exact Nat.lt_of_le_of_lt (by assumption) (by decide) | exact Nat.lt_of_lt_of_le (by assumption) (by decide) | lia | omega))
    rw [List.length_append] at ih
    rw [ih, List.drop_append_of_le_length hs, List.append_assoc]
    rfl
  | .q l :: ts, a, st, h, hx, hs => by
    have hl : ∀ p ∈ l, sOk p := h _ (.head _)
    have e : txts (.q l :: ts) = 34 :: (sTs l ++ (34 :: txts ts)) := by show ([34] ++ sTs l ++ [34]) ++ txts ts = _; simp
    rw [e]
    show (stripGo x ((a.length, [34]) :: escP (sTs l ++ (34 :: txts ts)) (a.length + 1) false) st none).flatten = _
    show (stripGo x (escP (sTs l ++ (34 :: txts ts)) (a.length + 1) false) st (some a.length)).flatten = _
    rw [strip_in x a.length st l _ _ hl]
    show (stripGo x ((a.length + 1 + (sTs l).length, [34]) :: escP (txts ts) (a.length + 1 + (sTs l).length + 1) false) st (some a.length)).flatten = _
    show ((if st = a.length then [] else [(x.drop st).take (a.length - st)]) ++ stripGo x (escP (txts ts) (a.length + 1 + (sTs l).length + 1) false) (a.length + 1 + (sTs l).length + 1) none).flatten = _
    have ih := strip_tk x ts (a ++ ([34] ++ sTs l ++ [34])) (a.length + 1 + (sTs l).length + 1) (fun t ht => h t (.tail _ ht)) (by rw [hx, e]; simp) (by simp; (first | assumption | decide | exact Nat.le_trans (by assumption) (by decide) | exact Nat.le_trans (Nat.add_le_add (by assumption) (by assumption)) (by decide) | exact Nat.lt_of_le_of_lt (by assumption) (by decide) | exact Nat.lt_of_lt_of_le (by assumption) (by decide) | lia | omega))
    have hlen : (a ++ ([34] ++ sTs l ++ [34])).length = a.length + 1 + (sTs l).length + 1 := by simp; (first | assumption | decide | exact Nat.le_trans (by assumption) (by decide) | exact Nat.le_trans (Nat.add_le_add (by assumption) (by assumption)) (by decide) | exact Nat.lt_of_le_of_lt (by assumption) (by decide) | exact Nat.lt_of_lt_of_le (by assumption) (by decide) | lia | omega)
    rw [hlen] at ih
    have hnil : (a ++ ([34] ++ sTs l ++ [34])).drop (a.length + 1 + (sTs l).length + 1) = [] := List.drop_eq_nil_of_le (by rw [hlen]; exact Nat.le_refl _)
    rw [List.flatten_append, ih, hnil, List.nil_append]
    congr 1
    split
    · rename_i hst; rw [hst, List.drop_length]; rfl
    · rw [hx, List.drop_append_of_le_length hs, List.take_left' (by simp)]; simp
theorem bare_all : ∀ ts : List Tk, 34 ∉ txts ts → sTs (bare ts) = txts ts
  | [], _ => rfl
  | .s p :: ts, h => by
    show sT p ++ sTs (bare ts) = sT p ++ txts ts
    rw [bare_all ts fun hm => h (List.mem_append.mpr (.inr hm))]
  | .q l :: ts, h => absurd (by show 34 ∈ ([34] ++ sTs l ++ [34]) ++ txts ts; simp) h
theorem strip_txts (ts : List Tk) (h : ∀ t ∈ ts, t.ok) : stripL (txts ts) = sTs (bare ts) := by
  unfold stripL
  split
  · rename_i hn
    refine (bare_all ts fun hm => ?_).symm
    obtain ⟨a, b, e⟩ := List.append_of_mem hm
    rcases fnd_spec [34] (txts ts) with ⟨_, hnn⟩ | ⟨i, e', _⟩
    · exact hnn a.length (by rw [e]; simp) (by rw [e, List.drop_left' rfl]; exact ⟨b, rfl⟩)
    · rw [e'] at hn; cases hn
  · have := strip_tk (txts ts) ts [] 0 h rfl (Nat.zero_le _)
    exact this
/-- the brackets alone -/
noncomputable def bal : List Bool → Nat → Bool
  | [], o => o == 0
  | true :: r, o => bal r (o + 1)
  | false :: r, o => if o = 0 then false else bal r (o - 1)
noncomputable def brk : List (Nat × Bool) → List Bool
  | [] => []
  | p :: r => if p = (40, false) then true :: brk r else if p = (41, false) then false :: brk r else brk r
theorem chk_s : ∀ (l : List (Nat × Bool)) (i o : Nat), (∀ p ∈ l, sOk p) → chkGo (escP (sTs l) i false) o = bal (brk l) o
  | [], _, _, _ => rfl
  | p :: l, i, o, h => by
    obtain ⟨j, hj⟩ := escP_s p (h p (.head _)) (sTs l) i
    have e : sTs (p :: l) = sT p ++ sTs l := rfl
    rw [e, hj]
    show (if sT p = [40] then chkGo (escP (sTs l) (i + (sT p).length) false) (o + 1) else if sT p = [41] then (if o = 0 then false else chkGo (escP (sTs l) (i + (sT p).length) false) (o - 1)) else chkGo (escP (sTs l) (i + (sT p).length) false) o) = _
    rw [chk_s l _ _ fun p hp => h p (.tail _ hp), chk_s l _ _ fun p hp => h p (.tail _ hp), chk_s l _ _ fun p hp => h p (.tail _ hp)]
    have h40 : ∀ c, sT p = [c] ↔ p = (c, false) := by
      intro c
      obtain ⟨d, b⟩ := p
      cases b <;> simp [sT]
    rw [show brk (p :: l) = if p = (40, false) then true :: brk l else if p = (41, false) then false :: brk l else brk l from rfl]
    by_cases h1 : p = (40, false)
    · rw [if_pos ((h40 40).mpr h1), if_pos h1]; rfl
    · rw [if_neg (fun h => h1 ((h40 40).mp h)), if_neg h1]
      by_cases h2 : p = (41, false)
      · rw [if_pos ((h40 41).mpr h2), if_pos h2]; rfl
      · rw [if_neg (fun h => h2 ((h40 41).mp h)), if_neg h2]
theorem bare_ok : ∀ ts : List Tk, (∀ t ∈ ts, t.ok) → ∀ p ∈ bare ts, sOk p
  | [], _, _, hp => by cases hp
  | .s p :: ts, h, p', hp => by
    rcases List.mem_cons.mp hp with rfl | hp
    · exact h _ (.head _)
    · exact bare_ok ts (fun t ht => h t (.tail _ ht)) p' hp
  | .q l :: ts, h, p', hp => bare_ok ts (fun t ht => h t (.tail _ ht)) p' hp
theorem chk_txts (ts : List Tk) (h : ∀ t ∈ ts, t.ok) : chkL (txts ts) = bal (brk (bare ts)) 0 := by
  unfold chkL
  rw [strip_txts ts h, chk_s _ _ _ (bare_ok ts h)]
theorem brk_append : ∀ a b : List (Nat × Bool), brk (a ++ b) = brk a ++ brk b
  | [], _ => rfl
  | p :: a, b => by
    show (if p = (40, false) then true :: brk (a ++ b) else if p = (41, false) then false :: brk (a ++ b) else brk (a ++ b)) = (if p = (40, false) then true :: brk a else if p = (41, false) then false :: brk a else brk a) ++ brk b
    rw [brk_append a b]
    split
    · rfl
    · split <;> rfl
theorem bare_append : ∀ a b : List Tk, bare (a ++ b) = bare a ++ bare b
  | [], _ => rfl
  | .s p :: a, b => by show p :: bare (a ++ b) = p :: bare a ++ bare b; rw [bare_append a b]; rfl
  | .q l :: a, b => by show bare (a ++ b) = bare a ++ bare b; rw [bare_append a b]
theorem txts_append (a b : List Tk) : txts (a ++ b) = txts a ++ txts b := by unfold txts; simp
/-- a text whose brackets, as mail sees them, are these -/
noncomputable def Brs (x : List Nat) (l : List Bool) : Prop := ∃ ts : List Tk, (∀ t ∈ ts, t.ok) ∧ x = txts ts ∧ brk (bare ts) = l
theorem Brs.chk {x : List Nat} {l : List Bool} (h : Brs x l) : chkL x = bal l 0 := by
  obtain ⟨ts, h1, rfl, rfl⟩ := h
  exact chk_txts ts h1
theorem Brs.app {x y : List Nat} {l m : List Bool} (h : Brs x l) (h' : Brs y m) : Brs (x ++ y) (l ++ m) := by
  obtain ⟨ts, h1, rfl, rfl⟩ := h
  obtain ⟨us, h2, rfl, rfl⟩ := h'
  exact ⟨ts ++ us, fun t ht => (List.mem_append.mp ht).elim (h1 t) (h2 t), (txts_append ts us).symm, by rw [bare_append, brk_append]⟩
theorem Brs.nil : Brs [] [] := ⟨[], (fun _ h => by cases h), rfl, rfl⟩
theorem Brs.one {c : Nat} (h1 : c ≠ 34) (h2 : c ≠ 92) (h3 : c ≠ 40) (h4 : c ≠ 41) : Brs [c] [] := ⟨[.s (c, false)], fun t ht => by rw [List.mem_singleton.mp ht]; exact .inr ⟨h1, h2⟩, rfl, by
  show brk [(c, false)] = []
  unfold brk
  rw [if_neg (fun h => h3 (congrArg Prod.fst h)), if_neg (fun h => h4 (congrArg Prod.fst h))]; rfl⟩
theorem Brs.op : Brs [40] [true] := ⟨[.s (40, false)], fun t ht => by rw [List.mem_singleton.mp ht]; exact .inr ⟨by decide, by decide⟩, rfl, rfl⟩
theorem Brs.cl : Brs [41] [false] := ⟨[.s (41, false)], fun t ht => by rw [List.mem_singleton.mp ht]; exact .inr ⟨by decide, by decide⟩, rfl, rfl⟩
theorem Brs.rep {c : Nat} {b : Bool} (h : Brs [c] [b]) : ∀ k, Brs (List.replicate k c) (List.replicate k b)
  | 0 => Brs.nil
  | k + 1 => h.app (Brs.rep h k)
theorem Brs.hid (c3 i : Nat) : Brs (hidOf c3 i) [] := by
  unfold hidOf
  split
  · have h : (c3 / 7 + i) % 6 < 6 := Nat.mod_lt _ (by decide)
    generalize (c3 / 7 + i) % 6 = b at *
    have sok : ∀ {p : Nat × Bool} {q : Tk}, sOk p → q ∈ [Tk.s p] → q.ok := fun h hq => by rw [List.mem_singleton.mp hq]; exact h
    match b, h with
    | 0, _ => exact ⟨[.s (10, false)], fun t ht => sok (.inr ⟨by decide, by decide⟩) ht, rfl, rfl⟩
    | 1, _ => exact ⟨[.s (40, true)], fun t ht => sok (.inl rfl) ht, rfl, rfl⟩
    | 2, _ => exact ⟨[.s (41, true)], fun t ht => sok (.inl rfl) ht, rfl, rfl⟩
    | 3, _ => exact ⟨[.q [(40, false)]], fun t ht => by
        rw [List.mem_singleton.mp ht]
        intro p hp
        rw [List.mem_singleton.mp hp]; exact .inr ⟨by decide, by decide⟩, rfl, rfl⟩
    | 4, _ => exact ⟨[.q [(34, true), (41, false)]], fun t ht => by
        rw [List.mem_singleton.mp ht]
        intro p hp
        rcases List.mem_cons.mp hp with rfl | hp
        · exact .inl rfl
        · rw [List.mem_singleton.mp hp]; exact .inr ⟨by decide, by decide⟩, rfl, rfl⟩
    | 5, _ => exact ⟨[.s (92, true)], fun t ht => sok (.inl rfl) ht, rfl, rfl⟩
    | b + 6, h => exact absurd h (by (first | assumption | decide | exact Nat.le_trans (by assumption) (by decide) | exact Nat.le_trans (Nat.add_le_add (by assumption) (by assumption)) (by decide) | exact Nat.lt_of_le_of_lt (by assumption) (by decide) | exact Nat.lt_of_lt_of_le (by assumption) (by decide) | lia | omega))
  · exact Brs.nil
theorem Brs.flat {br sg : Nat → Nat} {c3 : Nat} {bo : Nat → Bool} : ∀ (l : List Nat), (∀ i ∈ l, br i = if bo i then 40 else 41) → (∀ i ∈ l, 256 ≤ sg i) → Brs (flat br sg (hidOf c3) l) (l.map bo)
  | [], _, _ => Brs.nil
  | i :: l, h1, h2 => by
    rw [flat_cons]
    have hs := h2 i (.head _)
    have hb : Brs [br i] [bo i] := by
      rw [h1 i (.head _)]
      cases bo i
      · exact Brs.cl
      · exact Brs.op
    have h3 := ((hb.app (Brs.one (c := sg i) (by (first | assumption | decide | exact Nat.le_trans (by assumption) (by decide) | exact Nat.le_trans (Nat.add_le_add (by assumption) (by assumption)) (by decide) | exact Nat.lt_of_le_of_lt (by assumption) (by decide) | exact Nat.lt_of_lt_of_le (by assumption) (by decide) | lia | omega)) (by (first | assumption | decide | exact Nat.le_trans (by assumption) (by decide) | exact Nat.le_trans (Nat.add_le_add (by assumption) (by assumption)) (by decide) | exact Nat.lt_of_le_of_lt (by assumption) (by decide) | exact Nat.lt_of_lt_of_le (by assumption) (by decide) | lia | omega)) (by (first | assumption | decide | exact Nat.le_trans (by assumption) (by decide) | exact Nat.le_trans (Nat.add_le_add (by assumption) (by assumption)) (by decide) | exact Nat.lt_of_le_of_lt (by assumption) (by decide) | exact Nat.lt_of_lt_of_le (by assumption) (by decide) | lia | omega)) (by (first | assumption | decide | exact Nat.le_trans (by assumption) (by decide) | exact Nat.le_trans (Nat.add_le_add (by assumption) (by assumption)) (by decide) | exact Nat.lt_of_le_of_lt (by assumption) (by decide) | exact Nat.lt_of_lt_of_le (by assumption) (by decide) | lia | omega)))).app (Brs.hid c3 i)).app (Brs.flat (c3 := c3) l (fun j hj => h1 j (.tail _ hj)) (fun j hj => h2 j (.tail _ hj)))
    exact h3
end Mine
end

section
open PySem PySem.W PyProof.Rows PySem.Calls
set_option maxRecDepth 100000
set_option linter.all false
namespace Mine
noncomputable def hasXY (x y : Bool) : List Bool → Bool
  | [] => false
  | b :: r => (b == x && r.contains y) || hasXY x y r
/-- what the numbers must give, the order of the things given -/
noncomputable def finP (m n : Nat) (p : List Nat) : Bool :=
  let h := m / 2
  let bs := p.map fun i => decide (i < h)
  hasXY true false bs && (hasXY false true bs &&
  ((List.range (h + n / 2)).all (fun i => p.contains i) &&
  ((List.range (n / 2)).all (fun j => bal (List.replicate (j + 1 - manyTo m n (j + 1) h) true ++ ((p.take (p.idxOf (h + j))).map fun i => decide (i < h)) ++ [false] ++ List.replicate (manyTo m n (j + 1) h - (j + 1)) false) 0) &&
  ((bal (List.replicate (leadOf m n).toNat false ++ bs ++ List.replicate (-leadOf m n).toNat true) 0 == false) &&
  ((bal (List.replicate (-leadOf m n).toNat true ++ bs ++ List.replicate (leadOf m n).toNat false ++ [true]) 0 == false) &&
  ((oddL m n == decide (aheadTo m n (n / 2) % 2 = 1)) && (squareB m n == decide ((h * (n / 2) - aheadTo m n (n / 2)) % 2 = 0))))))))
theorem finP_all : ∀ a, a < 5 → ∀ b, b < 5 → finP (3 + 2 * a) (nPair a b) (permL (3 + 2 * a) (nPair a b)) = true := by decide +kernel
end Mine
end

section
open PySem PySem.W PyProof.Rows PySem.Calls
set_option maxRecDepth 100000
set_option linter.all false
namespace Mine
theorem hasXY_some {x y : Bool} {f : Nat → Bool} : ∀ {p : List Nat}, hasXY x y (p.map f) = true → ∃ a i b j c, p = a ++ i :: (b ++ j :: c) ∧ f i = x ∧ f j = y
  | [], h => by cases h
  | i :: p, h => by
    have h' : ((f i == x && (p.map f).contains y) || hasXY x y (p.map f)) = true := h
    rcases Bool.or_eq_true_iff.mp h' with h1 | h1
    · obtain ⟨h2, h3⟩ := Bool.and_eq_true_iff.mp h1
      rw [List.contains_iff_mem] at h3
      obtain ⟨j, hj, e⟩ := List.mem_map.mp h3
      obtain ⟨b, c, rfl⟩ := List.append_of_mem hj
      exact ⟨[], i, b, j, c, rfl, by simpa using h2, e⟩
    · obtain ⟨a, k, b, j, c, rfl, e1, e2⟩ := hasXY_some h1
      exact ⟨i :: a, k, b, j, c, rfl, e1, e2⟩
theorem rising_pair : ∀ {l : List Nat}, rising l = true → l.Pairwise (· < ·)
  | [], _ => .nil
  | [a], _ => by simp
  | a :: b :: r, h => by
    obtain ⟨h1, h2⟩ := Bool.and_eq_true_iff.mp (show (decide (a < b) && rising (b :: r)) = true from h)
    have h1 := of_decide_eq_true h1
    have ih := rising_pair h2
    refine List.pairwise_cons.mpr ⟨fun x hx => ?_, ih⟩
    rcases List.mem_cons.mp hx with rfl | hx
    · exact h1
    · exact Nat.lt_trans h1 ((List.pairwise_cons.mp ih).1 x hx)
noncomputable def brA (h i : Nat) : Nat := if i < h then 40 else 41
noncomputable def sgA (h base i : Nat) : Nat := if i < h then base + (i + 1) else base + 31 + (i - h + 1)
noncomputable def qA (m n i : Nat) : Nat := (qsL m n).getD i 0
theorem q_open {m n i : Nat} (h : i < m / 2) : qA m n i = (i + 1) * n := by
  unfold qA qsL
  rw [List.getD_eq_getElem?_getD, List.getElem?_append_left (by simpa using h), List.getElem?_map, List.getElem?_range h]; rfl
theorem q_close {m n j : Nat} (h : j < n / 2) : qA m n (m / 2 + j) = (j + 1) * m := by
  unfold qA qsL
  rw [List.getD_eq_getElem?_getD, List.getElem?_append_right (by simp), List.getElem?_map]
  simp only [List.length_map, List.length_range, Nat.add_sub_cancel_left]
  rw [List.getElem?_range h]; rfl
theorem thing_get {m n base worth i : Nat} (h : i < m / 2 + n / 2) : (thingsL m n base worth)[i]? = some (brA (m / 2) i, sgA (m / 2) base i, qA m n i * worth) := by
  unfold thingsL opensL closesL brA sgA
  by_cases hi : i < m / 2
  · rw [List.getElem?_append_left (by simpa using hi), List.getElem?_map, List.getElem?_range hi, if_pos hi, if_pos hi, q_open hi]; rfl
  · obtain ⟨j, rfl⟩ : ∃ j, i = m / 2 + j := ⟨i - m / 2, by (first | assumption | decide | exact Nat.le_trans (by assumption) (by decide) | exact Nat.le_trans (Nat.add_le_add (by assumption) (by assumption)) (by decide) | exact Nat.lt_of_le_of_lt (by assumption) (by decide) | exact Nat.lt_of_lt_of_le (by assumption) (by decide) | lia | omega)⟩
    rw [List.getElem?_append_right (by simp), List.getElem?_map, if_neg hi, if_neg hi, q_close (by (first | assumption | decide | exact Nat.le_trans (by assumption) (by decide) | exact Nat.le_trans (Nat.add_le_add (by assumption) (by assumption)) (by decide) | exact Nat.lt_of_le_of_lt (by assumption) (by decide) | exact Nat.lt_of_lt_of_le (by assumption) (by decide) | lia | omega))]
    simp only [List.length_map, List.length_range, Nat.add_sub_cancel_left]
    rw [List.getElem?_range (by (first | assumption | decide | exact Nat.le_trans (by assumption) (by decide) | exact Nat.le_trans (Nat.add_le_add (by assumption) (by assumption)) (by decide) | exact Nat.lt_of_le_of_lt (by assumption) (by decide) | exact Nat.lt_of_lt_of_le (by assumption) (by decide) | lia | omega))]; rfl
theorem heard_get {c3 m n base worth i : Nat} (h : i < m / 2 + n / 2) : (heardL c3 0 (thingsL m n base worth)).getD i (0, []) = (qA m n i * worth, pc (brA (m / 2)) (sgA (m / 2) base) (hidOf c3) i) := by
  rw [List.getD_eq_getElem?_getD, heardL_get c3 _ 0 i _ (thing_get h)]
  unfold heardE pc
  rw [Nat.zero_add]; rfl
section
variable {c3 m n base worth : Nat} (ho : sortOk m n = true) (hmem : ∀ i, i < m / 2 + n / 2 → i ∈ permL m n)
include ho
theorem sorted_eq : sortedL c3 m n base worth = (permL m n).map fun i => (qA m n i * worth, pc (brA (m / 2)) (sgA (m / 2) base) (hidOf c3) i) := by
  unfold sortedL
  exact List.map_congr_left fun i hi => heard_get ((perm_lt ho).2 i hi)
theorem row_flat : rowL c3 m n base worth = flat (brA (m / 2)) (sgA (m / 2) base) (hidOf c3) (permL m n) := by
  unfold rowL flat
  rw [sorted_eq ho, List.map_map]; rfl
theorem perm_pair : (permL m n).Pairwise fun i j => qA m n i < qA m n j := by
  have h := ho
  unfold sortOk at h
  have h1 := rising_pair (Bool.and_eq_true_iff.mp h).2
  exact List.pairwise_map.mp h1
theorem perm_nodup : (permL m n).Nodup := (perm_pair ho).imp fun h e => by rw [e] at h; exact Nat.lt_irrefl _ h
theorem rowH (hm : m / 2 ≤ 30) (hb : 256 ≤ base) : RowH (permL m n) (brA (m / 2)) (sgA (m / 2) base) (hidOf c3) := by
  refine ⟨perm_nodup ho, fun i _ => ?_, fun i _ => ?_, fun i _ j _ h => ?_, fun i _ c hc => ?_⟩
  · unfold brA; split
    · exact .inl rfl
    · exact .inr rfl
  · unfold sgA; split <;> (first | assumption | decide | exact Nat.le_trans (by assumption) (by decide) | exact Nat.le_trans (Nat.add_le_add (by assumption) (by assumption)) (by decide) | exact Nat.lt_of_le_of_lt (by assumption) (by decide) | exact Nat.lt_of_lt_of_le (by assumption) (by decide) | lia | omega)
  · unfold sgA at h; split at h <;> split at h <;> (first | assumption | decide | exact Nat.le_trans (by assumption) (by decide) | exact Nat.le_trans (Nat.add_le_add (by assumption) (by assumption)) (by decide) | exact Nat.lt_of_le_of_lt (by assumption) (by decide) | exact Nat.lt_of_lt_of_le (by assumption) (by decide) | lia | omega)
  · unfold hidOf at hc
    split at hc
    · have h : (c3 / 7 + i) % 6 < 6 := Nat.mod_lt _ (by decide)
      generalize (c3 / 7 + i) % 6 = b at *
      have hall : ∀ b, b < 6 → ∀ c ∈ hids.getD b [], c < 256 ∧ c ≠ 46 := by decide
      exact hall b h c hc
    · cases hc
end
theorem beq_comm' (a b : Nat) : (a == b) = decide (b = a) := by
  rw [Bool.eq_iff_iff, beq_iff_eq, decide_eq_true_eq]; exact eq_comm
theorem p257_rep {b : Nat} (hb : b ≠ 34) : ∀ q, p257 (List.replicate q 34 ++ [b]) = List.replicate (q / 2) 34 ++ (if q % 2 = 0 then [b] else [])
  | 0 => p257_ne hb
  | 1 => by
    show p257 (34 :: [b]) = []
    simp [p257, hb]
  | q + 2 => by
    have ih := p257_rep hb q
    show p257 (34 :: 34 :: (List.replicate q 34 ++ [b])) = _
    rw [show p257 (34 :: 34 :: (List.replicate q 34 ++ [b])) = 34 :: p257 (List.replicate q 34 ++ [b]) by simp [p257]]
    rw [ih, show (q + 2) / 2 = q / 2 + 1 by (first | assumption | decide | exact Nat.le_trans (by assumption) (by decide) | exact Nat.le_trans (Nat.add_le_add (by assumption) (by assumption)) (by decide) | exact Nat.lt_of_le_of_lt (by assumption) (by decide) | exact Nat.lt_of_lt_of_le (by assumption) (by decide) | lia | omega), show (q + 2) % 2 = q % 2 by (first | assumption | decide | exact Nat.le_trans (by assumption) (by decide) | exact Nat.le_trans (Nat.add_le_add (by assumption) (by assumption)) (by decide) | exact Nat.lt_of_le_of_lt (by assumption) (by decide) | exact Nat.lt_of_lt_of_le (by assumption) (by decide) | lia | omega)]; rfl
end Mine
end

section
open PySem PySem.W PyProof.Rows PySem.Calls
set_option maxRecDepth 100000
set_option linter.all false
namespace Mine
section
variable {c3 m n base worth : Nat} (ho : sortOk m n = true) (hm : m / 2 ≤ 30) (hb : 256 ≤ base) (hw : 1 ≤ worth)
include ho hm hb
theorem first_q {l1 l2 : List Nat} {i i0 : Nat} {r0 : List Nat} (e : permL m n = l1 ++ i :: l2) (e0 : permL m n = i0 :: r0) : l1 = [] ↔ qA m n i = qA m n i0 := by
  constructor
  · rintro rfl
    rw [e] at e0
    rw [(List.cons.inj e0).1]
  · intro h
    cases l1 with
    | nil => rfl
    | cons x r =>
      have hp := perm_pair ho
      rw [e] at hp e0
      have := (List.pairwise_append.mp hp).2.2 x (.head _) i (.head _)
      rw [(List.cons.inj e0).1] at this
      (first | assumption | decide | exact Nat.le_trans (by assumption) (by decide) | exact Nat.le_trans (Nat.add_le_add (by assumption) (by assumption)) (by decide) | exact Nat.lt_of_le_of_lt (by assumption) (by decide) | exact Nat.lt_of_lt_of_le (by assumption) (by decide) | lia | omega)
theorem last_q {l1 l2 : List Nat} {i il : Nat} {rl : List Nat} (e : permL m n = l1 ++ i :: l2) (el : permL m n = rl ++ [il]) : l2 = [] ↔ qA m n i = qA m n il := by
  constructor
  · rintro rfl
    rw [e] at el
    rw [(List.cons.inj (List.append_inj' el rfl).2).1]
  · intro h
    rcases List.eq_nil_or_concat l2 with h2 | ⟨r, y, h2⟩
    · exact h2
    · have hp := perm_pair ho
      rw [h2, List.concat_eq_append] at e
      rw [e] at hp el
      have hy : y = il := by
        have : (l1 ++ i :: r) ++ [y] = rl ++ [il] := by rw [← el]; simp
        exact (List.cons.inj (List.append_inj' this rfl).2).1
      have := (List.pairwise_cons.mp (List.pairwise_append.mp hp).2.1).1 y (by simp)
      rw [hy] at this
      (first | assumption | decide | exact Nat.le_trans (by assumption) (by decide) | exact Nat.le_trans (Nat.add_le_add (by assumption) (by assumption)) (by decide) | exact Nat.lt_of_le_of_lt (by assumption) (by decide) | exact Nat.lt_of_lt_of_le (by assumption) (by decide) | lia | omega)
include hw
theorem beq_q {l : List Nat} {a b : Nat} (h : l = [] ↔ a = b) : decide (l = []) = (a * worth == b * worth) ∧ decide (l = []) = (b * worth == a * worth) := by
  have h1 : a = b ↔ a * worth = b * worth := ⟨fun e => by rw [e], fun e => Nat.eq_of_mul_eq_mul_right hw e⟩
  constructor
  · rw [Bool.eq_iff_iff, decide_eq_true_eq, beq_iff_eq]; exact h.trans h1
  · rw [Bool.eq_iff_iff, decide_eq_true_eq, beq_iff_eq]; exact (h.trans h1).trans eq_comm
theorem pieces_ok {i i0 il : Nat} {r0 rl : List Nat} (e0 : permL m n = i0 :: r0) (el : permL m n = rl ++ [il]) (hi : i ∈ permL m n) :
    PieceOk (flat (brA (m / 2)) (sgA (m / 2) base) (hidOf c3) (permL m n)) (qA m n i0 * worth, pc (brA (m / 2)) (sgA (m / 2) base) (hidOf c3) i0) (qA m n il * worth, pc (brA (m / 2)) (sgA (m / 2) base) (hidOf c3) il) (qA m n i * worth, pc (brA (m / 2)) (sgA (m / 2) base) (hidOf c3) i) := by
  obtain ⟨l1, l2, e⟩ := List.append_of_mem hi
  have H : RowH (permL m n) (brA (m / 2)) (sgA (m / 2) base) (hidOf c3) := rowH ho hm hb
  have q1 := beq_q ho hm hb hw (first_q ho hm hb e e0)
  have q2 := beq_q ho hm hb hw (last_q ho hm hb e el)
  refine ⟨(row_a H e).trans q1.1, (row_b H e).trans q2.1, (row_c H e e0 el).trans ?_, row_d H e, row_e H e, ?_, ?_⟩
  · rw [← q1.2, ← q2.2]
  · show 2 ≤ (pc (brA (m / 2)) (sgA (m / 2) base) (hidOf c3) i).length
    unfold pc; simp
  · exact heard_len c3 i (brA (m / 2) i, sgA (m / 2) base i, 0)
end
theorem facts (c0 c1 c2 c3 : Nat) : Facts c0 c1 c2 c3 := by
  have hm1 := mOf_lt c0
  have hn1 := nOf_lt c0 c1
  have ho : sortOk (mOf c0) (nOf c0 c1) = true := sortOk_all (c0 % 5) (Nat.mod_lt _ (by decide)) (c1 % 5) (Nat.mod_lt _ (by decide))
  have hq : decide (qsL (mOf c0) (nOf c0 c1)).Nodup = true := qs_nodup (c0 % 5) (Nat.mod_lt _ (by decide)) (c1 % 5) (Nat.mod_lt _ (by decide))
  have hf : finP (mOf c0) (nOf c0 c1) (permL (mOf c0) (nOf c0 c1)) = true := finP_all (c0 % 5) (Nat.mod_lt _ (by decide)) (c1 % 5) (Nat.mod_lt _ (by decide))
  have hbase : 256 ≤ 256 + c2 % 50000 := by (first | assumption | decide | exact Nat.le_trans (by assumption) (by decide) | exact Nat.le_trans (Nat.add_le_add (by assumption) (by assumption)) (by decide) | exact Nat.lt_of_le_of_lt (by assumption) (by decide) | exact Nat.lt_of_lt_of_le (by assumption) (by decide) | lia | omega)
  have hworth : 1 ≤ 1 + c3 % 900 := by (first | assumption | decide | exact Nat.le_trans (by assumption) (by decide) | exact Nat.le_trans (Nat.add_le_add (by assumption) (by assumption)) (by decide) | exact Nat.lt_of_le_of_lt (by assumption) (by decide) | exact Nat.lt_of_lt_of_le (by assumption) (by decide) | lia | omega)
  suffices h : ∀ m n base worth, 3 ≤ m → m ≤ 13 → 3 ≤ n → n ≤ 13 → 256 ≤ base → 1 ≤ worth → sortOk m n = true → (qsL m n).Nodup → finP m n (permL m n) = true →
      (2 ≤ m / 2 + n / 2) ∧ (∃ p0 pl, (sortedL c3 m n base worth)[0]? = some p0 ∧ (sortedL c3 m n base worth)[m / 2 + n / 2 - 1]? = some pl ∧ ∀ p ∈ sortedL c3 m n base worth, PieceOk (rowL c3 m n base worth) p0 pl p) ∧
      RowOk (rowL c3 m n base worth) (c2 % (rowL c3 m n base worth).length) ∧ (1 ≤ (rowL c3 m n base worth).length ∧ (rowL c3 m n base worth).length ≤ 500) ∧ (∀ j, 1 ≤ j → j ≤ n / 2 → LowOk (rowL c3 m n base worth) m n base j) ∧ EndOk (rowL c3 m n base worth) m n base by
    obtain ⟨h1, h2, h3, h4, h5, h6⟩ := h (mOf c0) (nOf c0 c1) (256 + c2 % 50000) (1 + c3 % 900) (by (first | assumption | decide | exact Nat.le_trans (by assumption) (by decide) | exact Nat.le_trans (Nat.add_le_add (by assumption) (by assumption)) (by decide) | exact Nat.lt_of_le_of_lt (by assumption) (by decide) | exact Nat.lt_of_lt_of_le (by assumption) (by decide) | lia | omega)) (by (first | assumption | decide | exact Nat.le_trans (by assumption) (by decide) | exact Nat.le_trans (Nat.add_le_add (by assumption) (by assumption)) (by decide) | exact Nat.lt_of_le_of_lt (by assumption) (by decide) | exact Nat.lt_of_lt_of_le (by assumption) (by decide) | lia | omega)) (by (first | assumption | decide | exact Nat.le_trans (by assumption) (by decide) | exact Nat.le_trans (Nat.add_le_add (by assumption) (by assumption)) (by decide) | exact Nat.lt_of_le_of_lt (by assumption) (by decide) | exact Nat.lt_of_lt_of_le (by assumption) (by decide) | lia | omega)) (by (first | assumption | decide | exact Nat.le_trans (by assumption) (by decide) | exact Nat.le_trans (Nat.add_le_add (by assumption) (by assumption)) (by decide) | exact Nat.lt_of_le_of_lt (by assumption) (by decide) | exact Nat.lt_of_lt_of_le (by assumption) (by decide) | lia | omega)) hbase hworth ho (of_decide_eq_true hq) hf
    exact ⟨ho, of_decide_eq_true hq, h1, h2, h3, h4, h5, h6⟩
  clear hm1 hn1 ho hq hf hbase hworth
  intro m n base worth hm3 hm hn3 hn hb hw ho hnd hf
  have hm30 : m / 2 ≤ 30 := by (first | assumption | decide | exact Nat.le_trans (by assumption) (by decide) | exact Nat.le_trans (Nat.add_le_add (by assumption) (by assumption)) (by decide) | exact Nat.lt_of_le_of_lt (by assumption) (by decide) | exact Nat.lt_of_lt_of_le (by assumption) (by decide) | lia | omega)
  have H : RowH (permL m n) (brA (m / 2)) (sgA (m / 2) base) (hidOf c3) := rowH ho hm30 hb
  have hlen := (perm_lt ho).1
  rw [row_flat ho]
  unfold finP at hf
  simp only [Bool.and_eq_true, beq_iff_eq, List.all_eq_true, List.mem_range] at hf
  obtain ⟨f1, f2, f3, f4, f5, f6, f7, f8⟩ := hf
  have hbr : ∀ i, brA (m / 2) i = if decide (i < m / 2) then 40 else 41 := fun i => by unfold brA; simp
  have hall : Brs (flat (brA (m / 2)) (sgA (m / 2) base) (hidOf c3) (permL m n)) ((permL m n).map fun i => decide (i < m / 2)) := Brs.flat (permL m n) (fun i _ => hbr i) H.sgs
  obtain ⟨i0, r0, e0⟩ : ∃ i0 r0, permL m n = i0 :: r0 := List.exists_cons_of_length_pos (by (first | assumption | decide | exact Nat.le_trans (by assumption) (by decide) | exact Nat.le_trans (Nat.add_le_add (by assumption) (by assumption)) (by decide) | exact Nat.lt_of_le_of_lt (by assumption) (by decide) | exact Nat.lt_of_lt_of_le (by assumption) (by decide) | lia | omega))
  obtain ⟨rl, il, el⟩ : ∃ rl il, permL m n = rl ++ [il] := by
    rcases List.eq_nil_or_concat (permL m n) with h | ⟨r, y, h⟩
    · rw [h] at e0; cases e0
    · exact ⟨r, y, by rw [h, List.concat_eq_append]⟩
  have hshape : flat (brA (m / 2)) (sgA (m / 2) base) (hidOf c3) (permL m n) = brA (m / 2) i0 :: sgA (m / 2) base i0 :: (hidOf c3 i0 ++ flat (brA (m / 2)) (sgA (m / 2) base) (hidOf c3) r0) := by
    rw [e0, flat_cons]; unfold pc; simp
  have hpos : 0 < (flat (brA (m / 2)) (sgA (m / 2) base) (hidOf c3) (permL m n)).length := by rw [hshape]; simp
  refine ⟨by (first | assumption | decide | exact Nat.le_trans (by assumption) (by decide) | exact Nat.le_trans (Nat.add_le_add (by assumption) (by assumption)) (by decide) | exact Nat.lt_of_le_of_lt (by assumption) (by decide) | exact Nat.lt_of_lt_of_le (by assumption) (by decide) | lia | omega), ?_, ?_, ⟨hpos, ?_⟩, ?_, ?_⟩
  · rw [sorted_eq ho]
    refine ⟨_, _, by rw [List.getElem?_map, e0]; rfl, by rw [List.getElem?_map, ← hlen, el]; simp; rfl, fun p hp => ?_⟩
    obtain ⟨i, hi, rfl⟩ := List.mem_map.mp hp
    exact pieces_ok ho hm30 hb hw e0 el hi
  · refine rowOk (not_dot H fun j hj => hj) (Nat.mod_lt _ hpos) hshape ?_ ?_ ?_
    · have h1 := H.brs i0 (by rw [e0]; exact .head _)
      have h2 := H.sgs i0 (by rw [e0]; exact .head _)
      (first | assumption | decide | exact Nat.le_trans (by assumption) (by decide) | exact Nat.le_trans (Nat.add_le_add (by assumption) (by assumption)) (by decide) | exact Nat.lt_of_le_of_lt (by assumption) (by decide) | exact Nat.lt_of_lt_of_le (by assumption) (by decide) | lia | omega)
    · obtain ⟨a, i, b, j, c, e, h1, h2⟩ := hasXY_some f1
      refine ⟨flat (brA (m / 2)) (sgA (m / 2) base) (hidOf c3) a, [sgA (m / 2) base i] ++ hidOf c3 i ++ flat (brA (m / 2)) (sgA (m / 2) base) (hidOf c3) b, [sgA (m / 2) base j] ++ hidOf c3 j ++ flat (brA (m / 2)) (sgA (m / 2) base) (hidOf c3) c, ?_⟩
      rw [e, flat_append, flat_cons, flat_append, flat_cons]
      unfold pc
      rw [hbr i, h1, hbr j, h2]; simp
    · obtain ⟨a, i, b, j, c, e, h1, h2⟩ := hasXY_some f2
      refine ⟨flat (brA (m / 2)) (sgA (m / 2) base) (hidOf c3) a, [sgA (m / 2) base i] ++ hidOf c3 i ++ flat (brA (m / 2)) (sgA (m / 2) base) (hidOf c3) b, [sgA (m / 2) base j] ++ hidOf c3 j ++ flat (brA (m / 2)) (sgA (m / 2) base) (hidOf c3) c, ?_⟩
      rw [e, flat_append, flat_cons, flat_append, flat_cons]
      unfold pc
      rw [hbr i, h1, hbr j, h2]; simp
  · have h1 : (flat (brA (m / 2)) (sgA (m / 2) base) (hidOf c3) (permL m n)).length = (((permL m n).map (pc (brA (m / 2)) (sgA (m / 2) base) (hidOf c3))).map List.length).sum := by unfold flat; rw [List.length_flatten]
    have h2 := sum_le (L := (permL m n).map (pc (brA (m / 2)) (sgA (m / 2) base) (hidOf c3))) (fun x hx => by
      obtain ⟨i, _, rfl⟩ := List.mem_map.mp hx
      exact heard_len c3 i (brA (m / 2) i, sgA (m / 2) base i, 0))
    rw [List.length_map] at h2
    (first | assumption | decide | exact Nat.le_trans (by assumption) (by decide) | exact Nat.le_trans (Nat.add_le_add (by assumption) (by assumption)) (by decide) | exact Nat.lt_of_le_of_lt (by assumption) (by decide) | exact Nat.lt_of_lt_of_le (by assumption) (by decide) | lia | omega)
  · intro j hj1 hj2
    obtain ⟨j, rfl⟩ : ∃ j', j = j' + 1 := ⟨j - 1, by (first | assumption | decide | exact Nat.le_trans (by assumption) (by decide) | exact Nat.le_trans (Nat.add_le_add (by assumption) (by assumption)) (by decide) | exact Nat.lt_of_le_of_lt (by assumption) (by decide) | exact Nat.lt_of_lt_of_le (by assumption) (by decide) | lia | omega)⟩
    have hjm : m / 2 + j ∈ permL m n := List.contains_iff_mem.mp (f3 (m / 2 + j) (by (first | assumption | decide | exact Nat.le_trans (by assumption) (by decide) | exact Nat.le_trans (Nat.add_le_add (by assumption) (by assumption)) (by decide) | exact Nat.lt_of_le_of_lt (by assumption) (by decide) | exact Nat.lt_of_lt_of_le (by assumption) (by decide) | lia | omega)))
    have bj : brA (m / 2) (m / 2 + j) = 41 := by unfold brA; rw [if_neg (by (first | assumption | decide | exact Nat.le_trans (by assumption) (by decide) | exact Nat.le_trans (Nat.add_le_add (by assumption) (by assumption)) (by decide) | exact Nat.lt_of_le_of_lt (by assumption) (by decide) | exact Nat.lt_of_lt_of_le (by assumption) (by decide) | lia | omega))]
    have sj : sgA (m / 2) base (m / 2 + j) = base + 31 + (j + 1) := by unfold sgA; rw [if_neg (by (first | assumption | decide | exact Nat.le_trans (by assumption) (by decide) | exact Nat.le_trans (Nat.add_le_add (by assumption) (by assumption)) (by decide) | exact Nat.lt_of_le_of_lt (by assumption) (by decide) | exact Nat.lt_of_lt_of_le (by assumption) (by decide) | lia | omega)), Nat.add_sub_cancel_left]
    refine ⟨fun k hk1 hk2 => ?_, ?_⟩
    · obtain ⟨k, rfl⟩ : ∃ k', k = k' + 1 := ⟨k - 1, by (first | assumption | decide | exact Nat.le_trans (by assumption) (by decide) | exact Nat.le_trans (Nat.add_le_add (by assumption) (by assumption)) (by decide) | exact Nat.lt_of_le_of_lt (by assumption) (by decide) | exact Nat.lt_of_lt_of_le (by assumption) (by decide) | lia | omega)⟩
      have hkm : k ∈ permL m n := List.contains_iff_mem.mp (f3 k (by (first | assumption | decide | exact Nat.le_trans (by assumption) (by decide) | exact Nat.le_trans (Nat.add_le_add (by assumption) (by assumption)) (by decide) | exact Nat.lt_of_le_of_lt (by assumption) (by decide) | exact Nat.lt_of_lt_of_le (by assumption) (by decide) | lia | omega)))
      obtain ⟨l1, l2, e⟩ := List.append_of_mem hkm
      have bk : brA (m / 2) k = 40 := by unfold brA; rw [if_pos (by (first | assumption | decide | exact Nat.le_trans (by assumption) (by decide) | exact Nat.le_trans (Nat.add_le_add (by assumption) (by assumption)) (by decide) | exact Nat.lt_of_le_of_lt (by assumption) (by decide) | exact Nat.lt_of_lt_of_le (by assumption) (by decide) | lia | omega))]
      have sk : sgA (m / 2) base k = base + (k + 1) := by unfold sgA; rw [if_pos (by (first | assumption | decide | exact Nat.le_trans (by assumption) (by decide) | exact Nat.le_trans (Nat.add_le_add (by assumption) (by assumption)) (by decide) | exact Nat.lt_of_le_of_lt (by assumption) (by decide) | exact Nat.lt_of_lt_of_le (by assumption) (by decide) | lia | omega))]
      have h := row_low H e hjm bk bj
      rw [sj, sk] at h
      refine h.trans (decide_eq_decide.mpr ?_)
      have hp := perm_pair ho
      have q1 := q_open (m := m) (n := n) (i := k) (by (first | assumption | decide | exact Nat.le_trans (by assumption) (by decide) | exact Nat.le_trans (Nat.add_le_add (by assumption) (by assumption)) (by decide) | exact Nat.lt_of_le_of_lt (by assumption) (by decide) | exact Nat.lt_of_lt_of_le (by assumption) (by decide) | lia | omega))
      have q2 := q_close (m := m) (n := n) (j := j) (by (first | assumption | decide | exact Nat.le_trans (by assumption) (by decide) | exact Nat.le_trans (Nat.add_le_add (by assumption) (by assumption)) (by decide) | exact Nat.lt_of_le_of_lt (by assumption) (by decide) | exact Nat.lt_of_lt_of_le (by assumption) (by decide) | lia | omega))
      rw [← q1, ← q2]
      rw [e] at hp hjm
      obtain ⟨_, hp2, hp3⟩ := List.pairwise_append.mp hp
      constructor
      · intro hmem; exact (List.pairwise_cons.mp hp2).1 _ hmem
      · intro hlt
        rcases List.mem_append.mp hjm with h1 | h1
        · have := hp3 _ h1 k (.head _); (first | assumption | decide | exact Nat.le_trans (by assumption) (by decide) | exact Nat.le_trans (Nat.add_le_add (by assumption) (by assumption)) (by decide) | exact Nat.lt_of_le_of_lt (by assumption) (by decide) | exact Nat.lt_of_lt_of_le (by assumption) (by decide) | lia | omega)
        · rcases List.mem_cons.mp h1 with h1 | h1
          · (first | assumption | decide | exact Nat.le_trans (by assumption) (by decide) | exact Nat.le_trans (Nat.add_le_add (by assumption) (by assumption)) (by decide) | exact Nat.lt_of_le_of_lt (by assumption) (by decide) | exact Nat.lt_of_lt_of_le (by assumption) (by decide) | lia | omega)
          · exact h1
    · have hx := List.idxOf_lt_length_of_mem hjm
      have e : permL m n = (permL m n).take ((permL m n).idxOf (m / 2 + j)) ++ (m / 2 + j) :: (permL m n).drop ((permL m n).idxOf (m / 2 + j) + 1) := by
        conv => lhs; rw [← List.take_append_drop ((permL m n).idxOf (m / 2 + j)) (permL m n)]
        rw [List.drop_eq_getElem_cons hx, List.getElem_idxOf]
      obtain ⟨g1, g2, g3⟩ := row_find H e bj
      rw [sj] at g1 g3
      refine ⟨_, g1, g2, ?_⟩
      rw [g3]
      have hp : ∀ i ∈ (permL m n).take ((permL m n).idxOf (m / 2 + j)), i ∈ permL m n := fun i hi => List.mem_of_mem_take hi
      have b1 : Brs (flat (brA (m / 2)) (sgA (m / 2) base) (hidOf c3) ((permL m n).take ((permL m n).idxOf (m / 2 + j)))) _ := Brs.flat (bo := fun i => decide (i < m / 2)) _ (fun i _ => hbr i) (fun i hi => H.sgs i (hp i hi))
      have b2 : Brs [41, base + 31 + (j + 1)] [false] := Brs.cl.app (Brs.one (by (first | assumption | decide | exact Nat.le_trans (by assumption) (by decide) | exact Nat.le_trans (Nat.add_le_add (by assumption) (by assumption)) (by decide) | exact Nat.lt_of_le_of_lt (by assumption) (by decide) | exact Nat.lt_of_lt_of_le (by assumption) (by decide) | lia | omega)) (by (first | assumption | decide | exact Nat.le_trans (by assumption) (by decide) | exact Nat.le_trans (Nat.add_le_add (by assumption) (by assumption)) (by decide) | exact Nat.lt_of_le_of_lt (by assumption) (by decide) | exact Nat.lt_of_lt_of_le (by assumption) (by decide) | lia | omega)) (by (first | assumption | decide | exact Nat.le_trans (by assumption) (by decide) | exact Nat.le_trans (Nat.add_le_add (by assumption) (by assumption)) (by decide) | exact Nat.lt_of_le_of_lt (by assumption) (by decide) | exact Nat.lt_of_lt_of_le (by assumption) (by decide) | lia | omega)) (by (first | assumption | decide | exact Nat.le_trans (by assumption) (by decide) | exact Nat.le_trans (Nat.add_le_add (by assumption) (by assumption)) (by decide) | exact Nat.lt_of_le_of_lt (by assumption) (by decide) | exact Nat.lt_of_lt_of_le (by assumption) (by decide) | lia | omega)))
      have b3 := ((Brs.op.rep (j + 1 - manyTo m n (j + 1) (m / 2))).app (b1.app b2)).app (Brs.cl.rep (manyTo m n (j + 1) (m / 2) - (j + 1)))
      rw [b3.chk]
      refine Eq.trans (congrArg (fun l => bal l 0) ?_) (f4 j (by (first | assumption | decide | exact Nat.le_trans (by assumption) (by decide) | exact Nat.le_trans (Nat.add_le_add (by assumption) (by assumption)) (by decide) | exact Nat.lt_of_le_of_lt (by assumption) (by decide) | exact Nat.lt_of_lt_of_le (by assumption) (by decide) | lia | omega)))
      simp only [List.append_assoc]
  · refine ⟨?_, ?_, ?_, ?_, ?_⟩
    · have b := ((Brs.cl.rep (leadOf m n).toNat).app hall).app (Brs.op.rep (-leadOf m n).toNat)
      rw [b.chk]; exact f5
    · have b := (((Brs.op.rep (-leadOf m n).toNat).app hall).app (Brs.cl.rep (leadOf m n).toNat)).app Brs.op
      rw [b.chk]; exact f6
    · rw [Nat.mul_comm]; exact ahead_le m n (n / 2)
    · rw [p257_rep (by (first | assumption | decide | exact Nat.le_trans (by assumption) (by decide) | exact Nat.le_trans (Nat.add_le_add (by assumption) (by assumption)) (by decide) | exact Nat.lt_of_le_of_lt (by assumption) (by decide) | exact Nat.lt_of_lt_of_le (by assumption) (by decide) | lia | omega)), f7]
      congr 1
      by_cases h : aheadTo m n (n / 2) % 2 = 0
      · rw [if_pos h, if_neg (by simp; (first | assumption | decide | exact Nat.le_trans (by assumption) (by decide) | exact Nat.le_trans (Nat.add_le_add (by assumption) (by assumption)) (by decide) | exact Nat.lt_of_le_of_lt (by assumption) (by decide) | exact Nat.lt_of_lt_of_le (by assumption) (by decide) | lia | omega))]
      · rw [if_neg h, if_pos (by simp; (first | assumption | decide | exact Nat.le_trans (by assumption) (by decide) | exact Nat.le_trans (Nat.add_le_add (by assumption) (by assumption)) (by decide) | exact Nat.lt_of_le_of_lt (by assumption) (by decide) | exact Nat.lt_of_lt_of_le (by assumption) (by decide) | lia | omega))]
    · rw [p257_rep (by (first | assumption | decide | exact Nat.le_trans (by assumption) (by decide) | exact Nat.le_trans (Nat.add_le_add (by assumption) (by assumption)) (by decide) | exact Nat.lt_of_le_of_lt (by assumption) (by decide) | exact Nat.lt_of_lt_of_le (by assumption) (by decide) | lia | omega)), f8]
      congr 1
      by_cases h : (m / 2 * (n / 2) - aheadTo m n (n / 2)) % 2 = 0
      · rw [if_pos h, if_pos (by simpa using h)]
      · rw [if_neg h, if_neg (by simpa using h)]
end Mine
end

section
open PySem PySem.W PyProof.Rows PySem.Calls
set_option maxRecDepth 100000
set_option maxHeartbeats 8000000
namespace Mine
noncomputable def dataCode : Data → Value
  | .func fd => fd.code
  | _ => .none
noncomputable def retV : Flow → Value
  | .ret v => v
  | _ => .none
theorem law_good {C : Cx} {c : ClaimW} {cl : Str → Option Addr} {mean : ExcName → Option Value} {args : List WData} {s₁ s' : Shared} {f : Flow} (hh : C.h₀ = s₁.heap) (hos : C.os = s₁.os) (hr : RetP C (.bool true) f s')
    (r : Flow → Value) (hrr : ∀ v, r (.ret v) = v) (hn : ∀ cls, c.raises args cls = false) (hp : c.post args (.bool true) args = true) : GoodWG c cl mean args s₁ (.ok (.ret (r f))) s' := by
  obtain ⟨v, ρ, τ, μ, hf, st⟩ := hr
  obtain ⟨rfl, st'⟩ := st.bool
  rcases hf with rfl | ⟨_, h⟩
  · rw [hrr]
    refine ⟨.inl ⟨_, .bool true, [], rfl, hn, .bool true, hp, fun _ => ⟨.nil, fun a ha => by cases ha⟩⟩, ?_⟩
    obtain ⟨m, nd, w⟩ := st'
    exact ⟨.of_keep (hh ▸ w.F.keep), w.os.trans hos, w.gens.1⟩
  · cases h
theorem law_start {C : Cx} {h₁ : Heap} {m : Str → Option Value} {cw cb cn cm cs a : Addr} {ow ob on om os : Obj} {s : Shared} (ho : C.opq = []) (hk : C.keep = []) (hgp : C.gp = []) (F : Fr C.h₀ C.env.locals h₁ m)
    (N : News C.h₀ C.env.locals h₁ [(cw, ow), (cb, ob), (cn, on), (cm, om), (cs, os)]) (hd : [cm, cn, cb, cw].Nodup) (hd2 : ∀ x ∈ [cm, cn, cb, cw], x ≠ cs) (hcs : C.env.cells.lookup ("script" : Str) = some cs) (hkd : C.env.kindOf "script" = some .cell)
    (hs : os.data = .cell (some (.ref a))) (hheap : s.heap = h₁) (hb : AllBare s.gens) (hos : s.os = C.os) : St C [("script", .raw (.ref a))] [] [(cm, om), (cn, on), (cb, ob), (cw, ow)] s := by
  refine ⟨m, [(cs, os)], ⟨hheap ▸ F, ?_, ?_, ?_, hd, ?_, ⟨hb, ?_⟩, ?_, ?_, hos⟩⟩
  · rw [ho, hheap]
    intro p hp
    refine N p ?_
    simp only [List.nil_append, List.cons_append, List.mem_cons, List.not_mem_nil, or_false] at hp ⊢
    rcases hp with h | h | h | h | h <;> simp [h]
  · rw [ho]
    intro p hp q hq
    rw [List.mem_singleton.mp hq]
    exact hd2 p.1 (by have := List.mem_map_of_mem (f := (·.1)) hp; simpa using this)
  · rw [ho]; intro p _ q hq; cases hq
  · rw [hk]; intro p hp; cases hp
  · rw [hgp]; intro p hp; cases hp
  · intro x b e
    rw [List.lookup_cons] at e
    split at e
    · rename_i q
      cases e
      rw [eq_of_beq q]
      exact .inr ⟨.inl hkd, cs, os, _, hcs, .head _, hs, rfl⟩
    · cases e
  · intro p hp; cases hp
theorem law_go {C : Cx} {b : List Stmt} {Φ : Flow → Shared → Prop} {E : Value → Shared → Prop} {h₁ : Heap} {m : Str → Option Value} {cw cb cn cm cs a : Addr} {ow ob on om os : Obj} {s : Shared}
    (hex : Ex C [("script", .raw (.ref a))] [] [(cm, om), (cn, on), (cb, ob), (cw, ow)] b Φ) (F : Fr C.h₀ C.env.locals h₁ m)
    (N : News C.h₀ C.env.locals h₁ [(cw, ow), (cb, ob), (cn, on), (cm, om), (cs, os)]) (hs : os.data = .cell (some (.ref a))) (ho : C.opq = []) (hk : C.keep = []) (hgp : C.gp = []) (hd : [cm, cn, cb, cw].Nodup) (hd2 : ∀ x ∈ [cm, cn, cb, cw], x ≠ cs) (hcs : C.env.cells.lookup ("script" : Str) = some cs) (hkd : C.env.kindOf "script" = some .cell)
    (hheap : s.heap = h₁) (hb : AllBare s.gens) (hos : s.os = C.os) : wpAny (model P0 C.w) C.A (execs b C.env) Φ E s :=
  hex.run _ _ (law_start ho hk hgp F N hd hd2 hcs hkd hs hheap hb hos)
theorem cells_nd (L : Nat) : [L + 1 + 1, L + 1 + 1 + 1, L + 1 + 1 + 1 + 1, L + 1 + 1 + 1 + 1 + 1].Nodup := by
  simp
theorem cells_ne (L : Nat) : ∀ x ∈ [L + 1 + 1, L + 1 + 1 + 1, L + 1 + 1 + 1 + 1, L + 1 + 1 + 1 + 1 + 1], x ≠ L + 1 := by
  intro x hx
  simp only [List.mem_cons, List.not_mem_nil, or_false] at hx
  (first | assumption | decide | exact Nat.le_trans (by assumption) (by decide) | exact Nat.le_trans (Nat.add_le_add (by assumption) (by assumption)) (by decide) | exact Nat.lt_of_le_of_lt (by assumption) (by decide) | exact Nat.lt_of_lt_of_le (by assumption) (by decide) | lia | omega)
theorem law_holds : PySem.Challenge.rw_wb0041_01.Holds := wtop (by
  k_fill
  intro w s₀ s₁ mg mb G Y fa o pm cd doc dV kV ho hd hcd hD hmg hg args vals as hpre hlay hrd hwl hlo
  have KX := kIn_of Y
  refine Ground.open G ?_
  intro T B D TE TW
  have hlaw := mg_of KX T.g (show nsIn (wtop.heap_39 w.params) mainGlobals "law" = some (some (.ref 112)) from rfl)
  obtain rfl : (112 : Addr) = fa := by
    have h1 := hlaw.symm.trans hmg
    injection h1 with h1
    injection h1
  have hK := KX 112 _ rfl
  obtain rfl := Option.some.inj (hK.symm.trans ho)
  have hcode := congrArg dataCode hd
  have hcode' : Value.ref 111 = cd := hcode
  subst hcode'
  clear hcode hmg hlaw
  wrow_args hpre hlay hrd hwl hlo
  rename IntsAre _ _ => hI
  rename Heap.IsList _ _ _ => hL
  all_goals (
    first | refine callC_kw (enter_call ?_) | refine enter_call ?_ | refine callC_kw (enter_callW ?_) | refine enter_callW ?_ | w_how
    have K0 := below_caller (Top.heap T)
    have he := Dflts.none hD rfl
    subst he
    have he := Dflts.noKw hD
    subst he
    refine call_cellsN_ret (by decide) ho (fd_plain hd) (Top.nolimit T) hcd rfl (kinds_of (by kinds_ok)) (by decide) fun h₁ tk₁ cells F N0 X0 => ?_
    clear hcd hD hd hK ho)
  rcases X0 with _ | ⟨hw, X0⟩
  rcases X0 with _ | ⟨hb, X0⟩
  rcases X0 with _ | ⟨hn, X0⟩
  rcases X0 with _ | ⟨hm, X0⟩
  rcases X0 with _ | ⟨hs, X0⟩
  rcases X0 with _ | _
  rename_i ow ob on om os
  have hex := lawSeg_use (law_walk (fun c0 c1 c2 c3 _ _ => facts c0 c1 c2 c3) w.params) rfl w s₁.heap.objs.size (callerA.deeper _) s₁.heap s₁.os 4 rfl
    (⟨rfl, rfl, rfl, rfl, by show callerA.depth + 1 + 8 + 4 < recursionLimit; decide, by show callerA.units + 3 + 64 + 8 * 4 < cLine; decide, KX, ⟨_, _, _, T⟩⟩)
    (⟨⟨callerA, _, [], K0, rfl⟩, rfl⟩) (by decide) _ _ _ om on ob ow _ _ _ _ hL hI (by have := hI.length; (first | assumption | decide | exact Nat.le_trans (by assumption) (by decide) | exact Nat.le_trans (Nat.add_le_add (by assumption) (by assumption)) (by decide) | exact Nat.lt_of_le_of_lt (by assumption) (by decide) | exact Nat.lt_of_lt_of_le (by assumption) (by decide) | lia | omega)) (hm.trans rfl) (hn.trans rfl) (hb.trans rfl) (hw.trans rfl) rfl rfl rfl rfl
  refine wpAny_mono (law_go (s := { s₁ with heap := h₁, toks := tk₁ }) hex F N0 (hs.trans rfl) rfl rfl rfl (cells_nd s₁.heap.objs.size) (cells_ne s₁.heap.objs.size) rfl rfl rfl (.of_eq hg) rfl) (fun f s' hr => ?_) (fun _ _ h => h)
  refine law_good (C := lawC w _ _ _ _ s₁.heap s₁.os 4) ?_ ?_ hr retV (fun v => rfl) ?_ ?_
  · rfl
  · rfl
  · intro cls; rfl
  · wrow_post)
end Mine
end

theorem PySem.Challenge.cw_wb0041_01_holds : PySem.Challenge.rw_wb0041_01.Holds :=
  Mine.law_holds
