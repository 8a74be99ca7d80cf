import PyProof.Rows.All
import Wide.All
import OpenK.AllK
import Wide.FinOn
import PySem.Challenge.RW_mq0187_01
open PySem PySem.W PyProof.Rows PySem.Calls PyProof.Rows.LCg
set_option Elab.async false
set_option maxRecDepth 100000
set_option maxHeartbeats 4000000
set_option linter.unusedVariables false
set_option pp.deepTerms false
set_option pp.deepTerms.threshold 3
set_option compiler.extract_closed false
namespace Mine
set_option maxHeartbeats 8000000 in
open_top hd for PySem.Challenge.rw_mq0187_01

section

noncomputable abbrev KF (w : World) : Frag := hd.heap_39 w.params

/-- what a heap of the call's holds of the top -/
structure Gd (w : World) (h : Heap) : Prop where
  k : (KF w).In h
  top : ∃ p loose mean mg mb, Top p loose mean mg mb h
  hd6 : CodeHd h 129 125
  hd4 : CodeHd h 136 132

theorem Gd.keeps {w : World} {h h' : Heap} (G : Gd w h) (hk : ∀ b o, h.get? b = some o → h'.get? b = some o) : Gd w h' :=
  ⟨G.k.keeps hk, let ⟨p, l, mn, mg, mb, T⟩ := G.top; ⟨p, l, mn, mg, mb, T.keeps hk⟩, G.hd6.keeps hk, G.hd4.keeps hk⟩
theorem Gd.nolimit {w : World} {h : Heap} (G : Gd w h) : h.NoLimit := let ⟨_, _, _, _, _, T⟩ := G.top; T.nolimit

/-- a bound for the frames and the machine's own calls below -/
structure Room (A : Around) (n : Nat) : Prop where
  hh : A.handled = none
  dp : A.depth + n < recursionLimit
  un : A.units + 8 * n < cLine

theorem Room.le {A : Around} {n m : Nat} (R : Room A n) (h : m ≤ n) : Room A m := ⟨R.hh, by have := R.dp; (first | lia | omega), by have := R.un; (first | lia | omega)⟩
theorem Room.deeper {A : Around} {n : Nat} {env : Env} (R : Room A (n + 1)) : Room (A.deeper env) n :=
  ⟨R.hh, by have := R.dp; show A.depth + 1 + n < _; (first | lia | omega), by have := R.un; show A.units + 3 + _ < _; (first | lia | omega)⟩
theorem Room.depth {A : Around} {n : Nat} (R : Room A n) : A.depth < recursionLimit := by have := R.dp; (first | lia | omega)
theorem Room.units {A : Around} {n : Nat} (R : Room A n) : A.units < cLine := by have := R.un; (first | lia | omega)

noncomputable abbrev Keeps (h h' : Heap) : Prop := ∀ b o, h.get? b = some o → h'.get? b = some o
theorem Keeps.trans {a b c : Heap} (h1 : Keeps a b) (h2 : Keeps b c) : Keeps a c := fun x o e => h2 x o (h1 x o e)

noncomputable abbrev NoE : Value → Shared → Prop := fun _ _ => False

structure Ev (env : Env) (cs : Scope) (L : Addr) (cl : List (Str × Addr)) : Prop where
  scope : env.scope = cs
  locals : env.locals = L
  globals : env.globals = mainGlobals
  builtins : env.builtins = builtinsNs
  cells : env.cells = cl

noncomputable def chk (cs : Scope) (x : Str) (k : NameKind) : Bool := (cs.kind == .function) && (cs.names.lookup x == some k) && !(x == ("__debug__" : Str))
theorem chk_all {cs : Scope} {x : Str} {k : NameKind} (h : chk cs x k = true) : cs.kind = .function ∧ cs.names.lookup x = some k ∧ (x == ("__debug__" : Str)) = false := by
  simp only [chk, Bool.and_eq_true, beq_iff_eq, Bool.not_eq_true'] at h
  exact ⟨h.1.1, h.1.2, h.2⟩

section rules
variable {prog : Program} {w : World} {A : Around} {E : Value → Shared → Prop} {b h : Heap} {g : Array GenState} {d : Drawn} {t : Nat} {o : OsState}
  {L a : Addr} {cs : Scope} {cl : List (Str × Addr)} {m : Str → Option Value} {news : List (Addr × Obj)} {env : Env}
  {x : Str} {pos : Pos} {k : Nat} {v : Value} {Q : Value → Shared → Prop} {QF : Flow → Shared → Prop} {QB : Bool → Shared → Prop} {QL : List Value → Shared → Prop}

theorem Ev.kind (V : Ev env cs L cl) (x : Str) : env.kindOf x = cs.names.lookup x := by unfold Env.kindOf; rw [V.scope]
theorem r_local (V : Ev env cs L cl) (hn : h.Ns L m) (hv : m x = some v) (hx : chk cs x .local = true) (H : Q v ⟨h, g, d, t, o⟩) :
    wpAny (model prog w) A (eval (.Name x pos) env) Q E ⟨h, g, d, t, o⟩ := by
  obtain ⟨h1, h2, h3⟩ := chk_all hx
  exact wpAny_Name (wpAny_loadName_local (by rw [V.scope]; exact h1) ((V.kind x).trans h2) (V.locals ▸ hn) hv H) h3
theorem r_cell {c : Addr} (V : Ev env cs L cl) (hc : cl.lookup x = some c) (hv : h.IsCell c (some v)) (hx : chk cs x .cell = true) (H : Q v ⟨h, g, d, t, o⟩) :
    wpAny (model prog w) A (eval (.Name x pos) env) Q E ⟨h, g, d, t, o⟩ := by
  obtain ⟨h1, h2, h3⟩ := chk_all hx
  exact wpAny_Name (wpAny_loadName_cell (by rw [V.scope]; exact h1) ((V.kind x).trans h2) (V.cells ▸ hc) hv H) h3
theorem r_free {c : Addr} (V : Ev env cs L cl) (hc : cl.lookup x = some c) (hv : h.IsCell c (some v)) (hx : chk cs x .free = true) (hn : (x == ("__classdict__" : Str)) = false) (H : Q v ⟨h, g, d, t, o⟩) :
    wpAny (model prog w) A (eval (.Name x pos) env) Q E ⟨h, g, d, t, o⟩ := by
  obtain ⟨h1, h2, h3⟩ := chk_all hx
  exact wpAny_Name (wpAny_loadName_free (by rw [V.scope]; exact h1) ((V.kind x).trans h2) (V.cells ▸ hc) hv H hn) h3
theorem r_glob (V : Ev env cs L cl) (G : Gd w b) (hk : Keeps b h) (hx : chk cs x .globalImplicit = true) (e : nsIn (KF w) mainGlobals x = some (some v)) (H : Q v ⟨h, g, d, t, o⟩) :
    wpAny (model prog w) A (eval (.Name x pos) env) Q E ⟨h, g, d, t, o⟩ := by
  obtain ⟨h1, h2, h3⟩ := chk_all hx
  obtain ⟨_, _, _, _, _, T⟩ := G.top
  exact Name_function_global (by rw [V.scope]; exact h1) ((V.kind x).trans h2) (loadGlobal_global (V.globals ▸ T.g.keeps hk) (mg_of G.k T.g e) H) h3
theorem r_boot (V : Ev env cs L cl) (G : Gd w b) (hk : Keeps b h) (hx : chk cs x .globalImplicit = true) (e : nsIn (KF w) mainGlobals x = some none ∧ bootBuiltins x = some v ∧ x ≠ "__name__") (H : Q v ⟨h, g, d, t, o⟩) :
    wpAny (model prog w) A (eval (.Name x pos) env) Q E ⟨h, g, d, t, o⟩ := by
  obtain ⟨h1, h2, h3⟩ := chk_all hx
  obtain ⟨_, _, _, _, _, T⟩ := G.top
  exact Name_function_global (by rw [V.scope]; exact h1) ((V.kind x).trans h2) (loadGlobal_builtin (V.globals ▸ T.g.keeps hk) (mg_none_of G.k T.g e.1) (V.builtins ▸ T.b.keeps hk) ((T.builtins x e.2.2).trans e.2.1) H) h3
theorem r_store {QU : Unit → Shared → Prop} (V : Ev env cs L cl) (F : Fr b L h m) (N : News b L h news) (hx : chk cs x .local = true)
    (H : ∀ h' t', Fr b L h' (fun y => if y = x then some v else m y) → News b L h' news → QU () ⟨h', g, d, t', o⟩) :
    wpAny (model prog w) A (storeName env x v) QU E ⟨h, g, d, t, o⟩ := by
  obtain ⟨h1, h2, h3⟩ := chk_all hx
  obtain rfl := V.locals
  refine wpAny_storeName_local ((V.kind x).trans h2) F.ns (fun h' hn hs => H h' _ (F.set hn hs) (N.set hs)) ?_
  rw [V.scope, h1]; rfl
theorem r_cint {i : Int} (H : ∀ t', Q (.int i t) ⟨h, g, d, t', o⟩) : wpAny (model prog w) A (eval (.Constant (.int i) k pos) env) Q E ⟨h, g, d, t, o⟩ := wpAny_Constant_int (H _)
theorem r_cnone (H : Q .none ⟨h, g, d, t, o⟩) : wpAny (model prog w) A (eval (.Constant .none k pos) env) Q E ⟨h, g, d, t, o⟩ := wpAny_Constant_none H
theorem r_cbool {c : Bool} (H : Q (.bool c) ⟨h, g, d, t, o⟩) : wpAny (model prog w) A (eval (.Constant (.bool c) k pos) env) Q E ⟨h, g, d, t, o⟩ := wpAny_Constant_bool H
theorem r_is_none (H : Q (.bool (v == .none)) ⟨h, g, d, t, o⟩) : wpAny (model prog w) A (compareOp .Is v .none) Q E ⟨h, g, d, t, o⟩ := is_none H
theorem r_isnot_none (H : Q (.bool (!(v == .none))) ⟨h, g, d, t, o⟩) : wpAny (model prog w) A (compareOp .IsNot v .none) Q E ⟨h, g, d, t, o⟩ := isNot_none H
theorem r_is_type {x y : String} (H : Q (.bool (decide (x = y))) ⟨h, g, d, t, o⟩) : wpAny (model prog w) A (compareOp .Is (.type x) (.type y)) Q E ⟨h, g, d, t, o⟩ := by
  have e : (Value.type x == Value.type y) = decide (x = y) := by
    rw [Bool.eq_iff_iff, beq_iff_eq, decide_eq_true_eq]
    exact ⟨fun h => Value.type.inj h, fun h => h ▸ rfl⟩
  show wpAny _ _ (pure (Value.bool (Value.type x == Value.type y))) _ _ _
  rw [e]; exact wpAny_pure H
theorem r_is_self {x : Addr} (H : Q (.bool true) ⟨h, g, d, t, o⟩) : wpAny (model prog w) A (compareOp .Is (.ref x) (.ref x)) Q E ⟨h, g, d, t, o⟩ := by
  have e : compareOp .Is (.ref x) (.ref x) = (do return Value.bool (← isSame (.ref x) (.ref x))) := rfl
  rw [e]
  unfold isSame
  simp only [beq_self_eq_true, if_true]
  exact wpAny_bind (wpAny_pure (wpAny_pure H))
theorem r_type_of {Tx : String} (hT : Shared.TypeIs ⟨h, g, d, t, o⟩ v Tx) (hn : (Value.type Tx == Value.type "builtin_function_or_method") = false) (H : Q (.type Tx) ⟨h, g, d, t, o⟩) :
    wpAny (model prog w) A (call (.type "type") [v]) Q E ⟨h, g, d, t, o⟩ := call_type_of hT hn H
theorem r_assign {xp : Pos} {e : Expr} (H : wpAny (model prog w) A (eval e env) (fun v s₁ => wpAny (model prog w) A (storeName env x v) (fun _ => QF .next) E s₁) E ⟨h, g, d, t, o⟩)
    (hs : swapsWith e (some (.Name x xp)) pos.line env = pure false) : wpAny (model prog w) A (exec (.Assign [.Name x xp] e pos) env) QF E ⟨h, g, d, t, o⟩ := wpAny_Assign_Name H hs

theorem r_add {x y : Int} {tx ty : Tok} (H : ∀ t', Q (.int (x + y) t) ⟨h, g, d, t', o⟩) : wpAny (model prog w) A (binaryOp .Add (.int x tx) (.int y ty)) Q E ⟨h, g, d, t, o⟩ := P.add_int (H _)
theorem r_sub {x y : Int} {tx ty : Tok} (H : ∀ t', Q (.int (x - y) t) ⟨h, g, d, t', o⟩) : wpAny (model prog w) A (binaryOp .Sub (.int x tx) (.int y ty)) Q E ⟨h, g, d, t, o⟩ := P.sub_int (H _)
theorem r_lt {x y : Int} {tx ty : Tok} (H : Q (.bool (decide (x < y))) ⟨h, g, d, t, o⟩) : wpAny (model prog w) A (compareOp .Lt (.int x tx) (.int y ty)) Q E ⟨h, g, d, t, o⟩ := P.lt_int H
theorem r_ge {x y : Int} {tx ty : Tok} (H : Q (.bool (decide (x ≥ y))) ⟨h, g, d, t, o⟩) : wpAny (model prog w) A (compareOp .GtE (.int x tx) (.int y ty)) Q E ⟨h, g, d, t, o⟩ := P.ge_int H
theorem r_eq {x y : Int} {tx ty : Tok} (H : Q (.bool (x == y)) ⟨h, g, d, t, o⟩) : wpAny (model prog w) A (compareOp .Eq (.int x tx) (.int y ty)) Q E ⟨h, g, d, t, o⟩ := P.eq_int H
theorem r_ne {x y : Int} {tx ty : Tok} (H : Q (.bool (x != y)) ⟨h, g, d, t, o⟩) : wpAny (model prog w) A (compareOp .NotEq (.int x tx) (.int y ty)) Q E ⟨h, g, d, t, o⟩ := P.ne_int H
theorem r_and {x y : Int} {tx ty : Tok} (H : ∀ t', Q (.int (Builtin.bitAnd x y) t) ⟨h, g, d, t', o⟩) : wpAny (model prog w) A (binaryOp .BitAnd (.int x tx) (.int y ty)) Q E ⟨h, g, d, t, o⟩ := and_int (H _)
theorem r_or {x y : Int} {tx ty : Tok} (H : ∀ t', Q (.int (Builtin.bitOr x y) t) ⟨h, g, d, t', o⟩) : wpAny (model prog w) A (binaryOp .BitOr (.int x tx) (.int y ty)) Q E ⟨h, g, d, t, o⟩ := or_int (H _)
theorem r_shl {x n : Int} {tx ty : Tok} (hn : 0 ≤ n) (hn2 : n ≤ 1000000) (ha : x.natAbs < 2 ^ 64) (H : ∀ t', Q (.int (x * 2 ^ n.toNat) t) ⟨h, g, d, t', o⟩) : wpAny (model prog w) A (binaryOp .LShift (.int x tx) (.int n ty)) Q E ⟨h, g, d, t, o⟩ := lshift_int_small hn hn2 ha (H _)
theorem r_shr {x n : Int} {tx ty : Tok} (hn : 0 ≤ n) (H : ∀ t', Q (.int (x.fdiv (2 ^ n.toNat)) t) ⟨h, g, d, t', o⟩) : wpAny (model prog w) A (binaryOp .RShift (.int x tx) (.int n ty)) Q E ⟨h, g, d, t, o⟩ := rshift_int hn (H _)
theorem r_callN {id : Str} {p : Pos} {args : List Expr} (H : wpAny (model prog w) A (eval (.Name id p) env) (fun f s₁ => wpAny (model prog w) A (callWith pos f [] (backTo pos (starEach args env)) []) Q E s₁) E ⟨h, g, d, t, o⟩) :
    wpAny (model prog w) A (eval (.Call (.Name id p) args [] pos) env) Q E ⟨h, g, d, t, o⟩ := wpAny_Call_Name_kw H
theorem r_args0 (H : QL [] ⟨h, g, d, t, o⟩) : wpAny (model prog w) A (spliced (backTo pos (starEach [] env))) QL E ⟨h, g, d, t, o⟩ := spliced_none H
theorem r_args {e : Expr} {rest : List Expr} (H : wpAny (model prog w) A (eval e env) (fun v s₁ => wpAny (model prog w) A (spliced (backTo pos (starEach rest env))) (fun vs s₂ => QL (v :: vs) s₂) E s₁) E ⟨h, g, d, t, o⟩)
    (he : starEach (e :: rest) env = (false, eval e env) :: starEach rest env) : wpAny (model prog w) A (spliced (backTo pos (starEach (e :: rest) env))) QL E ⟨h, g, d, t, o⟩ := spliced_more H he
theorem r_cwType {T : String} {e : Expr} {rest : List Expr} (H : wpAny (model prog w) A (spliced (backTo pos (starEach (e :: rest) env))) (fun vs s₁ => wpAny (model prog w) A (call (.type T) vs) Q E s₁) E ⟨h, g, d, t, o⟩)
    (he : starEach (e :: rest) env = (false, eval e env) :: starEach rest env) (hp : (backTo pos (starEach rest env)).any (·.1) = false) :
    wpAny (model prog w) A (callWith pos (.type T) [] (backTo pos (starEach (e :: rest) env)) []) Q E ⟨h, g, d, t, o⟩ := PyProof.Rows.callWith_type1 H he hp
theorem r_cwBuiltin {id : String} {first : List Value} {e : Expr} {rest : List Expr} (H : wpAny (model prog w) A (spliced (backTo pos (starEach (e :: rest) env))) (fun vs s₁ => wpAny (model prog w) A (call (.builtin id) (first ++ vs)) Q E s₁) E ⟨h, g, d, t, o⟩)
    (he : starEach (e :: rest) env = (false, eval e env) :: starEach rest env) (hp : (backTo pos (starEach rest env)).any (·.1) = false) :
    wpAny (model prog w) A (callWith pos (.builtin id) first (backTo pos (starEach (e :: rest) env)) []) Q E ⟨h, g, d, t, o⟩ := callWith_method1 H he hp
theorem r_cwBuiltin0 {id : String} {first : List Value} (H : wpAny (model prog w) A (call (.builtin id) first) Q E ⟨h, g, d, t, o⟩) :
    wpAny (model prog w) A (callWith pos (.builtin id) first (backTo pos (starEach [] env)) []) Q E ⟨h, g, d, t, o⟩ := callWith_method0 H
theorem r_testCmp {l r : Expr} {op : CmpOp} {whole : Sem Value} (H : wpAny (model prog w) A (eval l env) (fun a s₁ => wpAny (model prog w) A (eval r env) (fun c s₂ => wpAny (model prog w) A (compareOp op a c)
      (fun c s₃ => wpAny (model prog w) A (truthy c) QB E s₃) E s₂) E s₁) E ⟨h, g, d, t, o⟩) (hm : behindInMarks op r = false) : wpAny (model prog w) A (isTrue (.Compare l [op] [r] pos) env whole) QB E ⟨h, g, d, t, o⟩ := wpAny_isTrue_Compare1 H hm
theorem r_cmp {l r : Expr} {op : CmpOp} (H : wpAny (model prog w) A (eval l env) (fun a s₁ => wpAny (model prog w) A (eval r env) (fun c s₂ => wpAny (model prog w) A (compareOp op a c) Q E s₂) E s₁) E ⟨h, g, d, t, o⟩)
    (hm : behindInMarks op r = false) : wpAny (model prog w) A (eval (.Compare l [op] [r] pos) env) Q E ⟨h, g, d, t, o⟩ := wpAny_Compare1 H hm
theorem r_testName {whole : Sem Value} (H : wpAny (model prog w) A whole (fun v s₁ => wpAny (model prog w) A (truthy v) QB E s₁) E ⟨h, g, d, t, o⟩) :
    wpAny (model prog w) A (isTrue (.Name x pos) env whole) QB E ⟨h, g, d, t, o⟩ := isTrue_plain H
theorem r_calldef {f : Addr} {e : Expr} {rest : List Expr} (G : Gd w b) (hk : keepIn (KF w) (.ref f) = true)
    (H : wpAny (model prog w) A (spliced (backTo pos (starEach (e :: rest) env))) (fun vs s₁ => Keeps b s₁.heap ∧ wpAny (model prog w) A (call (.ref f) vs) Q E s₁) E ⟨h, g, d, t, o⟩)
    (he : starEach (e :: rest) env = (false, eval e env) :: starEach rest env := by rfl) (hplain : (backTo pos (starEach rest env)).any (·.1) = false := by rfl) :
    wpAny (model prog w) A (callWith pos (.ref f) [] (backTo pos (starEach (e :: rest) env)) []) Q E ⟨h, g, d, t, o⟩ :=
  callWith_K G.k hk (wpAny_mono H (fun vs s₁ q => ⟨G.k.keeps q.1, q.2⟩) fun _ _ q => q) he hplain
end rules

section loops
variable {prog : Program} {w : World} {A : Around} {E : Value → Shared → Prop} {b h : Heap} {g : Array GenState} {d : Drawn} {t : Nat} {o : OsState}
  {L a : Addr} {cs : Scope} {cl : List (Str × Addr)} {m : Str → Option Value} {news : List (Addr × Obj)} {env : Env}
  {x : Str} {pos : Pos} {k : Nat} {v : Value} {Q : Value → Shared → Prop} {QF : Flow → Shared → Prop} {body orelse : List Stmt} {test iter : Expr}

theorem fr_keeps {h' : Heap} (F : Fr b L h m) (hk : Keeps h h') : Fr b L h' m := ⟨F.ns.keeps hk, fun x o e => hk x o (F.keep x o e), F.above⟩
theorem news_keeps {h' : Heap} (N : News b L h news) (hk : Keeps h h') : News b L h' news := fun p hp => ⟨hk _ _ (N p hp).1, (N p hp).2⟩

/-- where a turn of a while ends -/
noncomputable def WEnd (b : Heap) (L : Addr) (g : Array GenState) (d : Drawn) (o : OsState) (J : Nat → (Str → Option Value) → List (Addr × Obj) → Prop) (n : Nat) (s₃ : Shared) : Prop :=
  ∃ h' t' m' news' k, s₃ = ⟨h', g, d, t', o⟩ ∧ k < n ∧ J k m' news' ∧ Fr b L h' m' ∧ News b L h' news'
theorem WEnd.intro {J : Nat → (Str → Option Value) → List (Addr × Obj) → Prop} {n k : Nat} (F : Fr b L h m) (N : News b L h news) (hk : k < n) (hj : J k m news) : WEnd b L g d o J n ⟨h, g, d, t, o⟩ :=
  ⟨h, t, m, news, k, rfl, hk, hj, F, N⟩
noncomputable def WPost (b : Heap) (L : Addr) (g : Array GenState) (d : Drawn) (o : OsState) (J : Nat → (Str → Option Value) → List (Addr × Obj) → Prop) (n : Nat) (QF : Flow → Shared → Prop) (f : Flow) (s₃ : Shared) : Prop :=
  match f with
  | .next | .cont => WEnd b L g d o J n s₃
  | .brk => QF .next s₃
  | .ret v => QF (.ret v) s₃
theorem r_while (J : Nat → (Str → Option Value) → List (Addr × Obj) → Prop) (n : Nat) (F : Fr b L h m) (N : News b L h news) (hj : J n m news)
    (turn : ∀ n m₁ news₁ h₁ t₁, J n m₁ news₁ → Fr b L h₁ m₁ → News b L h₁ news₁ →
      wpAny (model prog w) A (isTrue test env (eval test env)) (fun c s₂ => if c = true then wpAny (model prog w) A (execs body env) (WPost b L g d o J n QF) NoE s₂ else wpAny (model prog w) A (execs orelse env) QF NoE s₂) NoE ⟨h₁, g, d, t₁, o⟩) :
    wpAny (model prog w) A (exec (.While test body orelse pos) env) QF NoE ⟨h, g, d, t, o⟩ := by
  refine wpAny_While (codeAny_whileLoop (fun n s => ∃ h' t' m' news', s = ⟨h', g, d, t', o⟩ ∧ J n m' news' ∧ Fr b L h' m' ∧ News b L h' news') ?_ n ⟨h, t, m, news, rfl, hj, F, N⟩)
  rintro n s ⟨h', t', m', news', rfl, hj', F', N'⟩
  refine wpAny_mono (turn n m' news' h' t' hj' F' N') (fun c s₂ q => ?_) fun _ _ y => y.elim
  cases c with
  | true =>
    simp only [if_true] at q ⊢
    refine wpAny_mono q (fun f s₃ p => ?_) fun _ _ y => y.elim
    cases f with
    | next => obtain ⟨h', t', m', news', k, e, hk, hj, F, N⟩ := p; exact ⟨k, hk, h', t', m', news', e, hj, F, N⟩
    | cont => obtain ⟨h', t', m', news', k, e, hk, hj, F, N⟩ := p; exact ⟨k, hk, h', t', m', news', e, hj, F, N⟩
    | brk => exact p
    | ret v => exact p
  | false =>
    simp only [Bool.false_eq_true, if_false] at q ⊢
    exact wpAny_mono q (fun _ _ p => p) fun _ _ y => y.elim

/-- a while, one turn at a time -/
noncomputable def WAgain (M : Model) (A : Around) (test : Expr) (body orelse : List Stmt) (env : Env) (QF : Flow → Shared → Prop) (s : Shared) : Prop :=
  codeAny M A (.whileLoop test body orelse env) (fun r s' => match r with | .ok f => QF f s' | .error e => cameBackBy M A env NoE e s') s
noncomputable def WTurn (M : Model) (A : Around) (test : Expr) (body orelse : List Stmt) (env : Env) (QF : Flow → Shared → Prop) (f : Flow) (s : Shared) : Prop := match f with
  | .next | .cont => WAgain M A test body orelse env QF s
  | .brk => QF .next s
  | .ret v => QF (.ret v) s
theorem r_whileIn (H : WAgain (model prog w) A test body orelse env QF ⟨h, g, d, t, o⟩) : wpAny (model prog w) A (exec (.While test body orelse pos) env) QF NoE ⟨h, g, d, t, o⟩ := wpAny_While H
theorem r_whileTurn (H : wpAny (model prog w) A (isTrue test env (eval test env)) (fun c s₂ => if c = true then wpAny (model prog w) A (execs body env) (WTurn (model prog w) A test body orelse env QF) NoE s₂ else wpAny (model prog w) A (execs orelse env) QF NoE s₂) NoE ⟨h, g, d, t, o⟩) :
    WAgain (model prog w) A test body orelse env QF ⟨h, g, d, t, o⟩ := by
  unfold WAgain
  refine codeAny_of_tree ?_
  show wpAny _ A ((whileTurn test body orelse env).onRaise (fun x => do noteFrame x env; theTreesLotGoes x)) _ _ _
  refine wpAny_noted ?_
  simp only [whileTurn]
  refine wpAny_bind (wpAny_mono H (fun b s₂ h₂ => ?_) fun _ _ h' => h'.elim)
  cases b with
  | false =>
    simp only [Bool.false_eq_true, if_false] at h₂ ⊢
    exact wpAny_bind (wpAny_mono h₂ (fun f s₃ h₃ => wpAny_pure h₃) fun _ _ h' => h'.elim)
  | true =>
    simp only [if_true] at h₂ ⊢
    refine wpAny_bind (wpAny_mono h₂ (fun f s₃ h₃ => ?_) fun _ _ h' => h'.elim)
    cases f with
    | next => exact wpAny_pure ⟨rfl, h₃⟩
    | cont => exact wpAny_pure ⟨rfl, h₃⟩
    | brk => exact wpAny_pure h₃
    | ret v => exact wpAny_pure h₃

theorem r_for {px : Pos} (V : Ev env cs L cl) (F : Fr b L h m) (hx : chk cs x .local = true)
    (H : wpAny (model prog w) A (eval iter env) (fun xv s₁ => wpAny (model prog w) A (pyIter xv) (fun it s₂ => LoopAtV prog w A b env x body QF NoE it s₂) NoE s₁) NoE ⟨h, g, d, t, o⟩)
    (hs : ∀ x, foldedSetIterable iter env x = pure x) : wpAny (model prog w) A (exec (.For (.Name x px) iter body [] pos) env) QF NoE ⟨h, g, d, t, o⟩ := by
  obtain ⟨h1, h2, h3⟩ := chk_all hx
  obtain rfl := V.locals
  refine For_invVF (h₀ := b) (m := m) F ((V.kind x).trans h2) ?_ H hs PassesOwn.never
  rw [V.scope, h1]; rfl

theorem r_forBytes {by_ : Array UInt8} {tb : Tok} (J : Nat → (Str → Option Value) → List (Addr × Obj) → Prop) (V : Ev env cs L cl) (hh : A.handled = none) (F : Fr b L h m) (N : News b L h news) (hj : J 0 m news)
    (turn : ∀ (i : Nat) (c : Int) u m₁ news₁ h₁ t₁ own, (KBw.bInts by_)[i]? = some c → 0 ≤ c → c < 256 → news₁.map (·.1) = news.map (·.1) → OwnOff own (news.map (·.1)) → J i m₁ news₁ → Fr b L h₁ (fun y => if y = x then some (.int c u) else m₁ y) → News b L h₁ (news₁ ++ own) →
      wpAny (model prog w) A (execs body env) (InvPostN b L (J (i + 1)) own (news.map (·.1)) ⟨h₁, g, d, t₁, o⟩ QF) NoE ⟨h₁, g, d, t₁, o⟩)
    (done : ∀ m₁ news₁ h₁ t₁, J (KBw.bInts by_).length m₁ news₁ → Fr b L h₁ m₁ → News b L h₁ news₁ → QF .next ⟨h₁, g, d, t₁, o⟩) :
    wpAny (model prog w) A (pyIter (.bytes by_ tb)) (fun it s₂ => LoopAtV prog w A b env x body QF NoE it s₂) NoE ⟨h, g, d, t, o⟩ := by
  obtain rfl := V.locals
  refine KBw.pyIter_bytes ?_
  have W := KBw.walks (prog := prog) (w := w) hh h.objs.size by_ tb
  refine loop_invN J W ?_ ?_ ?_ ?_ ⟨_, Heap.get?_push_size _ rfl, rfl, rfl⟩ (F.push _) (fun p hp => ⟨Heap.get?_push_of_some _ (N p hp).1, (N p hp).2⟩) hj ?_ ?_
  · intro hm
    exact absurd F.ns.lt ((List.mem_singleton.mp hm) ▸ Nat.lt_irrefl _)
  · intro b' hb
    rw [List.mem_singleton.mp hb]
    exact next_is_new F
  · intro p hp hI
    exact absurd (Heap.lt_size (N p hp).1) ((List.mem_singleton.mp hI) ▸ Nat.lt_irrefl _)
  · intro p hp hI
    exact absurd (Heap.lt_size (N p hp).1) ((List.mem_singleton.mp hI) ▸ Nat.lt_irrefl _)
  · rintro i v m₁ nx h₁ tk own hi ⟨n, u, hn, rfl⟩ ha hoff hJ F₁ N₁
    have hn' := KBw.ints_get hn
    have hb := KBw.ints_in (List.mem_of_getElem? hn')
    exact turn i _ u m₁ nx h₁ tk own hn' hb.1 hb.2 ha hoff hJ F₁ N₁
  · rintro m₁ nx h₁ tk hJ F₁ N₁
    rw [← KBw.ints_length] at hJ
    exact done m₁ nx h₁ tk hJ F₁ N₁

theorem r_append {its : Array Value} {n : Nat} {rest : List (Addr × Obj)} (F : Fr b L h m) (N : News b L h ((a, listOf its n) :: rest)) (hne : ∀ p ∈ rest, p.1 ≠ a) (hsz : its.size ≤ sizeLine)
    (H : ∀ h', Fr b L h' m → News b L h' ((a, listOf (its.push v) (n + 1)) :: rest) → Q .none ⟨h', g, d, t, o⟩) : wpAny (model prog w) A (call (.builtin "list.append") [.ref a, v]) Q E ⟨h, g, d, t, o⟩ :=
  append_K F N (.head hne) (fun h' F' N' => H h' F' N') hsz
theorem r_newList {vs : List Value} (F : Fr b L h m) (N : News b L h news) (hsz : vs.length ≤ sizeLine)
    (H : ∀ a h', h.objs.size ≤ a → (∀ p ∈ news, p.1 < a) → Fr b L h' m → News b L h' ((a, listOf vs.toArray 0) :: news) → Q (.ref a) ⟨h', g, d, t, o⟩) : wpAny (model prog w) A (newList vs) Q E ⟨h, g, d, t, o⟩ :=
  newList_N F N (fun h' F' N' => H _ h' (Nat.le_refl _) (fun p hp => Heap.lt_size (N p hp).1) F' N') hsz
theorem r_exprM {obj : Expr} {nm : Str} {ap : Pos} {args : List Expr} {T id : String} (pa : PlainAttrs T) (slot : Slot T nm id) (hty : typeOf (.builtin id) = pure (.type "method_descriptor"))
    (hbase : attributeBase obj nm env (eval obj env) = eval obj env)
    (hfew : ((backTo pos (starEach args env)).all (fun x => !x.1) && (backToKw pos (keywordEach [] env)).all (fun x => x.1.isSome) && decide (args.length + ([] : List Keyword).length + (if ([] : List Keyword).isEmpty then 0 else 1) < 30)) = true)
    (hline : (ap.endLine == pos.line) = true)
    (H : wpAny (model prog w) A (eval obj env) (fun ov s₁ => s₁.TypeIs ov T ∧ (∀ a, ov = .ref a → ∃ ob, s₁.heap.get? a = some ob ∧ ob.dict = none) ∧
      wpAny (model prog w) A (callWith pos (.builtin id) [ov] (backTo pos (starEach args env)) []) Q E s₁) E ⟨h, g, d, t, o⟩) :
    wpAny (model prog w) A (eval (.Call (.Attribute obj nm ap) args [] pos) env) Q E ⟨h, g, d, t, o⟩ := wpAny_Call_method hbase hfew hline pa slot hty H
theorem r_appendCall {xp ap : Pos} {e : Expr} {its : Array Value} {n : Nat} (V : Ev env cs L cl) (F : Fr b L h m) (N : News b L h news) (hv : m x = some (.ref a)) (hx : chk cs x .local = true) (hm : (a, listOf its n) ∈ news)
    (H : wpAny (model prog w) A (eval e env) (fun v s₁ => wpAny (model prog w) A (call (.builtin "list.append") [.ref a, v]) Q E s₁) E ⟨h, g, d, t, o⟩)
    (he : starEach [e] env = [(false, eval e env)]) (hline : (ap.endLine == pos.line) = true) :
    wpAny (model prog w) A (eval (.Call (.Attribute (.Name x xp) (Str.ofString "append") ap) [e] [] pos) env) Q E ⟨h, g, d, t, o⟩ := by
  refine r_exprM PySem.F.plainAttrs_list PySem.F.slot_list_append PySem.F.type_list_append rfl (by rw [he]; rfl) hline ?_
  refine r_local V F.ns hv hx ⟨⟨_, (N _ hm).1, rfl⟩, ?_, ?_⟩
  · rintro a' e'
    cases e'
    exact ⟨_, (N _ hm).1, rfl⟩
  · refine r_cwBuiltin ?_ he rfl
    refine r_args ?_ he
    refine wpAny_mono H (fun v s₁ q => ?_) fun _ _ y => y
    exact spliced_none q
theorem r_expr {e : Expr} (H : wpAny (model prog w) A (eval e env) (fun _ => QF .next) E ⟨h, g, d, t, o⟩) (hi : interactive env = false) (hs : swapsWith e none pos.line env = pure false) :
    wpAny (model prog w) A (exec (.Expr e pos) env) QF E ⟨h, g, d, t, o⟩ := wpAny_Expr_any H hi hs
theorem Ev.inter (V : Ev env cs L cl) (hk : (cs.kind == .module) = false) : interactive env = false := by
  unfold interactive
  rw [V.scope, hk]; rfl
theorem r_mkBytes {its : Array Value} {ns : List Int} (hl : h.IsList a its) (hi : IntsAre its.toList ns) (hr : ∀ n ∈ ns, 0 ≤ n ∧ n < 256) (hz : ns.length ≤ 1000000) (hh : A.handled = none)
    (H : ∀ h' t' by' tb', Keeps h h' → KBw.bInts by' = ns → Q (.bytes by' tb') ⟨h', g, d, t', o⟩) : wpAny (model prog w) A (call (.type "bytes") [.ref a]) Q E ⟨h, g, d, t, o⟩ :=
  call_bytes_ints (vs := its.toList) (by simpa using hl) hi hr (by rw [hi.length, sizeLine_eq]; (first | lia | omega)) hh fun h' t' k hk => H h' k _ t' hk (KBa.ints_make hr)
theorem inv_end {J : (Str → Option Value) → List (Addr × Obj) → Prop} {nx own : List (Addr × Obj)} {adr : List Addr} {h₁ : Heap} {t₁ : Nat} (F : Fr b L h m) (N : News b L h (nx ++ own)) (hj : J m nx) (ha : nx.map (·.1) = adr) :
    InvPostN b L J own adr ⟨h₁, g, d, t₁, o⟩ QF .next ⟨h, g, d, t, o⟩ :=
  show InvEndN b L J own adr ⟨h₁, g, d, t₁, o⟩ ⟨h, g, d, t, o⟩ from ⟨h, t, m, nx ++ own, nx, rfl, F, N, (fun p hp => List.mem_append_left _ hp), (fun p hp => List.mem_append_right _ hp), ha, hj⟩
theorem ints_push {its : Array Value} {ns : List Int} {c : Int} {tc : Tok} (hI : IntsAre its.toList ns) : IntsAre (its.push (.int c tc)).toList (ns ++ [c]) := by
  rw [Array.toList_push]
  exact hI.append (.cons c tc .nil)
theorem isList_news {its : Array Value} {n : Nat} (N : News b L h news) (hm : (a, listOf its n) ∈ news) : h.IsList a its := ⟨_, (N _ hm).1, rfl, n, rfl⟩
end loops

theorem ite_t {c : Bool} {P Q : Prop} (hc : c = true) (h : P) : if c = true then P else Q := by rw [if_pos hc]; exact h
theorem ite_f {c : Bool} {P Q : Prop} (hc : c = false) (h : Q) : if c = true then P else Q := by rw [hc]; exact h

theorem enter {prog : Program} {w : World} {A : Around} {E : Value → Shared → Prop} {h : Heap} {g : Array GenState} {d : Drawn} {t : Nat} {o : OsState} {n : Nat} {f : Addr} {fo : Obj} {fd : FuncData} {body : List Stmt}
    {args : List Value} {kw : List (Str × Value)} {binds : List (Str × Value)} {Q : Value → Shared → Prop}
    (G : Gd w h) (R : Room A (n + 1)) (hl : (KF w).lookup f = some fo) (hfd : fo.data = .func fd) (hcode : codeIn (KF w) fd.code fd.qualname = true) (hbody : fd.body = .stmts body)
    (hbind : BindsTo ⟨h, g, d, t, o⟩ fd ⟨args, kw⟩ binds) (hcell : ∀ x ∈ fd.scope.names, x.2 ≠ .cell) (hloc : ∀ x ∈ binds, fd.scope.names.lookup x.1 = some .local)
    (hgl : fd.globals = mainGlobals) (hbl : fd.builtins = builtinsNs)
    (hco : fd.scope.isCoroutine = false) (hgen : fd.scope.isGenerator = false) (hk : fd.scope.kind = .function)
    (H : ∀ h₁ t₁ (A' : Around) (L : Addr) (env : Env), Ev env fd.scope L fd.closure → h.objs.size ≤ L → Room A' n → Fr h L h₁ (fun x => binds.reverse.lookup x) → News h L h₁ [] →
      wpAny (model prog w) A' (execs body env) (fun fl s' => Q (match fl with | .ret v => v | _ => .none) s') NoE ⟨h₁, g, d, t₁, o⟩) :
    wpAny (model prog w) A (call (.ref f) args kw) Q E ⟨h, g, d, t, o⟩ := by
  refine wpAny_call (codeAny_call_def (fd := fd) (body := body) (binds := binds) R.depth (G.k _ _ hl) hfd G.nolimit (codeRec_of G.k hcode) hbody hbind hcell hloc (fun h₁ hns hk₁ => ?_) hco hgen hk)
  have e : callEnv fd h.objs.size f = envX fd.qualname fd.scope h.objs.size f fd.code fd.closure := by
    unfold callEnv envX
    rw [hgl, hbl]; rfl
  exact wpAny_mono (H h₁ _ _ h.objs.size _ ⟨by rw [e], by rw [e], by rw [e], by rw [e], by rw [e]⟩ (Nat.le_refl _) R.deeper ⟨hns, hk₁, Nat.le_refl _⟩ News.nil) (fun fl s' q => q) fun _ _ y => y.elim

/-- the names behind a store -/
noncomputable def St (m' : Str → Option Value) (x : Str) (v : Value) (m : Str → Option Value) : Prop := m' = fun y => if y = x then some v else m y
theorem st_hit {m' m : Str → Option Value} {x : Str} {v : Value} (S : St m' x v m) : m' x = some v := by rw [S]; exact if_pos rfl
theorem st_skip {m' m : Str → Option Value} {x y : Str} {u : Value} {r : Option Value} (S : St m' x u m) (hne : decide (y = x) = false) (e : m y = r) : m' y = r := by
  rw [S]; exact (if_neg (of_decide_eq_false hne)).trans e
theorem r_storeG {prog : Program} {w : World} {A : Around} {E : Value → Shared → Prop} {b h : Heap} {g : Array GenState} {d : Drawn} {t : Nat} {o : OsState} {L : Addr} {cs : Scope} {cl : List (Str × Addr)} {m : Str → Option Value} {news : List (Addr × Obj)} {env : Env} {x : Str} {v : Value}
    {QU : Unit → Shared → Prop} (V : Ev env cs L cl) (F : Fr b L h m) (N : News b L h news) (hx : chk cs x .local = true)
    (H : ∀ m', St m' x v m → ∀ h' t', Fr b L h' m' → News b L h' news → QU () ⟨h', g, d, t', o⟩) :
    wpAny (model prog w) A (storeName env x v) QU E ⟨h, g, d, t, o⟩ := r_store V F N hx (H _ rfl)
/-- what a statement's end asks: the rest, or the way out -/
noncomputable def SeqQ (M : Model) (A : Around) (rest : List Stmt) (env : Env) (Q : Flow → Shared → Prop) (E : Value → Shared → Prop) (f : Flow) (s : Shared) : Prop :=
  match f with | .next => wpAny M A (execs rest env) Q E s | f => Q f s
section
variable {M : Model} {A : Around} {st : Stmt} {rest : List Stmt} {env : Env} {Q : Flow → Shared → Prop} {E : Value → Shared → Prop} {s : Shared}
theorem r_seq (H : wpAny M A (exec st env) (SeqQ M A rest env Q E) E s) : wpAny M A (execs (st :: rest) env) Q E s := wpAny_execs_cons H
theorem sq_next (H : wpAny M A (execs rest env) Q E s) : SeqQ M A rest env Q E .next s := H
theorem sq_ret {v : Value} (H : Q (.ret v) s) : SeqQ M A rest env Q E (.ret v) s := H
theorem sq_brk (H : Q .brk s) : SeqQ M A rest env Q E .brk s := H
theorem sq_cont (H : Q .cont s) : SeqQ M A rest env Q E .cont s := H
end
theorem lk_hit {x : Str} {v : Value} {r : Option Value} : (if x = x then some v else r) = some v := if_pos rfl
theorem lk_skip {x y : Str} {u v : Value} {r : Option Value} (hne : decide (x = y) = false) (h : r = some v) : (if x = y then some u else r) = some v := by
  rw [if_neg (of_decide_eq_false hne)]; exact h

end

theorem g_type (w : World) : nsIn (KF w) mainGlobals "type" = some none ∧ bootBuiltins "type" = some (.type "type") ∧ ("type" : Str) ≠ "__name__" := ⟨by kernel_rfl, by kernel_rfl, by decide⟩
theorem g_bytes (w : World) : nsIn (KF w) mainGlobals "bytes" = some none ∧ bootBuiltins "bytes" = some (.type "bytes") ∧ ("bytes" : Str) ≠ "__name__" := ⟨by kernel_rfl, by kernel_rfl, by decide⟩
theorem g_bool (w : World) : nsIn (KF w) mainGlobals "bool" = some none ∧ bootBuiltins "bool" = some (.type "bool") ∧ ("bool" : Str) ≠ "__name__" := ⟨by kernel_rfl, by kernel_rfl, by decide⟩
theorem g_len (w : World) : nsIn (KF w) mainGlobals "len" = some none ∧ bootBuiltins "len" = some (.builtin "len") ∧ ("len" : Str) ≠ "__name__" := ⟨by kernel_rfl, by kernel_rfl, by decide⟩
theorem g_buffer (w : World) : nsIn (KF w) mainGlobals "_buffer" = some (some (.ref 46)) := by kernel_rfl
theorem g_truth (w : World) : nsIn (KF w) mainGlobals "_truth" = some (some (.ref 53)) := by kernel_rfl

local macro_rules | `(tactic| walk_at "mbit") => `(tactic| (simp only [bitAnd_m6, bitAnd_m2, bitAnd_m4]; first | exact Int.emod_nonneg _ (by decide) | exact Int.emod_lt_of_pos _ (by decide) | (first | lia | omega) | (simp; (first | lia | omega))))
local macro_rules | `(tactic| walk_at "msz") => `(tactic| (simp only [Array.size_push, sizeLine_eq]; (first | lia | omega)))
local macro_rules | `(tactic| walk_at "mlk") => `(tactic| first | assumption | exact lk_hit | (refine lk_skip (by kernel_rfl) ?_; walk_at "mlk") | exact st_hit (by assumption) | (refine st_skip (by assumption) (by kernel_rfl) ?_; walk_at "mlk") | rfl)
local macro_rules | `(tactic| walk_at "mmem") => `(tactic| first | assumption | exact List.Mem.head _ | (refine List.Mem.tail _ ?_; walk_at "mmem"))

section


theorem buffer_spec {prog : Program} {w : World} {A : Around} {E : Value → Shared → Prop} {h : Heap} {g : Array GenState} {d : Drawn} {t : Nat} {o : OsState} {n : Nat} {by_ : Array UInt8} {tb : Tok} {Q : Value → Shared → Prop}
    (G : Gd w h) (R : Room A (n + 1)) (H : ∀ h' t', Keeps h h' → Q (.bytes by_ tb) ⟨h', g, d, t', o⟩) :
    wpAny (model prog w) A (call (.ref 46) [.bytes by_ tb]) Q E ⟨h, g, d, t, o⟩ := by
  refine enter (n := n) G R rfl rfl (by kernel_rfl) rfl (BindsTo.of_eq rfl) (by decide) (locs rfl) rfl rfl rfl rfl rfl ?_
  intro h₁ t₁ A' L env V hL R' F N
  dsimp only at V
  with_reducible refine r_seq ?_
  (with_reducible refine r_assign ?_ ?h1); (case h1 => rfl)
  with_reducible refine r_callN ?_
  (with_reducible refine' r_boot ?V ?G ?hk ?hx ?eB ?_); (case V => assumption); (case hx => kernel_rfl); (case eB => with_reducible exact g_type _); (case G => assumption); (case hk => exact Fr.keep (by assumption))
  (with_reducible refine r_cwType ?_ ?h1 ?h2); (case h1 => rfl); (case h2 => rfl)
  (with_reducible refine r_args ?_ ?h1); (case h1 => rfl)
  (with_reducible refine' r_local ?V ?hn ?hv ?hx ?_); (case V => assumption); (case hx => kernel_rfl); (case hn => first | exact Fr.ns (by assumption) | assumption); (case hv => walk_at "mlk")
  with_reducible refine r_args0 ?_
  (with_reducible refine r_type_of (Tx := "bytes") ?h1 ?h2 ?_); (case h1 => rfl); (case h2 => decide +kernel)
  (with_reducible refine' r_storeG ?V ?F ?N ?hx ?_); (case V => assumption); (case F => assumption); (case N => assumption); (case hx => kernel_rfl); intro _ _ _ _ _ _
  with_reducible (refine sq_next ?_; refine r_seq ?_; refine wpAny_If ?_)
  (with_reducible refine r_testCmp ?_ ?h1); (case h1 => rfl)
  (with_reducible refine' r_local ?V ?hn ?hv ?hx ?_); (case V => assumption); (case hx => kernel_rfl); (case hn => first | exact Fr.ns (by assumption) | assumption); (case hv => walk_at "mlk")
  (with_reducible refine' r_boot ?V ?G ?hk ?hx ?eB ?_); (case V => assumption); (case hx => kernel_rfl); (case eB => with_reducible exact g_bytes _); (case G => assumption); (case hk => exact Fr.keep (by assumption))
  with_reducible (refine r_is_type ?_; refine wpAny_truthy_bool ?_)
  (with_reducible refine ite_t ?hd ?_); (case hd => first | rfl | decide)
  with_reducible (refine r_seq ?_; refine wpAny_Return_some ?_)
  (with_reducible refine' r_local ?V ?hn ?hv ?hx ?_); (case V => assumption); (case hx => kernel_rfl); (case hn => first | exact Fr.ns (by assumption) | assumption); (case hv => walk_at "mlk")
  with_reducible (refine sq_ret ?_; refine sq_ret ?_)
  exact H _ _ (Fr.keep (by assumption))
theorem truth_spec {prog : Program} {w : World} {A : Around} {E : Value → Shared → Prop} {h : Heap} {g : Array GenState} {d : Drawn} {t : Nat} {o : OsState} {n : Nat} {c : Bool} {Q : Value → Shared → Prop}
    (G : Gd w h) (R : Room A (n + 1)) (H : ∀ h' t', Keeps h h' → Q (.bool c) ⟨h', g, d, t', o⟩) :
    wpAny (model prog w) A (call (.ref 53) [.bool c]) Q E ⟨h, g, d, t, o⟩ := by
  refine enter (n := n) G R rfl rfl (by kernel_rfl) rfl (BindsTo.of_eq rfl) (by decide) (locs rfl) rfl rfl rfl rfl rfl ?_
  intro h₁ t₁ A' L env V hL R' F N
  dsimp only at V
  with_reducible refine r_seq ?_
  (with_reducible refine r_assign ?_ ?h1); (case h1 => rfl)
  with_reducible refine r_callN ?_
  (with_reducible refine' r_boot ?V ?G ?hk ?hx ?eB ?_); (case V => assumption); (case hx => kernel_rfl); (case eB => with_reducible exact g_type _); (case G => assumption); (case hk => exact Fr.keep (by assumption))
  (with_reducible refine r_cwType ?_ ?h1 ?h2); (case h1 => rfl); (case h2 => rfl)
  (with_reducible refine r_args ?_ ?h1); (case h1 => rfl)
  (with_reducible refine' r_local ?V ?hn ?hv ?hx ?_); (case V => assumption); (case hx => kernel_rfl); (case hn => first | exact Fr.ns (by assumption) | assumption); (case hv => walk_at "mlk")
  with_reducible refine r_args0 ?_
  (with_reducible refine r_type_of (Tx := "bool") ?h1 ?h2 ?_); (case h1 => rfl); (case h2 => decide +kernel)
  (with_reducible refine' r_storeG ?V ?F ?N ?hx ?_); (case V => assumption); (case F => assumption); (case N => assumption); (case hx => kernel_rfl); intro _ _ _ _ _ _
  with_reducible (refine sq_next ?_; refine r_seq ?_; refine wpAny_If ?_; refine isTrue_or ?_)
  (with_reducible refine r_testCmp ?_ ?h1); (case h1 => rfl)
  (with_reducible refine' r_local ?V ?hn ?hv ?hx ?_); (case V => assumption); (case hx => kernel_rfl); (case hn => first | exact Fr.ns (by assumption) | assumption); (case hv => walk_at "mlk")
  with_reducible (refine r_cnone ?_; refine r_is_none ?_; refine wpAny_truthy_bool ?_)
  (with_reducible refine ite_f ?hd ?_); (case hd => first | rfl | decide)
  with_reducible refine isTrue_or ?_
  (with_reducible refine r_testCmp ?_ ?h1); (case h1 => rfl)
  (with_reducible refine' r_local ?V ?hn ?hv ?hx ?_); (case V => assumption); (case hx => kernel_rfl); (case hn => first | exact Fr.ns (by assumption) | assumption); (case hv => walk_at "mlk")
  (with_reducible refine' r_boot ?V ?G ?hk ?hx ?eB ?_); (case V => assumption); (case hx => kernel_rfl); (case eB => with_reducible exact g_bool _); (case G => assumption); (case hk => exact Fr.keep (by assumption))
  with_reducible (refine r_is_type ?_; refine wpAny_truthy_bool ?_)
  (with_reducible refine ite_t ?hd ?_); (case hd => first | rfl | decide)
  (with_reducible refine ite_t ?hd ?_); (case hd => first | rfl | decide)
  with_reducible (refine r_seq ?_; refine wpAny_Return_some ?_; refine wpAny_IfExp ?_; refine r_testName ?_)
  (with_reducible refine' r_local ?V ?hn ?hv ?hx ?_); (case V => assumption); (case hx => kernel_rfl); (case hn => first | exact Fr.ns (by assumption) | assumption); (case hv => walk_at "mlk")
  with_reducible refine wpAny_truthy_bool ?_
  cases c
  · (with_reducible refine ite_f ?hd ?_); (case hd => first | rfl | decide)
    with_reducible (refine r_cbool ?_; refine sq_ret ?_; refine sq_ret ?_)
    exact H _ _ (Fr.keep (by assumption))
  · (with_reducible refine ite_t ?hd ?_); (case hd => first | rfl | decide)
    with_reducible (refine r_cbool ?_; refine sq_ret ?_; refine sq_ret ?_)
    exact H _ _ (Fr.keep (by assumption))

end

section
/-- the values of six bits that base 64 writes: k octets stand open, r is what is left of them -/
noncomputable def encS : Nat → Int → List Int → List Int
  | 0, _, [] => []
  | 0, _, c :: l => c / 4 :: encS 1 (c % 4) l
  | 1, r, [] => [r * 16]
  | 1, r, c :: l => (r * 16 + c / 16) :: encS 2 (c % 16) l
  | _ + 2, r, [] => [r * 4]
  | _ + 2, r, c :: l => (r * 4 + c / 64) :: c % 64 :: encS 0 0 l
noncomputable def b64s : List Int := [65, 66, 67, 68, 69, 70, 71, 72, 73, 74, 75, 76, 77, 78, 79, 80, 81, 82, 83, 84, 85, 86, 87, 88, 89, 90, 97, 98, 99, 100, 101, 102, 103, 104, 105, 106, 107, 108, 109, 110, 111, 112, 113, 114, 115, 116, 117, 118, 119, 120, 121, 122, 48, 49, 50, 51, 52, 53, 54, 55, 56, 57, 43, 47]
noncomputable def b64 (i : Int) : Int := b64s.getD i.toNat 0
noncomputable def padN (n : Nat) : Nat := if n % 3 = 0 then 0 else if n % 3 = 1 then 2 else 1
theorem b64_in (i : Int) : 0 ≤ b64 i ∧ b64 i < 256 := KBw.getD_in (ks := b64s) (j := i.toNat) (by decide)

theorem bitOr_low {x c : Int} (hx : 0 ≤ x) (h0 : 0 ≤ c) (h1 : c < 256) : Builtin.bitOr (x * 2 ^ (8 : Int).toNat) c = x * 256 + c := by
  obtain ⟨a, rfl⟩ := Int.eq_ofNat_of_zero_le hx
  obtain ⟨b, rfl⟩ := Int.eq_ofNat_of_zero_le h0
  have e : ((a : Int) * 2 ^ (8 : Int).toNat) = ((a * 256 : Nat) : Int) := by simp
  have hb : b < 2 ^ 8 := by (first | lia | omega)
  have key : (a * 256) ||| b = a * 256 + b := by
    have := Nat.shiftLeft_add_eq_or_of_lt hb a
    rw [Nat.shiftLeft_eq] at this
    exact this.symm
  rw [e]
  unfold Builtin.bitOr Builtin.bitAnd Builtin.bitNot
  have n1 : decide (0 ≤ -(((a * 256 : Nat) : Int)) - 1) = false := decide_eq_false (by (first | lia | omega))
  have n2 : decide (0 ≤ -((b : Nat) : Int) - 1) = false := decide_eq_false (by (first | lia | omega))
  simp only [n1, n2]
  have e1 : (-(-((a * 256 : Nat) : Int) - 1) - 1).toNat = a * 256 := by (first | lia | omega)
  have e2 : (-(-((b : Nat) : Int) - 1) - 1).toNat = b := by (first | lia | omega)
  rw [e1, e2, key]
  (first | lia | omega)

theorem g_B64 (w : World) : nsIn (KF w) mainGlobals "_B64" = some (some (.bytes #[65, 66, 67, 68, 69, 70, 71, 72, 73, 74, 75, 76, 77, 78, 79, 80, 81, 82, 83, 84, 85, 86, 87, 88, 89, 90, 97, 98, 99, 100, 101, 102, 103, 104, 105, 106, 107, 108, 109, 110, 111, 112, 113, 114, 115, 116, 117, 118, 119, 120, 121, 122, 48, 49, 50, 51, 52, 53, 54, 55, 56, 57, 43, 47] 242)) := by kernel_rfl

section
variable {prog : Program} {w : World} {A : Around} {E : Value → Shared → Prop} {b h : Heap} {g : Array GenState} {d : Drawn} {t : Nat} {o : OsState} {Q : Value → Shared → Prop}
theorem r_b64 {value slice : Expr} {i : Int} {ui tb : Tok} (h0 : 0 ≤ i) (h1 : i < 64) (H : ∀ t' t'', Q (.int (b64 i) t') ⟨h, g, d, t'', o⟩)
    (hs : ∀ v, subscripted slice false v (.int i ui) = operate [v, .int i ui] (getItem v (.int i ui)))
    (ht : ∀ v r, letTemporaryGo value v r = pure ()) :
    wpAny (model prog w) A (subscriptTail value slice (.bytes #[65, 66, 67, 68, 69, 70, 71, 72, 73, 74, 75, 76, 77, 78, 79, 80, 81, 82, 83, 84, 85, 86, 87, 88, 89, 90, 97, 98, 99, 100, 101, 102, 103, 104, 105, 106, 107, 108, 109, 110, 111, 112, 113, 114, 115, 116, 117, 118, 119, 120, 121, 122, 48, 49, 50, 51, 52, 53, 54, 55, 56, 57, 43, 47] tb) (.int i ui)) Q E ⟨h, g, d, t, o⟩ :=
  KBw.item_K (ks := b64s) rfl (by decide) h0 h1 (fun t' k _ _ => H t' k) (hs _) (ht _)
end



theorem fdiv_pos {x k : Int} (hk : 0 ≤ k) : x.fdiv k = x / k := Int.fdiv_eq_ediv_of_nonneg _ hk
theorem arA {x : Int} {m : Int} (hm : m = 4 ∨ m = 16 ∨ m = 64) : x % 65536 / m % 64 = x / m % 64 := by rcases hm with rfl | rfl | rfl <;> (first | lia | omega)
theorem ar0 {lc c : Int} (c0 : 0 ≤ c) (c1 : c < 256) : (lc * 256 + c) % 65536 / 4 % 64 = c / 4 := by rw [arA (.inl rfl)]; (first | lia | omega)
theorem arD1 {lc c : Int} : (lc * 256 + c) / 16 = lc * 16 + c / 16 := by (first | lia | omega)
theorem arD2 {lc c : Int} : (lc * 256 + c) / 64 = lc * 4 + c / 64 := by (first | lia | omega)
theorem arM1 {lc d : Int} (d0 : 0 ≤ d) (d1 : d < 16) : (lc * 16 + d) % 64 = lc % 4 * 16 + d := by (first | lia | omega)
theorem arM2 {lc d : Int} (d0 : 0 ≤ d) (d1 : d < 4) : (lc * 4 + d) % 64 = lc % 16 * 4 + d := by (first | lia | omega)
theorem ar1 {lc c : Int} (c0 : 0 ≤ c) (c1 : c < 256) : (lc * 256 + c) % 65536 / 16 % 64 = lc % 4 * 16 + c / 16 := by rw [arA (.inr (.inl rfl)), arD1]; exact arM1 (by (first | lia | omega)) (by (first | lia | omega))
theorem ar2 {lc c : Int} (c0 : 0 ≤ c) (c1 : c < 256) : (lc * 256 + c) % 65536 / 64 % 64 = lc % 16 * 4 + c / 64 := by rw [arA (.inr (.inr rfl)), arD2]; exact arM2 (by (first | lia | omega)) (by (first | lia | omega))
theorem ar3 {lc c : Int} : (lc * 256 + c) % 65536 / 1 % 64 = c % 64 := by (first | lia | omega)
theorem ar4 {lc c : Int} : (lc * 256 + c) % 65536 % 4 = c % 4 := by (first | lia | omega)
theorem ar5 {lc c : Int} : (lc * 256 + c) % 65536 % 16 = c % 16 := by (first | lia | omega)
/-- the turns of b2a_base64's loop -/
inductive JB (ks : List Int) (i : Nat) (m : Str → Option Value) (nx : List (Addr × Obj)) : Prop
  | mk (a : Addr) (its : Array Value) (k : Nat) (lb lc : Int) (tl tc : Tok) (em : List Int) : nx = [(a, listOf its k)] → IntsAre its.toList (em.map b64) → em.length ≤ 2 * i → m (Str.ofString "out") = some (.ref a) → m (Str.ofString "leftbits") = some (.int lb tl) → lb = 2 * ((i % 3 : Nat) : Int) → m (Str.ofString "leftchar") = some (.int lc tc) →
    m (Str.ofString "newline") = some (.bool false) → 0 ≤ lc → lc < 65536 → em ++ encS (i % 3) (lc % (if i % 3 = 0 then 1 else if i % 3 = 1 then 4 else 16)) (ks.drop i) = encS 0 0 ks → JB ks i m nx
theorem b2a_spec {prog : Program} {w : World} {A : Around} {E : Value → Shared → Prop} {h : Heap} {g : Array GenState} {d : Drawn} {t : Nat} {o : OsState} {n : Nat} {by_ : Array UInt8} {tb : Tok} {ks : List Int} {Q : Value → Shared → Prop}
    (G : Gd w h) (R : Room A (n + 2)) (hk : KBw.bInts by_ = ks) (hlen : ks.length ≤ 1000)
    (H : ∀ h' t' by' tb', Keeps h h' → KBw.bInts by' = (encS 0 0 ks).map b64 ++ List.replicate (padN ks.length) 61 → Q (.bytes by' tb') ⟨h', g, d, t', o⟩) :
    wpAny (model prog w) A (call (.ref 61) [.bytes by_ tb] [(Str.ofString "newline", .bool false)]) Q E ⟨h, g, d, t, o⟩ := by
  refine enter (n := n + 1) G R rfl rfl (by kernel_rfl) rfl (BindsTo.of_eq rfl) (by decide) (locs rfl) rfl rfl rfl rfl rfl ?_
  intro h₁ t₁ A' L env V hL R' F N
  dsimp only at V
  with_reducible refine r_seq ?_
  (with_reducible refine r_assign ?_ ?h1); (case h1 => rfl)
  with_reducible refine r_callN ?_
  (with_reducible refine' r_glob ?V ?G ?hk ?hx ?eB ?_); (case V => assumption); (case hx => kernel_rfl); (case eB => with_reducible exact g_buffer _); (case G => assumption); (case hk => exact Fr.keep (by assumption))
  (with_reducible refine' r_calldef ?G ?hx ?_ ?h1 ?h2); (case G => assumption); (case hx => kernel_rfl); (case h1 => rfl); (case h2 => rfl)
  (with_reducible refine r_args ?_ ?h1); (case h1 => rfl)
  (with_reducible refine' r_local ?V ?hn ?hv ?hx ?_); (case V => assumption); (case hx => kernel_rfl); (case hn => first | exact Fr.ns (by assumption) | assumption); (case hv => walk_at "mlk")
  with_reducible (refine r_args0 ?_; refine And.intro (Fr.keep (by assumption)) ?_)
  (with_reducible refine buffer_spec (n := 0) ?G ?R ?_); (case G => exact Gd.keeps (by assumption) (Fr.keep (by assumption))); (case R => exact Room.le (by assumption) (by (first | lia | omega))); intro _ _ hK9; (have F9 := fr_keeps (by assumption) hK9); (have N9 := news_keeps (by assumption) hK9)
  (with_reducible refine' r_storeG ?V ?F ?N ?hx ?_); (case V => assumption); (case F => assumption); (case N => assumption); (case hx => kernel_rfl); intro _ _ _ _ _ _
  with_reducible (refine sq_next ?_; refine r_seq ?_)
  (with_reducible refine r_assign ?_ ?h1); (case h1 => rfl)
  with_reducible refine r_callN ?_
  (with_reducible refine' r_glob ?V ?G ?hk ?hx ?eB ?_); (case V => assumption); (case hx => kernel_rfl); (case eB => with_reducible exact g_truth _); (case G => assumption); (case hk => exact Fr.keep (by assumption))
  (with_reducible refine' r_calldef ?G ?hx ?_ ?h1 ?h2); (case G => assumption); (case hx => kernel_rfl); (case h1 => rfl); (case h2 => rfl)
  (with_reducible refine r_args ?_ ?h1); (case h1 => rfl)
  (with_reducible refine' r_local ?V ?hn ?hv ?hx ?_); (case V => assumption); (case hx => kernel_rfl); (case hn => first | exact Fr.ns (by assumption) | assumption); (case hv => walk_at "mlk")
  with_reducible (refine r_args0 ?_; refine And.intro (Fr.keep (by assumption)) ?_)
  (with_reducible refine truth_spec (n := 0) ?G ?R ?_); (case G => exact Gd.keeps (by assumption) (Fr.keep (by assumption))); (case R => exact Room.le (by assumption) (by (first | lia | omega))); intro _ _ hK9; (have F9 := fr_keeps (by assumption) hK9); (have N9 := news_keeps (by assumption) hK9)
  (with_reducible refine' r_storeG ?V ?F ?N ?hx ?_); (case V => assumption); (case F => assumption); (case N => assumption); (case hx => kernel_rfl); intro _ _ _ _ _ _
  with_reducible (refine sq_next ?_; refine r_seq ?_)
  (with_reducible refine r_assign ?_ ?h1); (case h1 => rfl)
  with_reducible (refine PyProof.Rows.List_ ?_; refine r_args0 ?_)
  (with_reducible refine' r_newList ?F ?N ?hz ?_); (case F => assumption); (case N => assumption); (case hz => first | decide | (simp only [List.length_cons, List.length_nil, sizeLine_eq]; (first | lia | omega))); intro _ _ _ _ _ _
  (with_reducible refine' r_storeG ?V ?F ?N ?hx ?_); (case V => assumption); (case F => assumption); (case N => assumption); (case hx => kernel_rfl); intro _ _ _ _ _ _
  with_reducible (refine sq_next ?_; refine r_seq ?_)
  (with_reducible refine r_assign ?_ ?h1); (case h1 => rfl)
  with_reducible refine r_cint (fun _ => ?_)
  (with_reducible refine' r_storeG ?V ?F ?N ?hx ?_); (case V => assumption); (case F => assumption); (case N => assumption); (case hx => kernel_rfl); intro _ _ _ _ _ _
  with_reducible (refine sq_next ?_; refine r_seq ?_)
  (with_reducible refine r_assign ?_ ?h1); (case h1 => rfl)
  with_reducible refine r_cint (fun _ => ?_)
  (with_reducible refine' r_storeG ?V ?F ?N ?hx ?_); (case V => assumption); (case F => assumption); (case N => assumption); (case hx => kernel_rfl); intro _ _ _ _ _ _
  with_reducible (refine sq_next ?_; refine r_seq ?_)
  refine r_for V (by assumption) (by kernel_rfl) ?_ (fun _ => rfl)
  (with_reducible refine' r_local ?V ?hn ?hv ?hx ?_); (case V => assumption); (case hx => kernel_rfl); (case hn => first | exact Fr.ns (by assumption) | assumption); (case hv => walk_at "mlk")
  refine r_forBytes (JB ks) V R'.hh (by assumption) (by assumption) ?_ ?_ ?_
  · refine ⟨_, _, _, 0, 0, _, _, [], rfl, ?_, by decide, by walk_at "mlk", by walk_at "mlk", rfl, by walk_at "mlk", by walk_at "mlk", by decide, by decide, ?_⟩
    · exact IntsAre.nil
    · simp
  · rintro i c u m₁ news₁ h3 t3 own hc c0 c1 hadr hoff ⟨a, its, k, lb, lc, tl, tc, em, rfl, hI, hel, m1, m2, hlb, m3, m4, l0, l1, he⟩ F3 N3
    have h3c : i % 3 = 0 ∨ i % 3 = 1 ∨ i % 3 = 2 := by (first | lia | omega)
    have hne : ∀ p ∈ own, p.1 ≠ a := fun p hp => hoff p hp a (by rw [← hadr]; exact List.Mem.head _)
    have hil : i < ks.length := by rw [← hk]; exact (List.getElem?_eq_some_iff.mp hc).1
    have hsz : its.size = em.length := by have := hI.length; simpa using this
    have hlt : its.size ≤ 2000 := by (first | lia | omega)
    have N3 : News h L h3 ((a, listOf its k) :: own) := N3
    have hd : ks.drop i = c :: ks.drop (i + 1) := by
      rw [hk] at hc
      obtain ⟨hlt', e⟩ := List.getElem?_eq_some_iff.mp hc
      rw [← e]; exact List.drop_eq_getElem_cons hlt'
    rw [hd] at he
    have hor := bitOr_low l0 c0 c1
    have hlc : Builtin.bitAnd (Builtin.bitOr (lc * 2 ^ (8 : Int).toNat) c) 65535 = (lc * 256 + c) % 65536 := by rw [hor, bitAnd_m16]
    have hlb4 : 0 ≤ lb ∧ lb ≤ 4 := by (first | lia | omega)
    with_reducible refine r_seq ?_
    (with_reducible refine r_assign ?_ ?h1); (case h1 => rfl)
    with_reducible (refine wpAny_BinOp ?_; refine wpAny_BinOp ?_; refine wpAny_BinOp ?_)
    (with_reducible refine' r_local ?V ?hn ?hv ?hx ?_); (case V => assumption); (case hx => kernel_rfl); (case hn => first | exact Fr.ns (by assumption) | assumption); (case hv => walk_at "mlk")
    with_reducible refine r_cint (fun _ => ?_)
    (with_reducible refine r_shl ?h1 ?h2 ?h3 (fun _ => ?_)); (case h1 => (first | lia | omega)); (case h2 => (first | lia | omega)); (case h3 => first | (first | lia | omega) | walk_at "mbit")
    (with_reducible refine' r_local ?V ?hn ?hv ?hx ?_); (case V => assumption); (case hx => kernel_rfl); (case hn => first | exact Fr.ns (by assumption) | assumption); (case hv => walk_at "mlk")
    with_reducible (refine r_or (fun _ => ?_); refine r_cint (fun _ => ?_); refine r_and (fun _ => ?_))
    (with_reducible refine' r_storeG ?V ?F ?N ?hx ?_); (case V => assumption); (case F => assumption); (case N => assumption); (case hx => kernel_rfl); intro _ _ _ _ _ _
    with_reducible (refine sq_next ?_; refine r_seq ?_)
    (with_reducible refine r_assign ?_ ?h1); (case h1 => rfl)
    with_reducible refine wpAny_BinOp ?_
    (with_reducible refine' r_local ?V ?hn ?hv ?hx ?_); (case V => assumption); (case hx => kernel_rfl); (case hn => first | exact Fr.ns (by assumption) | assumption); (case hv => walk_at "mlk")
    with_reducible (refine r_cint (fun _ => ?_); refine r_add (fun _ => ?_))
    (with_reducible refine' r_storeG ?V ?F ?N ?hx ?_); (case V => assumption); (case F => assumption); (case N => assumption); (case hx => kernel_rfl); intro _ _ _ _ _ _
    with_reducible (refine sq_next ?_; refine r_seq ?_)
    refine r_whileIn (r_whileTurn ?_)
    (with_reducible refine r_testCmp ?_ ?h1); (case h1 => rfl)
    (with_reducible refine' r_local ?V ?hn ?hv ?hx ?_); (case V => assumption); (case hx => kernel_rfl); (case hn => first | exact Fr.ns (by assumption) | assumption); (case hv => walk_at "mlk")
    with_reducible (refine r_cint (fun _ => ?_); refine r_ge ?_; refine wpAny_truthy_bool ?_)
    refine ite_t (decide_eq_true (by (first | lia | omega))) ?_
    with_reducible refine r_seq ?_
    (with_reducible refine r_expr ?_ ?hi ?h2); (case hi => exact Ev.inter (by assumption) rfl); (case h2 => rfl)
    (with_reducible refine' r_appendCall ?V ?F ?N ?hv ?hx ?hm ?_ ?h1 ?h2); (case V => assumption); (case hx => kernel_rfl); (case F => assumption); (case hv => walk_at "mlk"); (case N => assumption); (case hm => exact List.Mem.head _); (case h1 => rfl); (case h2 => kernel_rfl)
    with_reducible refine Subscript_ ?_
    (with_reducible refine' r_glob ?V ?G ?hk ?hx ?eB ?_); (case V => assumption); (case hx => kernel_rfl); (case eB => with_reducible exact g_B64 _); (case G => assumption); (case hk => exact Fr.keep (by assumption))
    with_reducible (refine wpAny_BinOp ?_; refine wpAny_BinOp ?_)
    (with_reducible refine' r_local ?V ?hn ?hv ?hx ?_); (case V => assumption); (case hx => kernel_rfl); (case hn => first | exact Fr.ns (by assumption) | assumption); (case hv => walk_at "mlk")
    with_reducible refine wpAny_BinOp ?_
    (with_reducible refine' r_local ?V ?hn ?hv ?hx ?_); (case V => assumption); (case hx => kernel_rfl); (case hn => first | exact Fr.ns (by assumption) | assumption); (case hv => walk_at "mlk")
    with_reducible (refine r_cint (fun _ => ?_); refine r_sub (fun _ => ?_))
    (with_reducible refine r_shr ?h1 (fun _ => ?_)); (case h1 => (first | lia | omega))
    with_reducible (refine r_cint (fun _ => ?_); refine r_and (fun _ => ?_))
    (with_reducible refine r_b64 ?h0 ?h1 (fun _ _ => ?_) ?hs ?ht); (case h0 => walk_at "mbit"); (case h1 => walk_at "mbit"); (case hs => (intro _; rfl)); (case ht => (intro _ _; rfl))
    (with_reducible refine' r_append ?F ?N ?hne ?hz ?_); (case F => assumption); (case N => assumption); (case hne => assumption); (case hz => walk_at "msz"); intro _ _ _
    with_reducible (refine sq_next ?_; refine r_seq ?_)
    (with_reducible refine r_assign ?_ ?h1); (case h1 => rfl)
    with_reducible refine wpAny_BinOp ?_
    (with_reducible refine' r_local ?V ?hn ?hv ?hx ?_); (case V => assumption); (case hx => kernel_rfl); (case hn => first | exact Fr.ns (by assumption) | assumption); (case hv => walk_at "mlk")
    with_reducible (refine r_cint (fun _ => ?_); refine r_sub (fun _ => ?_))
    (with_reducible refine' r_storeG ?V ?F ?N ?hx ?_); (case V => assumption); (case F => assumption); (case N => assumption); (case hx => kernel_rfl); intro _ _ _ _ _ _
    with_reducible (refine sq_next ?_; refine wpAny_execs_nil ?_)
    refine r_whileTurn ?_
    (with_reducible refine r_testCmp ?_ ?h1); (case h1 => rfl)
    (with_reducible refine' r_local ?V ?hn ?hv ?hx ?_); (case V => assumption); (case hx => kernel_rfl); (case hn => first | exact Fr.ns (by assumption) | assumption); (case hv => walk_at "mlk")
    with_reducible (refine r_cint (fun _ => ?_); refine r_ge ?_; refine wpAny_truthy_bool ?_)
    by_cases h4 : lb = 4
    · refine ite_t (decide_eq_true (by (first | lia | omega))) ?_
      with_reducible refine r_seq ?_
      (with_reducible refine r_expr ?_ ?hi ?h2); (case hi => exact Ev.inter (by assumption) rfl); (case h2 => rfl)
      (with_reducible refine' r_appendCall ?V ?F ?N ?hv ?hx ?hm ?_ ?h1 ?h2); (case V => assumption); (case hx => kernel_rfl); (case F => assumption); (case hv => walk_at "mlk"); (case N => assumption); (case hm => exact List.Mem.head _); (case h1 => rfl); (case h2 => kernel_rfl)
      with_reducible refine Subscript_ ?_
      (with_reducible refine' r_glob ?V ?G ?hk ?hx ?eB ?_); (case V => assumption); (case hx => kernel_rfl); (case eB => with_reducible exact g_B64 _); (case G => assumption); (case hk => exact Fr.keep (by assumption))
      with_reducible (refine wpAny_BinOp ?_; refine wpAny_BinOp ?_)
      (with_reducible refine' r_local ?V ?hn ?hv ?hx ?_); (case V => assumption); (case hx => kernel_rfl); (case hn => first | exact Fr.ns (by assumption) | assumption); (case hv => walk_at "mlk")
      with_reducible refine wpAny_BinOp ?_
      (with_reducible refine' r_local ?V ?hn ?hv ?hx ?_); (case V => assumption); (case hx => kernel_rfl); (case hn => first | exact Fr.ns (by assumption) | assumption); (case hv => walk_at "mlk")
      with_reducible (refine r_cint (fun _ => ?_); refine r_sub (fun _ => ?_))
      (with_reducible refine r_shr ?h1 (fun _ => ?_)); (case h1 => (first | lia | omega))
      with_reducible (refine r_cint (fun _ => ?_); refine r_and (fun _ => ?_))
      (with_reducible refine r_b64 ?h0 ?h1 (fun _ _ => ?_) ?hs ?ht); (case h0 => walk_at "mbit"); (case h1 => walk_at "mbit"); (case hs => (intro _; rfl)); (case ht => (intro _ _; rfl))
      (with_reducible refine' r_append ?F ?N ?hne ?hz ?_); (case F => assumption); (case N => assumption); (case hne => assumption); (case hz => walk_at "msz"); intro _ _ _
      with_reducible (refine sq_next ?_; refine r_seq ?_)
      (with_reducible refine r_assign ?_ ?h1); (case h1 => rfl)
      with_reducible refine wpAny_BinOp ?_
      (with_reducible refine' r_local ?V ?hn ?hv ?hx ?_); (case V => assumption); (case hx => kernel_rfl); (case hn => first | exact Fr.ns (by assumption) | assumption); (case hv => walk_at "mlk")
      with_reducible (refine r_cint (fun _ => ?_); refine r_sub (fun _ => ?_))
      (with_reducible refine' r_storeG ?V ?F ?N ?hx ?_); (case V => assumption); (case F => assumption); (case N => assumption); (case hx => kernel_rfl); intro _ _ _ _ _ _
      with_reducible (refine sq_next ?_; refine wpAny_execs_nil ?_)
      refine r_whileTurn ?_
      (with_reducible refine r_testCmp ?_ ?h1); (case h1 => rfl)
      (with_reducible refine' r_local ?V ?hn ?hv ?hx ?_); (case V => assumption); (case hx => kernel_rfl); (case hn => first | exact Fr.ns (by assumption) | assumption); (case hv => walk_at "mlk")
      with_reducible (refine r_cint (fun _ => ?_); refine r_ge ?_; refine wpAny_truthy_bool ?_)
      refine ite_f (decide_eq_false (by (first | lia | omega))) ?_
      with_reducible (refine wpAny_execs_nil ?_; refine sq_next ?_; refine wpAny_execs_nil ?_)
      have h3c : i % 3 = 2 := by (first | lia | omega)
      rw [h3c] at he
      have e1 : (2 : Int) ^ (lb + 8 - 6).toNat = 64 := by rw [h4]; decide
      have e1' : (2 : Int) ^ (lb + 8 - 6 - 6).toNat = 1 := by rw [h4]; decide
      refine inv_end (nx := [(a, _)]) (by assumption) (by assumption) ⟨a, _, _, _, _, _, _, (em ++ [lc % 16 * 4 + c / 64]) ++ [c % 64], rfl, ?_, ?_, by walk_at "mlk", by walk_at "mlk", ?_, by walk_at "mlk", by walk_at "mlk", ?_, ?_, ?_⟩ ?_
      · rw [hlc, e1, e1', fdiv_pos (by decide), fdiv_pos (by decide), bitAnd_m6, bitAnd_m6, List.map_append, List.map_append]
        have e2 : (lc * 256 + c) % 65536 / 64 % 64 = lc % 16 * 4 + c / 64 := ar2 c0 c1
        have e3 : (lc * 256 + c) % 65536 / 1 % 64 = c % 64 := ar3
        rw [e2, e3]
        exact ints_push (ints_push hI)
      · simp; (first | lia | omega)
      · (first | lia | omega)
      · rw [hlc]; exact Int.emod_nonneg _ (by decide)
      · rw [hlc]; exact Int.emod_lt_of_pos _ (by decide)
      · have e3 : (i + 1) % 3 = 0 := by (first | lia | omega)
        rw [← he, e3, hlc]
        simp only [encS, List.append_assoc, List.cons_append, List.nil_append]
        simp [Int.emod_one]
      · exact hadr
    · refine ite_f (decide_eq_false (by (first | lia | omega))) ?_
      with_reducible (refine wpAny_execs_nil ?_; refine sq_next ?_; refine wpAny_execs_nil ?_)
      rcases h3c with h3c | h3c | h3c
      · rw [h3c] at he
        have e1 : (2 : Int) ^ (lb + 8 - 6).toNat = 4 := by rw [show lb = 0 by (first | lia | omega)]; decide
        refine inv_end (nx := [(a, _)]) (by assumption) (by assumption) ⟨a, _, _, _, _, _, _, em ++ [c / 4], rfl, ?_, ?_, by walk_at "mlk", by walk_at "mlk", ?_, by walk_at "mlk", by walk_at "mlk", ?_, ?_, ?_⟩ ?_
        · rw [hlc, e1, fdiv_pos (by decide), bitAnd_m6, List.map_append]
          have e2 : (lc * 256 + c) % 65536 / 4 % 64 = c / 4 := ar0 c0 c1
          rw [e2]
          exact ints_push hI
        · simp; (first | lia | omega)
        · (first | lia | omega)
        · rw [hlc]; exact Int.emod_nonneg _ (by decide)
        · rw [hlc]; exact Int.emod_lt_of_pos _ (by decide)
        · have e3 : (i + 1) % 3 = 1 := by (first | lia | omega)
          have e4 : (lc * 256 + c) % 65536 % 4 = c % 4 := ar4
          rw [← he, e3, hlc]
          simp only [encS, List.append_assoc, List.cons_append, List.nil_append]
          simp [e4]
        · exact hadr
      · rw [h3c] at he
        have e1 : (2 : Int) ^ (lb + 8 - 6).toNat = 16 := by rw [show lb = 2 by (first | lia | omega)]; decide
        refine inv_end (nx := [(a, _)]) (by assumption) (by assumption) ⟨a, _, _, _, _, _, _, em ++ [lc % 4 * 16 + c / 16], rfl, ?_, ?_, by walk_at "mlk", by walk_at "mlk", ?_, by walk_at "mlk", by walk_at "mlk", ?_, ?_, ?_⟩ ?_
        · rw [hlc, e1, fdiv_pos (by decide), bitAnd_m6, List.map_append]
          have e2 : (lc * 256 + c) % 65536 / 16 % 64 = lc % 4 * 16 + c / 16 := ar1 c0 c1
          rw [e2]
          exact ints_push hI
        · simp; (first | lia | omega)
        · (first | lia | omega)
        · rw [hlc]; exact Int.emod_nonneg _ (by decide)
        · rw [hlc]; exact Int.emod_lt_of_pos _ (by decide)
        · have e3 : (i + 1) % 3 = 2 := by (first | lia | omega)
          have e4 : (lc * 256 + c) % 65536 % 16 = c % 16 := ar5
          rw [← he, e3, hlc]
          simp only [encS, List.append_assoc, List.cons_append, List.nil_append]
          simp [e4]
        · exact hadr
      · exact (h4 (by (first | lia | omega))).elim
  · rintro m₁ news₁ h3 t3 ⟨a, its, k, lb, lc, tl, tc, em, rfl, hI, hel, m1, m2, hlb, m3, m4, l0, l1, he⟩ F3 N3
    have h3c : (KBw.bInts by_).length % 3 = 0 ∨ (KBw.bInts by_).length % 3 = 1 ∨ (KBw.bInts by_).length % 3 = 2 := by (first | lia | omega)
    have hne : ∀ p ∈ ([] : List (Addr × Obj)), p.1 ≠ a := fun p hp => nomatch hp
    have hsz : its.size = em.length := by have := hI.length; simpa using this
    have hlt : its.size ≤ 2000 := by rw [hk] at hel; (first | lia | omega)
    have hd : ks.drop (KBw.bInts by_).length = [] := by rw [hk]; exact List.drop_length
    rw [hd] at he
    rcases h3c with h3c | h3c | h3c
    all_goals
      rw [h3c] at hlb he
      subst hlb
      first
      | (with_reducible (refine sq_next ?_; refine r_seq ?_; refine wpAny_If ?_)
         (with_reducible refine r_testCmp ?_ ?h1); (case h1 => rfl)
         (with_reducible refine' r_local ?V ?hn ?hv ?hx ?_); (case V => assumption); (case hx => kernel_rfl); (case hn => first | exact Fr.ns (by assumption) | assumption); (case hv => walk_at "mlk")
         with_reducible (refine r_cint (fun _ => ?_); refine r_eq ?_; refine wpAny_truthy_bool ?_)
         (with_reducible refine ite_f ?hd ?_); (case hd => first | rfl | decide)
         with_reducible (refine r_seq ?_; refine wpAny_If ?_)
         (with_reducible refine r_testCmp ?_ ?h1); (case h1 => rfl)
         (with_reducible refine' r_local ?V ?hn ?hv ?hx ?_); (case V => assumption); (case hx => kernel_rfl); (case hn => first | exact Fr.ns (by assumption) | assumption); (case hv => walk_at "mlk")
         with_reducible (refine r_cint (fun _ => ?_); refine r_eq ?_; refine wpAny_truthy_bool ?_)
         (with_reducible refine ite_t ?hd ?_); (case hd => first | rfl | decide)
         with_reducible refine r_seq ?_
         (with_reducible refine r_expr ?_ ?hi ?h2); (case hi => exact Ev.inter (by assumption) rfl); (case h2 => rfl)
         (with_reducible refine' r_appendCall ?V ?F ?N ?hv ?hx ?hm ?_ ?h1 ?h2); (case V => assumption); (case hx => kernel_rfl); (case F => assumption); (case hv => walk_at "mlk"); (case N => assumption); (case hm => exact List.Mem.head _); (case h1 => rfl); (case h2 => kernel_rfl)
         with_reducible refine Subscript_ ?_
         (with_reducible refine' r_glob ?V ?G ?hk ?hx ?eB ?_); (case V => assumption); (case hx => kernel_rfl); (case eB => with_reducible exact g_B64 _); (case G => assumption); (case hk => exact Fr.keep (by assumption))
         with_reducible (refine wpAny_BinOp ?_; refine wpAny_BinOp ?_)
         (with_reducible refine' r_local ?V ?hn ?hv ?hx ?_); (case V => assumption); (case hx => kernel_rfl); (case hn => first | exact Fr.ns (by assumption) | assumption); (case hv => walk_at "mlk")
         with_reducible (refine r_cint (fun _ => ?_); refine r_and (fun _ => ?_); refine r_cint (fun _ => ?_))
         (with_reducible refine r_shl ?h1 ?h2 ?h3 (fun _ => ?_)); (case h1 => (first | lia | omega)); (case h2 => (first | lia | omega)); (case h3 => first | (first | lia | omega) | walk_at "mbit")
         (with_reducible refine r_b64 ?h0 ?h1 (fun _ _ => ?_) ?hs ?ht); (case h0 => walk_at "mbit"); (case h1 => walk_at "mbit"); (case hs => (intro _; rfl)); (case ht => (intro _ _; rfl))
         (with_reducible refine' r_append ?F ?N ?hne ?hz ?_); (case F => assumption); (case N => assumption); (case hne => assumption); (case hz => walk_at "msz"); intro _ _ _
         with_reducible (refine sq_next ?_; refine r_seq ?_)
         (with_reducible refine r_expr ?_ ?hi ?h2); (case hi => exact Ev.inter (by assumption) rfl); (case h2 => rfl)
         (with_reducible refine' r_appendCall ?V ?F ?N ?hv ?hx ?hm ?_ ?h1 ?h2); (case V => assumption); (case hx => kernel_rfl); (case F => assumption); (case hv => walk_at "mlk"); (case N => assumption); (case hm => exact List.Mem.head _); (case h1 => rfl); (case h2 => kernel_rfl)
         with_reducible refine r_cint (fun _ => ?_)
         (with_reducible refine' r_append ?F ?N ?hne ?hz ?_); (case F => assumption); (case N => assumption); (case hne => assumption); (case hz => walk_at "msz"); intro _ _ _
         with_reducible (refine sq_next ?_; refine wpAny_execs_nil ?_; refine sq_next ?_; refine wpAny_execs_nil ?_; refine sq_next ?_; refine r_seq ?_; refine wpAny_If ?_; refine r_testName ?_)
         (with_reducible refine' r_local ?V ?hn ?hv ?hx ?_); (case V => assumption); (case hx => kernel_rfl); (case hn => first | exact Fr.ns (by assumption) | assumption); (case hv => walk_at "mlk")
         with_reducible refine wpAny_truthy_bool ?_
         (with_reducible refine ite_f ?hd ?_); (case hd => first | rfl | decide)
         with_reducible (refine wpAny_execs_nil ?_; refine sq_next ?_; refine r_seq ?_; refine wpAny_Return_some ?_; refine r_callN ?_)
         (with_reducible refine' r_boot ?V ?G ?hk ?hx ?eB ?_); (case V => assumption); (case hx => kernel_rfl); (case eB => with_reducible exact g_bytes _); (case G => assumption); (case hk => exact Fr.keep (by assumption))
         (with_reducible refine r_cwType ?_ ?h1 ?h2); (case h1 => rfl); (case h2 => rfl)
         (with_reducible refine r_args ?_ ?h1); (case h1 => rfl)
         (with_reducible refine' r_local ?V ?hn ?hv ?hx ?_); (case V => assumption); (case hx => kernel_rfl); (case hn => first | exact Fr.ns (by assumption) | assumption); (case hv => walk_at "mlk")
         with_reducible refine r_args0 ?_)
      | (with_reducible (refine sq_next ?_; refine r_seq ?_; refine wpAny_If ?_)
         (with_reducible refine r_testCmp ?_ ?h1); (case h1 => rfl)
         (with_reducible refine' r_local ?V ?hn ?hv ?hx ?_); (case V => assumption); (case hx => kernel_rfl); (case hn => first | exact Fr.ns (by assumption) | assumption); (case hv => walk_at "mlk")
         with_reducible (refine r_cint (fun _ => ?_); refine r_eq ?_; refine wpAny_truthy_bool ?_)
         (with_reducible refine ite_t ?hd ?_); (case hd => first | rfl | decide)
         with_reducible refine r_seq ?_
         (with_reducible refine r_expr ?_ ?hi ?h2); (case hi => exact Ev.inter (by assumption) rfl); (case h2 => rfl)
         (with_reducible refine' r_appendCall ?V ?F ?N ?hv ?hx ?hm ?_ ?h1 ?h2); (case V => assumption); (case hx => kernel_rfl); (case F => assumption); (case hv => walk_at "mlk"); (case N => assumption); (case hm => exact List.Mem.head _); (case h1 => rfl); (case h2 => kernel_rfl)
         with_reducible refine Subscript_ ?_
         (with_reducible refine' r_glob ?V ?G ?hk ?hx ?eB ?_); (case V => assumption); (case hx => kernel_rfl); (case eB => with_reducible exact g_B64 _); (case G => assumption); (case hk => exact Fr.keep (by assumption))
         with_reducible (refine wpAny_BinOp ?_; refine wpAny_BinOp ?_)
         (with_reducible refine' r_local ?V ?hn ?hv ?hx ?_); (case V => assumption); (case hx => kernel_rfl); (case hn => first | exact Fr.ns (by assumption) | assumption); (case hv => walk_at "mlk")
         with_reducible (refine r_cint (fun _ => ?_); refine r_and (fun _ => ?_); refine r_cint (fun _ => ?_))
         (with_reducible refine r_shl ?h1 ?h2 ?h3 (fun _ => ?_)); (case h1 => (first | lia | omega)); (case h2 => (first | lia | omega)); (case h3 => first | (first | lia | omega) | walk_at "mbit")
         (with_reducible refine r_b64 ?h0 ?h1 (fun _ _ => ?_) ?hs ?ht); (case h0 => walk_at "mbit"); (case h1 => walk_at "mbit"); (case hs => (intro _; rfl)); (case ht => (intro _ _; rfl))
         (with_reducible refine' r_append ?F ?N ?hne ?hz ?_); (case F => assumption); (case N => assumption); (case hne => assumption); (case hz => walk_at "msz"); intro _ _ _
         with_reducible (refine sq_next ?_; refine r_seq ?_)
         (with_reducible refine r_expr ?_ ?hi ?h2); (case hi => exact Ev.inter (by assumption) rfl); (case h2 => rfl)
         (with_reducible refine' r_appendCall ?V ?F ?N ?hv ?hx ?hm ?_ ?h1 ?h2); (case V => assumption); (case hx => kernel_rfl); (case F => assumption); (case hv => walk_at "mlk"); (case N => assumption); (case hm => exact List.Mem.head _); (case h1 => rfl); (case h2 => kernel_rfl)
         with_reducible refine r_cint (fun _ => ?_)
         (with_reducible refine' r_append ?F ?N ?hne ?hz ?_); (case F => assumption); (case N => assumption); (case hne => assumption); (case hz => walk_at "msz"); intro _ _ _
         with_reducible (refine sq_next ?_; refine r_seq ?_)
         (with_reducible refine r_expr ?_ ?hi ?h2); (case hi => exact Ev.inter (by assumption) rfl); (case h2 => rfl)
         (with_reducible refine' r_appendCall ?V ?F ?N ?hv ?hx ?hm ?_ ?h1 ?h2); (case V => assumption); (case hx => kernel_rfl); (case F => assumption); (case hv => walk_at "mlk"); (case N => assumption); (case hm => exact List.Mem.head _); (case h1 => rfl); (case h2 => kernel_rfl)
         with_reducible refine r_cint (fun _ => ?_)
         (with_reducible refine' r_append ?F ?N ?hne ?hz ?_); (case F => assumption); (case N => assumption); (case hne => assumption); (case hz => walk_at "msz"); intro _ _ _
         with_reducible (refine sq_next ?_; refine wpAny_execs_nil ?_; refine sq_next ?_; refine r_seq ?_; refine wpAny_If ?_; refine r_testName ?_)
         (with_reducible refine' r_local ?V ?hn ?hv ?hx ?_); (case V => assumption); (case hx => kernel_rfl); (case hn => first | exact Fr.ns (by assumption) | assumption); (case hv => walk_at "mlk")
         with_reducible refine wpAny_truthy_bool ?_
         (with_reducible refine ite_f ?hd ?_); (case hd => first | rfl | decide)
         with_reducible (refine wpAny_execs_nil ?_; refine sq_next ?_; refine r_seq ?_; refine wpAny_Return_some ?_; refine r_callN ?_)
         (with_reducible refine' r_boot ?V ?G ?hk ?hx ?eB ?_); (case V => assumption); (case hx => kernel_rfl); (case eB => with_reducible exact g_bytes _); (case G => assumption); (case hk => exact Fr.keep (by assumption))
         (with_reducible refine r_cwType ?_ ?h1 ?h2); (case h1 => rfl); (case h2 => rfl)
         (with_reducible refine r_args ?_ ?h1); (case h1 => rfl)
         (with_reducible refine' r_local ?V ?hn ?hv ?hx ?_); (case V => assumption); (case hx => kernel_rfl); (case hn => first | exact Fr.ns (by assumption) | assumption); (case hv => walk_at "mlk")
         with_reducible refine r_args0 ?_)
      | (with_reducible (refine sq_next ?_; refine r_seq ?_; refine wpAny_If ?_)
         (with_reducible refine r_testCmp ?_ ?h1); (case h1 => rfl)
         (with_reducible refine' r_local ?V ?hn ?hv ?hx ?_); (case V => assumption); (case hx => kernel_rfl); (case hn => first | exact Fr.ns (by assumption) | assumption); (case hv => walk_at "mlk")
         with_reducible (refine r_cint (fun _ => ?_); refine r_eq ?_; refine wpAny_truthy_bool ?_)
         (with_reducible refine ite_f ?hd ?_); (case hd => first | rfl | decide)
         with_reducible (refine r_seq ?_; refine wpAny_If ?_)
         (with_reducible refine r_testCmp ?_ ?h1); (case h1 => rfl)
         (with_reducible refine' r_local ?V ?hn ?hv ?hx ?_); (case V => assumption); (case hx => kernel_rfl); (case hn => first | exact Fr.ns (by assumption) | assumption); (case hv => walk_at "mlk")
         with_reducible (refine r_cint (fun _ => ?_); refine r_eq ?_; refine wpAny_truthy_bool ?_)
         (with_reducible refine ite_f ?hd ?_); (case hd => first | rfl | decide)
         with_reducible (refine wpAny_execs_nil ?_; refine sq_next ?_; refine wpAny_execs_nil ?_; refine sq_next ?_; refine r_seq ?_; refine wpAny_If ?_; refine r_testName ?_)
         (with_reducible refine' r_local ?V ?hn ?hv ?hx ?_); (case V => assumption); (case hx => kernel_rfl); (case hn => first | exact Fr.ns (by assumption) | assumption); (case hv => walk_at "mlk")
         with_reducible refine wpAny_truthy_bool ?_
         (with_reducible refine ite_f ?hd ?_); (case hd => first | rfl | decide)
         with_reducible (refine wpAny_execs_nil ?_; refine sq_next ?_; refine r_seq ?_; refine wpAny_Return_some ?_; refine r_callN ?_)
         (with_reducible refine' r_boot ?V ?G ?hk ?hx ?eB ?_); (case V => assumption); (case hx => kernel_rfl); (case eB => with_reducible exact g_bytes _); (case G => assumption); (case hk => exact Fr.keep (by assumption))
         (with_reducible refine r_cwType ?_ ?h1 ?h2); (case h1 => rfl); (case h2 => rfl)
         (with_reducible refine r_args ?_ ?h1); (case h1 => rfl)
         (with_reducible refine' r_local ?V ?hn ?hv ?hx ?_); (case V => assumption); (case hx => kernel_rfl); (case hn => first | exact Fr.ns (by assumption) | assumption); (case hv => walk_at "mlk")
         with_reducible refine r_args0 ?_)
    · refine r_mkBytes (isList_news (by assumption) (List.Mem.head _)) hI ?_ ?_ R'.hh ?_
      · simp only [List.mem_map]; rintro _ ⟨x, _, rfl⟩; exact b64_in x
      · rw [List.length_map]; (first | lia | omega)
      · intro h' t' by' tb' hk' hb'
        refine H _ _ _ _ (Keeps.trans (Fr.keep (by assumption)) hk') ?_
        rw [hb', ← he]
        rw [hk] at h3c
        simp [encS, padN, h3c]
    · refine' r_mkBytes ?hl ?hi ?_ ?_ R'.hh ?_
      case hl => exact isList_news (by assumption) (List.Mem.head _)
      case hi => exact ints_push (ints_push (ints_push hI))
      · simp only [List.mem_append, List.mem_map, List.mem_singleton]
        rintro n (((⟨x, _, rfl⟩ | rfl) | rfl) | rfl)
        · exact b64_in x
        · exact b64_in _
        · decide
        · decide
      · simp; (first | lia | omega)
      · intro h' t' by' tb' hk' hb'
        refine H _ _ _ _ (Keeps.trans (Fr.keep (by assumption)) hk') ?_
        rw [hb', ← he]
        rw [hk] at h3c
        have e : Builtin.bitAnd lc 3 * 2 ^ (4 : Int).toNat = lc % 4 * 16 := by rw [bitAnd_m2]; rfl
        rw [e]
        simp [encS, padN, h3c]
    · refine' r_mkBytes ?hl2 ?hi2 ?_ ?_ R'.hh ?_
      case hl2 => exact isList_news (by assumption) (List.Mem.head _)
      case hi2 => exact ints_push (ints_push hI)
      · simp only [List.mem_append, List.mem_map, List.mem_singleton]
        rintro n ((⟨x, _, rfl⟩ | rfl) | rfl)
        · exact b64_in x
        · exact b64_in _
        · decide
      · simp; (first | lia | omega)
      · intro h' t' by' tb' hk' hb'
        refine H _ _ _ _ (Keeps.trans (Fr.keep (by assumption)) hk') ?_
        rw [hb', ← he]
        rw [hk] at h3c
        have e : Builtin.bitAnd lc 15 * 2 ^ (2 : Int).toNat = lc % 16 * 4 := by rw [bitAnd_m4]; rfl
        rw [e]
        simp [encS, padN, h3c]

end

section
section builtins
open Builtin
set_option maxRecDepth 100000
theorem slot_upper : Slot "bytes" "upper" "bytes.upper" :=
  .of (owner := "bytes") (n := "upper") (by rw [typeLookup_type, builtinLookup_eq_fast]; kernel_rfl) (by decide +kernel) (by decide +kernel) (by decide +kernel)
    (by first | exact .inl (by decide +kernel) | exact .inr (by decide +kernel)) (by rw [isSubtype_type]; kernel_rfl)
theorem type_upper : typeOf (.builtin "bytes.upper") = pure (.type "method_descriptor") := by show builtinType _ = _; rw [builtinType_eq_fast]; kernel_rfl
theorem entry_upper : entryFor table "bytes.upper" = some Builtin.«bytes.upper» := entryFor_of_tree (by kernel_rfl)
theorem args_upper (a : Value) : argsOk "bytes.upper" ⟨[a], []⟩ := by unfold argsOk; kernel_rfl
theorem run_upper (b : Array UInt8) (t : Tok) : «bytes.upper» ⟨[.bytes b t], []⟩ = (mkBytes (b.toList.map Bytes.toUpper).toArray >>= fun v => ret v) := by kernel_rfl

theorem slot_hex : Slot "bytes" "hex" "bytes.hex" :=
  .of (owner := "bytes") (n := "hex") (by rw [typeLookup_type, builtinLookup_eq_fast]; kernel_rfl) (by decide +kernel) (by decide +kernel) (by decide +kernel)
    (by first | exact .inl (by decide +kernel) | exact .inr (by decide +kernel)) (by rw [isSubtype_type]; kernel_rfl)
theorem type_hex : typeOf (.builtin "bytes.hex") = pure (.type "method_descriptor") := by show builtinType _ = _; rw [builtinType_eq_fast]; kernel_rfl
theorem entry_hex : entryFor table "bytes.hex" = some Builtin.«bytes.hex» := entryFor_of_tree (by kernel_rfl)
theorem args_hex (a : Value) : argsOk "bytes.hex" ⟨[a], []⟩ := by unfold argsOk; kernel_rfl
theorem run_hex (b : Array UInt8) (t : Tok) : «bytes.hex» ⟨[.bytes b t], []⟩ = retStr ⟨b.toList.zipIdx.foldl (fun (out : Array Nat) (x : UInt8 × Nat) => (out.push (Bytes.hexDigit (x.1.toNat / 16))).push (Bytes.hexDigit (x.1.toNat % 16))) #[]⟩ := by kernel_rfl

theorem slot_translate : Slot "bytes" "translate" "bytes.translate" :=
  .of (owner := "bytes") (n := "translate") (by rw [typeLookup_type, builtinLookup_eq_fast]; kernel_rfl) (by decide +kernel) (by decide +kernel) (by decide +kernel)
    (by first | exact .inl (by decide +kernel) | exact .inr (by decide +kernel)) (by rw [isSubtype_type]; kernel_rfl)
theorem type_translate : typeOf (.builtin "bytes.translate") = pure (.type "method_descriptor") := by show builtinType _ = _; rw [builtinType_eq_fast]; kernel_rfl
theorem entry_translate : entryFor table "bytes.translate" = some Builtin.«bytes.translate» := entryFor_of_tree (by kernel_rfl)
theorem args_translate (a c : Value) : argsOk "bytes.translate" ⟨[a, c], []⟩ := by unfold argsOk; kernel_rfl
theorem run_translate (b c : Array UInt8) (t u : Tok) (hc : c.size = 256) : «bytes.translate» ⟨[.bytes b t, .bytes c u], []⟩ =
    (if ((b.filter (fun x => !(#[] : Array UInt8).contains x)).map (fun x => c.getD x.toNat x) == b) = true then (do rule "bytes.translate.unchanged"; ret (← Bytes.Kind.same .bytes (.bytes b t))) else (do ret (← mkBytes ((b.filter (fun x => !(#[] : Array UInt8).contains x)).map (fun x => c.getD x.toNat x))))) := by
  have h0 : (c.size != 256) = false := by rw [hc]; rfl
  unfold «bytes.translate» Bytes.translateM
  simp only [KBd.like_eq, pure_bind, h0, Bool.false_eq_true, if_false]
  kernel_rfl
theorem find_maketrans (K : Frag) : findCls K (.type "bytes") (.type "type") "maketrans" = some (.val (.builtin "bytes.maketrans")) := by kernel_rfl
theorem plain_maketrans : plainId "bytes.maketrans" = true := by decide +kernel
theorem entry_maketrans : entryFor table "bytes.maketrans" = some Builtin.«bytes.maketrans» := entryFor_of_tree (by kernel_rfl)
theorem check_maketrans (a c : Value) : checkBuiltinCall "bytes.maketrans" ⟨[a, c], []⟩ = pure () := by kernel_rfl
theorem run_maketrans (b c : Array UInt8) (t u : Tok) (hc : b.size = c.size) : «bytes.maketrans» ⟨[.bytes b t, .bytes c u], []⟩ =
    (mkBytes ((b.toList.zip c.toList).foldl (fun t (x : UInt8 × UInt8) => t.setIfInBounds x.1.toNat x.2) ((Array.range 256).map (·.toUInt8))) >>= fun v => ret v) := by
  have h0 : (b.size != c.size) = false := by rw [hc]; simp
  unfold «bytes.maketrans» Bytes.maketransM
  simp only [List.headD_cons, List.getD_cons_succ, List.getD_cons_zero, KBd.like_eq, pure_bind, h0, Bool.false_eq_true, if_false]
  kernel_rfl
theorem run_encode (x : Str) (t u : Tok) : «str.encode» ⟨[.str x t, .str (Str.ofString "ascii") u], []⟩ = ((_codecs.encodeNarrow "str.encode" _codecs.asciiCodec none (.str x t) x >>= fun r => mkBytes r) >>= fun v => ret v) := by kernel_rfl
theorem forIn_two {σ : Type} {f : Nat → σ → Sem (ForInStep σ)} {n : Nat} {a b c : σ} {k : σ → Sem (Array UInt8)} (h0 : f 0 a = pure (.yield b)) (h1 : f 1 b = pure (.done c)) :
    (forIn (List.range' 0 (n + 2)) a f >>= k) = k c := by
  rw [List.range'_succ, List.range'_succ, List.forIn_cons, h0, pure_bind]
  simp only [List.forIn_cons]
  rw [h1, pure_bind, pure_bind]
theorem narrow_eq {x : Str} {v : Value} (h2 : 2 ≤ x.cps.size) (hs : x.cps.size ≤ 2000) (ha : ∀ c ∈ x.cps.toList, c < 128) : _codecs.encodeNarrow "str.encode" _codecs.asciiCodec none v x = pure (x.cps.map (·.toUInt8)) := by
  have hb : ∀ c ∈ x.cps.toList, _codecs.asciiCodec.bad c = false := fun c hc => decide_eq_false (by have := ha c hc; (first | lia | omega))
  have hlen : [:x.length].size = (x.cps.size - 2) + 2 := by
    show (x.length - 0 + 1 - 1) / 1 = _
    have : x.length = x.cps.size := rfl
    (first | lia | omega)
  have e0 : x.cps.extract 0 x.cps.size = x.cps := Array.extract_size
  have en : Array.findIdx? _codecs.asciiCodec.bad x.cps = none := by
    rw [Array.findIdx?_eq_none_iff]
    intro c hc
    exact hb c (Array.mem_toList_iff.mpr hc)
  have ef : ∀ l : List Nat, ∀ acc : Array UInt8, l.foldl (fun acc y => acc ++ (_codecs.asciiCodec.bytesOf y).toArray) acc = acc ++ (l.map (·.toUInt8)).toArray := by
    intro l
    induction l with
    | nil => intro acc; simp
    | cons y l ih =>
      intro acc
      rw [List.foldl_cons, ih]
      show acc ++ #[y.toUInt8] ++ _ = _
      simp [Array.append_assoc]
  unfold _codecs.encodeNarrow
  simp only [Std.Legacy.Range.forIn_eq_forIn_range']
  rw [hlen]
  refine forIn_two (b := (x.cps.size, x.cps.map (·.toUInt8), ({} : _codecs.Faults))) (c := (x.cps.size, x.cps.map (·.toUInt8), ({} : _codecs.Faults))) ?_ ?_
  · have h0 : x.cps[0]? = some x.cps[0] := by simp
    have h1 := hb x.cps[0] (by simp)
    simp only [h0, h1, e0, en, Bool.not_false, if_true]
    have hz : ¬ (#[] : Array UInt8).size > sizeLine := by decide
    rw [if_neg hz]
    simp only [Option.getD_none, Nat.zero_add, Array.extract_size]
    rw [← Array.foldl_toList, ef]
    have em : #[] ++ (x.cps.toList.map (·.toUInt8)).toArray = x.cps.map (·.toUInt8) := by apply Array.ext'; simp
    rw [em]
  · have h0 : x.cps[x.cps.size]? = none := by simp
    have hz : ¬ (x.cps.map (fun c => c.toUInt8)).size > sizeLine := by rw [Array.size_map, sizeLine_eq]; (first | lia | omega)
    simp only [h0]
    rw [if_neg hz]
theorem bInts_map (b : Array UInt8) (f : UInt8 → UInt8) : KBw.bInts (b.map f) = b.toList.map fun c => ((f c).toNat : Int) := by
  show (b.map f).toList.map (fun c => (c.toNat : Int)) = _
  rw [Array.toList_map, List.map_map]; rfl
theorem bInts_eq (b : Array UInt8) : KBw.bInts b = b.toList.map fun c => (c.toNat : Int) := rfl
noncomputable def hexC (n : Nat) : List Nat := [Bytes.hexDigit (n / 16), Bytes.hexDigit (n % 16)]
theorem hex_fold : ∀ (l : List (UInt8 × Nat)) (acc : Array Nat), l.foldl (fun (out : Array Nat) (x : UInt8 × Nat) => (out.push (Bytes.hexDigit (x.1.toNat / 16))).push (Bytes.hexDigit (x.1.toNat % 16))) acc = acc ++ ((l.map (·.1)).flatMap fun c => hexC c.toNat).toArray
  | [], acc => by simp
  | x :: l, acc => by
    rw [List.foldl_cons, hex_fold l]
    apply Array.ext'
    simp [hexC]
theorem hex_cps (b : Array UInt8) : b.toList.zipIdx.foldl (fun (out : Array Nat) (x : UInt8 × Nat) => (out.push (Bytes.hexDigit (x.1.toNat / 16))).push (Bytes.hexDigit (x.1.toNat % 16))) #[] = (b.toList.flatMap fun c => hexC c.toNat).toArray := by
  rw [hex_fold]
  simp
end builtins
section calls
variable {prog : Program} {w : World} {A : Around} {E : Value → Shared → Prop} {b h : Heap} {g : Array GenState} {d : Drawn} {t : Nat} {o : OsState} {Q : Value → Shared → Prop}
theorem r_upper {by_ : Array UInt8} {tb : Tok} (hz : by_.size ≤ 1000) (H : ∀ t' t'', Q (.bytes (by_.toList.map Builtin.Bytes.toUpper).toArray t') ⟨h, g, d, t'', o⟩) : wpAny (model prog w) A (call (.builtin "bytes.upper") [.bytes by_ tb]) Q E ⟨h, g, d, t, o⟩ := by
  refine call_meets (S := fun _ R s => ∀ t' k, R (.ok (.ret (.bytes (by_.toList.map Builtin.Bytes.toUpper).toArray t'))) { s with toks := k }) slot_upper (PySem.W.typeIs_bytes _ _ _) entry_upper (args_upper _) (.of_wp fun prog w A R s hS => ?_) (fun t' k => H t' k)
  rw [run_upper]
  exact wpAny_bind (wpAny_mkBytes (wpAny_pure ⟨_, rfl, hS _ _⟩) (by rw [List.size_toArray, List.length_map, sizeLine_eq, Array.length_toList]; (first | lia | omega)))
theorem r_hex {by_ : Array UInt8} {tb : Tok} (hz : by_.size ≤ 1000) (H : ∀ t' t'', Q (.str ⟨(by_.toList.flatMap fun c => hexC c.toNat).toArray⟩ t') ⟨h, g, d, t'', o⟩) : wpAny (model prog w) A (call (.builtin "bytes.hex") [.bytes by_ tb]) Q E ⟨h, g, d, t, o⟩ := by
  refine call_meets (S := fun _ R s => ∀ t' k, R (.ok (.ret (.str ⟨(by_.toList.flatMap fun c => hexC c.toNat).toArray⟩ t'))) { s with toks := k }) slot_hex (PySem.W.typeIs_bytes _ _ _) entry_hex (args_hex _) (.of_wp fun prog w A R s hS => ?_) (fun t' k => H t' k)
  rw [run_hex, hex_cps]
  refine wpAny_bind (wpAny_mkStr (wpAny_pure ⟨_, rfl, hS _ _⟩) ?_)
  show (List.toArray _).size ≤ sizeLine
  rw [List.size_toArray, List.length_flatMap, sizeLine_eq]
  have : ∀ l : List UInt8, (l.map fun c => (hexC c.toNat).length).sum = 2 * l.length := by
    intro l; induction l with
    | nil => rfl
    | cons c l ih => rw [List.map_cons, List.sum_cons, ih]; simp [hexC]; (first | lia | omega)
  rw [this, Array.length_toList]; (first | lia | omega)
theorem r_encode {x : Str} {tx u : Tok} (h2 : 2 ≤ x.cps.size) (hs : x.cps.size ≤ 2000) (ha : ∀ c ∈ x.cps.toList, c < 128) (H : ∀ t' t'', Q (.bytes (x.cps.map (·.toUInt8)) t') ⟨h, g, d, t'', o⟩) :
    wpAny (model prog w) A (call (.builtin "str.encode") [.str x tx, .str (Str.ofString "ascii") u]) Q E ⟨h, g, d, t, o⟩ := by
  refine call_meets (S := fun _ R s => ∀ t' k, R (.ok (.ret (.bytes (x.cps.map (·.toUInt8)) t'))) { s with toks := k }) PySem.F.slot_str_encode (typeIs_str _ _ _) PySem.F.entry_str_encode (PySem.F.args_str_encode_2 _ _) (.of_wp fun prog w A R s hS => ?_) (fun t' k => H t' k)
  rw [run_encode, narrow_eq h2 hs ha]
  exact wpAny_bind (wpAny_bind (wpAny_pure (wpAny_mkBytes (wpAny_pure ⟨_, rfl, hS _ _⟩) (by rw [Array.size_map, sizeLine_eq]; (first | lia | omega)))))
theorem r_translate {by_ c : Array UInt8} {tb tc : Tok} (hz : by_.size ≤ 1000) (hc : c.size = 256) (H : ∀ t' t'', Q (.bytes (by_.map fun x => c.getD x.toNat x) t') ⟨h, g, d, t'', o⟩) :
    wpAny (model prog w) A (call (.builtin "bytes.translate") [.bytes by_ tb, .bytes c tc]) Q E ⟨h, g, d, t, o⟩ := by
  refine call_meets (S := fun _ R s => ∀ t' k, R (.ok (.ret (.bytes (by_.map fun x => c.getD x.toNat x) t'))) { s with toks := k }) slot_translate (PySem.W.typeIs_bytes _ _ _) entry_translate (args_translate _ _) (.of_wp fun prog w A R s hS => ?_) (fun t' k => H t' k)
  rw [run_translate _ _ _ _ hc]
  have e : by_.filter (fun x => !(#[] : Array UInt8).contains x) = by_ := by simp
  rw [e]
  split
  · rename_i q
    have q' := eq_of_beq q
    refine wpAny_bind (wpAny_rule ?_)
    unfold Builtin.Bytes.Kind.same
    refine wpAny_bind (wpAny_bind (wpAny_typeOf (PySem.W.typeIs_bytes s by_ tb) ?_))
    have := hS tb s.toks
    rw [q'] at this
    exact wpAny_pure (wpAny_pure ⟨_, rfl, this⟩)
  · exact wpAny_bind (wpAny_mkBytes (wpAny_pure ⟨_, rfl, hS _ _⟩) (by rw [Array.size_map, sizeLine_eq]; (first | lia | omega)))
theorem r_maketrans {by_ c : Array UInt8} {tb tc : Tok} (hc : by_.size = c.size)
    (H : ∀ t' t'', Q (.bytes ((by_.toList.zip c.toList).foldl (fun t (x : UInt8 × UInt8) => t.setIfInBounds x.1.toNat x.2) ((Array.range 256).map (·.toUInt8))) t') ⟨h, g, d, t'', o⟩) :
    wpAny (model prog w) A (call (.builtin "bytes.maketrans") [.bytes by_ tb, .bytes c tc]) Q E ⟨h, g, d, t, o⟩ := by
  refine wpAny_call (codeAny_call_builtin plain_maketrans entry_maketrans ?_)
  rw [check_maketrans]
  refine wpAny_pure ?_
  rw [run_maketrans _ _ _ _ hc]
  refine wpAny_bind (wpAny_mkBytes (wpAny_pure (H _ _)) ?_)
  have : ∀ (l : List (UInt8 × UInt8)) (a : Array UInt8), (l.foldl (fun t (x : UInt8 × UInt8) => t.setIfInBounds x.1.toNat x.2) a).size = a.size := by
    intro l; induction l with
    | nil => intro a; rfl
    | cons x l ih => intro a; rw [List.foldl_cons, ih]; simp
  rw [this, sizeLine_eq]; simp
end calls

end

section
section rules
variable {prog : Program} {w : World} {A : Around} {E : Value → Shared → Prop} {b h : Heap} {g : Array GenState} {d : Drawn} {t : Nat} {o : OsState}
  {L a : Addr} {cs : Scope} {cl : List (Str × Addr)} {m : Str → Option Value} {news : List (Addr × Obj)} {env : Env}
  {x : Str} {pos : Pos} {k : Nat} {v : Value} {Q : Value → Shared → Prop} {QF : Flow → Shared → Prop} {QB : Bool → Shared → Prop} {QL : List Value → Shared → Prop}
theorem r_calldefKW {f : Addr} {e : Expr} {rest : List Expr} {kws : List Keyword} (G : Gd w b) (hk : keepIn (KF w) (.ref f) = true) (hall : (backToKw pos (keywordEach kws env)).all (·.1.isSome) = true)
    (H : wpAny (model prog w) A (spliced (backTo pos (starEach (e :: rest) env))) (fun vs s₁ => wpAny (model prog w) A (evalAll ((backToKw pos (keywordEach kws env)).map (·.2)))
      (fun ks s₂ => Keeps b s₂.heap ∧ wpAny (model prog w) A (call (.ref f) vs (((backToKw pos (keywordEach kws env)).filterMap (·.1)).zip ks)) Q E s₂) E s₁) E ⟨h, g, d, t, o⟩)
    (hplain : ((backTo pos (starEach (e :: rest) env)).any (·.1) || (backToKw pos (keywordEach kws env)).any (·.1.isNone)) = false) (he : starEach (e :: rest) env = (false, eval e env) :: starEach rest env) :
    wpAny (model prog w) A (callWith pos (.ref f) [] (backTo pos (starEach (e :: rest) env)) (backToKw pos (keywordEach kws env))) Q E ⟨h, g, d, t, o⟩ :=
  callWith_KW G.k hk hall (wpAny_mono H (fun _ _ q => wpAny_mono q (fun _ _ q' => ⟨G.k.keeps q'.1, q'.2⟩) fun _ _ y => y) fun _ _ y => y) hplain he
theorem r_callNK {id : Str} {p : Pos} {args : List Expr} {kw : Keyword} {kws : List Keyword} (H : wpAny (model prog w) A (eval (.Name id p) env) (fun f s₁ => wpAny (model prog w) A (callWith pos f [] (backTo pos (starEach args env)) (backToKw pos (keywordEach (kw :: kws) env))) Q E s₁) E ⟨h, g, d, t, o⟩) :
    wpAny (model prog w) A (eval (.Call (.Name id p) args (kw :: kws) pos) env) Q E ⟨h, g, d, t, o⟩ := wpAny_Call_Name_kw H
theorem r_kw0 (H : QL [] ⟨h, g, d, t, o⟩) : wpAny (model prog w) A (evalAll ((backToKw pos (keywordEach [] env)).map (·.2))) QL E ⟨h, g, d, t, o⟩ := kwAll_nil H
theorem r_kw {p : Pos} {name : Str} {value : Expr} {rest : List Keyword} (H : wpAny (model prog w) A (eval value env) (fun v s₁ => wpAny (model prog w) A (evalAll ((backToKw pos (keywordEach rest env)).map (·.2))) (fun vs s₂ => QL (v :: vs) s₂) E s₁) E ⟨h, g, d, t, o⟩) :
    wpAny (model prog w) A (evalAll ((backToKw pos (keywordEach (⟨some name, value, p⟩ :: rest) env)).map (·.2))) QL E ⟨h, g, d, t, o⟩ := kwAll_cons H
theorem r_cbytes {l : List UInt8} (H : ∀ t', Q (.bytes l.toArray t) ⟨h, g, d, t', o⟩) : wpAny (model prog w) A (eval (.Constant (.bytes l) k pos) env) Q E ⟨h, g, d, t, o⟩ := fun _ _ _ => H _
theorem r_cstr (H : ∀ t', Q (.str x t) ⟨h, g, d, t', o⟩) : wpAny (model prog w) A (eval (.Constant (.str x) k pos) env) Q E ⟨h, g, d, t, o⟩ := fun _ _ _ => H _
theorem r_assert {test : Expr} {msg : Option Expr} (H : wpAny (model prog w) A (isTrue test env (eval test env)) (fun c s₁ => c = true ∧ QF .next s₁) E ⟨h, g, d, t, o⟩) :
    wpAny (model prog w) A (exec (.Assert test msg pos) env) QF E ⟨h, g, d, t, o⟩ := wpAny_Assert_holds H
theorem r_lenBytes {by_ : Array UInt8} {tb : Tok} {ks : List Int} (hk : KBw.bInts by_ = ks) (hz : ks.length ≤ 100000) (H : ∀ t' t'', Q (.int (ks.length : Nat) t') ⟨h, g, d, t'', o⟩) :
    wpAny (model prog w) A (call (.builtin "len") [.bytes by_ tb]) Q E ⟨h, g, d, t, o⟩ := KBw.len_K hk (by (first | lia | omega)) (H _ _)
theorem r_item {value slice : Expr} {items : Array Value} {i : Int} {u : Tok} (hl : h.IsList a items) (h0 : 0 ≤ i) (h1 : i < 100000000) (hx : items[i.toNat]? = some v)
    (hs : subscripted slice false (.ref a) (.int i u) = operate [.ref a, .int i u] (getItem (.ref a) (.int i u))) (H : Q v ⟨h, g, d, t, o⟩) :
    wpAny (model prog w) A (subscriptTail value slice (.ref a) (.int i u)) Q E ⟨h, g, d, t, o⟩ :=
  tail_any hl.typeIs slot_list_getitem.lookup (wpAny_getItem_list hl h0 (by (first | lia | omega)) hx H) hs
theorem r_itemI {value slice : Expr} {items : Array Value} {ns : List Int} {i : Int} {u : Tok} (hl : h.IsList a items) (hi : IntsAre items.toList ns) (h0 : 0 ≤ i) (h1 : i < (ns.length : Int)) (hz : ns.length ≤ 100000)
    (hs : subscripted slice false (.ref a) (.int i u) = operate [.ref a, .int i u] (getItem (.ref a) (.int i u))) (H : ∀ t', Q (.int (ns.getD i.toNat 0) t') ⟨h, g, d, t, o⟩) :
    wpAny (model prog w) A (subscriptTail value slice (.ref a) (.int i u)) Q E ⟨h, g, d, t, o⟩ := by
  have hlt : i.toNat < ns.length := by (first | lia | omega)
  obtain ⟨t', ht⟩ := hi.get i.toNat ns[i.toNat] (by simp [hlt])
  have e : ns.getD i.toNat 0 = ns[i.toNat] := by simp [List.getD, hlt]
  refine r_item hl h0 (by (first | lia | omega)) ?_ hs (e ▸ H t')
  rw [← Array.getElem?_toList]; exact ht
theorem r_methodT {T nm : String} {id : String} {xp ap : Pos} {args : List Expr} {pl : Sem Bool} (V : Ev env cs L cl) (F : Fr b L h m) (G : Gd w b) (hx : chk cs x .globalImplicit = true) (e : nsIn (KF w) mainGlobals x = some none ∧ bootBuiltins x = some (.type T) ∧ x ≠ "__name__")
    (ht : typeOf (.type T) = pure (.type "type")) (hs : Manifest.isStub T = false) (hf : findCls (KF w) (.type T) (.type "type") (Str.ofString nm) = some (.val (.builtin id))) (hh : handedIn (.builtin id) = true)
    (he : eval (.Call (.Attribute (.Name x xp) (Str.ofString nm) ap) args [] pos) env = (do
      let ov ← eval (.Name x xp) env
      standAt ap.atName
      let (f, first) ← holding [ov] (getMethod ov (Str.ofString nm) pl)
      callWith pos f first (backTo pos (starEach args env)) (backToKw pos (keywordEach [] env))))
    (H : ∀ t', wpAny (model prog w) A (callWith pos (.builtin id) [] (backTo pos (starEach args env)) []) Q E ⟨h, g, d, t', o⟩) :
    wpAny (model prog w) A (eval (.Call (.Attribute (.Name x xp) (Str.ofString nm) ap) args [] pos) env) Q E ⟨h, g, d, t, o⟩ := by
  refine methodCall_KW ?_ he
  refine r_boot V G F.keep hx e ?_
  exact method_type F G.k ht hs hf hh (H _)
end rules
/-- the alphabets -/
noncomputable def alph (k : Nat) : List Int := b64s.take 62 ++ (match k with | 0 => [43, 47] | 1 => [45, 95] | 2 => [126, 33] | 3 => [58, 64] | _ => [96, 35])
noncomputable def sg (k : Nat) (v : Int) : Int := (alph k).getD v.toNat 0
noncomputable def wr (k : Nat) (ks : List Int) : List Int := (encS 0 0 ks).map (sg k) ++ List.replicate (padN ks.length) 61
noncomputable def trI (p q c : Int) : Int := if c = 43 then p else if c = 47 then q else c
theorem tr_b64 {p q : Int} {k : Nat} (h : b64s.map (trI p q) = alph k) (v : Int) : trI p q (b64 v) = sg k v := by
  unfold sg b64
  rw [← h]
  simp only [List.getD_eq_getElem?_getD, List.getElem?_map]
  cases b64s[v.toNat]? with
  | none => rfl
  | some c => rfl
theorem tr_wr {p q : Int} {k : Nat} (h : b64s.map (trI p q) = alph k) (ks : List Int) : ((encS 0 0 ks).map b64 ++ List.replicate (padN ks.length) 61).map (trI p q) = wr k ks := by
  unfold wr
  rw [List.map_append, List.map_map, List.map_replicate]
  congr 1
  exact List.map_congr_left fun v _ => tr_b64 h v
theorem wr_zero (ks : List Int) : (encS 0 0 ks).map b64 ++ List.replicate (padN ks.length) 61 = wr 0 ks := by
  have := tr_wr (p := 43) (q := 47) (k := 0) (by decide) ks
  rw [← this]
  have e : trI 43 47 = id := by funext c; unfold trI; simp only [id]; split <;> (try split) <;> (first | lia | omega)
  rw [e, List.map_id]
noncomputable def tabOf2 (p q : UInt8) : Array UInt8 := ((#[43, 47] : Array UInt8).toList.zip (#[p, q] : Array UInt8).toList).foldl (fun t (x : UInt8 × UInt8) => t.setIfInBounds x.1.toNat x.2) ((Array.range 256).map (·.toUInt8))
theorem tab_size (p q : UInt8) : (tabOf2 p q).size = 256 := by simp [tabOf2]
theorem tab_get (p q x : UInt8) : (((tabOf2 p q).getD x.toNat x).toNat : Int) = trI p.toNat q.toNat x.toNat := by
  have hx : x.toNat < 256 := UInt8.toNat_lt x
  have e : tabOf2 p q = (((Array.range 256).map (·.toUInt8)).setIfInBounds 43 p).setIfInBounds 47 q := rfl
  rw [e]
  unfold trI
  simp only [Array.getD_eq_getD_getElem?, Array.getElem?_setIfInBounds]
  by_cases h1 : x.toNat = 43
  · simp [h1]
  · by_cases h2 : x.toNat = 47
    · simp [h2]
    · have h1' : ¬ 43 = x.toNat := fun q => h1 q.symm
      have h2' : ¬ 47 = x.toNat := fun q => h2 q.symm
      have h1'' : ¬ (x.toNat : Int) = 43 := by (first | lia | omega)
      have h2'' : ¬ (x.toNat : Int) = 47 := by (first | lia | omega)
      simp only [h1', h2', h1'', h2'', if_false]
      rw [Array.getElem?_map, Array.getElem?_range]
      simp [hx]
theorem tab_ints (p q : UInt8) (by_ : Array UInt8) : KBw.bInts (by_.map fun x => (tabOf2 p q).getD x.toNat x) = (KBw.bInts by_).map (trI p.toNat q.toNat) := by
  rw [bInts_map, bInts_eq, List.map_map]
  exact List.map_congr_left fun x _ => tab_get p q x
theorem g_b2a (w : World) : nsIn (KF w) mainGlobals "b2a_base64" = some (some (.ref 61)) := by kernel_rfl
theorem plainAttrs_bytes' : PlainAttrs "bytes" := PySem.W.FB.plainAttrs_bytes
theorem g_b64encode (w : World) : nsIn (KF w) mainGlobals "b64encode" = some (some (.ref 78)) := by kernel_rfl
theorem g_standard (w : World) : nsIn (KF w) mainGlobals "standard_b64encode" = some (some (.ref 85)) := by kernel_rfl
theorem g_urlsafe (w : World) : nsIn (KF w) mainGlobals "urlsafe_b64encode" = some (some (.ref 92)) := by kernel_rfl
theorem g_table (w : World) : nsIn (KF w) mainGlobals "_urlsafe_encode_translation" = some (some (.bytes (tabOf2 45 95) 292)) := by kernel_rfl

end

section


section
variable {prog : Program} {w : World} {A : Around} {E : Value → Shared → Prop} {h : Heap} {g : Array GenState} {d : Drawn} {t : Nat} {o : OsState} {by_ : Array UInt8} {tb : Tok} {ks : List Int} {Q : Value → Shared → Prop}
theorem b64encode_spec (G : Gd w h) (R : Room A 3) (hk : KBw.bInts by_ = ks) (hlen : ks.length ≤ 400)
    (H : ∀ h' t' by' tb', Keeps h h' → KBw.bInts by' = wr 0 ks → Q (.bytes by' tb') ⟨h', g, d, t', o⟩) :
    wpAny (model prog w) A (call (.ref 78) [.bytes by_ tb]) Q E ⟨h, g, d, t, o⟩ := by
  refine enter (n := 2) G R rfl rfl (by kernel_rfl) rfl (binds_K G.k rfl rfl rfl rfl rfl) (by decide) (locs rfl) rfl rfl rfl rfl rfl ?_
  intro h₁ t₁ A' L env V hL R' F N
  dsimp only at V
  with_reducible refine r_seq ?_
  (with_reducible refine r_assign ?_ ?h1); (case h1 => rfl)
  with_reducible refine r_callNK ?_
  (with_reducible refine' r_glob ?V ?G ?hk ?hx ?eB ?_); (case V => assumption); (case hx => kernel_rfl); (case eB => with_reducible exact g_b2a _); (case G => assumption); (case hk => exact Fr.keep (by assumption))
  (with_reducible refine' r_calldefKW ?G ?hk ?ha ?_ ?h1 ?h2); (case G => assumption); (case hk => kernel_rfl); (case ha => rfl); (case h1 => rfl); (case h2 => rfl)
  (with_reducible refine r_args ?_ ?h1); (case h1 => rfl)
  (with_reducible refine' r_local ?V ?hn ?hv ?hx ?_); (case V => assumption); (case hx => kernel_rfl); (case hn => first | exact Fr.ns (by assumption) | assumption); (case hv => walk_at "mlk")
  with_reducible (refine r_args0 ?_; refine r_kw ?_; refine r_cbool ?_; refine r_kw0 ?_; refine And.intro (Fr.keep (by assumption)) ?_)
  refine b2a_spec (n := 0) (Gd.keeps (by assumption) (Fr.keep (by assumption))) (Room.le (by assumption) (by (first | lia | omega))) hk (by (first | lia | omega)) ?_
  intro h2 t2 by2 tb2 hk2 hb2
  have F2 := fr_keeps F hk2
  have N2 := news_keeps N hk2
  (with_reducible refine' r_storeG ?V ?F ?N ?hx ?_); (case V => assumption); (case F => assumption); (case N => assumption); (case hx => kernel_rfl); intro _ _ _ _ _ _
  with_reducible (refine sq_next ?_; refine r_seq ?_; refine wpAny_If ?_)
  (with_reducible refine r_testCmp ?_ ?h1); (case h1 => rfl)
  (with_reducible refine' r_local ?V ?hn ?hv ?hx ?_); (case V => assumption); (case hx => kernel_rfl); (case hn => first | exact Fr.ns (by assumption) | assumption); (case hv => walk_at "mlk")
  with_reducible (refine r_cnone ?_; refine r_isnot_none ?_; refine wpAny_truthy_bool ?_)
  (with_reducible refine ite_f ?hd ?_); (case hd => first | rfl | decide)
  with_reducible (refine wpAny_execs_nil ?_; refine sq_next ?_; refine r_seq ?_; refine wpAny_Return_some ?_)
  (with_reducible refine' r_local ?V ?hn ?hv ?hx ?_); (case V => assumption); (case hx => kernel_rfl); (case hn => first | exact Fr.ns (by assumption) | assumption); (case hv => walk_at "mlk")
  with_reducible refine sq_ret ?_
  exact H _ _ _ _ (by first | exact Fr.keep (by assumption) | exact Keeps.trans (Fr.keep (by assumption)) (by assumption)) (hb2.trans (wr_zero ks))
theorem enc_len : ∀ (k : Nat) (r : Int) (l : List Int), (encS k r l).length ≤ 2 * l.length + 1
  | 0, r, [] => by simp [encS]
  | 0, r, c :: l => by have := enc_len 1 (c % 4) l; simp [encS]; (first | lia | omega)
  | 1, r, [] => by simp [encS]
  | 1, r, c :: l => by have := enc_len 2 (c % 16) l; simp [encS]; (first | lia | omega)
  | _ + 2, r, [] => by simp [encS]
  | _ + 2, r, c :: l => by have := enc_len 0 0 l; simp [encS]; (first | lia | omega)
theorem raw_len (ks : List Int) (f : Int → Int) : ((encS 0 0 ks).map f ++ List.replicate (padN ks.length) 61).length ≤ 2 * ks.length + 3 := by
  have := enc_len 0 0 ks
  have : padN ks.length ≤ 2 := by unfold padN; split <;> (try split) <;> (first | lia | omega)
  simp; (first | lia | omega)
theorem size_of (by_ : Array UInt8) : by_.size = (KBw.bInts by_).length := (KBw.ints_length by_).symm
theorem b64encode_alt {p q : UInt8} {ta : Tok} {k : Nat} (G : Gd w h) (R : Room A 3) (hk : KBw.bInts by_ = ks) (hlen : ks.length ≤ 400) (hal : b64s.map (trI p.toNat q.toNat) = alph k)
    (H : ∀ h' t' by' tb', Keeps h h' → KBw.bInts by' = wr k ks → Q (.bytes by' tb') ⟨h', g, d, t', o⟩) :
    wpAny (model prog w) A (call (.ref 78) [.bytes by_ tb, .bytes #[p, q] ta]) Q E ⟨h, g, d, t, o⟩ := by
  refine enter (n := 2) G R rfl rfl (by kernel_rfl) rfl (binds_K G.k rfl rfl rfl rfl rfl) (by decide) (locs rfl) rfl rfl rfl rfl rfl ?_
  intro h₁ t₁ A' L env V hL R' F N
  dsimp only at V
  with_reducible refine r_seq ?_
  (with_reducible refine r_assign ?_ ?h1); (case h1 => rfl)
  with_reducible refine r_callNK ?_
  (with_reducible refine' r_glob ?V ?G ?hk ?hx ?eB ?_); (case V => assumption); (case hx => kernel_rfl); (case eB => with_reducible exact g_b2a _); (case G => assumption); (case hk => exact Fr.keep (by assumption))
  (with_reducible refine' r_calldefKW ?G ?hk ?ha ?_ ?h1 ?h2); (case G => assumption); (case hk => kernel_rfl); (case ha => rfl); (case h1 => rfl); (case h2 => rfl)
  (with_reducible refine r_args ?_ ?h1); (case h1 => rfl)
  (with_reducible refine' r_local ?V ?hn ?hv ?hx ?_); (case V => assumption); (case hx => kernel_rfl); (case hn => first | exact Fr.ns (by assumption) | assumption); (case hv => walk_at "mlk")
  with_reducible (refine r_args0 ?_; refine r_kw ?_; refine r_cbool ?_; refine r_kw0 ?_; refine And.intro (Fr.keep (by assumption)) ?_)
  refine b2a_spec (n := 0) (Gd.keeps (by assumption) (Fr.keep (by assumption))) (Room.le (by assumption) (by (first | lia | omega))) hk (by (first | lia | omega)) ?_
  intro h2 t2 by2 tb2 hk2 hb2
  have F2 := fr_keeps F hk2
  have N2 := news_keeps N hk2
  (with_reducible refine' r_storeG ?V ?F ?N ?hx ?_); (case V => assumption); (case F => assumption); (case N => assumption); (case hx => kernel_rfl); intro _ _ _ _ _ _
  with_reducible (refine sq_next ?_; refine r_seq ?_; refine wpAny_If ?_)
  (with_reducible refine r_testCmp ?_ ?h1); (case h1 => rfl)
  (with_reducible refine' r_local ?V ?hn ?hv ?hx ?_); (case V => assumption); (case hx => kernel_rfl); (case hn => first | exact Fr.ns (by assumption) | assumption); (case hv => walk_at "mlk")
  with_reducible (refine r_cnone ?_; refine r_isnot_none ?_; refine wpAny_truthy_bool ?_)
  (with_reducible refine ite_t ?hd ?_); (case hd => first | rfl | decide)
  with_reducible (refine r_seq ?_; refine r_assert ?_)
  (with_reducible refine r_testCmp ?_ ?h1); (case h1 => rfl)
  with_reducible refine r_callN ?_
  (with_reducible refine' r_boot ?V ?G ?hk ?hx ?eB ?_); (case V => assumption); (case hx => kernel_rfl); (case eB => with_reducible exact g_len _); (case G => assumption); (case hk => exact Fr.keep (by assumption))
  (with_reducible refine r_cwBuiltin ?_ ?h1 ?h2); (case h1 => rfl); (case h2 => rfl)
  (with_reducible refine r_args ?_ ?h1); (case h1 => rfl)
  (with_reducible refine' r_local ?V ?hn ?hv ?hx ?_); (case V => assumption); (case hx => kernel_rfl); (case hn => first | exact Fr.ns (by assumption) | assumption); (case hv => walk_at "mlk")
  with_reducible refine r_args0 ?_
  refine r_lenBytes (ks := [(p.toNat : Int), (q.toNat : Int)]) rfl (by simp) (fun _ _ => ?_)
  with_reducible (refine r_cint (fun _ => ?_); refine r_eq ?_; refine wpAny_truthy_bool ?_)
  refine And.intro rfl ?_
  with_reducible (refine sq_next ?_; refine r_seq ?_; refine wpAny_Return_some ?_)
  (with_reducible refine r_exprM plainAttrs_bytes' slot_translate type_translate ?h1 ?h2 ?h3 ?_); (case h1 => rfl); (case h2 => kernel_rfl); (case h3 => kernel_rfl)
  (with_reducible refine' r_local ?V ?hn ?hv ?hx ?_); (case V => assumption); (case hx => kernel_rfl); (case hn => first | exact Fr.ns (by assumption) | assumption); (case hv => walk_at "mlk")
  (with_reducible refine And.intro (PySem.W.typeIs_bytes _ _ _) (And.intro ?h1 ?_)); (case h1 => (intro _ e'; cases e'))
  (with_reducible refine r_cwBuiltin ?_ ?h1 ?h2); (case h1 => rfl); (case h2 => rfl)
  (with_reducible refine r_args ?_ ?h1); (case h1 => rfl)
  (with_reducible refine' r_methodT (nm := "maketrans") (T := "bytes") (id := "bytes.maketrans") ?V ?F ?G ?hx ?eB ?ht ?hs ?hf ?hh ?he (fun _ => ?_)); (case V => assumption); (case F => assumption); (case G => assumption); (case hx => kernel_rfl); (case eB => exact g_bytes _); (case ht => kernel_rfl); (case hs => decide +kernel); (case hf => exact find_maketrans _); (case hh => decide +kernel); (case he => rfl)
  (with_reducible refine r_cwBuiltin ?_ ?h1 ?h2); (case h1 => rfl); (case h2 => rfl)
  (with_reducible refine r_args ?_ ?h1); (case h1 => rfl)
  with_reducible refine r_cbytes (fun _ => ?_)
  (with_reducible refine r_args ?_ ?h1); (case h1 => rfl)
  (with_reducible refine' r_local ?V ?hn ?hv ?hx ?_); (case V => assumption); (case hx => kernel_rfl); (case hn => first | exact Fr.ns (by assumption) | assumption); (case hv => walk_at "mlk")
  with_reducible refine r_args0 ?_
  refine r_maketrans rfl (fun _ _ => ?_)
  with_reducible refine r_args0 ?_
  have hz : by2.size ≤ 1000 := by rw [size_of, hb2]; have := raw_len ks b64; (first | lia | omega)
  refine r_translate (c := tabOf2 p q) hz (tab_size p q) (fun _ _ => ?_)
  refine H _ _ _ _ (by first | exact Fr.keep (by assumption) | exact Keeps.trans (Fr.keep (by assumption)) (by assumption)) ?_
  rw [tab_ints, hb2]
  exact tr_wr hal ks
theorem standard_spec (G : Gd w h) (R : Room A 4) (hk : KBw.bInts by_ = ks) (hlen : ks.length ≤ 400)
    (H : ∀ h' t' by' tb', Keeps h h' → KBw.bInts by' = wr 0 ks → Q (.bytes by' tb') ⟨h', g, d, t', o⟩) :
    wpAny (model prog w) A (call (.ref 85) [.bytes by_ tb]) Q E ⟨h, g, d, t, o⟩ := by
  refine enter (n := 3) G R rfl rfl (by kernel_rfl) rfl (BindsTo.of_eq rfl) (by decide) (locs rfl) rfl rfl rfl rfl rfl ?_
  intro h₁ t₁ A' L env V hL R' F N
  dsimp only at V
  with_reducible (refine r_seq ?_; refine wpAny_Return_some ?_; refine r_callN ?_)
  (with_reducible refine' r_glob ?V ?G ?hk ?hx ?eB ?_); (case V => assumption); (case hx => kernel_rfl); (case eB => with_reducible exact g_b64encode _); (case G => assumption); (case hk => exact Fr.keep (by assumption))
  (with_reducible refine' r_calldef ?G ?hx ?_ ?h1 ?h2); (case G => assumption); (case hx => kernel_rfl); (case h1 => rfl); (case h2 => rfl)
  (with_reducible refine r_args ?_ ?h1); (case h1 => rfl)
  (with_reducible refine' r_local ?V ?hn ?hv ?hx ?_); (case V => assumption); (case hx => kernel_rfl); (case hn => first | exact Fr.ns (by assumption) | assumption); (case hv => walk_at "mlk")
  with_reducible (refine r_args0 ?_; refine And.intro (Fr.keep (by assumption)) ?_)
  refine b64encode_spec (Gd.keeps (by assumption) (Fr.keep (by assumption))) (Room.le (by assumption) (by (first | lia | omega))) hk (by (first | lia | omega)) ?_
  intro h2 t2 by2 tb2 hk2 hb2
  exact H _ _ _ _ (by first | exact Fr.keep (by assumption) | exact Keeps.trans (Fr.keep (by assumption)) (by assumption)) hb2
theorem urlsafe_spec (G : Gd w h) (R : Room A 4) (hk : KBw.bInts by_ = ks) (hlen : ks.length ≤ 400)
    (H : ∀ h' t' by' tb', Keeps h h' → KBw.bInts by' = wr 1 ks → Q (.bytes by' tb') ⟨h', g, d, t', o⟩) :
    wpAny (model prog w) A (call (.ref 92) [.bytes by_ tb]) Q E ⟨h, g, d, t, o⟩ := by
  refine enter (n := 3) G R rfl rfl (by kernel_rfl) rfl (BindsTo.of_eq rfl) (by decide) (locs rfl) rfl rfl rfl rfl rfl ?_
  intro h₁ t₁ A' L env V hL R' F N
  dsimp only at V
  with_reducible (refine r_seq ?_; refine wpAny_Return_some ?_)
  (with_reducible refine r_exprM plainAttrs_bytes' slot_translate type_translate ?h1 ?h2 ?h3 ?_); (case h1 => rfl); (case h2 => kernel_rfl); (case h3 => kernel_rfl)
  with_reducible refine r_callN ?_
  (with_reducible refine' r_glob ?V ?G ?hk ?hx ?eB ?_); (case V => assumption); (case hx => kernel_rfl); (case eB => with_reducible exact g_b64encode _); (case G => assumption); (case hk => exact Fr.keep (by assumption))
  (with_reducible refine' r_calldef ?G ?hx ?_ ?h1 ?h2); (case G => assumption); (case hx => kernel_rfl); (case h1 => rfl); (case h2 => rfl)
  (with_reducible refine r_args ?_ ?h1); (case h1 => rfl)
  (with_reducible refine' r_local ?V ?hn ?hv ?hx ?_); (case V => assumption); (case hx => kernel_rfl); (case hn => first | exact Fr.ns (by assumption) | assumption); (case hv => walk_at "mlk")
  with_reducible (refine r_args0 ?_; refine And.intro (Fr.keep (by assumption)) ?_)
  refine b64encode_spec (Gd.keeps (by assumption) (Fr.keep (by assumption))) (Room.le (by assumption) (by (first | lia | omega))) hk (by (first | lia | omega)) ?_
  intro h2 t2 by2 tb2 hk2 hb2
  have F2 := fr_keeps F hk2
  have N2 := news_keeps N hk2
  (with_reducible refine And.intro (PySem.W.typeIs_bytes _ _ _) (And.intro ?h1 ?_)); (case h1 => (intro _ e'; cases e'))
  (with_reducible refine r_cwBuiltin ?_ ?h1 ?h2); (case h1 => rfl); (case h2 => rfl)
  (with_reducible refine r_args ?_ ?h1); (case h1 => rfl)
  (with_reducible refine' r_glob ?V ?G ?hk ?hx ?eB ?_); (case V => assumption); (case hx => kernel_rfl); (case eB => with_reducible exact g_table _); (case G => assumption); (case hk => exact Fr.keep (by assumption))
  with_reducible refine r_args0 ?_
  have hz : by2.size ≤ 1000 := by rw [size_of, hb2]; have := raw_len ks (sg 0); unfold wr; (first | lia | omega)
  refine r_translate (c := tabOf2 45 95) hz (tab_size _ _) (fun _ _ => ?_)
  refine H _ _ _ _ (by first | exact Fr.keep (by assumption) | exact Keeps.trans (Fr.keep (by assumption)) (by assumption)) ?_
  rw [tab_ints, hb2, ← wr_zero]
  exact tr_wr (by decide) ks
theorem write_spec {k : Nat} {tk : Tok} (hk5 : k < 5) (G : Gd w h) (R : Room A 5) (hk : KBw.bInts by_ = ks) (hlen : ks.length ≤ 400)
    (H : ∀ h' t' by' tb', Keeps h h' → KBw.bInts by' = wr k ks → Q (.bytes by' tb') ⟨h', g, d, t', o⟩) :
    wpAny (model prog w) A (call (.ref 106) [.bytes by_ tb, .int (k : Int) tk]) Q E ⟨h, g, d, t, o⟩ := by
  refine enter (n := 4) G R rfl rfl (by kernel_rfl) rfl (BindsTo.of_eq rfl) (by decide) (locs rfl) rfl rfl rfl rfl rfl ?_
  intro h₁ t₁ A' L env V hL R' F N
  dsimp only at V
  have hc : k = 0 ∨ k = 1 ∨ k = 2 ∨ k = 3 ∨ k = 4 := by (first | lia | omega)
  rcases hc with rfl | rfl | rfl | rfl | rfl
  · with_reducible (refine r_seq ?_; refine wpAny_If ?_)
    (with_reducible refine r_testCmp ?_ ?h1); (case h1 => rfl)
    (with_reducible refine' r_local ?V ?hn ?hv ?hx ?_); (case V => assumption); (case hx => kernel_rfl); (case hn => first | exact Fr.ns (by assumption) | assumption); (case hv => walk_at "mlk")
    with_reducible (refine r_cint (fun _ => ?_); refine r_eq ?_; refine wpAny_truthy_bool ?_)
    (with_reducible refine ite_t ?hd ?_); (case hd => first | rfl | decide)
    with_reducible (refine r_seq ?_; refine wpAny_Return_some ?_; refine r_callN ?_)
    (with_reducible refine' r_glob ?V ?G ?hk ?hx ?eB ?_); (case V => assumption); (case hx => kernel_rfl); (case eB => with_reducible exact g_standard _); (case G => assumption); (case hk => exact Fr.keep (by assumption))
    (with_reducible refine' r_calldef ?G ?hx ?_ ?h1 ?h2); (case G => assumption); (case hx => kernel_rfl); (case h1 => rfl); (case h2 => rfl)
    (with_reducible refine r_args ?_ ?h1); (case h1 => rfl)
    (with_reducible refine' r_local ?V ?hn ?hv ?hx ?_); (case V => assumption); (case hx => kernel_rfl); (case hn => first | exact Fr.ns (by assumption) | assumption); (case hv => walk_at "mlk")
    with_reducible (refine r_args0 ?_; refine And.intro (Fr.keep (by assumption)) ?_)
    refine standard_spec (Gd.keeps (by assumption) (Fr.keep (by assumption))) (Room.le (by assumption) (by (first | lia | omega))) hk (by (first | lia | omega)) ?_
    intro h2 t2 by2 tb2 hk2 hb2
    exact H _ _ _ _ (by first | exact Fr.keep (by assumption) | exact Keeps.trans (Fr.keep (by assumption)) (by assumption)) hb2
  · with_reducible (refine r_seq ?_; refine wpAny_If ?_)
    (with_reducible refine r_testCmp ?_ ?h1); (case h1 => rfl)
    (with_reducible refine' r_local ?V ?hn ?hv ?hx ?_); (case V => assumption); (case hx => kernel_rfl); (case hn => first | exact Fr.ns (by assumption) | assumption); (case hv => walk_at "mlk")
    with_reducible (refine r_cint (fun _ => ?_); refine r_eq ?_; refine wpAny_truthy_bool ?_)
    (with_reducible refine ite_f ?hd ?_); (case hd => first | rfl | decide)
    with_reducible (refine wpAny_execs_nil ?_; refine sq_next ?_; refine r_seq ?_; refine wpAny_If ?_)
    (with_reducible refine r_testCmp ?_ ?h1); (case h1 => rfl)
    (with_reducible refine' r_local ?V ?hn ?hv ?hx ?_); (case V => assumption); (case hx => kernel_rfl); (case hn => first | exact Fr.ns (by assumption) | assumption); (case hv => walk_at "mlk")
    with_reducible (refine r_cint (fun _ => ?_); refine r_eq ?_; refine wpAny_truthy_bool ?_)
    (with_reducible refine ite_t ?hd ?_); (case hd => first | rfl | decide)
    with_reducible (refine r_seq ?_; refine wpAny_Return_some ?_; refine r_callN ?_)
    (with_reducible refine' r_glob ?V ?G ?hk ?hx ?eB ?_); (case V => assumption); (case hx => kernel_rfl); (case eB => with_reducible exact g_urlsafe _); (case G => assumption); (case hk => exact Fr.keep (by assumption))
    (with_reducible refine' r_calldef ?G ?hx ?_ ?h1 ?h2); (case G => assumption); (case hx => kernel_rfl); (case h1 => rfl); (case h2 => rfl)
    (with_reducible refine r_args ?_ ?h1); (case h1 => rfl)
    (with_reducible refine' r_local ?V ?hn ?hv ?hx ?_); (case V => assumption); (case hx => kernel_rfl); (case hn => first | exact Fr.ns (by assumption) | assumption); (case hv => walk_at "mlk")
    with_reducible (refine r_args0 ?_; refine And.intro (Fr.keep (by assumption)) ?_)
    refine urlsafe_spec (Gd.keeps (by assumption) (Fr.keep (by assumption))) (Room.le (by assumption) (by (first | lia | omega))) hk (by (first | lia | omega)) ?_
    intro h2 t2 by2 tb2 hk2 hb2
    exact H _ _ _ _ (by first | exact Fr.keep (by assumption) | exact Keeps.trans (Fr.keep (by assumption)) (by assumption)) hb2
  all_goals
    with_reducible (refine r_seq ?_; refine wpAny_If ?_)
    (with_reducible refine r_testCmp ?_ ?h1); (case h1 => rfl)
    (with_reducible refine' r_local ?V ?hn ?hv ?hx ?_); (case V => assumption); (case hx => kernel_rfl); (case hn => first | exact Fr.ns (by assumption) | assumption); (case hv => walk_at "mlk")
    with_reducible (refine r_cint (fun _ => ?_); refine r_eq ?_; refine wpAny_truthy_bool ?_)
    (with_reducible refine ite_f ?hd ?_); (case hd => first | rfl | decide)
    with_reducible (refine wpAny_execs_nil ?_; refine sq_next ?_; refine r_seq ?_; refine wpAny_If ?_)
    (with_reducible refine r_testCmp ?_ ?h1); (case h1 => rfl)
    (with_reducible refine' r_local ?V ?hn ?hv ?hx ?_); (case V => assumption); (case hx => kernel_rfl); (case hn => first | exact Fr.ns (by assumption) | assumption); (case hv => walk_at "mlk")
    with_reducible (refine r_cint (fun _ => ?_); refine r_eq ?_; refine wpAny_truthy_bool ?_)
    (with_reducible refine ite_f ?hd ?_); (case hd => first | rfl | decide)
    with_reducible (refine wpAny_execs_nil ?_; refine sq_next ?_; refine r_seq ?_; refine wpAny_Return_some ?_; refine r_callN ?_)
    (with_reducible refine' r_glob ?V ?G ?hk ?hx ?eB ?_); (case V => assumption); (case hx => kernel_rfl); (case eB => with_reducible exact g_b64encode _); (case G => assumption); (case hk => exact Fr.keep (by assumption))
    (with_reducible refine' r_calldef ?G ?hx ?_ ?h1 ?h2); (case G => assumption); (case hx => kernel_rfl); (case h1 => rfl); (case h2 => rfl)
    (with_reducible refine r_args ?_ ?h1); (case h1 => rfl)
    (with_reducible refine' r_local ?V ?hn ?hv ?hx ?_); (case V => assumption); (case hx => kernel_rfl); (case hn => first | exact Fr.ns (by assumption) | assumption); (case hv => walk_at "mlk")
    (with_reducible refine r_args ?_ ?h1); (case h1 => rfl)
    with_reducible (refine Subscript_ ?_; refine PyProof.Rows.List_ ?_)
    (with_reducible refine r_args ?_ ?h1); (case h1 => rfl)
    with_reducible refine r_cbytes (fun _ => ?_)
    (with_reducible refine r_args ?_ ?h1); (case h1 => rfl)
    with_reducible refine r_cbytes (fun _ => ?_)
    (with_reducible refine r_args ?_ ?h1); (case h1 => rfl)
    with_reducible (refine r_cbytes (fun _ => ?_); refine r_args0 ?_)
    (with_reducible refine' r_newList ?F ?N ?hz ?_); (case F => assumption); (case N => assumption); (case hz => first | decide | (simp only [List.length_cons, List.length_nil, sizeLine_eq]; (first | lia | omega))); intro _ _ _ _ _ _
    with_reducible refine wpAny_BinOp ?_
    (with_reducible refine' r_local ?V ?hn ?hv ?hx ?_); (case V => assumption); (case hx => kernel_rfl); (case hn => first | exact Fr.ns (by assumption) | assumption); (case hv => walk_at "mlk")
    with_reducible (refine r_cint (fun _ => ?_); refine r_sub (fun _ => ?_))
    refine r_item (isList_news (by assumption) (List.Mem.head _)) (by decide) (by decide) rfl rfl ?_
    with_reducible (refine r_args0 ?_; refine And.intro (Fr.keep (by assumption)) ?_)
  · refine b64encode_alt (p := 126) (q := 33) (k := 2) (Gd.keeps (by assumption) (Fr.keep (by assumption))) (Room.le (by assumption) (by (first | lia | omega))) hk (by (first | lia | omega)) (by decide) ?_
    intro h2 t2 by2 tb2 hk2 hb2
    exact H _ _ _ _ (by first | exact Fr.keep (by assumption) | exact Keeps.trans (Fr.keep (by assumption)) (by assumption)) hb2
  · refine b64encode_alt (p := 58) (q := 64) (k := 3) (Gd.keeps (by assumption) (Fr.keep (by assumption))) (Room.le (by assumption) (by (first | lia | omega))) hk (by (first | lia | omega)) (by decide) ?_
    intro h2 t2 by2 tb2 hk2 hb2
    exact H _ _ _ _ (by first | exact Fr.keep (by assumption) | exact Keeps.trans (Fr.keep (by assumption)) (by assumption)) hb2
  · refine b64encode_alt (p := 96) (q := 35) (k := 4) (Gd.keeps (by assumption) (Fr.keep (by assumption))) (Room.le (by assumption) (by (first | lia | omega))) hk (by (first | lia | omega)) (by decide) ?_
    intro h2 t2 by2 tb2 hk2 hb2
    exact H _ _ _ _ (by first | exact Fr.keep (by assumption) | exact Keeps.trans (Fr.keep (by assumption)) (by assumption)) hb2
end

end

section
section rules
variable {prog : Program} {w : World} {A : Around} {E : Value → Shared → Prop} {b h : Heap} {g : Array GenState} {d : Drawn} {t : Nat} {o : OsState} {Q : Value → Shared → Prop}
theorem r_isnot_type {x y : String} (H : Q (.bool (!(decide (x = y)))) ⟨h, g, d, t, o⟩) : wpAny (model prog w) A (compareOp .IsNot (.type x) (.type y)) Q E ⟨h, g, d, t, o⟩ := by
  have e : (Value.type x == Value.type y) = decide (x = y) := by
    rw [Bool.eq_iff_iff, beq_iff_eq, decide_eq_true_eq]
    exact ⟨fun h => Value.type.inj h, fun h => h ▸ rfl⟩
  show wpAny _ _ (pure (Value.bool (!(Value.type x == Value.type y)))) _ _ _
  rw [e]; exact wpAny_pure H
theorem r_gt {x y : Int} {tx ty : Tok} (H : Q (.bool (decide (x > y))) ⟨h, g, d, t, o⟩) : wpAny (model prog w) A (compareOp .Gt (.int x tx) (.int y ty)) Q E ⟨h, g, d, t, o⟩ := P.gt_int H
theorem r_neg {x : Int} {tx : Tok} (H : ∀ t', Q (.int (-x) t) ⟨h, g, d, t', o⟩) : wpAny (model prog w) A (unaryOp .USub (.int x tx)) Q E ⟨h, g, d, t, o⟩ := P.neg_int (H _)
end rules
noncomputable def HX (n : Int) : Int := if n < 10 then 48 + n else 55 + n
noncomputable def hx (ks : List Int) : List Int := ks.flatMap fun c => [HX (c / 16), HX (c % 16)]
theorem up_byte : ∀ n : Fin 256, ((Builtin.Bytes.toUpper (Builtin.Bytes.hexDigit (n.val / 16)).toUInt8).toNat : Int) = HX (n.val / 16) ∧ ((Builtin.Bytes.toUpper (Builtin.Bytes.hexDigit (n.val % 16)).toUInt8).toNat : Int) = HX (n.val % 16) ∧ Builtin.Bytes.hexDigit (n.val / 16) < 128 ∧ Builtin.Bytes.hexDigit (n.val % 16) < 128 := by decide +kernel
theorem up_ints (by_ : Array UInt8) : KBw.bInts ((((by_.toList.flatMap fun c => hexC c.toNat).toArray).map (·.toUInt8)).toList.map Builtin.Bytes.toUpper).toArray = hx (KBw.bInts by_) := by
  rw [KBw.ints_list, bInts_eq]
  unfold hx
  rw [List.map_map, Array.toList_map, List.map_map, List.flatMap_map, List.map_flatMap]
  simp only [List.flatMap_def]
  congr 1
  apply List.map_congr_left
  intro c _
  have := up_byte ⟨c.toNat, UInt8.toNat_lt c⟩
  simp only [hexC, List.map_cons, List.map_nil, Function.comp]
  rw [this.1, this.2.1]
theorem hex_len (l : List UInt8) : (l.flatMap fun c => hexC c.toNat).length = 2 * l.length := by
  induction l with
  | nil => rfl
  | cons c l ih => rw [List.flatMap_cons, List.length_append, ih]; simp [hexC]; (first | lia | omega)
theorem hex_low (l : List UInt8) : ∀ c ∈ (l.flatMap fun c => hexC c.toNat), c < 128 := by
  intro x hx
  obtain ⟨c, _, hc⟩ := List.mem_flatMap.mp hx
  have := up_byte ⟨c.toNat, UInt8.toNat_lt c⟩
  simp only [hexC, List.mem_cons, List.not_mem_nil, or_false] at hc
  rcases hc with rfl | rfl
  · exact this.2.2.1
  · exact this.2.2.2
theorem g_NO (w : World) : nsIn (KF w) mainGlobals "_NO_SEP" = some (some (.ref 62)) := by kernel_rfl
theorem g_hexlify (w : World) : nsIn (KF w) mainGlobals "hexlify" = some (some (.ref 70)) := by kernel_rfl
theorem g_int (w : World) : nsIn (KF w) mainGlobals "int" = some none ∧ bootBuiltins "int" = some (.type "int") ∧ ("int" : Str) ≠ "__name__" := ⟨by kernel_rfl, by kernel_rfl, by decide⟩


section
variable {prog : Program} {w : World} {A : Around} {E : Value → Shared → Prop} {h : Heap} {g : Array GenState} {d : Drawn} {t : Nat} {o : OsState} {by_ : Array UInt8} {tb : Tok} {ks : List Int} {Q : Value → Shared → Prop}
theorem b2a_hex_spec (G : Gd w h) (R : Room A 2) (hk : KBw.bInts by_ = ks) (hlen : ks.length ≤ 400) (hpos : 1 ≤ ks.length)
    (H : ∀ h' t' tb', Keeps h h' → Q (.bytes (((by_.toList.flatMap fun c => hexC c.toNat).toArray).map (·.toUInt8)) tb') ⟨h', g, d, t', o⟩) :
    wpAny (model prog w) A (call (.ref 70) [.bytes by_ tb]) Q E ⟨h, g, d, t, o⟩ := by
  refine enter (n := 1) G R rfl rfl (by kernel_rfl) rfl (binds_K G.k rfl rfl rfl rfl rfl) (by decide) (locs rfl) rfl rfl rfl rfl rfl ?_
  intro h₁ t₁ A' L env V hL R' F N
  dsimp only at V
  with_reducible refine r_seq ?_
  (with_reducible refine r_assign ?_ ?h1); (case h1 => rfl)
  with_reducible refine r_callN ?_
  (with_reducible refine' r_glob ?V ?G ?hk ?hx ?eB ?_); (case V => assumption); (case hx => kernel_rfl); (case eB => with_reducible exact g_buffer _); (case G => assumption); (case hk => exact Fr.keep (by assumption))
  (with_reducible refine' r_calldef ?G ?hx ?_ ?h1 ?h2); (case G => assumption); (case hx => kernel_rfl); (case h1 => rfl); (case h2 => rfl)
  (with_reducible refine r_args ?_ ?h1); (case h1 => rfl)
  (with_reducible refine' r_local ?V ?hn ?hv ?hx ?_); (case V => assumption); (case hx => kernel_rfl); (case hn => first | exact Fr.ns (by assumption) | assumption); (case hv => walk_at "mlk")
  with_reducible (refine r_args0 ?_; refine And.intro (Fr.keep (by assumption)) ?_)
  (with_reducible refine buffer_spec (n := 0) ?G ?R ?_); (case G => exact Gd.keeps (by assumption) (Fr.keep (by assumption))); (case R => exact Room.le (by assumption) (by (first | lia | omega))); intro _ _ hK9; (have F9 := fr_keeps (by assumption) hK9); (have N9 := news_keeps (by assumption) hK9)
  (with_reducible refine' r_storeG ?V ?F ?N ?hx ?_); (case V => assumption); (case F => assumption); (case N => assumption); (case hx => kernel_rfl); intro _ _ _ _ _ _
  with_reducible (refine sq_next ?_; refine r_seq ?_; refine wpAny_If ?_; refine isTrue_or ?_)
  (with_reducible refine r_testCmp ?_ ?h1); (case h1 => rfl)
  with_reducible refine r_callN ?_
  (with_reducible refine' r_boot ?V ?G ?hk ?hx ?eB ?_); (case V => assumption); (case hx => kernel_rfl); (case eB => with_reducible exact g_type _); (case G => assumption); (case hk => exact Fr.keep (by assumption))
  (with_reducible refine r_cwType ?_ ?h1 ?h2); (case h1 => rfl); (case h2 => rfl)
  (with_reducible refine r_args ?_ ?h1); (case h1 => rfl)
  (with_reducible refine' r_local ?V ?hn ?hv ?hx ?_); (case V => assumption); (case hx => kernel_rfl); (case hn => first | exact Fr.ns (by assumption) | assumption); (case hv => walk_at "mlk")
  with_reducible refine r_args0 ?_
  (with_reducible refine r_type_of (Tx := "int") ?h1 ?h2 ?_); (case h1 => rfl); (case h2 => decide +kernel)
  (with_reducible refine' r_boot ?V ?G ?hk ?hx ?eB ?_); (case V => assumption); (case hx => kernel_rfl); (case eB => with_reducible exact g_int _); (case G => assumption); (case hk => exact Fr.keep (by assumption))
  with_reducible (refine r_isnot_type ?_; refine wpAny_truthy_bool ?_)
  (with_reducible refine ite_f ?hd ?_); (case hd => first | rfl | decide)
  with_reducible refine isTrue_or ?_
  (with_reducible refine r_testCmp ?_ ?h1); (case h1 => rfl)
  (with_reducible refine' r_local ?V ?hn ?hv ?hx ?_); (case V => assumption); (case hx => kernel_rfl); (case hn => first | exact Fr.ns (by assumption) | assumption); (case hv => walk_at "mlk")
  with_reducible (refine wpAny_UnaryOp ?_; refine r_cint (fun _ => ?_); refine r_neg (fun _ => ?_); refine r_lt ?_; refine wpAny_truthy_bool ?_)
  (with_reducible refine ite_f ?hd ?_); (case hd => first | rfl | decide)
  with_reducible refine isTrue_or ?_
  (with_reducible refine r_testCmp ?_ ?h1); (case h1 => rfl)
  (with_reducible refine' r_local ?V ?hn ?hv ?hx ?_); (case V => assumption); (case hx => kernel_rfl); (case hn => first | exact Fr.ns (by assumption) | assumption); (case hv => walk_at "mlk")
  with_reducible (refine r_cint (fun _ => ?_); refine r_gt ?_; refine wpAny_truthy_bool ?_)
  (with_reducible refine ite_f ?hd ?_); (case hd => first | rfl | decide)
  with_reducible refine isTrue_or_nil ?_
  (with_reducible refine ite_f ?hd ?_); (case hd => first | rfl | decide)
  with_reducible (refine wpAny_execs_nil ?_; refine sq_next ?_; refine r_seq ?_; refine wpAny_If ?_)
  (with_reducible refine r_testCmp ?_ ?h1); (case h1 => rfl)
  (with_reducible refine' r_local ?V ?hn ?hv ?hx ?_); (case V => assumption); (case hx => kernel_rfl); (case hn => first | exact Fr.ns (by assumption) | assumption); (case hv => walk_at "mlk")
  (with_reducible refine' r_glob ?V ?G ?hk ?hx ?eB ?_); (case V => assumption); (case hx => kernel_rfl); (case eB => with_reducible exact g_NO _); (case G => assumption); (case hk => exact Fr.keep (by assumption))
  with_reducible (refine r_is_self ?_; refine wpAny_truthy_bool ?_)
  (with_reducible refine ite_t ?hd ?_); (case hd => first | rfl | decide)
  with_reducible (refine r_seq ?_; refine wpAny_Return_some ?_)
  (with_reducible refine r_exprM PySem.F.plainAttrs_str PySem.F.slot_str_encode PySem.F.type_str_encode ?h1 ?h2 ?h3 ?_); (case h1 => rfl); (case h2 => kernel_rfl); (case h3 => kernel_rfl)
  (with_reducible refine r_exprM plainAttrs_bytes' slot_hex type_hex ?h1 ?h2 ?h3 ?_); (case h1 => rfl); (case h2 => kernel_rfl); (case h3 => kernel_rfl)
  (with_reducible refine' r_local ?V ?hn ?hv ?hx ?_); (case V => assumption); (case hx => kernel_rfl); (case hn => first | exact Fr.ns (by assumption) | assumption); (case hv => walk_at "mlk")
  (with_reducible refine And.intro (PySem.W.typeIs_bytes _ _ _) (And.intro ?h1 ?_)); (case h1 => (intro _ e'; cases e'))
  with_reducible refine r_cwBuiltin0 ?_
  have hz : by_.size ≤ 400 := by rw [size_of, hk]; exact hlen
  have hz1 : 1 ≤ by_.size := by rw [size_of, hk]; exact hpos
  have hz' : by_.size ≤ 1000 := by (first | lia | omega)
  refine r_hex hz' (fun _ _ => ?_)
  (with_reducible refine And.intro (typeIs_str _ _ _) (And.intro ?h1 ?_)); (case h1 => (intro _ e'; cases e'))
  (with_reducible refine r_cwBuiltin ?_ ?h1 ?h2); (case h1 => rfl); (case h2 => rfl)
  (with_reducible refine r_args ?_ ?h1); (case h1 => rfl)
  with_reducible (refine r_cstr (fun _ => ?_); refine r_args0 ?_)
  refine r_encode ?_ ?_ ?_ (fun _ _ => ?_)
  · show 2 ≤ (List.toArray _).size
    rw [List.size_toArray, hex_len, Array.length_toList]; (first | lia | omega)
  · show (List.toArray _).size ≤ _
    rw [List.size_toArray, hex_len, Array.length_toList]; (first | lia | omega)
  · exact hex_low _
  · exact H _ _ _ (by first | exact Fr.keep (by assumption) | exact Keeps.trans (Fr.keep (by assumption)) (by assumption))
theorem b16encode_spec (G : Gd w h) (R : Room A 3) (hk : KBw.bInts by_ = ks) (hlen : ks.length ≤ 400) (hpos : 1 ≤ ks.length)
    (H : ∀ h' t' by' tb', Keeps h h' → KBw.bInts by' = hx ks → Q (.bytes by' tb') ⟨h', g, d, t', o⟩) :
    wpAny (model prog w) A (call (.ref 99) [.bytes by_ tb]) Q E ⟨h, g, d, t, o⟩ := by
  refine enter (n := 2) G R rfl rfl (by kernel_rfl) rfl (BindsTo.of_eq rfl) (by decide) (locs rfl) rfl rfl rfl rfl rfl ?_
  intro h₁ t₁ A' L env V hL R' F N
  dsimp only at V
  with_reducible (refine r_seq ?_; refine wpAny_Return_some ?_)
  (with_reducible refine r_exprM plainAttrs_bytes' slot_upper type_upper ?h1 ?h2 ?h3 ?_); (case h1 => rfl); (case h2 => kernel_rfl); (case h3 => kernel_rfl)
  with_reducible refine r_callN ?_
  (with_reducible refine' r_glob ?V ?G ?hk ?hx ?eB ?_); (case V => assumption); (case hx => kernel_rfl); (case eB => with_reducible exact g_hexlify _); (case G => assumption); (case hk => exact Fr.keep (by assumption))
  (with_reducible refine' r_calldef ?G ?hx ?_ ?h1 ?h2); (case G => assumption); (case hx => kernel_rfl); (case h1 => rfl); (case h2 => rfl)
  (with_reducible refine r_args ?_ ?h1); (case h1 => rfl)
  (with_reducible refine' r_local ?V ?hn ?hv ?hx ?_); (case V => assumption); (case hx => kernel_rfl); (case hn => first | exact Fr.ns (by assumption) | assumption); (case hv => walk_at "mlk")
  with_reducible (refine r_args0 ?_; refine And.intro (Fr.keep (by assumption)) ?_)
  refine b2a_hex_spec (Gd.keeps (by assumption) (Fr.keep (by assumption))) (Room.le (by assumption) (by (first | lia | omega))) hk hlen hpos ?_
  intro h2 t2 tb2 hk2
  have F2 := fr_keeps F hk2
  (with_reducible refine And.intro (PySem.W.typeIs_bytes _ _ _) (And.intro ?h1 ?_)); (case h1 => (intro _ e'; cases e'))
  with_reducible refine r_cwBuiltin0 ?_
  have hz : by_.size ≤ 400 := by rw [size_of, hk]; exact hlen
  refine r_upper ?_ (fun _ _ => ?_)
  · rw [Array.size_map, List.size_toArray, hex_len, Array.length_toList]; (first | lia | omega)
  · refine H _ _ _ _ (by first | exact Fr.keep (by assumption) | exact Keeps.trans (Fr.keep (by assumption)) (by assumption)) ?_
    rw [up_ints, hk]
end

end

section
theorem isList_keep {b h : Heap} {a : Addr} {its : Array Value} (hl : b.IsList a its) (hk : Keeps b h) : h.IsList a its := hl.at fun o e => hk a o e
section rules
variable {prog : Program} {w : World} {A : Around} {E : Value → Shared → Prop} {b h : Heap} {g : Array GenState} {d : Drawn} {t : Nat} {o : OsState}
  {L a a2 : Addr} {cs : Scope} {cl : List (Str × Addr)} {m : Str → Option Value} {news : List (Addr × Obj)} {env : Env}
  {x : Str} {pos : Pos} {k : Nat} {v : Value} {Q : Value → Shared → Prop} {QF : Flow → Shared → Prop} {QB : Bool → Shared → Prop} {QL : List Value → Shared → Prop} {body : List Stmt}
theorem r_mul {x y : Int} {tx ty : Tok} (h1 : -1000000 ≤ x) (h2 : x ≤ 1000000) (H : ∀ t', Q (.int (x * y) t) ⟨h, g, d, t', o⟩) : wpAny (model prog w) A (binaryOp .Mult (.int x tx) (.int y ty)) Q E ⟨h, g, d, t, o⟩ :=
  P.mul_int (H _) (IntMulOk.of_left (intBits_le_64 (by (first | lia | omega)) (by (first | lia | omega))))
theorem r_div {x y : Int} {tx ty : Tok} (h1 : 0 < y) (h2 : y ≤ 1000000) (H : ∀ t', Q (.int (x / y) t) ⟨h, g, d, t', o⟩) : wpAny (model prog w) A (binaryOp .FloorDiv (.int x tx) (.int y ty)) Q E ⟨h, g, d, t, o⟩ :=
  floordiv_int (by (first | lia | omega)) (by rw [fdiv_pos (by (first | lia | omega))]; exact H _) (Or.inl (PyProof.noPylong_small (by (first | lia | omega))))
theorem r_mod {x y : Int} {tx ty : Tok} (h1 : 0 < y) (H : ∀ t', Q (.int (x % y) t) ⟨h, g, d, t', o⟩) : wpAny (model prog w) A (binaryOp .Mod (.int x tx) (.int y ty)) Q E ⟨h, g, d, t, o⟩ :=
  mod_int' (by (first | lia | omega)) (by rw [Int.fmod_eq_emod_of_nonneg _ (by (first | lia | omega))]; exact H _)
theorem r_addL {its its2 : Array Value} (F : Fr b L h m) (N : News b L h news) (hl : h.IsList a its) (hl2 : h.IsList a2 its2) (hz : its.size + its2.size ≤ 1000000)
    (H : ∀ a' h', h.objs.size ≤ a' → (∀ p ∈ news, p.1 < a') → Fr b L h' m → News b L h' ((a', listOf (its.toList ++ its2.toList).toArray 0) :: news) → Q (.ref a') ⟨h', g, d, t, o⟩) :
    wpAny (model prog w) A (binaryOp .Add (.ref a) (.ref a2)) Q E ⟨h, g, d, t, o⟩ :=
  add_arrays F N hl hl2 (fun h' F' N' => H _ h' (Nat.le_refl _) (fun p hp => Heap.lt_size (N p hp).1) F' N') (by rw [sizeLine_eq]; (first | lia | omega))
theorem r_lenList {its : Array Value} (hl : h.IsList a its) (hz : its.size ≤ 1000000) (H : ∀ t' t'', Q (.int (its.size : Nat) t') ⟨h, g, d, t'', o⟩) :
    wpAny (model prog w) A (call (.builtin "len") [.ref a]) Q E ⟨h, g, d, t, o⟩ := call_len_list hl (by (first | lia | omega)) (H _ _)
theorem r_range3 {x y z : Int} {tx ty tz : Tok} (F : Fr b L h m) (N : News b L h news) (hz : z ≠ 0) (hz2 : z.natAbs < 1000000)
    (H : ∀ r h' t' t1 t2 t3, h.objs.size ≤ r → IsRange h' r x y z t1 t2 t3 → Fr b L h' m → News b L h' news → Q (.ref r) ⟨h', g, d, t', o⟩) : wpAny (model prog w) A (call (.type "range") [.int x tx, .int y ty, .int z tz]) Q E ⟨h, g, d, t, o⟩ :=
  range3_rows F N hz (fun h' tk t1 t2 t3 hr F' N' _ => H _ h' tk t1 t2 t3 (Nat.le_refl _) hr F' N') (Or.inl (PyProof.noPylong_small (by (first | lia | omega))))
theorem r_range1 {y : Int} {ty : Tok} (F : Fr b L h m) (N : News b L h news)
    (H : ∀ r h' t' t1 t2 t3, h.objs.size ≤ r → IsRange h' r 0 y 1 t1 t2 t3 → Fr b L h' m → News b L h' news → Keeps h h' → Q (.ref r) ⟨h', g, d, t', o⟩) : wpAny (model prog w) A (call (.type "range") [.int y ty]) Q E ⟨h, g, d, t, o⟩ :=
  range1_rows F N (fun h' tk t1 t2 t3 hr F' N' hk => H _ h' tk t1 t2 t3 (Nat.le_refl _) hr F' N' hk)
theorem r_forRange {r : Addr} {x0 y0 c : Int} {t1 t2 t3 : Tok} {n : Nat} (J : Nat → (Str → Option Value) → List (Addr × Obj) → Prop) (V : Ev env cs L cl) (hh : A.handled = none) (hr : IsRange h r x0 y0 c t1 t2 t3) (hsmall : Builtin.Range.small x0 y0 c = true)
    (hn : Builtin.Range.rangeSize x0 y0 c = (n : Int)) (F : Fr b L h m) (N : News b L h news) (hj : J 0 m news)
    (turn : ∀ (i : Nat) u m₁ news₁ h₁ t₁ own, i < n → news₁.map (·.1) = news.map (·.1) → OwnOff own (news.map (·.1)) → J i m₁ news₁ → Fr b L h₁ (fun y => if y = x then some (.int (x0 + (i : Int) * c) u) else m₁ y) → News b L h₁ (news₁ ++ own) →
      wpAny (model prog w) A (execs body env) (InvPostN b L (J (i + 1)) own (news.map (·.1)) ⟨h₁, g, d, t₁, o⟩ QF) NoE ⟨h₁, g, d, t₁, o⟩)
    (done : ∀ m₁ news₁ h₁ t₁, J n m₁ news₁ → Fr b L h₁ m₁ → News b L h₁ news₁ → QF .next ⟨h₁, g, d, t₁, o⟩) :
    wpAny (model prog w) A (pyIter (.ref r)) (fun it s₂ => LoopAtV prog w A b env x body QF NoE it s₂) NoE ⟨h, g, d, t, o⟩ := by
  obtain rfl := V.locals
  refine wpAny_pyIter_range hr hsmall ?_
  have W : Walks prog w A h.objs.size [h.objs.size] [h.objs.size] n (fun i v => i < n ∧ ∃ t, v = .int (x0 + i * c) t)
      (fun i h' => IsRangeIter h' h.objs.size (x0 + (i : Nat) * c) ((n : Int) - (i : Nat)) c) := (Walks.range hh _ x0 c n).bound
  refine loop_invN J W ?_ ?_ ?_ ?_ (by show IsRangeIter _ _ _ _ _; rw [hn]; simpa using Heap.get?_push_size _ rfl) (F.push _) (fun p hp => ⟨Heap.get?_push_of_some _ (N p hp).1, (N p hp).2⟩) hj ?_ ?_
  · intro hm
    exact absurd F.ns.lt ((List.mem_singleton.mp hm) ▸ Nat.lt_irrefl _)
  · intro b' hb
    rw [List.mem_singleton.mp hb]
    exact next_is_new F
  · intro p hp hI
    exact absurd (Heap.lt_size (N p hp).1) ((List.mem_singleton.mp hI) ▸ Nat.lt_irrefl _)
  · intro p hp hI
    exact absurd (Heap.lt_size (N p hp).1) ((List.mem_singleton.mp hI) ▸ Nat.lt_irrefl _)
  · rintro i v m₁ nx h₁ tk own hi ⟨_, u, rfl⟩ ha hoff hJ F₁ N₁
    exact turn i u m₁ nx h₁ tk own hi ha hoff hJ F₁ N₁
  · rintro m₁ nx h₁ tk hJ F₁ N₁
    exact done m₁ nx h₁ tk hJ F₁ N₁
theorem r_itemB {value slice : Expr} {items : Array Value} {ns : List Int} {i B : Int} {u : Tok} (hl : h.IsList a items) (hi : IntsAre items.toList ns) (hb : ∀ v ∈ ns, 0 ≤ v ∧ v < B) (h0 : 0 ≤ i) (h1 : i < (ns.length : Int)) (hz : ns.length ≤ 100000)
    (hs : subscripted slice false (.ref a) (.int i u) = operate [.ref a, .int i u] (getItem (.ref a) (.int i u))) (H : ∀ t' v, v = ns.getD i.toNat 0 → 0 ≤ v → v < B → Q (.int v t') ⟨h, g, d, t, o⟩) :
    wpAny (model prog w) A (subscriptTail value slice (.ref a) (.int i u)) Q E ⟨h, g, d, t, o⟩ := by
  refine r_itemI hl hi h0 h1 hz hs fun t' => ?_
  have hlt : i.toNat < ns.length := by (first | lia | omega)
  have e : ns.getD i.toNat 0 = ns[i.toNat] := by simp [List.getD, hlt]
  have := hb ns[i.toNat] (by simp)
  rw [← e] at this
  exact H t' _ rfl this.1 this.2
noncomputable def SlicePost (Q : Value → Shared → Prop) (l u st : Value) (s : Shared) : Prop := Q (.ref s.heap.objs.size) { s with heap := s.heap.push { cls := .type "slice", data := .fields #[l, u, st] } }
theorem r_Slice {lower upper step : Option Expr} (H : wpAny (model prog w) A (evalPart lower env) (fun l s₁ => wpAny (model prog w) A (evalPart upper env) (fun u s₂ => wpAny (model prog w) A (evalPart step env) (fun st s₃ => SlicePost Q l u st s₃) E s₂) E s₁) E ⟨h, g, d, t, o⟩) :
    wpAny (model prog w) A (eval (.Slice lower upper step pos) env) Q E ⟨h, g, d, t, o⟩ := wpAny_Slice H
theorem r_partN (H : Q .none ⟨h, g, d, t, o⟩) : wpAny (model prog w) A (evalPart none env) Q E ⟨h, g, d, t, o⟩ := evalPart_none_step H
theorem r_partS {e : Expr} (H : wpAny (model prog w) A (eval e env) Q E ⟨h, g, d, t, o⟩) : wpAny (model prog w) A (evalPart (some e) env) Q E ⟨h, g, d, t, o⟩ := evalPart_some_step H
theorem r_slicePost {l u st : Value} (H : Q (.ref h.objs.size) ⟨h.push { cls := .type "slice", data := .fields #[l, u, st] }, g, d, t, o⟩) : SlicePost Q l u st ⟨h, g, d, t, o⟩ := H
theorem r_sliceTail {value slice : Expr} {its : Array Value} {vl vu : Value} {lo hi : Option Int} (F : Fr b L h m) (N : News b L h news) (hl : h.IsList a its) (pl : IsPart vl lo) (pu : IsPart vu hi) (hz : its.size ≤ 1000000)
    (hs : subscripted slice false (.ref a) (.ref h.objs.size) = operate [.ref h.objs.size, .ref a] (getItem (.ref a) (.ref h.objs.size))) (ht : ∀ r, letTemporaryGo value (.ref a) r = pure ())
    (H : ∀ D h', h.objs.size ≤ D → (∀ p ∈ news, p.1 < D) → Fr b L h' m → News b L h' ((D, listOf (slicePick its lo hi none) 0) :: news) → Q (.ref D) ⟨h', g, d, t, o⟩) :
    wpAny (model prog w) A (subscriptTail value slice (.ref a) (.ref h.objs.size)) Q E ⟨h.push { cls := .type "slice", data := .fields #[vl, vu, .none] }, g, d, t, o⟩ :=
  slice_list (s := ⟨h, g, d, t, o⟩) F N hl pl pu (fun h' F' N' => H _ h' (Nat.le_succ _) (fun p hp => Nat.lt_succ_of_lt (Heap.lt_size (N p hp).1)) F' N') hs ht (by rw [sizeLine_eq]; (first | lia | omega))
end rules
theorem g_range (w : World) : nsIn (KF w) mainGlobals "range" = some none ∧ bootBuiltins "range" = some (.type "range") ∧ ("range" : Str) ≠ "__name__" := ⟨by kernel_rfl, by kernel_rfl, by decide⟩
theorem g_list (w : World) : nsIn (KF w) mainGlobals "list" = some none ∧ bootBuiltins "list" = some (.type "list") ∧ ("list" : Str) ≠ "__name__" := ⟨by kernel_rfl, by kernel_rfl, by decide⟩

end

section
/-- three octets out of four values -/
noncomputable def grp (f : List Int) (j : Nat) : List Int :=
  [f.getD (4 * j) 0 * 4 + f.getD (4 * j + 1) 0 / 16, f.getD (4 * j + 1) 0 % 16 * 16 + f.getD (4 * j + 2) 0 / 4, f.getD (4 * j + 2) 0 % 4 * 64 + f.getD (4 * j + 3) 0]
noncomputable def octs (vals : List Int) (n : Nat) : List Int := (List.range n).flatMap (grp (vals ++ [0, 0, 0]))
theorem octs_succ (vals : List Int) (n : Nat) : octs vals (n + 1) = octs vals n ++ grp (vals ++ [0, 0, 0]) n := by
  unfold octs
  rw [List.range_succ, List.flatMap_append]
  simp
theorem getD_range {f : List Int} {n : Int} (h : ∀ v ∈ f, 0 ≤ v ∧ v < n) (hn : 0 < n) (i : Nat) : 0 ≤ f.getD i 0 ∧ f.getD i 0 < n := by
  rw [List.getD_eq_getElem?_getD]
  cases q : f[i]? with
  | none => exact ⟨Int.le_refl _, hn⟩
  | some v => exact h v (List.mem_of_getElem? q)
theorem octs_len (vals : List Int) (n : Nat) : (octs vals n).length = 3 * n := by
  induction n with
  | zero => rfl
  | succ n ih => rw [octs_succ, List.length_append, ih]; simp [grp]; (first | lia | omega)
theorem octs_in {vals : List Int} (h : ∀ v ∈ vals, 0 ≤ v ∧ v < 64) (n : Nat) : ∀ c ∈ octs vals n, 0 ≤ c ∧ c < 256 := by
  have hf : ∀ v ∈ vals ++ [0, 0, 0], 0 ≤ v ∧ v < 64 := by
    intro v hv
    rcases List.mem_append.mp hv with hv | hv
    · exact h v hv
    · simp at hv; (first | lia | omega)
  intro c hc
  obtain ⟨j, _, hj⟩ := List.mem_flatMap.mp hc
  have h0 := getD_range hf (by decide) (4 * j)
  have h1 := getD_range hf (by decide) (4 * j + 1)
  have h2 := getD_range hf (by decide) (4 * j + 2)
  have h3 := getD_range hf (by decide) (4 * j + 3)
  simp only [grp, List.mem_cons, List.not_mem_nil, or_false] at hj
  rcases hj with rfl | rfl | rfl <;> (first | lia | omega)
theorem small_4 (x : Int) (h : x ≤ 100000 ∧ 0 ≤ x) : Builtin.Range.small 0 x 4 = true := by
  unfold Builtin.Range.small Builtin.Range.rangeSize
  simp only [Builtin.Range.rangeFitsLong, Bool.and_eq_true, Bool.or_eq_true, decide_eq_true_eq, beq_iff_eq]
  refine ⟨⟨?_, ?_⟩, ?_⟩ <;> (repeat' split) <;> simp <;> (first | lia | omega)


inductive JS (vals : List Int) (size : Int) (i : Nat) (m : Str → Option Value) (nx : List (Addr × Obj)) : Prop
  | mk (a : Addr) (its : Array Value) (k : Nat) (ts : Tok) (fa : Addr) (fits : Array Value) (rest : List (Addr × Obj)) : nx = (a, listOf its k) :: rest → IntsAre its.toList (octs vals i) → m (Str.ofString "octets") = some (.ref a) → m (Str.ofString "full") = some (.ref fa) → m (Str.ofString "size") = some (.int size ts) → (∀ p ∈ rest, p.1 ≠ a) →
    (fa, listOf fits 0) ∈ rest → IntsAre fits.toList (vals ++ [0, 0, 0]) → JS vals size i m nx
section
variable {prog : Program} {w : World} {A : Around} {E : Value → Shared → Prop} {h : Heap} {g : Array GenState} {d : Drawn} {t : Nat} {o : OsState} {va : Addr} {its : Array Value} {vals : List Int} {size : Int} {ts : Tok} {Q : Value → Shared → Prop}
theorem sixes_spec (G : Gd w h) (R : Room A 1) (hl : h.IsList va its) (hi : IntsAre its.toList vals) (hv : ∀ v ∈ vals, 0 ≤ v ∧ v < 64) (hlen : vals.length ≤ 100) (hs0 : 0 ≤ size) (hs1 : size ≤ 100)
    (H : ∀ h' t' by' tb', Keeps h h' → KBw.bInts by' = (octs vals ((vals.length + 3) / 4)).take size.toNat → Q (.bytes by' tb') ⟨h', g, d, t', o⟩) :
    wpAny (model prog w) A (call (.ref 118) [.ref va, .int size ts]) Q E ⟨h, g, d, t, o⟩ := by
  refine enter (n := 0) G R rfl rfl (by kernel_rfl) rfl (BindsTo.of_eq rfl) (by decide) (locs rfl) rfl rfl rfl rfl rfl ?_
  intro h₁ t₁ A' L env V hL R' F N
  dsimp only at V
  have hsz : its.size = vals.length := by have := hi.length; simpa using this
  with_reducible refine r_seq ?_
  (with_reducible refine r_assign ?_ ?h1); (case h1 => rfl)
  with_reducible refine wpAny_BinOp ?_
  (with_reducible refine' r_local ?V ?hn ?hv ?hx ?_); (case V => assumption); (case hx => kernel_rfl); (case hn => first | exact Fr.ns (by assumption) | assumption); (case hv => walk_at "mlk")
  with_reducible refine PyProof.Rows.List_ ?_
  (with_reducible refine r_args ?_ ?h1); (case h1 => rfl)
  with_reducible refine r_cint (fun _ => ?_)
  (with_reducible refine r_args ?_ ?h1); (case h1 => rfl)
  with_reducible refine r_cint (fun _ => ?_)
  (with_reducible refine r_args ?_ ?h1); (case h1 => rfl)
  with_reducible (refine r_cint (fun _ => ?_); refine r_args0 ?_)
  (with_reducible refine' r_newList ?F ?N ?hz ?_); (case F => assumption); (case N => assumption); (case hz => first | decide | (simp only [List.length_cons, List.length_nil, sizeLine_eq]; (first | lia | omega))); intro _ _ _ _ _ _
  refine r_addL (by assumption) (by assumption) (isList_keep hl (Fr.keep (by assumption))) (isList_news (by assumption) (List.Mem.head _)) (by simp; (first | lia | omega)) ?_
  intro fa h2 hfa hlt2 F2 N2
  (with_reducible refine' r_storeG ?V ?F ?N ?hx ?_); (case V => assumption); (case F => assumption); (case N => assumption); (case hx => kernel_rfl); intro _ _ _ _ _ _
  with_reducible (refine sq_next ?_; refine r_seq ?_)
  (with_reducible refine r_assign ?_ ?h1); (case h1 => rfl)
  with_reducible (refine PyProof.Rows.List_ ?_; refine r_args0 ?_)
  (with_reducible refine' r_newList ?F ?N ?hz ?_); (case F => assumption); (case N => assumption); (case hz => first | decide | (simp only [List.length_cons, List.length_nil, sizeLine_eq]; (first | lia | omega))); intro _ _ _ _ _ _
  (with_reducible refine' r_storeG ?V ?F ?N ?hx ?_); (case V => assumption); (case F => assumption); (case N => assumption); (case hx => kernel_rfl); intro _ _ _ _ _ _
  with_reducible (refine sq_next ?_; refine r_seq ?_)
  refine r_for V (by assumption) (by kernel_rfl) ?_ (fun _ => rfl)
  with_reducible refine r_callN ?_
  (with_reducible refine' r_boot ?V ?G ?hk ?hx ?eB ?_); (case V => assumption); (case hx => kernel_rfl); (case eB => with_reducible exact g_range _); (case G => assumption); (case hk => exact Fr.keep (by assumption))
  (with_reducible refine r_cwType ?_ ?h1 ?h2); (case h1 => rfl); (case h2 => rfl)
  (with_reducible refine r_args ?_ ?h1); (case h1 => rfl)
  with_reducible refine r_cint (fun _ => ?_)
  (with_reducible refine r_args ?_ ?h1); (case h1 => rfl)
  with_reducible refine r_callN ?_
  (with_reducible refine' r_boot ?V ?G ?hk ?hx ?eB ?_); (case V => assumption); (case hx => kernel_rfl); (case eB => with_reducible exact g_len _); (case G => assumption); (case hk => exact Fr.keep (by assumption))
  (with_reducible refine r_cwBuiltin ?_ ?h1 ?h2); (case h1 => rfl); (case h2 => rfl)
  (with_reducible refine r_args ?_ ?h1); (case h1 => rfl)
  (with_reducible refine' r_local ?V ?hn ?hv ?hx ?_); (case V => assumption); (case hx => kernel_rfl); (case hn => first | exact Fr.ns (by assumption) | assumption); (case hv => walk_at "mlk")
  with_reducible refine r_args0 ?_
  refine r_lenList (isList_keep hl (Fr.keep (by assumption))) (by (first | lia | omega)) (fun _ _ => ?_)
  (with_reducible refine r_args ?_ ?h1); (case h1 => rfl)
  with_reducible (refine r_cint (fun _ => ?_); refine r_args0 ?_)
  (with_reducible refine' r_range3 ?F ?N ?h1 ?h2 ?_); (case F => assumption); (case N => assumption); (case h1 => decide); (case h2 => decide); intro _ _ _ _ _ _ _ _ _ _
  have hn : Builtin.Range.rangeSize 0 (its.size : Int) 4 = (((vals.length + 3) / 4 : Nat) : Int) := by
    rw [hsz]
    unfold Builtin.Range.rangeSize
    split <;> (try split) <;> (first | lia | omega)
  have hf : ∀ v ∈ vals ++ [0, 0, 0], 0 ≤ v ∧ v < 64 := by
    intro v hv'
    rcases List.mem_append.mp hv' with hv' | hv'
    · exact hv v hv'
    · simp at hv'; (first | lia | omega)
  refine r_forRange (JS vals size) V R'.hh (by assumption) ?_ hn (by assumption) (by assumption) ?_ ?_ ?_
  · rw [hsz]; exact small_4 _ (by (first | lia | omega))
  · refine ⟨_, _, _, _, fa, _, _, rfl, IntsAre.nil, by walk_at "mlk", by walk_at "mlk", by walk_at "mlk", ?_, List.Mem.head _, ?_⟩
    · intro p hp
      apply Nat.ne_of_lt
      revert p
      assumption
    · exact hi.append (.cons _ _ (.cons _ _ (.cons _ _ .nil)))
  · rintro i u m₁ news₁ h3 t3 own hin hadr hoff ⟨a, its2, k, ts2, fa2, fits, rest, rfl, hI, m1, m2, m3, hne, hm, hfi⟩ F3 N3
    have hne2 : ∀ p ∈ rest ++ own, p.1 ≠ a := fun p hp => (List.mem_append.mp hp).elim (hne p) fun hp => hoff p hp a (by rw [← hadr]; exact List.Mem.head _)
    have N3 : News h L h3 ((a, listOf its2 k) :: (rest ++ own)) := N3
    have hsz2 : its2.size = 3 * i := by have := hI.length; rw [octs_len] at this; simpa using this
    have hi100 : i ≤ 200 := by (first | lia | omega)
    with_reducible refine r_seq ?_
    (with_reducible refine r_expr ?_ ?hi ?h2); (case hi => exact Ev.inter (by assumption) rfl); (case h2 => rfl)
    (with_reducible refine' r_appendCall ?V ?F ?N ?hv ?hx ?hm ?_ ?h1 ?h2); (case V => assumption); (case hx => kernel_rfl); (case F => assumption); (case hv => walk_at "mlk"); (case N => assumption); (case hm => exact List.Mem.head _); (case h1 => rfl); (case h2 => kernel_rfl)
    with_reducible (refine wpAny_BinOp ?_; refine wpAny_BinOp ?_; refine Subscript_ ?_)
    (with_reducible refine' r_local ?V ?hn ?hv ?hx ?_); (case V => assumption); (case hx => kernel_rfl); (case hn => first | exact Fr.ns (by assumption) | assumption); (case hv => walk_at "mlk")
    (with_reducible refine' r_local ?V ?hn ?hv ?hx ?_); (case V => assumption); (case hx => kernel_rfl); (case hn => first | exact Fr.ns (by assumption) | assumption); (case hv => walk_at "mlk")
    (with_reducible refine' r_itemB (B := 64) ?hl ?hi ?hb ?h0 ?h1 ?hz ?hs ?_); (case hl => exact isList_news (by assumption) (List.mem_cons_of_mem _ (List.mem_append_left _ (by assumption)))); (case hi => assumption); (case hb => assumption); (case h0 => (first | lia | omega)); (case h1 => (simp only [List.length_append, List.length_cons, List.length_nil]; (first | lia | omega))); (case hz => (simp only [List.length_append, List.length_cons, List.length_nil]; (first | lia | omega))); (case hs => rfl); intro _ _ _ _ _
    with_reducible refine r_cint (fun _ => ?_)
    (with_reducible refine r_mul ?h1 ?h2 (fun _ => ?_)); (case h1 => (first | lia | omega)); (case h2 => (first | lia | omega))
    with_reducible (refine wpAny_BinOp ?_; refine Subscript_ ?_)
    (with_reducible refine' r_local ?V ?hn ?hv ?hx ?_); (case V => assumption); (case hx => kernel_rfl); (case hn => first | exact Fr.ns (by assumption) | assumption); (case hv => walk_at "mlk")
    with_reducible refine wpAny_BinOp ?_
    (with_reducible refine' r_local ?V ?hn ?hv ?hx ?_); (case V => assumption); (case hx => kernel_rfl); (case hn => first | exact Fr.ns (by assumption) | assumption); (case hv => walk_at "mlk")
    with_reducible (refine r_cint (fun _ => ?_); refine r_add (fun _ => ?_))
    (with_reducible refine' r_itemB (B := 64) ?hl ?hi ?hb ?h0 ?h1 ?hz ?hs ?_); (case hl => exact isList_news (by assumption) (List.mem_cons_of_mem _ (List.mem_append_left _ (by assumption)))); (case hi => assumption); (case hb => assumption); (case h0 => (first | lia | omega)); (case h1 => (simp only [List.length_append, List.length_cons, List.length_nil]; (first | lia | omega))); (case hz => (simp only [List.length_append, List.length_cons, List.length_nil]; (first | lia | omega))); (case hs => rfl); intro _ _ _ _ _
    with_reducible refine r_cint (fun _ => ?_)
    (with_reducible refine r_div ?h1 ?h2 (fun _ => ?_)); (case h1 => (first | lia | omega)); (case h2 => (first | lia | omega))
    with_reducible refine r_add (fun _ => ?_)
    (with_reducible refine' r_append ?F ?N ?hne ?hz ?_); (case F => assumption); (case N => assumption); (case hne => assumption); (case hz => walk_at "msz"); intro _ _ _
    with_reducible (refine sq_next ?_; refine r_seq ?_)
    (with_reducible refine r_expr ?_ ?hi ?h2); (case hi => exact Ev.inter (by assumption) rfl); (case h2 => rfl)
    (with_reducible refine' r_appendCall ?V ?F ?N ?hv ?hx ?hm ?_ ?h1 ?h2); (case V => assumption); (case hx => kernel_rfl); (case F => assumption); (case hv => walk_at "mlk"); (case N => assumption); (case hm => exact List.Mem.head _); (case h1 => rfl); (case h2 => kernel_rfl)
    with_reducible (refine wpAny_BinOp ?_; refine wpAny_BinOp ?_; refine wpAny_BinOp ?_; refine Subscript_ ?_)
    (with_reducible refine' r_local ?V ?hn ?hv ?hx ?_); (case V => assumption); (case hx => kernel_rfl); (case hn => first | exact Fr.ns (by assumption) | assumption); (case hv => walk_at "mlk")
    with_reducible refine wpAny_BinOp ?_
    (with_reducible refine' r_local ?V ?hn ?hv ?hx ?_); (case V => assumption); (case hx => kernel_rfl); (case hn => first | exact Fr.ns (by assumption) | assumption); (case hv => walk_at "mlk")
    with_reducible (refine r_cint (fun _ => ?_); refine r_add (fun _ => ?_))
    (with_reducible refine' r_itemB (B := 64) ?hl ?hi ?hb ?h0 ?h1 ?hz ?hs ?_); (case hl => exact isList_news (by assumption) (List.mem_cons_of_mem _ (List.mem_append_left _ (by assumption)))); (case hi => assumption); (case hb => assumption); (case h0 => (first | lia | omega)); (case h1 => (simp only [List.length_append, List.length_cons, List.length_nil]; (first | lia | omega))); (case hz => (simp only [List.length_append, List.length_cons, List.length_nil]; (first | lia | omega))); (case hs => rfl); intro _ _ _ _ _
    with_reducible refine r_cint (fun _ => ?_)
    (with_reducible refine r_mod ?h1 (fun _ => ?_)); (case h1 => (first | lia | omega))
    with_reducible refine r_cint (fun _ => ?_)
    (with_reducible refine r_mul ?h1 ?h2 (fun _ => ?_)); (case h1 => (first | lia | omega)); (case h2 => (first | lia | omega))
    with_reducible (refine wpAny_BinOp ?_; refine Subscript_ ?_)
    (with_reducible refine' r_local ?V ?hn ?hv ?hx ?_); (case V => assumption); (case hx => kernel_rfl); (case hn => first | exact Fr.ns (by assumption) | assumption); (case hv => walk_at "mlk")
    with_reducible refine wpAny_BinOp ?_
    (with_reducible refine' r_local ?V ?hn ?hv ?hx ?_); (case V => assumption); (case hx => kernel_rfl); (case hn => first | exact Fr.ns (by assumption) | assumption); (case hv => walk_at "mlk")
    with_reducible (refine r_cint (fun _ => ?_); refine r_add (fun _ => ?_))
    (with_reducible refine' r_itemB (B := 64) ?hl ?hi ?hb ?h0 ?h1 ?hz ?hs ?_); (case hl => exact isList_news (by assumption) (List.mem_cons_of_mem _ (List.mem_append_left _ (by assumption)))); (case hi => assumption); (case hb => assumption); (case h0 => (first | lia | omega)); (case h1 => (simp only [List.length_append, List.length_cons, List.length_nil]; (first | lia | omega))); (case hz => (simp only [List.length_append, List.length_cons, List.length_nil]; (first | lia | omega))); (case hs => rfl); intro _ _ _ _ _
    with_reducible refine r_cint (fun _ => ?_)
    (with_reducible refine r_div ?h1 ?h2 (fun _ => ?_)); (case h1 => (first | lia | omega)); (case h2 => (first | lia | omega))
    with_reducible refine r_add (fun _ => ?_)
    (with_reducible refine' r_append ?F ?N ?hne ?hz ?_); (case F => assumption); (case N => assumption); (case hne => assumption); (case hz => walk_at "msz"); intro _ _ _
    with_reducible (refine sq_next ?_; refine r_seq ?_)
    (with_reducible refine r_expr ?_ ?hi ?h2); (case hi => exact Ev.inter (by assumption) rfl); (case h2 => rfl)
    (with_reducible refine' r_appendCall ?V ?F ?N ?hv ?hx ?hm ?_ ?h1 ?h2); (case V => assumption); (case hx => kernel_rfl); (case F => assumption); (case hv => walk_at "mlk"); (case N => assumption); (case hm => exact List.Mem.head _); (case h1 => rfl); (case h2 => kernel_rfl)
    with_reducible (refine wpAny_BinOp ?_; refine wpAny_BinOp ?_; refine wpAny_BinOp ?_; refine Subscript_ ?_)
    (with_reducible refine' r_local ?V ?hn ?hv ?hx ?_); (case V => assumption); (case hx => kernel_rfl); (case hn => first | exact Fr.ns (by assumption) | assumption); (case hv => walk_at "mlk")
    with_reducible refine wpAny_BinOp ?_
    (with_reducible refine' r_local ?V ?hn ?hv ?hx ?_); (case V => assumption); (case hx => kernel_rfl); (case hn => first | exact Fr.ns (by assumption) | assumption); (case hv => walk_at "mlk")
    with_reducible (refine r_cint (fun _ => ?_); refine r_add (fun _ => ?_))
    (with_reducible refine' r_itemB (B := 64) ?hl ?hi ?hb ?h0 ?h1 ?hz ?hs ?_); (case hl => exact isList_news (by assumption) (List.mem_cons_of_mem _ (List.mem_append_left _ (by assumption)))); (case hi => assumption); (case hb => assumption); (case h0 => (first | lia | omega)); (case h1 => (simp only [List.length_append, List.length_cons, List.length_nil]; (first | lia | omega))); (case hz => (simp only [List.length_append, List.length_cons, List.length_nil]; (first | lia | omega))); (case hs => rfl); intro _ _ _ _ _
    with_reducible refine r_cint (fun _ => ?_)
    (with_reducible refine r_mod ?h1 (fun _ => ?_)); (case h1 => (first | lia | omega))
    with_reducible refine r_cint (fun _ => ?_)
    (with_reducible refine r_mul ?h1 ?h2 (fun _ => ?_)); (case h1 => (first | lia | omega)); (case h2 => (first | lia | omega))
    with_reducible refine Subscript_ ?_
    (with_reducible refine' r_local ?V ?hn ?hv ?hx ?_); (case V => assumption); (case hx => kernel_rfl); (case hn => first | exact Fr.ns (by assumption) | assumption); (case hv => walk_at "mlk")
    with_reducible refine wpAny_BinOp ?_
    (with_reducible refine' r_local ?V ?hn ?hv ?hx ?_); (case V => assumption); (case hx => kernel_rfl); (case hn => first | exact Fr.ns (by assumption) | assumption); (case hv => walk_at "mlk")
    with_reducible (refine r_cint (fun _ => ?_); refine r_add (fun _ => ?_))
    (with_reducible refine' r_itemB (B := 64) ?hl ?hi ?hb ?h0 ?h1 ?hz ?hs ?_); (case hl => exact isList_news (by assumption) (List.mem_cons_of_mem _ (List.mem_append_left _ (by assumption)))); (case hi => assumption); (case hb => assumption); (case h0 => (first | lia | omega)); (case h1 => (simp only [List.length_append, List.length_cons, List.length_nil]; (first | lia | omega))); (case hz => (simp only [List.length_append, List.length_cons, List.length_nil]; (first | lia | omega))); (case hs => rfl); intro _ _ _ _ _
    with_reducible refine r_add (fun _ => ?_)
    (with_reducible refine' r_append ?F ?N ?hne ?hz ?_); (case F => assumption); (case N => assumption); (case hne => assumption); (case hz => walk_at "msz"); intro _ _ _
    with_reducible (refine sq_next ?_; refine wpAny_execs_nil ?_)
    have e0 : (0 + (i : Int) * 4).toNat = 4 * i := by (first | lia | omega)
    have e1 : (0 + (i : Int) * 4 + 1).toNat = 4 * i + 1 := by (first | lia | omega)
    have e2 : (0 + (i : Int) * 4 + 2).toNat = 4 * i + 2 := by (first | lia | omega)
    have e3 : (0 + (i : Int) * 4 + 3).toNat = 4 * i + 3 := by (first | lia | omega)
    simp only [e0, e1, e2, e3] at *
    refine inv_end (nx := (a, _) :: rest) (by assumption) (by assumption) ⟨a, _, _, _, fa2, fits, rest, rfl, ?_, by walk_at "mlk", by walk_at "mlk", by walk_at "mlk", hne, hm, hfi⟩ ?_
    · rw [octs_succ]
      have e : ∀ (l : List Int) (p q r : Int), l ++ [p, q, r] = ((l ++ [p]) ++ [q]) ++ [r] := by intros; simp
      unfold grp
      rw [e]
      subst_vars
      exact ints_push (ints_push (ints_push hI))
    · simpa using hadr
  · rintro m₁ news₁ h3 t3 ⟨a, its2, k, ts2, fa2, fits, rest, rfl, hI, m1, m2, m3, hne, hm, hfi⟩ F3 N3
    with_reducible (refine sq_next ?_; refine r_seq ?_; refine wpAny_Return_some ?_; refine r_callN ?_)
    (with_reducible refine' r_boot ?V ?G ?hk ?hx ?eB ?_); (case V => assumption); (case hx => kernel_rfl); (case eB => with_reducible exact g_bytes _); (case G => assumption); (case hk => exact Fr.keep (by assumption))
    (with_reducible refine r_cwType ?_ ?h1 ?h2); (case h1 => rfl); (case h2 => rfl)
    (with_reducible refine r_args ?_ ?h1); (case h1 => rfl)
    with_reducible refine Subscript_ ?_
    (with_reducible refine' r_local ?V ?hn ?hv ?hx ?_); (case V => assumption); (case hx => kernel_rfl); (case hn => first | exact Fr.ns (by assumption) | assumption); (case hv => walk_at "mlk")
    with_reducible (refine r_Slice ?_; refine r_partN ?_; refine r_partS ?_)
    (with_reducible refine' r_local ?V ?hn ?hv ?hx ?_); (case V => assumption); (case hx => kernel_rfl); (case hn => first | exact Fr.ns (by assumption) | assumption); (case hv => walk_at "mlk")
    with_reducible (refine r_partN ?_; refine r_slicePost ?_)
    have hsz2 : its2.size ≤ 1000000 := by have := hI.length; rw [octs_len] at this; simp at this; (first | lia | omega)
    refine r_sliceTail (by assumption) (by assumption) (isList_news (by assumption) (List.Mem.head _)) .none (.int _ _) hsz2 rfl (fun _ => rfl) ?_
    intro D h4 hD hlt4 F4 N4
    have hI' : IntsAre (slicePick its2 none (some size) none).toList ((octs vals ((vals.length + 3) / 4)).take size.toNat) := by
      have := kmk_upto (vs := its2.toList) hI hs0
      rwa [Array.toArray_toList] at this
    with_reducible refine r_args0 ?_
    refine r_mkBytes (isList_news N4 (List.Mem.head _)) hI' ?_ ?_ R'.hh ?_
    · exact fun n hn => octs_in hv _ n (List.mem_of_mem_take hn)
    · rw [List.length_take]; (first | lia | omega)
    · intro h5 t5 by5 tb5 hk5 hb5
      exact H _ _ _ _ (by first | exact Fr.keep (by assumption) | exact Keeps.trans (Fr.keep (by assumption)) (by assumption)) hb5
end

end

section
section comp
variable {prog : Program} {w : World} {A : Around} {E : Value → Shared → Prop} {b h : Heap} {g : Array GenState} {d : Drawn} {t : Nat} {o : OsState}
  {L a a2 : Addr} {cs : Scope} {cl : List (Str × Addr)} {m : Str → Option Value} {news : List (Addr × Obj)} {env : Env} {s : Shared}
  {x : Str} {pos : Pos} {elt iter : Expr} {scope : Scope} {Q : Value → Shared → Prop} {QF : Flow → Shared → Prop}
/-- one turn of a comprehension: an int -/
noncomputable def EltInt (prog : Program) (w : World) (A : Around) (b : Heap) (L : Addr) (m : Str → Option Value) (env : Env) (elt : Expr) (x : Str) (scope : Scope) (cl : List (Str × Addr)) (s : Shared) (P : Nat → Value → Prop) (n : Nat) (f : Nat → Int) (news : List (Addr × Obj)) : Prop :=
  ∀ (i : Nat) v C m₂ h tk, i < n → P i v → h.Ns C m₂ → m₂ x = some v → Fr b L h m → News b L h news →
    wpAny (model prog w) A (eval elt (compEnvC scope cl C env)) (fun y s₂ => ∃ h' tk' ty, s₂ = { s with heap := h', toks := tk' } ∧ y = .int (f i) ty ∧ Keeps h h') NoE { s with heap := h, toks := tk }
theorem compRest_of {S : List (Addr × Obj) → Prop} {P : Nat → Value → Prop} {Fin : List Value → List (Addr × Obj) → Prop} {n : Nat} (f : Nat → Int) (hS : S news)
    (he : EltInt prog w A b L m env elt x scope cl s P n f news) (fin : ∀ ys, IntsAre ys ((List.range n).map f) → Fin ys news) : CompRest prog w A b L m env elt x scope cl s S P Fin n 0 [] news := by
  have key : ∀ (k i : Nat) (ys : List Value), i + k = n → IntsAre ys ((List.range i).map f) → CompRest prog w A b L m env elt x scope cl s S P Fin k i ys news := by
    intro k
    induction k with
    | zero => intro i ys e hi; have : i = n := by (first | lia | omega)
              subst this; exact CompRest.zero (fin ys hi)
    | succ k ih =>
      intro i ys e hi
      refine CompRest.succ fun v I oI C oC D m₂ h tk E' hP hC hx F N off hne => ?_
      have NC := (N (C, oC) (.tail _ (.head _))).1
      have N' : News b L h news := fun p hp => N p (.tail _ (.tail _ (.tail _ hp)))
      refine wpAny_mono (he i v C m₂ h tk (by (first | lia | omega)) hP (hC.ns NC) hx F N') (fun y s₂ q => ?_) fun _ _ y => y.elim
      obtain ⟨h', tk', ty, rfl, rfl, hk⟩ := q
      refine CompEnd.intro (fr_keeps F hk) (news_keeps N hk) news (fun p hp => hp) off hS (ih (i + 1) _ (by (first | lia | omega)) ?_)
      rw [List.range_succ, List.map_append]
      exact hi.append (.cons _ _ .nil)
  exact key n 0 [] (by (first | lia | omega)) .nil
/-- a comprehension's source: a range by steps -/
noncomputable def CompR (prog : Program) (w : World) (A : Around) (b : Heap) (L : Addr) (m : Str → Option Value) (env : Env) (elt : Expr) (x : Str) (scope : Scope) (cl : List (Str × Addr)) (Q : Value → Shared → Prop) (xv : Value) (s₁ : Shared) : Prop :=
  ∃ r x0 y0 c t1 t2 t3 n news, ∃ f : Nat → Int, xv = .ref r ∧ A.handled = none ∧ Fr b L s₁.heap m ∧ News b L s₁.heap news ∧ IsRange s₁.heap r x0 y0 c t1 t2 t3 ∧ Builtin.Range.small x0 y0 c = true ∧ Builtin.Range.rangeSize x0 y0 c = ((n : Nat) : Int) ∧ n ≤ sizeLine ∧
    (∀ h, EltInt prog w A b L m env elt x scope cl { s₁ with heap := h } (fun i v => i < n ∧ ∃ t, v = .int (x0 + (i : Int) * c) t) n f news) ∧
    (∀ D h tk ys, IntsAre ys ((List.range n).map f) → Fr b L h m → News b L h ((D, lst ys) :: news) → (∀ p ∈ news, p.1 ≠ D) → Q (.ref D) { s₁ with heap := h, toks := tk })
theorem off1_mem {D : Addr} {l : List (Addr × Obj)} (h : Off1 D l) : ∀ p ∈ l, p.1 ≠ D := by
  induction l with
  | nil => intro p hp; cases hp
  | cons q r ih =>
    intro p hp
    rcases List.mem_cons.mp hp with rfl | hp
    · exact h.1
    · exact ih h.2 p hp
theorem r_listcompR {px : Pos} (_F : Fr b L h m) (hclos : closureFor scope env = pure cl) (hcell : ∀ y ∈ scope.names, y.2 ≠ .cell) (hkind : scope.kind = .function)
    (hnames : ∀ y ∈ scope.names, y.2 = .local → scope.names.lookup y.1 = some .local) (hx : scope.names.lookup x = some .local)
    (hs : ∀ x, foldedSetIterable iter env x = pure x)
    (H : wpAny (model prog w) A (eval iter env) (CompR prog w A b L m env elt x scope cl Q) E ⟨h, g, d, t, o⟩) :
    wpAny (model prog w) A (eval (.ListComp elt [⟨.Name x px, iter, [], 0⟩] scope pos) env) Q E ⟨h, g, d, t, o⟩ := by
  rw [eval_ListComp]
  refine wpAny_comprehension_free (use := none) rfl hs hclos hkind hnames (wpAny_mono H (fun xv s₁ q => ?_) fun _ _ y => y)
  obtain ⟨r, x0, y0, c, t1, t2, t3, n, news, f, rfl, hh, F, N, hr, hsm, hn, hsz, he, fin⟩ := q
  refine wpAny_pyIter_range hr hsm ?_
  have W : Walks prog w A s₁.heap.objs.size [s₁.heap.objs.size] [s₁.heap.objs.size] n (fun i v => i < n ∧ ∃ t, v = .int (x0 + i * c) t)
      (fun i h' => IsRangeIter h' s₁.heap.objs.size (x0 + (i : Nat) * c) ((n : Int) - (i : Nat)) c) := (Walks.range hh _ x0 c n).bound
  have up : ∀ (ob : Obj), Keeps s₁.heap (s₁.heap.push ob) := fun ob b o e => Heap.get?_push_of_some _ e
  refine block_U (Fin := FinE b L m s₁ Q) (S := fun _ => True) W hsz (fun i h st => ⟨_, st⟩) (fun i h h' o nw st e e' _ _ _ => ?_) hcell hkind hx (by show IsRangeIter _ _ _ _ _; rw [hn]; simpa using Heap.get?_push_size _ rfl) (fun q hq => ?_)
    (fr_keeps F (up _)) (news_keeps N (up _)) (Nat.ne_of_lt F.ns.lt) (next_is_new F) (fun p hp => Nat.ne_of_lt (Heap.lt_size (N p hp).1)) trivial (compRest_of f trivial (he _) fun ys hys D h tk F' N' o1 => fin D h tk ys hys F' N' (off1_mem o1)) ?_
  · have st' : h.get? s₁.heap.objs.size = some _ := st
    show h'.get? s₁.heap.objs.size = some _
    rw [e', ← e]; exact st'
  · rw [List.mem_singleton.mp hq]
    show s₁.heap.objs.size < (s₁.heap.push _).objs.size
    rw [Heap.size_push]; exact Nat.lt_succ_self _
  · intro D C h tk m' ys news' F' N' o1 hn' hC₀ hD₀ hCL hDL hCD offC fin'
    refine ⟨m', hn', fun h'' hs'' => fin' D h'' tk (F'.change hs'' hCL hC₀) (fun p hp => ?_) o1⟩
    refine ⟨hs''.extBut _ _ ?_ (N' p hp).1, (N' p hp).2⟩
    rcases List.mem_cons.mp hp with rfl | hp
    · exact Ne.symm hCD
    · exact offC p hp
noncomputable def relabelS (scope cs : Scope) : Scope := { scope with names := scope.names.map fun (n, k) => if (k == .free && cs.kind == .function && cs.names.lookup n == some .cell) then (n, .cell) else (n, k) }
theorem Ev.comp {C : Addr} {cl2 : List (Str × Addr)} (V : Ev env cs L cl) : Ev (compEnvC scope cl2 C env) (relabelS scope cs) C cl2 := by
  refine ⟨?_, rfl, V.globals, V.builtins, rfl⟩
  show relabel scope env = _
  unfold relabel relabelS
  simp only [V.scope, V.kind]
theorem isCell_news {c : Addr} {ob : Obj} {v : Option Value} (N : News b L h news) (hm : (c, ob) ∈ news) (hd : ob.data = .cell v) : h.IsCell c v := ⟨ob, (N _ hm).1, hd⟩
theorem clos_of {env env' : Env} (e : env.cells = env'.cells) : closureFor scope env = closureFor scope env' := by unfold closureFor cellOf; rw [e]
noncomputable def envD (cl : List (Str × Addr)) : Env := envX (Str.ofString "") { kind := .function, names := [], isGenerator := false, isCoroutine := false } 0 0 .none cl
theorem Ev.clos {cl2 : List (Str × Addr)} (V : Ev env cs L cl) (e : closureFor scope (envD cl) = pure cl2) : closureFor scope env = pure cl2 := (clos_of V.cells).trans e
end comp
theorem enterC {prog : Program} {w : World} {A : Around} {E : Value → Shared → Prop} {h : Heap} {g : Array GenState} {d : Drawn} {t : Nat} {o : OsState} {n : Nat} {f : Addr} {fo : Obj} {fd : FuncData} {body : List Stmt}
    {args : List Value} {kw : List (Str × Value)} {binds : List (Str × Value)} {Q : Value → Shared → Prop}
    (G : Gd w h) (R : Room A (n + 1)) (hl : (KF w).lookup f = some fo) (hfd : fo.data = .func fd) (hcode : codeIn (KF w) fd.code fd.qualname = true) (hbody : fd.body = .stmts body)
    (hbind : BindsTo ⟨h, g, d, t, o⟩ fd ⟨args, kw⟩ binds) (hcl : fd.closure = [])
    (hkind : ∀ n, ∀ x ∈ binds, fd.scope.names.lookup x.1 = some .local ∨ (fd.scope.names.lookup x.1 = some .cell ∧ ((cellsFrom n fd.scope.names []).lookup x.1).isSome = true))
    (hnd : ((cellsFrom 0 fd.scope.names []).map (·.1)).Nodup)
    (hgl : fd.globals = mainGlobals) (hbl : fd.builtins = builtinsNs)
    (hco : fd.scope.isCoroutine = false) (hgen : fd.scope.isGenerator = false) (hk : fd.scope.kind = .function)
    (H : ∀ h₁ t₁ (A' : Around) (L : Addr) (env : Env) cells, Ev env fd.scope L (cellsFrom (L + 1) fd.scope.names []) → env.code = fd.code → env.qual = fd.qualname ++ Str.ofString ".<locals>." → h.objs.size ≤ L → Room A' n → Fr h L h₁ (bindL (fun x => fd.scope.names.lookup x) binds fun _ => none) → News h L h₁ cells →
      CellsAre (bindC (fun x => fd.scope.names.lookup x) binds fun _ => none) (cellsFrom (L + 1) fd.scope.names []) cells →
      wpAny (model prog w) A' (execs body env) (fun fl s' => Q (match fl with | .ret v => v | _ => .none) s') NoE ⟨h₁, g, d, t₁, o⟩) :
    wpAny (model prog w) A (call (.ref f) args kw) Q E ⟨h, g, d, t, o⟩ := by
  refine wpAny_call (codeAny_call_function R.depth (G.k _ _ hl) hfd hco hgen hbody (codeRec_of G.k hcode) (hbind _ _ _ _ ?_))
  rw [hcl]
  refine wpAny_newFunctionEnv_cells hk (hkind _) fun env' he s' x => ?_
  obtain ⟨h₁, tk, rfl, hk₁⟩ := x.done
  have e : env' = envX fd.qualname fd.scope h.objs.size f fd.code (cellsFrom (h.objs.size + 1) fd.scope.names []) := by
    rw [he, hgl, hbl]; rfl
  subst e
  refine ⟨G.nolimit.keeps hk₁, codeAny_func ?_⟩
  obtain ⟨cells, NC, Y⟩ := Cl.news (h₀ := h) (Nat.le_refl _) fun n c hm => ⟨x.cell n c (lookup_of_mem_nodup (cellsFrom_names fd.scope.names 0 (h.objs.size + 1) [] [] rfl ▸ hnd) hm), x.above n c hm⟩
  exact wpAny_mono (H h₁ tk _ h.objs.size _ cells ⟨rfl, rfl, rfl, rfl, rfl⟩ rfl rfl (Nat.le_refl _) R.deeper ⟨x.toInCall.ns, hk₁, Nat.le_refl _⟩ NC Y) (fun fl s' q => q) fun _ _ y => y.elim

end

section
noncomputable def fours (fg : List Int) (n : Nat) : List Int := (List.range n).map fun i => fg.getD (2 * i) 0 * 16 + fg.getD (2 * i + 1) 0
theorem small_2 (x : Int) (h : x ≤ 100000 ∧ 0 ≤ x) : Builtin.Range.small 0 x 2 = true := by
  unfold Builtin.Range.small Builtin.Range.rangeSize
  simp only [Builtin.Range.rangeFitsLong, Bool.and_eq_true, Bool.or_eq_true, decide_eq_true_eq, beq_iff_eq]
  refine ⟨⟨?_, ?_⟩, ?_⟩ <;> (repeat' split) <;> simp <;> (first | lia | omega)
theorem fours_in {fg : List Int} (h : ∀ v ∈ fg, 0 ≤ v ∧ v < 16) (n : Nat) : ∀ c ∈ fours fg n, 0 ≤ c ∧ c < 256 := by
  intro c hc
  obtain ⟨i, _, rfl⟩ := List.mem_map.mp hc
  have h0 := getD_range h (by decide) (2 * i)
  have h1 := getD_range h (by decide) (2 * i + 1)
  (first | lia | omega)


section
variable {prog : Program} {w : World} {A : Around} {E : Value → Shared → Prop} {h : Heap} {g : Array GenState} {d : Drawn} {t : Nat} {o : OsState} {va : Addr} {its : Array Value} {fg : List Int} {n : Nat} {Q : Value → Shared → Prop}
theorem fours_spec (G : Gd w h) (R : Room A 1) (hl : h.IsList va its) (hi : IntsAre its.toList fg) (hv : ∀ v ∈ fg, 0 ≤ v ∧ v < 16) (hlen : fg.length = 2 * n) (hn : n ≤ 1000)
    (H : ∀ h' t' by' tb', Keeps h h' → KBw.bInts by' = fours fg n → Q (.bytes by' tb') ⟨h', g, d, t', o⟩) :
    wpAny (model prog w) A (call (.ref 123) [.ref va]) Q E ⟨h, g, d, t, o⟩ := by
  refine enterC (n := 0) (binds := [(Str.ofString "figures", .ref va)]) G R rfl rfl (by kernel_rfl) rfl (BindsTo.of_eq rfl) rfl (by intro n x hx; simp only [List.mem_singleton] at hx; subst hx; exact .inr ⟨rfl, rfl⟩) (by decide) rfl rfl rfl rfl rfl ?_
  intro h₁ t₁ A' L env cells V hcode hqual hL R' F N Y
  dsimp only at V
  have hsz : its.size = fg.length := by have := hi.length; simpa using this
  obtain ⟨oc, rfl, hoc⟩ := CellsAre.one Y
  have hc0 : h₁.IsCell (L + 1) (some (.ref va)) := isCell_news N (List.Mem.head _) hoc
  have hl1 : h₁.IsList va its := isList_keep hl F.keep
  with_reducible (refine r_seq ?_; refine wpAny_Return_some ?_; refine r_callN ?_)
  (with_reducible refine' r_boot ?V ?G ?hk ?hx ?eB ?_); (case V => assumption); (case hx => kernel_rfl); (case eB => with_reducible exact g_bytes _); (case G => assumption); (case hk => exact Fr.keep (by assumption))
  (with_reducible refine r_cwType ?_ ?h1 ?h2); (case h1 => rfl); (case h2 => rfl)
  (with_reducible refine r_args ?_ ?h1); (case h1 => rfl)
  refine r_listcompR F (Ev.clos V (cl2 := [(Str.ofString "figures", L + 1)]) rfl) (by decide) rfl (by decide) rfl (fun _ => rfl) ?_
  with_reducible refine r_callN ?_
  (with_reducible refine' r_boot ?V ?G ?hk ?hx ?eB ?_); (case V => assumption); (case hx => kernel_rfl); (case eB => with_reducible exact g_range _); (case G => assumption); (case hk => exact Fr.keep (by assumption))
  (with_reducible refine r_cwType ?_ ?h1 ?h2); (case h1 => rfl); (case h2 => rfl)
  (with_reducible refine r_args ?_ ?h1); (case h1 => rfl)
  with_reducible refine r_cint (fun _ => ?_)
  (with_reducible refine r_args ?_ ?h1); (case h1 => rfl)
  with_reducible refine r_callN ?_
  (with_reducible refine' r_boot ?V ?G ?hk ?hx ?eB ?_); (case V => assumption); (case hx => kernel_rfl); (case eB => with_reducible exact g_len _); (case G => assumption); (case hk => exact Fr.keep (by assumption))
  (with_reducible refine r_cwBuiltin ?_ ?h1 ?h2); (case h1 => rfl); (case h2 => rfl)
  (with_reducible refine r_args ?_ ?h1); (case h1 => rfl)
  (with_reducible refine' r_cell ?V ?hc ?hv ?hx ?_); (case V => assumption); (case hx => decide +kernel); (case hc => rfl); (case hv => assumption)
  with_reducible refine r_args0 ?_
  refine r_lenList (isList_keep hl (Fr.keep (by assumption))) (by (first | lia | omega)) (fun _ _ => ?_)
  (with_reducible refine r_args ?_ ?h1); (case h1 => rfl)
  with_reducible (refine r_cint (fun _ => ?_); refine r_args0 ?_)
  (with_reducible refine' r_range3 ?F ?N ?h1 ?h2 ?_); (case F => assumption); (case N => assumption); (case h1 => decide); (case h2 => decide); intro _ _ _ _ _ _ _ _ _ _
  rename_i r h2 t2 _ _ _ _ hr F2 N2
  have hrs : Builtin.Range.rangeSize 0 (its.size : Int) 2 = ((n : Nat) : Int) := by
    rw [hsz, hlen]
    unfold Builtin.Range.rangeSize
    split <;> (try split) <;> (first | lia | omega)
  refine ⟨r, _, _, _, _, _, _, n, _, (fun i => fg.getD (2 * i) 0 * 16 + fg.getD (2 * i + 1) 0), rfl, R'.hh, F2, N2, hr, ?_, hrs, ?_, ?_, ?_⟩
  · rw [hsz]; exact small_2 _ (by (first | lia | omega))
  · rw [sizeLine_eq]; (first | lia | omega)
  · intro h3 i v C m₂ h4 tk hin hP hn hx F4 N4
    obtain ⟨_, t', rfl⟩ := hP
    have V' := V.comp (scope := { kind := .function, names := [(Str.ofString ".0", .local), (Str.ofString "at", .local), (Str.ofString "figures", .free)], isGenerator := false, isCoroutine := false }) (C := C) (cl2 := [(Str.ofString "figures", L + 1)])
    have hc4 : h4.IsCell (L + 1) (some (.ref va)) := isCell_news N4 (List.Mem.head _) hoc
    have hl4 : h4.IsList va its := isList_keep hl F4.keep
    with_reducible (refine wpAny_BinOp ?_; refine wpAny_BinOp ?_; refine Subscript_ ?_)
    (with_reducible refine' r_cell ?V ?hc ?hv ?hx ?_); (case V => assumption); (case hx => decide +kernel); (case hc => rfl); (case hv => assumption)
    (with_reducible refine' r_local ?V ?hn ?hv ?hx ?_); (case V => assumption); (case hx => kernel_rfl); (case hn => first | exact Fr.ns (by assumption) | assumption); (case hv => walk_at "mlk")
    (with_reducible refine' r_itemB (B := 16) ?hl ?hi ?hb ?h0 ?h1 ?hz ?hs ?_); (case hl => assumption); (case hi => assumption); (case hb => assumption); (case h0 => (first | lia | omega)); (case h1 => (first | lia | omega)); (case hz => (first | lia | omega)); (case hs => rfl); intro _ _ _ _ _
    with_reducible refine r_cint (fun _ => ?_)
    (with_reducible refine r_mul ?h1 ?h2 (fun _ => ?_)); (case h1 => (first | lia | omega)); (case h2 => (first | lia | omega))
    with_reducible refine Subscript_ ?_
    (with_reducible refine' r_cell ?V ?hc ?hv ?hx ?_); (case V => assumption); (case hx => decide +kernel); (case hc => rfl); (case hv => assumption)
    with_reducible refine wpAny_BinOp ?_
    (with_reducible refine' r_local ?V ?hn ?hv ?hx ?_); (case V => assumption); (case hx => kernel_rfl); (case hn => first | exact Fr.ns (by assumption) | assumption); (case hv => walk_at "mlk")
    with_reducible (refine r_cint (fun _ => ?_); refine r_add (fun _ => ?_))
    (with_reducible refine' r_itemB (B := 16) ?hl ?hi ?hb ?h0 ?h1 ?hz ?hs ?_); (case hl => assumption); (case hi => assumption); (case hb => assumption); (case h0 => (first | lia | omega)); (case h1 => (first | lia | omega)); (case hz => (first | lia | omega)); (case hs => rfl); intro _ _ _ _ _
    with_reducible refine r_add (fun _ => ?_)
    have e0 : (0 + (i : Int) * 2).toNat = 2 * i := by (first | lia | omega)
    have e1 : (0 + (i : Int) * 2 + 1).toNat = 2 * i + 1 := by (first | lia | omega)
    simp only [e0, e1] at *
    subst_vars
    exact ⟨_, _, _, rfl, rfl, fun _ _ e => e⟩
  · intro D h3 tk ys hys F3 N3 hne
    with_reducible refine r_args0 ?_
    refine r_mkBytes (isList_news (its := ys.toArray) (n := ys.length) N3 (List.Mem.head _)) hys (fours_in hv n) ?_ R'.hh ?_
    · simp; (first | lia | omega)
    · intro h5 t5 by5 tb5 hk5 hb5
      exact H _ _ _ _ (by first | exact Fr.keep (by assumption) | exact Keeps.trans (Fr.keep (by assumption)) (by assumption)) hb5
end

end

section
/-- the order of two lists of ints -/
noncomputable def lexlt : List Int → List Int → Bool
  | [], [] => false
  | [], _ :: _ => true
  | _ :: _, [] => false
  | x :: xs, y :: ys => if x = y then lexlt xs ys else decide (x < y)
section lists
open AutoSeq1 (wpAny_loadPart')
open MeetsSeq MeetsSeq2 MeetsSeq3 SeqRoads2
theorem lt_loop (l b : Addr) (items items2 : Array Value) (n n2 : Nat) (dd dd2 : Option Addr) (sl sl2 : Array (Option Value)) (ns ms : List Int) (hi : IntsAre items.toList ns) (hj : IntsAre items2.toList ms) (k : Nat) :
    ∀ i : Nat, ns.length - i = k → i ≤ ns.length → i ≤ ms.length → Meets (Builtin.«list.__eq__.loop» ⟨[.ref l, .ref b, rawInt i, rawInt 0], []⟩)
      (fun A R s => s.heap.get? l = some { cls := .type "list", dict := dd, data := .seq items n, slots := sl } ∧ s.heap.get? b = some { cls := .type "list", dict := dd2, data := .seq items2 n2, slots := sl2 } ∧
        R (.ok (.ret (.bool (lexlt (ns.drop i) (ms.drop i))))) s) := by
  have hs1 : items.size = ns.length := by have := hi.length; simpa using this
  have hs2 : items2.size = ms.length := by have := hj.length; simpa using this
  induction k with
  | zero =>
    intro i hk hle hle2 prog w A R s h
    obtain ⟨hp, g, d, tk, os⟩ := s; obtain ⟨hl, hb, h⟩ := h
    wp_walk using wpAny_loadPart' hl, wpAny_loadPart' hb
    have hi1 : items[((i : Nat) : Int).toNat]? = none := by simp; (first | lia | omega)
    have hd : ns.drop i = [] := by simp; (first | lia | omega)
    rw [hd] at h
    rw [hi1]
    wp_walk using wpAny_loadPart' hl, wpAny_loadPart' hb
    show R (.ok (.ret (.bool (decide (items.size < items2.size))))) _
    have e : decide (items.size < items2.size) = lexlt [] (ms.drop i) := by
      cases q : ms.drop i with
      | nil => have := congrArg List.length q; simp at this; simp [lexlt]; (first | lia | omega)
      | cons y ys => have := congrArg List.length q; simp at this; simp [lexlt]; (first | lia | omega)
    rw [e]; exact h
  | succ k ih =>
    intro i hk hle hle2 prog w A R s h
    obtain ⟨hp, g, d, tk, os⟩ := s; obtain ⟨hl, hb, h⟩ := h
    have hlt : i < ns.length := by (first | lia | omega)
    wp_walk using wpAny_loadPart' hl, wpAny_loadPart' hb
    obtain ⟨tx, hx⟩ := hi.get i ns[i] (by simp [hlt])
    have hi1 : items[((i : Nat) : Int).toNat]? = some (.int ns[i] tx) := by
      rw [← Array.getElem?_toList]; simpa using hx
    have hd : ns.drop i = ns[i] :: ns.drop (i + 1) := List.drop_eq_getElem_cons hlt
    have hc : ((i : Int) + 1) = ((i + 1 : Nat) : Int) := by push_cast; rfl
    rw [hi1]
    by_cases hlt2 : i < ms.length
    · obtain ⟨ty, hy⟩ := hj.get i ms[i] (by simp [hlt2])
      have hi2 : items2[((i : Nat) : Int).toNat]? = some (.int ms[i] ty) := by
        rw [← Array.getElem?_toList]; simpa using hy
      have hd2 : ms.drop i = ms[i] :: ms.drop (i + 1) := List.drop_eq_getElem_cons hlt2
      rw [hd, hd2] at h
      rw [hi2]
      refine wpAny_bind (wpAny_eqBool_int ?_)
      by_cases he : ns[i] = ms[i]
      · have hb' : (ns[i] == ms[i]) = true := by rw [he]; exact beq_self_eq_true _
        rw [hb']
        wp_walk
        rw [hc]
        unfold lexlt at h
        rw [if_pos he] at h
        exact ⟨plainId_quiet plain_eq_loop _, codeAny_builtin entry_eq_loop (by
          rw [Around.under_plainId plain_eq_loop _]
          exact ih (i + 1) (by (first | lia | omega)) (by (first | lia | omega)) (by (first | lia | omega)) prog w A R _ ⟨hl, hb, h⟩)⟩
      · have hb' : (ns[i] == ms[i]) = false := beq_eq_false_iff_ne.mpr he
        rw [hb']
        wp_walk using wpAny_loadPart' hl, wpAny_loadPart' hb
        rw [hi1, hi2]
        unfold lexlt at h
        rw [if_neg he] at h
        show wpAny _ _ (compareOp .Lt (.int ns[i] tx) (.int ms[i] ty) >>= fun v => ret v) _ _ _
        exact wpAny_bind (P.lt_int (wpAny_pure h))
    · have hi2 : items2[((i : Nat) : Int).toNat]? = none := by simp; (first | lia | omega)
      have hd2 : ms.drop i = [] := by simp; (first | lia | omega)
      rw [hd, hd2] at h
      rw [hi2]
      wp_walk using wpAny_loadPart' hl, wpAny_loadPart' hb
      show R (.ok (.ret (.bool (decide (items.size < items2.size))))) _
      have e : decide (items.size < items2.size) = lexlt (ns[i] :: ns.drop (i + 1)) [] := by
        simp [lexlt]; (first | lia | omega)
      rw [e]; exact h
theorem list_lt (l b : Addr) (items items2 : Array Value) (n n2 : Nat) (dd dd2 : Option Addr) (sl sl2 : Array (Option Value)) (ns ms : List Int) (hi : IntsAre items.toList ns) (hj : IntsAre items2.toList ms) :
    Meets (Builtin.«list.__lt__» ⟨[.ref l, .ref b], []⟩)
      (fun A R s => s.heap.get? l = some { cls := .type "list", dict := dd, data := .seq items n, slots := sl } ∧ s.heap.get? b = some { cls := .type "list", dict := dd2, data := .seq items2 n2, slots := sl2 } ∧
        R (.ok (.ret (.bool (lexlt ns ms)))) s) := by
  intro prog w A R s h
  obtain ⟨hp, g, d, tk, os⟩ := s; obtain ⟨hl, hb, h⟩ := h
  have f3 := AutoSeq1.sub_list_list
  wp_walk using wpAny_loadPart' hl, wpAny_loadPart' hb
  exact ⟨plainId_quiet plain_eq_loop _, codeAny_builtin entry_eq_loop (by
    rw [Around.under_plainId plain_eq_loop _]
    exact lt_loop l b items items2 n n2 dd dd2 sl sl2 ns ms hi hj _ 0 rfl (Nat.zero_le _) (Nat.zero_le _) prog w A R _ ⟨hl, hb, by simpa using h⟩)⟩
end lists
section rules
variable {prog : Program} {w : World} {A : Around} {E : Value → Shared → Prop} {b h : Heap} {g : Array GenState} {d : Drawn} {t : Nat} {o : OsState} {a a2 : Addr} {its its2 : Array Value} {ns ms : List Int} {Q : Value → Shared → Prop}
theorem r_ltL (hl : h.IsList a its) (hb : h.IsList a2 its2) (hi : IntsAre its.toList ns) (hj : IntsAre its2.toList ms) (hu : A.units < cLine) (H : Q (.bool (lexlt ns ms)) ⟨h, g, d, t, o⟩) :
    wpAny (model prog w) A (compareOp .Lt (.ref a) (.ref a2)) Q E ⟨h, g, d, t, o⟩ := by
  show wpAny _ _ (richCompare .Lt (.ref a) (.ref a2)) _ _ _
  obtain ⟨⟨cls, dd, data, sl⟩, ho, hc, n, hd⟩ := id hl
  obtain ⟨⟨cls2, dd2, data2, sl2⟩, ho2, hc2, n2, hd2⟩ := id hb
  simp only at hc hd hc2 hd2
  subst hc hd hc2 hd2
  exact richCompare_meets_room (op := .Lt) ⟨_, ho, rfl⟩ ⟨_, ho2, rfl⟩ PySem.F.slot_list_lt PySem.F.entry_list_lt (PySem.F.args_list_lt_2 _ _) (list_lt a a2 its its2 n n2 dd dd2 sl sl2 ns ms hi hj)
    ⟨ho, ho2, show Value.bool (lexlt ns ms) ≠ Value.notImplemented ∧ Q (.bool (lexlt ns ms)) ⟨h, g, d, t, o⟩ from ⟨(fun x => nomatch x), H⟩⟩ hu
end rules

end

section
/-- a key function: it gives a new list of ints -/
structure KeyOk (prog : Program) (w : World) (kf : Addr) (base : Heap) (vals : List Int) (F : Int → List Int) (nk : Nat) : Prop where
  obj : ∃ ko fd, base.get? kf = some ko ∧ ko.data = .func fd
  call : ∀ (v : Int) (tv : Tok) (h : Heap) (g : Array GenState) (d : Drawn) (t : Nat) (o : OsState) (A : Around) (Q E : Value → Shared → Prop), v ∈ vals → Keeps base h → Room A nk →
    (∀ h' t' l lits, Keeps h h' → h'.IsList l lits → IntsAre lits.toList (F v) → Q (.ref l) ⟨h', g, d, t', o⟩) → wpAny (model prog w) A (call (.ref kf) [.int v tv]) Q E ⟨h, g, d, t, o⟩
section rules
variable {prog : Program} {w : World} {A : Around} {E : Value → Shared → Prop} {b h : Heap} {g : Array GenState} {d : Drawn} {t : Nat} {o : OsState} {env : Env} {pos : Pos} {Q : Value → Shared → Prop}
theorem r_callKey {kf : Addr} {ko : Obj} {fd : FuncData} {e : Expr} {rest : List Expr} (ho : b.get? kf = some ko) (hd : ko.data = .func fd)
    (H : wpAny (model prog w) A (spliced (backTo pos (starEach (e :: rest) env))) (fun vs s₁ => Keeps b s₁.heap ∧ wpAny (model prog w) A (call (.ref kf) vs) Q E s₁) E ⟨h, g, d, t, o⟩)
    (he : starEach (e :: rest) env = (false, eval e env) :: starEach rest env) (hplain : (backTo pos (starEach rest env)).any (·.1) = false) :
    wpAny (model prog w) A (callWith pos (.ref kf) [] (backTo pos (starEach (e :: rest) env)) []) Q E ⟨h, g, d, t, o⟩ := by
  rw [he] at H ⊢
  refine callWith_of (P := fun hp => hp.get? kf = some ko) (by show ((false || (backTo pos (starEach rest env)).any (·.1)) || false) = false; rw [hplain]; rfl) ?_ (evalArgs_plain (wpAny_mono H (fun vs s₁ q => ⟨q.1 _ _ ho, q.2⟩) fun _ _ y => y))
  intro hp e'
  refine ⟨.frame, .inl rfl, (Looks.ld (part := none) e').andThen ?_⟩
  rw [hd]; exact .now
end rules


section
variable {prog : Program} {w : World} {A : Around} {E : Value → Shared → Prop} {h : Heap} {g : Array GenState} {d : Drawn} {t : Nat} {o : OsState} {va xa kf : Addr} {its xits : Array Value} {vals goal : List Int} {F : Int → List Int} {nk r : Nat} {Q : Value → Shared → Prop}
theorem mi2 {lo hi : Nat} (h : lo < hi) : lo ≤ (lo + hi) / 2 ∧ (lo + hi) / 2 < hi := by (first | lia | omega)
inductive JR (va xa kf : Addr) (r len : Nat) (n : Nat) (m : Str → Option Value) (nx : List (Addr × Obj)) : Prop
  | mk (lo hi : Nat) (tl th : Tok) : nx = [] → m (Str.ofString "lo") = some (.int (lo : Int) tl) → m (Str.ofString "hi") = some (.int (hi : Int) th) → m (Str.ofString "a") = some (.ref va) → m (Str.ofString "x") = some (.ref xa) → m (Str.ofString "key") = some (.ref kf) →
    lo ≤ r → r ≤ hi → hi ≤ len → n = hi - lo → JR va xa kf r len n m nx
theorem bisect_right_spec (G : Gd w h) (R : Room A (nk + 1)) (hl : h.IsList va its) (hi : IntsAre its.toList vals) (hx : h.IsList xa xits) (hxi : IntsAre xits.toList goal) (K : KeyOk prog w kf h vals F nk) (hlen : vals.length ≤ 1000) (hr : r ≤ vals.length)
    (hP : ∀ i (hi : i < vals.length), lexlt goal (F vals[i]) = decide (r ≤ i))
    (H : ∀ h' t' tr, Keeps h h' → Q (.int (r : Int) tr) ⟨h', g, d, t', o⟩) :
    wpAny (model prog w) A (call (.ref 30) [.ref va, .ref xa] [(Str.ofString "key", .ref kf)]) Q E ⟨h, g, d, t, o⟩ := by
  refine enter (n := nk) G R rfl rfl (by kernel_rfl) rfl (binds_K G.k rfl rfl rfl rfl rfl) (by decide) (locs rfl) rfl rfl rfl rfl rfl ?_
  intro h₁ t₁ A' L env V hL R' F N
  dsimp only at V
  have hsz : its.size = vals.length := by have := hi.length; simpa using this
  obtain ⟨ko, fd, hko, hkd⟩ := K.obj
  with_reducible (refine r_seq ?_; refine wpAny_If ?_)
  (with_reducible refine r_testCmp ?_ ?h1); (case h1 => rfl)
  (with_reducible refine' r_local ?V ?hn ?hv ?hx ?_); (case V => assumption); (case hx => kernel_rfl); (case hn => first | exact Fr.ns (by assumption) | assumption); (case hv => walk_at "mlk")
  with_reducible (refine r_cint (fun _ => ?_); refine r_lt ?_; refine wpAny_truthy_bool ?_)
  (with_reducible refine ite_f ?hd ?_); (case hd => first | rfl | decide)
  with_reducible (refine wpAny_execs_nil ?_; refine sq_next ?_; refine r_seq ?_; refine wpAny_If ?_)
  (with_reducible refine r_testCmp ?_ ?h1); (case h1 => rfl)
  (with_reducible refine' r_local ?V ?hn ?hv ?hx ?_); (case V => assumption); (case hx => kernel_rfl); (case hn => first | exact Fr.ns (by assumption) | assumption); (case hv => walk_at "mlk")
  with_reducible (refine r_cnone ?_; refine r_is_none ?_; refine wpAny_truthy_bool ?_)
  (with_reducible refine ite_t ?hd ?_); (case hd => first | rfl | decide)
  with_reducible refine r_seq ?_
  (with_reducible refine r_assign ?_ ?h1); (case h1 => rfl)
  with_reducible refine r_callN ?_
  (with_reducible refine' r_boot ?V ?G ?hk ?hx ?eB ?_); (case V => assumption); (case hx => kernel_rfl); (case eB => with_reducible exact g_len _); (case G => assumption); (case hk => exact Fr.keep (by assumption))
  (with_reducible refine r_cwBuiltin ?_ ?h1 ?h2); (case h1 => rfl); (case h2 => rfl)
  (with_reducible refine r_args ?_ ?h1); (case h1 => rfl)
  (with_reducible refine' r_local ?V ?hn ?hv ?hx ?_); (case V => assumption); (case hx => kernel_rfl); (case hn => first | exact Fr.ns (by assumption) | assumption); (case hv => walk_at "mlk")
  with_reducible refine r_args0 ?_
  refine r_lenList (isList_keep hl (Fr.keep (by assumption))) (by (first | lia | omega)) (fun _ _ => ?_)
  (with_reducible refine' r_storeG ?V ?F ?N ?hx ?_); (case V => assumption); (case F => assumption); (case N => assumption); (case hx => kernel_rfl); intro _ _ _ _ _ _
  with_reducible (refine sq_next ?_; refine wpAny_execs_nil ?_; refine sq_next ?_; refine r_seq ?_; refine wpAny_If ?_)
  (with_reducible refine r_testCmp ?_ ?h1); (case h1 => rfl)
  (with_reducible refine' r_local ?V ?hn ?hv ?hx ?_); (case V => assumption); (case hx => kernel_rfl); (case hn => first | exact Fr.ns (by assumption) | assumption); (case hv => walk_at "mlk")
  with_reducible (refine r_cnone ?_; refine r_is_none ?_; refine wpAny_truthy_bool ?_)
  (with_reducible refine ite_f ?hd ?_); (case hd => first | rfl | decide)
  with_reducible refine r_seq ?_
  refine r_while (JR va xa kf r vals.length) (vals.length - 0) (by assumption) (by assumption) ?_ ?_
  · exact ⟨0, vals.length, _, _, rfl, by walk_at "mlk", by rw [← hsz]; walk_at "mlk", by walk_at "mlk", by walk_at "mlk", by walk_at "mlk", Nat.zero_le _, hr, Nat.le_refl _, rfl⟩
  · rintro n m₁ news₁ h2 t2 ⟨lo, hi', tl, th, rfl, m1, m2, m3, m4, m5, b1, b2, b3, rfl⟩ F2 N2
    (with_reducible refine r_testCmp ?_ ?h1); (case h1 => rfl)
    (with_reducible refine' r_local ?V ?hn ?hv ?hx ?_); (case V => assumption); (case hx => kernel_rfl); (case hn => first | exact Fr.ns (by assumption) | assumption); (case hv => walk_at "mlk")
    (with_reducible refine' r_local ?V ?hn ?hv ?hx ?_); (case V => assumption); (case hx => kernel_rfl); (case hn => first | exact Fr.ns (by assumption) | assumption); (case hv => walk_at "mlk")
    with_reducible (refine r_lt ?_; refine wpAny_truthy_bool ?_)
    by_cases hc : lo < hi'
    · have hc' : decide ((lo : Int) < (hi' : Int)) = true := decide_eq_true (Int.ofNat_lt.mpr hc)
      refine ite_t hc' ?_
      with_reducible refine r_seq ?_
      (with_reducible refine r_assign ?_ ?h1); (case h1 => rfl)
      with_reducible (refine wpAny_BinOp ?_; refine wpAny_BinOp ?_)
      (with_reducible refine' r_local ?V ?hn ?hv ?hx ?_); (case V => assumption); (case hx => kernel_rfl); (case hn => first | exact Fr.ns (by assumption) | assumption); (case hv => walk_at "mlk")
      (with_reducible refine' r_local ?V ?hn ?hv ?hx ?_); (case V => assumption); (case hx => kernel_rfl); (case hn => first | exact Fr.ns (by assumption) | assumption); (case hv => walk_at "mlk")
      with_reducible (refine r_add (fun _ => ?_); refine r_cint (fun _ => ?_))
      (with_reducible refine r_div ?h1 ?h2 (fun _ => ?_)); (case h1 => (first | lia | omega)); (case h2 => (first | lia | omega))
      (with_reducible refine' r_storeG ?V ?F ?N ?hx ?_); (case V => assumption); (case F => assumption); (case N => assumption); (case hx => kernel_rfl); intro _ _ _ _ _ _
      with_reducible (refine sq_next ?_; refine r_seq ?_; refine wpAny_If ?_)
      (with_reducible refine r_testCmp ?_ ?h1); (case h1 => rfl)
      (with_reducible refine' r_local ?V ?hn ?hv ?hx ?_); (case V => assumption); (case hx => kernel_rfl); (case hn => first | exact Fr.ns (by assumption) | assumption); (case hv => walk_at "mlk")
      with_reducible refine r_callN ?_
      (with_reducible refine' r_local ?V ?hn ?hv ?hx ?_); (case V => assumption); (case hx => kernel_rfl); (case hn => first | exact Fr.ns (by assumption) | assumption); (case hv => walk_at "mlk")
      (with_reducible refine r_callKey (b := _) (by assumption) (by assumption) ?_ ?h1 ?h2); (case h1 => rfl); (case h2 => rfl)
      (with_reducible refine r_args ?_ ?h1); (case h1 => rfl)
      with_reducible refine Subscript_ ?_
      (with_reducible refine' r_local ?V ?hn ?hv ?hx ?_); (case V => assumption); (case hx => kernel_rfl); (case hn => first | exact Fr.ns (by assumption) | assumption); (case hv => walk_at "mlk")
      (with_reducible refine' r_local ?V ?hn ?hv ?hx ?_); (case V => assumption); (case hx => kernel_rfl); (case hn => first | exact Fr.ns (by assumption) | assumption); (case hv => walk_at "mlk")
      have hmid : ((lo : Int) + (hi' : Int)) / 2 = (((lo + hi') / 2 : Nat) : Int) := by (first | lia | omega)
      have hml : (lo + hi') / 2 < vals.length := Nat.lt_of_lt_of_le (mi2 hc).2 b3
      refine r_itemI (isList_keep hl (Fr.keep (by assumption))) hi (by (first | lia | omega)) (by (first | lia | omega)) (by (first | lia | omega)) rfl (fun _ => ?_)
      have hgd : vals.getD (((lo : Int) + (hi' : Int)) / 2).toNat 0 = vals[(lo + hi') / 2] := by
        rw [hmid, Int.toNat_natCast]; simp [List.getD, hml]
      with_reducible (refine r_args0 ?_; refine And.intro (Fr.keep (by assumption)) ?_)
      refine K.call _ _ _ _ _ _ _ _ _ _ (by rw [hgd]; exact List.getElem_mem _) (Fr.keep (by assumption)) (Room.le (by assumption) (by (first | lia | omega))) ?_
      intro h3 t3 l lits hk3 hl3 hli3
      have F3 := fr_keeps (by assumption) hk3
      have N3 := news_keeps (by assumption) hk3
      rw [hgd] at hli3
      refine r_ltL (isList_keep hx F3.keep) hl3 hxi hli3 R'.units ?_
      rw [hP _ hml]
      by_cases hc2 : r ≤ (lo + hi') / 2
      · rw [decide_eq_true hc2]
        with_reducible refine wpAny_truthy_bool ?_
        (with_reducible refine ite_t ?hd ?_); (case hd => first | rfl | decide)
        with_reducible refine r_seq ?_
        (with_reducible refine r_assign ?_ ?h1); (case h1 => rfl)
        (with_reducible refine' r_local ?V ?hn ?hv ?hx ?_); (case V => assumption); (case hx => kernel_rfl); (case hn => first | exact Fr.ns (by assumption) | assumption); (case hv => walk_at "mlk")
        (with_reducible refine' r_storeG ?V ?F ?N ?hx ?_); (case V => assumption); (case F => assumption); (case N => assumption); (case hx => kernel_rfl); intro _ _ _ _ _ _
        with_reducible (refine sq_next ?_; refine wpAny_execs_nil ?_; refine sq_next ?_; refine wpAny_execs_nil ?_)
        refine WEnd.intro (k := (lo + hi') / 2 - lo) (by assumption) (by assumption) (Nat.sub_lt_sub_right (mi2 hc).1 (mi2 hc).2) ⟨lo, (lo + hi') / 2, _, _, rfl, by walk_at "mlk", by rw [← hmid]; walk_at "mlk", by walk_at "mlk", by walk_at "mlk", by walk_at "mlk", b1, hc2, Nat.le_of_lt hml, rfl⟩
      · rw [decide_eq_false hc2]
        with_reducible refine wpAny_truthy_bool ?_
        (with_reducible refine ite_f ?hd ?_); (case hd => first | rfl | decide)
        with_reducible refine r_seq ?_
        (with_reducible refine r_assign ?_ ?h1); (case h1 => rfl)
        with_reducible refine wpAny_BinOp ?_
        (with_reducible refine' r_local ?V ?hn ?hv ?hx ?_); (case V => assumption); (case hx => kernel_rfl); (case hn => first | exact Fr.ns (by assumption) | assumption); (case hv => walk_at "mlk")
        with_reducible (refine r_cint (fun _ => ?_); refine r_add (fun _ => ?_))
        (with_reducible refine' r_storeG ?V ?F ?N ?hx ?_); (case V => assumption); (case F => assumption); (case N => assumption); (case hx => kernel_rfl); intro _ _ _ _ _ _
        with_reducible (refine sq_next ?_; refine wpAny_execs_nil ?_; refine sq_next ?_; refine wpAny_execs_nil ?_)
        have hmid1 : (((lo + hi') / 2 + 1 : Nat) : Int) = ((lo : Int) + (hi' : Int)) / 2 + 1 := by (first | lia | omega)
        refine WEnd.intro (k := hi' - ((lo + hi') / 2 + 1)) (by assumption) (by assumption) (Nat.sub_lt_sub_left hc (Nat.lt_succ_of_le (mi2 hc).1)) ⟨(lo + hi') / 2 + 1, hi', _, _, rfl, by rw [hmid1]; walk_at "mlk", by walk_at "mlk", by walk_at "mlk", by walk_at "mlk", by walk_at "mlk", Nat.not_le.mp hc2, b2, b3, rfl⟩
    · have hc' : decide ((lo : Int) < (hi' : Int)) = false := decide_eq_false (fun x => hc (Int.ofNat_lt.mp x))
      refine ite_f hc' ?_
      with_reducible (refine wpAny_execs_nil ?_; refine sq_next ?_; refine wpAny_execs_nil ?_; refine sq_next ?_; refine r_seq ?_; refine wpAny_Return_some ?_)
      (with_reducible refine' r_local ?V ?hn ?hv ?hx ?_); (case V => assumption); (case hx => kernel_rfl); (case hn => first | exact Fr.ns (by assumption) | assumption); (case hv => walk_at "mlk")
      with_reducible refine sq_ret ?_
      have e : lo = r := by (first | lia | omega)
      subst e
      exact H _ _ _ (by first | exact Fr.keep (by assumption) | exact Keeps.trans (Fr.keep (by assumption)) (by assumption))
theorem bisect_left_spec (G : Gd w h) (R : Room A (nk + 1)) (hl : h.IsList va its) (hi : IntsAre its.toList vals) (hx : h.IsList xa xits) (hxi : IntsAre xits.toList goal) (K : KeyOk prog w kf h vals F nk) (hlen : vals.length ≤ 1000) (hr : r ≤ vals.length)
    (hP : ∀ i (hi : i < vals.length), lexlt (F vals[i]) goal = decide (i < r))
    (H : ∀ h' t' tr, Keeps h h' → Q (.int (r : Int) tr) ⟨h', g, d, t', o⟩) :
    wpAny (model prog w) A (call (.ref 39) [.ref va, .ref xa] [(Str.ofString "key", .ref kf)]) Q E ⟨h, g, d, t, o⟩ := by
  refine enter (n := nk) G R rfl rfl (by kernel_rfl) rfl (binds_K G.k rfl rfl rfl rfl rfl) (by decide) (locs rfl) rfl rfl rfl rfl rfl ?_
  intro h₁ t₁ A' L env V hL R' F N
  dsimp only at V
  have hsz : its.size = vals.length := by have := hi.length; simpa using this
  obtain ⟨ko, fd, hko, hkd⟩ := K.obj
  with_reducible (refine r_seq ?_; refine wpAny_If ?_)
  (with_reducible refine r_testCmp ?_ ?h1); (case h1 => rfl)
  (with_reducible refine' r_local ?V ?hn ?hv ?hx ?_); (case V => assumption); (case hx => kernel_rfl); (case hn => first | exact Fr.ns (by assumption) | assumption); (case hv => walk_at "mlk")
  with_reducible (refine r_cint (fun _ => ?_); refine r_lt ?_; refine wpAny_truthy_bool ?_)
  (with_reducible refine ite_f ?hd ?_); (case hd => first | rfl | decide)
  with_reducible (refine wpAny_execs_nil ?_; refine sq_next ?_; refine r_seq ?_; refine wpAny_If ?_)
  (with_reducible refine r_testCmp ?_ ?h1); (case h1 => rfl)
  (with_reducible refine' r_local ?V ?hn ?hv ?hx ?_); (case V => assumption); (case hx => kernel_rfl); (case hn => first | exact Fr.ns (by assumption) | assumption); (case hv => walk_at "mlk")
  with_reducible (refine r_cnone ?_; refine r_is_none ?_; refine wpAny_truthy_bool ?_)
  (with_reducible refine ite_t ?hd ?_); (case hd => first | rfl | decide)
  with_reducible refine r_seq ?_
  (with_reducible refine r_assign ?_ ?h1); (case h1 => rfl)
  with_reducible refine r_callN ?_
  (with_reducible refine' r_boot ?V ?G ?hk ?hx ?eB ?_); (case V => assumption); (case hx => kernel_rfl); (case eB => with_reducible exact g_len _); (case G => assumption); (case hk => exact Fr.keep (by assumption))
  (with_reducible refine r_cwBuiltin ?_ ?h1 ?h2); (case h1 => rfl); (case h2 => rfl)
  (with_reducible refine r_args ?_ ?h1); (case h1 => rfl)
  (with_reducible refine' r_local ?V ?hn ?hv ?hx ?_); (case V => assumption); (case hx => kernel_rfl); (case hn => first | exact Fr.ns (by assumption) | assumption); (case hv => walk_at "mlk")
  with_reducible refine r_args0 ?_
  refine r_lenList (isList_keep hl (Fr.keep (by assumption))) (by (first | lia | omega)) (fun _ _ => ?_)
  (with_reducible refine' r_storeG ?V ?F ?N ?hx ?_); (case V => assumption); (case F => assumption); (case N => assumption); (case hx => kernel_rfl); intro _ _ _ _ _ _
  with_reducible (refine sq_next ?_; refine wpAny_execs_nil ?_; refine sq_next ?_; refine r_seq ?_; refine wpAny_If ?_)
  (with_reducible refine r_testCmp ?_ ?h1); (case h1 => rfl)
  (with_reducible refine' r_local ?V ?hn ?hv ?hx ?_); (case V => assumption); (case hx => kernel_rfl); (case hn => first | exact Fr.ns (by assumption) | assumption); (case hv => walk_at "mlk")
  with_reducible (refine r_cnone ?_; refine r_is_none ?_; refine wpAny_truthy_bool ?_)
  (with_reducible refine ite_f ?hd ?_); (case hd => first | rfl | decide)
  with_reducible refine r_seq ?_
  refine r_while (JR va xa kf r vals.length) (vals.length - 0) (by assumption) (by assumption) ?_ ?_
  · exact ⟨0, vals.length, _, _, rfl, by walk_at "mlk", by rw [← hsz]; walk_at "mlk", by walk_at "mlk", by walk_at "mlk", by walk_at "mlk", Nat.zero_le _, hr, Nat.le_refl _, rfl⟩
  · rintro n m₁ news₁ h2 t2 ⟨lo, hi', tl, th, rfl, m1, m2, m3, m4, m5, b1, b2, b3, rfl⟩ F2 N2
    (with_reducible refine r_testCmp ?_ ?h1); (case h1 => rfl)
    (with_reducible refine' r_local ?V ?hn ?hv ?hx ?_); (case V => assumption); (case hx => kernel_rfl); (case hn => first | exact Fr.ns (by assumption) | assumption); (case hv => walk_at "mlk")
    (with_reducible refine' r_local ?V ?hn ?hv ?hx ?_); (case V => assumption); (case hx => kernel_rfl); (case hn => first | exact Fr.ns (by assumption) | assumption); (case hv => walk_at "mlk")
    with_reducible (refine r_lt ?_; refine wpAny_truthy_bool ?_)
    by_cases hc : lo < hi'
    · have hc' : decide ((lo : Int) < (hi' : Int)) = true := decide_eq_true (Int.ofNat_lt.mpr hc)
      refine ite_t hc' ?_
      with_reducible refine r_seq ?_
      (with_reducible refine r_assign ?_ ?h1); (case h1 => rfl)
      with_reducible (refine wpAny_BinOp ?_; refine wpAny_BinOp ?_)
      (with_reducible refine' r_local ?V ?hn ?hv ?hx ?_); (case V => assumption); (case hx => kernel_rfl); (case hn => first | exact Fr.ns (by assumption) | assumption); (case hv => walk_at "mlk")
      (with_reducible refine' r_local ?V ?hn ?hv ?hx ?_); (case V => assumption); (case hx => kernel_rfl); (case hn => first | exact Fr.ns (by assumption) | assumption); (case hv => walk_at "mlk")
      with_reducible (refine r_add (fun _ => ?_); refine r_cint (fun _ => ?_))
      (with_reducible refine r_div ?h1 ?h2 (fun _ => ?_)); (case h1 => (first | lia | omega)); (case h2 => (first | lia | omega))
      (with_reducible refine' r_storeG ?V ?F ?N ?hx ?_); (case V => assumption); (case F => assumption); (case N => assumption); (case hx => kernel_rfl); intro _ _ _ _ _ _
      with_reducible (refine sq_next ?_; refine r_seq ?_; refine wpAny_If ?_)
      (with_reducible refine r_testCmp ?_ ?h1); (case h1 => rfl)
      with_reducible refine r_callN ?_
      (with_reducible refine' r_local ?V ?hn ?hv ?hx ?_); (case V => assumption); (case hx => kernel_rfl); (case hn => first | exact Fr.ns (by assumption) | assumption); (case hv => walk_at "mlk")
      (with_reducible refine r_callKey (b := _) (by assumption) (by assumption) ?_ ?h1 ?h2); (case h1 => rfl); (case h2 => rfl)
      (with_reducible refine r_args ?_ ?h1); (case h1 => rfl)
      with_reducible refine Subscript_ ?_
      (with_reducible refine' r_local ?V ?hn ?hv ?hx ?_); (case V => assumption); (case hx => kernel_rfl); (case hn => first | exact Fr.ns (by assumption) | assumption); (case hv => walk_at "mlk")
      (with_reducible refine' r_local ?V ?hn ?hv ?hx ?_); (case V => assumption); (case hx => kernel_rfl); (case hn => first | exact Fr.ns (by assumption) | assumption); (case hv => walk_at "mlk")
      have hmid : ((lo : Int) + (hi' : Int)) / 2 = (((lo + hi') / 2 : Nat) : Int) := by (first | lia | omega)
      have hml : (lo + hi') / 2 < vals.length := Nat.lt_of_lt_of_le (mi2 hc).2 b3
      refine r_itemI (isList_keep hl (Fr.keep (by assumption))) hi (by (first | lia | omega)) (by (first | lia | omega)) (by (first | lia | omega)) rfl (fun _ => ?_)
      have hgd : vals.getD (((lo : Int) + (hi' : Int)) / 2).toNat 0 = vals[(lo + hi') / 2] := by
        rw [hmid, Int.toNat_natCast]; simp [List.getD, hml]
      with_reducible (refine r_args0 ?_; refine And.intro (Fr.keep (by assumption)) ?_)
      refine K.call _ _ _ _ _ _ _ _ _ _ (by rw [hgd]; exact List.getElem_mem _) (Fr.keep (by assumption)) (Room.le (by assumption) (by (first | lia | omega))) ?_
      intro h3 t3 l lits hk3 hl3 hli3
      have F3 := fr_keeps (by assumption) hk3
      have N3 := news_keeps (by assumption) hk3
      rw [hgd] at hli3
      (with_reducible refine' r_local ?V ?hn ?hv ?hx ?_); (case V => assumption); (case hx => kernel_rfl); (case hn => first | exact Fr.ns (by assumption) | assumption); (case hv => walk_at "mlk")
      refine r_ltL hl3 (isList_keep hx F3.keep) hli3 hxi R'.units ?_
      rw [hP _ hml]
      by_cases hc2 : (lo + hi') / 2 < r
      · rw [decide_eq_true hc2]
        with_reducible refine wpAny_truthy_bool ?_
        (with_reducible refine ite_t ?hd ?_); (case hd => first | rfl | decide)
        with_reducible refine r_seq ?_
        (with_reducible refine r_assign ?_ ?h1); (case h1 => rfl)
        with_reducible refine wpAny_BinOp ?_
        (with_reducible refine' r_local ?V ?hn ?hv ?hx ?_); (case V => assumption); (case hx => kernel_rfl); (case hn => first | exact Fr.ns (by assumption) | assumption); (case hv => walk_at "mlk")
        with_reducible (refine r_cint (fun _ => ?_); refine r_add (fun _ => ?_))
        (with_reducible refine' r_storeG ?V ?F ?N ?hx ?_); (case V => assumption); (case F => assumption); (case N => assumption); (case hx => kernel_rfl); intro _ _ _ _ _ _
        with_reducible (refine sq_next ?_; refine wpAny_execs_nil ?_; refine sq_next ?_; refine wpAny_execs_nil ?_)
        have hmid1 : (((lo + hi') / 2 + 1 : Nat) : Int) = ((lo : Int) + (hi' : Int)) / 2 + 1 := by (first | lia | omega)
        refine WEnd.intro (k := hi' - ((lo + hi') / 2 + 1)) (by assumption) (by assumption) (Nat.sub_lt_sub_left hc (Nat.lt_succ_of_le (mi2 hc).1)) ⟨(lo + hi') / 2 + 1, hi', _, _, rfl, by rw [hmid1]; walk_at "mlk", by walk_at "mlk", by walk_at "mlk", by walk_at "mlk", by walk_at "mlk", hc2, b2, b3, rfl⟩
      · rw [decide_eq_false hc2]
        with_reducible refine wpAny_truthy_bool ?_
        (with_reducible refine ite_f ?hd ?_); (case hd => first | rfl | decide)
        with_reducible refine r_seq ?_
        (with_reducible refine r_assign ?_ ?h1); (case h1 => rfl)
        (with_reducible refine' r_local ?V ?hn ?hv ?hx ?_); (case V => assumption); (case hx => kernel_rfl); (case hn => first | exact Fr.ns (by assumption) | assumption); (case hv => walk_at "mlk")
        (with_reducible refine' r_storeG ?V ?F ?N ?hx ?_); (case V => assumption); (case F => assumption); (case N => assumption); (case hx => kernel_rfl); intro _ _ _ _ _ _
        with_reducible (refine sq_next ?_; refine wpAny_execs_nil ?_; refine sq_next ?_; refine wpAny_execs_nil ?_)
        refine WEnd.intro (k := (lo + hi') / 2 - lo) (by assumption) (by assumption) (Nat.sub_lt_sub_right (mi2 hc).1 (mi2 hc).2) ⟨lo, (lo + hi') / 2, _, _, rfl, by walk_at "mlk", by rw [← hmid]; walk_at "mlk", by walk_at "mlk", by walk_at "mlk", by walk_at "mlk", b1, Nat.not_lt.mp hc2, Nat.le_of_lt hml, rfl⟩
    · have hc' : decide ((lo : Int) < (hi' : Int)) = false := decide_eq_false (fun x => hc (Int.ofNat_lt.mp x))
      refine ite_f hc' ?_
      with_reducible (refine wpAny_execs_nil ?_; refine sq_next ?_; refine wpAny_execs_nil ?_; refine sq_next ?_; refine r_seq ?_; refine wpAny_Return_some ?_)
      (with_reducible refine' r_local ?V ?hn ?hv ?hx ?_); (case V => assumption); (case hx => kernel_rfl); (case hn => first | exact Fr.ns (by assumption) | assumption); (case hv => walk_at "mlk")
      with_reducible refine sq_ret ?_
      have e : lo = r := by (first | lia | omega)
      subst e
      exact H _ _ _ (by first | exact Fr.keep (by assumption) | exact Keeps.trans (Fr.keep (by assumption)) (by assumption))
end

end

section
section listbytes
variable {prog : Program} {w : World} {A : Around} {E : Value → Shared → Prop} {s : Shared} {by_ : Array UInt8} {tb : Tok}
theorem hint_bytes {Q : Bool → Shared → Prop} (h : Q false s) : wpAny (model prog w) A (Builtin.List.listLengthHint (.bytes by_ tb)) Q E s := by
  unfold Builtin.List.listLengthHint
  refine wpAny_bind (wpAny_specialOf (PySem.W.typeIs_bytes s by_ tb) PySem.W.FB.slot_bytes_len.lookup ?_)
  wp_delta
  refine wpAny_bind (wpAny_isInstance (T := "bytes") (b := true) (PySem.W.typeIs_bytes s by_ tb) (by rw [isSubtype_type]; kernel_rfl) ?_)
  show wpAny _ _ (typeOf (Value.bytes by_ tb) >>= _) _ _ _
  refine wpAny_bind (wpAny_typeOf (T := "bytes") (PySem.W.typeIs_bytes s by_ tb) ?_)
  exact wpAny_pure h
theorem extend_bytes {R : Result → Shared → Prop} (hh : A.handled = none) (hz : by_.size ≤ 2 ^ 24) (S : Addr) (res : Value) (c₀ : Nat) (hS : s.heap.get? S = some { cls := .type "list", data := .seq #[] c₀ })
    (hR : ∀ h' tk acc' c', (∀ b o, b ≠ S → s.heap.get? b = some o → h'.get? b = some o) → h'.get? S = some { cls := .type "list", dict := none, data := .seq acc' c', slots := #[] } →
      ItemsOf (fun i v => ∃ c u, by_[i]? = some c ∧ v = .int (c.toNat : Int) u) acc' by_.size → R (.ok (.ret res)) { s with heap := h', toks := tk }) :
    wpAny (model prog w) A.in1 (Builtin.List.listExtendWith (.ref S) (.bytes by_ tb) res)
      (fun fin s' => match fin with | .done f => R (.ok f) s' | .again c' => c'.quiet = true ∧ codeAny (model prog w) A c' R s') (fun e s' => R (.error e) s') s := by
  have hSlt : S < s.heap.objs.size := Heap.lt_size hS
  have hSI : S ≠ s.heap.objs.size := Nat.ne_of_lt hSlt
  have hSf : S ∉ [s.heap.objs.size] := fun hm => hSI (List.mem_singleton.mp hm)
  have W := (KBw.walks (prog := prog) (w := w) (A := A.in1) hh s.heap.objs.size by_ tb).toS
  have key : ∀ (h : Heap) (c₁ tk : Nat), KBw.IsBytesIter h s.heap.objs.size by_ tb 0 → (∀ b o, b ≠ S → s.heap.get? b = some o → h.get? b = some o) →
      h.get? S = some { cls := .type "list", data := .seq #[] c₁ } → codeAny (model prog w) A (.builtin "list.extend.loop" ⟨[.ref S, .ref s.heap.objs.size, res], []⟩) R { s with heap := h, toks := tk } := by
    intro h c₁ tk hit hk hS₁
    refine codeAny_extend_loopS W (by rw [sizeLine_eq]; (first | lia | omega)) S hSf res by_.size 0 _ #[] c₁ rfl (Nat.zero_le _) hit hS₁ (ItemsOf.nil _) fun s' acc' c' hm hS' hacc => ?_
    rw [Moved.eq_with hm]
    refine hR s'.heap s'.toks acc' c' (fun b o hb e => hm.heap b o (fun hmem => ?_) (hk b o hb e)) hS' hacc
    rcases List.mem_cons.mp hmem with e' | hmem
    · exact hb e'
    · exact absurd (Heap.lt_size e) (by rw [List.mem_singleton.mp hmem]; exact Nat.lt_irrefl _)
  unfold Builtin.List.listExtendWith
  refine wpAny_bind (wpAny_typeOf (T := "bytes") (PySem.W.typeIs_bytes s by_ tb) ?_)
  have h1 : Builtin.List.listSameRef (.ref S) (.bytes by_ tb) = false := rfl
  have h2 : (Value.type "bytes" == Value.type "list") = false := by decide
  have h3 : (Value.type "bytes" == Value.type "tuple") = false := by decide
  simp only [h1, h2, h3, Bool.or_false, Bool.false_eq_true, if_false]
  refine wpAny_bind (KBw.pyIter_bytes ?_)
  refine wpAny_bind (wpAny_holding (hint_bytes ?_))
  have hit₁ : KBw.IsBytesIter (s.heap.push { cls := .type "bytes_iterator", data := .fields #[.bytes by_ tb, .int 0 0] }) s.heap.objs.size by_ tb 0 := ⟨_, Heap.get?_push_size _ rfl, rfl, rfl⟩
  have hS₁ := Heap.get?_push_of_some { cls := .type "bytes_iterator", data := .fields #[.bytes by_ tb, .int 0 0] } hS
  rw [if_neg (by decide)]
  exact wpAny_pure ⟨plainId_quiet PySem.F.plain_extend_loop _, key _ c₀ _ hit₁ (fun b o _ e => Heap.get?_push_of_some _ e) hS₁⟩
theorem init_bytes {R : Result → Shared → Prop} (hh : A.handled = none) (hz : by_.size ≤ 2 ^ 24) (S : Addr) (hS : s.heap.get? S = some { cls := .type "list", data := .seq #[] })
    (hR : ∀ h' tk acc' c', (∀ b o, b ≠ S → s.heap.get? b = some o → h'.get? b = some o) → h'.get? S = some { cls := .type "list", dict := none, data := .seq acc' c', slots := #[] } →
      ItemsOf (fun i v => ∃ c u, by_[i]? = some c ∧ v = .int (c.toNat : Int) u) acc' by_.size → R (.ok (.ret .none)) { s with heap := h', toks := tk }) :
    wpAny (model prog w) A.in1 (Builtin.«list.__init__» ⟨[.ref S, .bytes by_ tb], []⟩)
      (fun fin s' => match fin with | .done f => R (.ok f) s' | .again c' => c'.quiet = true ∧ codeAny (model prog w) A c' R s') (fun e s' => R (.error e) s') s := by
  show wpAny _ _ (do let old ← Builtin.List.listItems (.ref S); Builtin.List.listUpdate (.ref S) (fun _ => #[]); letGo old.toList.reverse; Builtin.List.listExtendWith (.ref S) (.bytes by_ tb) .none) _ _ s
  refine wpAny_bind ?_
  unfold Builtin.List.listItems
  refine wpAny_bind (wpAny_seqItems hS rfl (wpAny_pure ?_))
  show wpAny _ _ (updateSeq S (fun _ => #[]) >>= fun _ => letGo (#[] : Array Value).toList.reverse >>= fun _ => Builtin.List.listExtendWith (.ref S) (.bytes by_ tb) .none) _ _ s
  refine wpAny_bind (wpAny_updateSeq hS rfl ?_)
  have hS₂ := Heap.get?_update_self (Obj.mapSeq (fun _ => (#[] : Array Value))) hS rfl
  have oth : ∀ b o, b ≠ S → s.heap.get? b = some o → (s.heap.update S (Obj.mapSeq (fun _ => (#[] : Array Value)))).get? b = some o :=
    fun b o hb e => (Heap.get?_update_other _ _ (Ne.symm hb)).trans e
  refine wpAny_bind (wpAny_letGo ?_)
  refine extend_bytes hh hz S .none _ hS₂ fun h' tk acc' c' hk hS' hacc => ?_
  exact hR h' tk acc' c' (fun b o hb e => hk b o hb (oth b o hb e)) hS' hacc
theorem ints_of_get : ∀ (l : List Value) (ms : List Int), l.length = ms.length → (∀ (i : Nat) (v : Value), l[i]? = some v → ∃ t, v = Value.int (ms.getD i 0) t) → IntsAre l ms := by
  intro l
  induction l with
  | nil => intro ms hl _; cases ms with | nil => exact .nil | cons => simp at hl
  | cons v l ih =>
    intro ms hl hv
    cases ms with
    | nil => simp at hl
    | cons m ms =>
      obtain ⟨t, rfl⟩ := hv 0 v rfl
      exact .cons m t (ih ms (by simpa using hl) fun i v' e => hv (i + 1) v' (by simpa using e))
theorem items_ints {by_ : Array UInt8} {acc : Array Value} (h : ItemsOf (fun i v => ∃ c u, by_[i]? = some c ∧ v = Value.int (c.toNat : Int) u) acc by_.size) : IntsAre acc.toList (KBw.bInts by_) := by
  refine ints_of_get _ _ (by rw [KBw.ints_length, Array.length_toList]; exact h.1) fun i v e => ?_
  obtain ⟨c, u, hc, rfl⟩ := h.2 i v (by rw [← Array.getElem?_toList]; exact e)
  have := KBw.ints_get hc
  exact ⟨u, by rw [List.getD_eq_getElem?_getD, this]; rfl⟩
end listbytes
section rules
variable {prog : Program} {w : World} {A : Around} {E : Value → Shared → Prop} {b h : Heap} {g : Array GenState} {d : Drawn} {t : Nat} {o : OsState} {by_ : Array UInt8} {tb : Tok} {Q : Value → Shared → Prop}
theorem r_listBytes (hh : A.handled = none) (hz : by_.size ≤ 1000000) (H : ∀ h' t' l its, Keeps h h' → h.objs.size ≤ l → h'.IsList l its → IntsAre its.toList (KBw.bInts by_) → Q (.ref l) ⟨h', g, d, t', o⟩) :
    wpAny (model prog w) A (call (.type "list") [.bytes by_ tb]) Q E ⟨h, g, d, t, o⟩ := by
  refine callType_codes (Q₁ := fun obj s₁ => obj = .ref h.objs.size ∧ s₁ = ⟨h.push { cls := .type "list", data := .seq #[] }, g, d, t, o⟩) PySem.F.called_list (PySem.F.typeCall_list_1 _) PySem.F.entry_list_init
    (code_list_new _ ⟨rfl, rfl⟩) fun obj s₁ h₁ => ?_
  obtain ⟨rfl, rfl⟩ := h₁
  have hS : (h.push { cls := .type "list", data := .seq #[] }).get? h.objs.size = some { cls := .type "list", data := .seq #[] } := Heap.get?_push_size _ rfl
  refine ⟨⟨_, hS, rfl⟩, PySem.F.args_list_init_2 _ _, init_bytes (A := A.in1) hh (by (first | lia | omega)) _ hS fun h' tk acc' c' hk hS' hacc => ?_⟩
  exact ⟨rfl, H h' tk _ acc' (fun b o e => hk b o (Nat.ne_of_lt (Heap.lt_size e)) (Heap.get?_push_of_some _ e)) (Nat.le_refl _) ⟨_, hS', rfl, _, rfl⟩ (items_ints hacc)⟩
theorem r_listRange {r : Addr} {x y : Int} {t1 t2 t3 : Tok} {n : Nat} (hh : A.handled = none) (hr : IsRange h r x y 1 t1 t2 t3) (hs : Builtin.Range.small x y 1 = true) (hn : Builtin.Range.rangeSize x y 1 = (n : Int)) (hz : n ≤ 1000000)
    (H : ∀ h' t' l its, Keeps h h' → h.objs.size ≤ l → h'.IsList l its → IntsAre its.toList ((List.range n).map fun (i : Nat) => x + (i : Int)) → Q (.ref l) ⟨h', g, d, t', o⟩) :
    wpAny (model prog w) A (call (.type "list") [.ref r]) Q E ⟨h, g, d, t, o⟩ := by
  refine call_list_range hh hr hs hn (by (first | lia | omega)) fun h' tk acc' c' hk hS' hacc => ?_
  refine H h' tk _ acc' hk (Nat.le_refl _) ⟨_, hS', rfl, _, rfl⟩ (ints_of_get _ _ (by simp [hacc.1]) fun i v e => ?_)
  obtain ⟨u, rfl⟩ := hacc.2 i v (by rw [← Array.getElem?_toList]; exact e)
  have hi : i < n := by
    have := (List.getElem?_eq_some_iff.mp e).1
    rw [Array.length_toList, hacc.1] at this; exact this
  exact ⟨u, by simp [List.getD_eq_getElem?_getD, hi]⟩
end rules

end

section
/-- the heap without the two code tables that grow -/
noncomputable def hide2 (h : Heap) : Heap := (h.hide 125).hide 132
theorem hide2_size (h : Heap) : (hide2 h).objs.size = h.objs.size := (Heap.hide_size _ _).trans (Heap.hide_size _ _)
theorem of_hide2 {h : Heap} {b : Addr} {o : Obj} (e : (hide2 h).get? b = some o) : h.get? b = some o := Heap.of_hide (Heap.of_hide e)
theorem hide2_get {h : Heap} {b : Addr} (h1 : b ≠ 125) (h2 : b ≠ 132) : (hide2 h).get? b = h.get? b := (Heap.hide_ne _ h2).trans (Heap.hide_ne _ h1)
theorem hide2_ne {h : Heap} {b : Addr} {o : Obj} (e : (hide2 h).get? b = some o) : b ≠ 125 ∧ b ≠ 132 := by
  constructor
  · rintro rfl
    unfold hide2 at e
    rw [Heap.hide_ne _ (by decide), Heap.hide_self] at e; cases e
  · rintro rfl
    unfold hide2 at e
    rw [Heap.hide_self] at e; cases e
noncomputable abbrev Keep2 (h h' : Heap) : Prop := Keeps (hide2 h) h'
theorem Keep2.hide {h h' : Heap} (k : Keep2 h h') : Keeps (hide2 h) (hide2 h') := fun b o e => by
  rw [hide2_get (hide2_ne e).1 (hide2_ne e).2]; exact k b o e
theorem Keeps.two {h h' : Heap} (k : Keeps h h') : Keep2 h h' := fun b o e => k b o (of_hide2 e)
theorem Keep2.trans {a b c : Heap} (h1 : Keep2 a b) (h2 : Keep2 b c) : Keep2 a c := fun x o e => h2 x o (h1.hide x o e)
/-- what a code table holds: nothing, or the lambda's code -/
noncomputable def TabOk (h : Heap) (pos : Pos) (qual : Str) (ps : Array Value) : Prop := ps = #[] ∨ ∃ c', ps = #[rawInt pos.line, rawInt pos.col, .ref c'] ∧ (hide2 h).CodeRec (.ref c') qual
theorem TabOk.keep {h h' : Heap} {pos : Pos} {qual : Str} {ps : Array Value} (x : TabOk h pos qual ps) (k : Keep2 h h') : TabOk h' pos qual ps := by
  rcases x with x | ⟨c, e, r⟩
  · exact .inl x
  · exact .inr ⟨c, e, r.keeps k.hide⟩
noncomputable def TabG (h : Heap) (P : Addr) (pos : Pos) (qual : Str) : Prop := ∃ ps, h.get? P = some (tabObj ps) ∧ TabOk h pos qual ps
noncomputable def pos6 : Pos := ⟨135, 42, 135, 126⟩
noncomputable def qual6 : Str := (Str.ofString "_law_ask_sixes" ++ Str.ofString ".<locals>.") ++ Str.ofString "<lambda>"
noncomputable def pos4 : Pos := ⟨137, 50, 137, 120⟩
noncomputable def qual4 : Str := (Str.ofString "_law_ask_fours" ++ Str.ofString ".<locals>.") ++ Str.ofString "<lambda>"
structure W2 (w : World) (h : Heap) : Prop where
  gd : Gd w (hide2 h)
  t6 : TabG h 125 pos6 qual6
  t4 : TabG h 132 pos4 qual4
theorem W2.size {w : World} {h : Heap} (X : W2 w h) : 132 < h.objs.size := let ⟨_, e, _⟩ := X.t4; Heap.lt_size e
theorem W2.keeps {w : World} {h h' : Heap} (X : W2 w h) (k : Keeps h h') : W2 w h' :=
  ⟨X.gd.keeps (Keep2.hide (Keeps.two k)), let ⟨ps, e, r⟩ := X.t6; ⟨ps, k _ _ e, r.keep (Keeps.two k)⟩, let ⟨ps, e, r⟩ := X.t4; ⟨ps, k _ _ e, r.keep (Keeps.two k)⟩⟩
theorem W2.list {w : World} {h : Heap} (X : W2 w h) {a : Addr} {its : Array Value} (hl : h.IsList a its) : (hide2 h).IsList a its := by
  obtain ⟨ob, e, hc, n, hd⟩ := hl
  refine ⟨ob, ?_, hc, n, hd⟩
  obtain ⟨p6, e6, _⟩ := X.t6
  obtain ⟨p4, e4, _⟩ := X.t4
  rw [hide2_get]
  · exact e
  · rintro rfl
    rw [e6] at e; cases e; cases hc
  · rintro rfl
    rw [e4] at e; cases e; cases hc
theorem fr_keep2 {b h h' : Heap} {L : Addr} {m : Str → Option Value} (F : Fr (hide2 b) L h m) (k : Keep2 h h') (hL : 132 < L) : Fr (hide2 b) L h' m := by
  obtain ⟨oL, es, ep, e, r⟩ := F.ns
  refine ⟨⟨oL, es, ep, k L oL ?_, r⟩, fun x ob e' => k x ob ?_, F.above⟩
  · rw [hide2_get (Nat.ne_of_gt (Nat.lt_trans (by decide) hL)) (Nat.ne_of_gt hL)]; exact e
  · rw [hide2_get (hide2_ne e').1 (hide2_ne e').2]; exact F.keep x ob e'
theorem news_keep2 {b h h' : Heap} {L : Addr} {news : List (Addr × Obj)} (N : News (hide2 b) L h news) (k : Keep2 h h') (hn : ∀ p ∈ news, p.1 ≠ 125 ∧ p.1 ≠ 132) : News (hide2 b) L h' news := fun p hp =>
  ⟨k _ _ (by rw [hide2_get (hn p hp).1 (hn p hp).2]; exact (N p hp).1), (N p hp).2⟩
theorem isCell_fr {b h : Heap} {L c : Addr} {m : Str → Option Value} {v : Option Value} (F : Fr b L h m) (hc : b.IsCell c v) : h.IsCell c v := let ⟨ob, e, r⟩ := hc; ⟨ob, F.keep _ _ e, r⟩
theorem isCell_keep {b h : Heap} {c : Addr} {v : Option Value} (hc : b.IsCell c v) (hk : Keeps b h) : h.IsCell c v := let ⟨ob, e, r⟩ := hc; ⟨ob, hk _ _ e, r⟩
section lam
variable {prog : Program} {w : World} {A : Around} {E : Value → Shared → Prop} {b h : Heap} {g : Array GenState} {d : Drawn} {t : Nat} {o : OsState}
  {L a c P : Addr} {cs : Scope} {cl clos : List (Str × Addr)} {m : Str → Option Value} {news : List (Addr × Obj)} {env : Env} {q0 : Str} {ps : Array Value}
  {pos : Pos} {params : Arguments} {body : Expr} {scope : Scope} {Q : Value → Shared → Prop}
theorem r_lambda (V : Ev env cs L cl) (hcode : env.code = .ref c) (hqual : env.qual = q0) (G : Gd w (hide2 h)) (C : CodeHd (hide2 h) c P) (hPs : P = 125 ∨ P = 132) (hP : h.get? P = some (tabObj ps)) (hps : TabOk h pos (q0 ++ Str.ofString "<lambda>") ps)
    (hcl : closureFor scope env = pure clos) (hdef : defaultsOf params env = ([], [])) (hsz : 132 < h.objs.size)
    (H : ∀ f c' ctv pm h' t' ps', (∀ x o, x ≠ P → h.get? x = some o → h'.get? x = some o) → h'.get? f = some (kla_obj (Str.ofString "<lambda>") (q0 ++ Str.ofString "<lambda>") params body scope clos pm c' ctv) → h.objs.size ≤ f → h'.CodeRec (.ref c') (q0 ++ Str.ofString "<lambda>") →
      h'.get? P = some (tabObj ps') → TabOk h' pos (q0 ++ Str.ofString "<lambda>") ps' → Q (.ref f) ⟨h', g, d, t', o⟩) :
    wpAny (model prog w) A (eval (.Lambda params body scope pos) env) Q E ⟨h, g, d, t, o⟩ := by
  refine kla_eval hdef ?_
  rw [hqual]
  have kp : Keeps (hide2 h) h := fun _ _ e => of_hide2 e
  obtain ⟨_, _, _, mg, mb, T⟩ := G.top
  have hgs := T.g.keeps kp
  obtain ⟨bm, ob, b1, b2, b3, b4, b5, b6⟩ := T.bmain
  have hbn := hide2_ne b3
  have hbP : bm ≠ P := by rcases hPs with rfl | rfl; exact hbn.1; exact hbn.2
  have hbG : bm ≠ mainGlobals := fun q => by
    obtain ⟨o, es, ep, e, hd, _⟩ := T.g
    rw [q, e] at b3; cases b3; rw [hd] at b6; cases b6
  have hgP : mainGlobals ≠ P := by rcases hPs with rfl | rfl <;> decide
  rcases hps with rfl | ⟨c', rfl, hcr⟩
  · refine kla_makeFunction (mg := mg) hcl V.globals hgs hcode (C.keeps kp) hP trivial rfl hgP ⟨bm, ob, b1, b2, hbG, hbP, kp _ _ b3, b4, b5, b6⟩ fun c' ctv h' tk hx hge hlt hrec htb => ?_
    have up : ∀ (x : Addr) (ob : Obj) (no : Obj), h'.get? x = some ob → (h'.push no).get? x = some ob := fun _ _ _ e => Heap.get?_push_of_some _ e
    have hPle : h.objs.size ≤ h'.objs.size := Nat.le_of_lt (Nat.lt_of_le_of_lt hge hlt)
    refine H h'.objs.size c' ctv _ _ tk _ (fun x o hx' e => up _ _ _ (hx x o hx' e)) (Heap.get?_push_size _ rfl) hPle (hrec.push _) (up _ _ _ htb) (.inr ⟨c', rfl, ?_⟩)
    obtain ⟨c2, oc, vs, t2, e2, hoc, r2⟩ := hrec
    cases e2
    refine ⟨c', oc, vs, t2, rfl, ?_, r2⟩
    have h0 : 132 < c' := Nat.lt_of_lt_of_le hsz hge
    rw [hide2_get (Nat.ne_of_gt (Nat.lt_trans (by decide) h0)) (Nat.ne_of_gt h0)]
    exact up _ _ _ hoc
  · refine kla_makeFunctionHit (mg := mg) (cv := .ref c') hcl V.globals hgs hcode (C.keeps kp) hP trivial ?_ ⟨bm, ob, b1, b2, hbG, hbP, kp _ _ b3, b4, b5, b6⟩ fun ctv h' tk hk hsz' => ?_
    · show (if (pos.line : Int) == (pos.line : Int) && (pos.col : Int) == (pos.col : Int) then some (Value.ref c') else _) = _
      simp
    · have up : Keeps h (h'.push (kla_obj (Str.ofString "<lambda>") (q0 ++ Str.ofString "<lambda>") params body scope clos ((mg "__name__").getD .none) c' ctv)) := fun x ob e => Heap.get?_push_of_some _ (hk x ob e)
      exact H h'.objs.size c' ctv _ _ tk _ (fun x o _ e => up x o e) (Heap.get?_push_size _ rfl) hsz' ((hcr.keeps kp).keeps up) (up _ _ hP) (.inr ⟨c', rfl, hcr.keeps (Keep2.hide (Keeps.two up))⟩)
theorem enterL {name qual : Str} {pm ctv : Value} {f c' : Addr} {n : Nat} {args : List Value} {binds : List (Str × Value)} (hlim : h.NoLimit) (R : Room A (n + 1)) (ho : h.get? f = some (kla_obj name qual params body scope clos pm c' ctv)) (hcd : h.CodeRec (.ref c') qual)
    (hbind : BindsTo ⟨h, g, d, t, o⟩ (kla_fn name qual params body scope clos pm (.ref c') ctv) ⟨args, []⟩ binds) (hcell : ∀ x ∈ scope.names, x.2 ≠ .cell) (hloc : ∀ x ∈ binds, scope.names.lookup x.1 = some .local)
    (hco : scope.isCoroutine = false) (hgen : scope.isGenerator = false) (hk : scope.kind = .function)
    (H : ∀ h₁ t₁ (A' : Around) (L : Addr) (env : Env), Ev env scope L clos → h.objs.size ≤ L → Room A' n → Fr h L h₁ (fun x => binds.reverse.lookup x) → News h L h₁ [] →
      wpAny (model prog w) A' (eval body env) Q NoE ⟨h₁, g, d, t₁, o⟩) :
    wpAny (model prog w) A (call (.ref f) args) Q E ⟨h, g, d, t, o⟩ := by
  refine wpAny_call (kla_callFunE (fd := kla_fn name qual params body scope clos pm (.ref c') ctv) (body := body) R.depth ho rfl hco hgen rfl hcd (hbind _ _ _ _ ?_))
  refine wpAny_newFunctionEnv hcell hloc (fun h₁ hns hsb => ?_) hk
  have hk₁ : Keeps h h₁ := fun x ob e => hsb.extBut x ob (Nat.ne_of_lt (Heap.lt_size e)) (Heap.get?_push_of_some _ e)
  refine ⟨hlim.keeps hk₁, kla_codeExpr ?_⟩
  exact wpAny_mono (H h₁ _ _ h.objs.size _ ⟨rfl, rfl, rfl, rfl, rfl⟩ (Nat.le_refl _) R.deeper ⟨hns, hk₁, Nat.le_refl _⟩ News.nil) (fun v s' q => q) fun _ _ y => y.elim
end lam
theorem enterC2 {prog : Program} {w : World} {A : Around} {E : Value → Shared → Prop} {h : Heap} {g : Array GenState} {d : Drawn} {t : Nat} {o : OsState} {n : Nat} {f : Addr} {fo : Obj} {fd : FuncData} {body : List Stmt}
    {args : List Value} {kw : List (Str × Value)} {binds : List (Str × Value)} {Q : Value → Shared → Prop}
    (G : Gd w (hide2 h)) (R : Room A (n + 1)) (hl : (KF w).lookup f = some fo) (hfd : fo.data = .func fd) (hcode : codeIn (KF w) fd.code fd.qualname = true) (hbody : fd.body = .stmts body)
    (hbind : BindsTo ⟨h, g, d, t, o⟩ fd ⟨args, kw⟩ binds) (hcl : fd.closure = [])
    (hkind : ∀ n, ∀ x ∈ binds, fd.scope.names.lookup x.1 = some .local ∨ (fd.scope.names.lookup x.1 = some .cell ∧ ((cellsFrom n fd.scope.names []).lookup x.1).isSome = true))
    (hnd : ((cellsFrom 0 fd.scope.names []).map (·.1)).Nodup)
    (hgl : fd.globals = mainGlobals) (hbl : fd.builtins = builtinsNs)
    (hco : fd.scope.isCoroutine = false) (hgen : fd.scope.isGenerator = false) (hk : fd.scope.kind = .function)
    (H : ∀ h₁ t₁ (A' : Around) (L : Addr) (env : Env) cells, Ev env fd.scope L (cellsFrom (L + 1) fd.scope.names []) → env.code = fd.code → env.qual = fd.qualname ++ Str.ofString ".<locals>." → h.objs.size ≤ L → Room A' n → Keeps h h₁ → Fr (hide2 h) L h₁ (bindL (fun x => fd.scope.names.lookup x) binds fun _ => none) → News (hide2 h) L h₁ cells →
      CellsAre (bindC (fun x => fd.scope.names.lookup x) binds fun _ => none) (cellsFrom (L + 1) fd.scope.names []) cells →
      wpAny (model prog w) A' (execs body env) (fun fl s' => Q (match fl with | .ret v => v | _ => .none) s') NoE ⟨h₁, g, d, t₁, o⟩) :
    wpAny (model prog w) A (call (.ref f) args kw) Q E ⟨h, g, d, t, o⟩ := by
  have G' : Gd w h := G.keeps fun _ _ e => of_hide2 e
  refine enterC G' R hl hfd hcode hbody hbind hcl hkind hnd hgl hbl hco hgen hk ?_
  intro h₁ t₁ A' L env cells V hc hq hL R' F N Y
  refine H h₁ t₁ A' L env cells V hc hq hL R' F.keep ⟨F.ns, fun x ob e => F.keep x ob (of_hide2 e), by rw [hide2_size]; exact F.above⟩ (fun p hp => ⟨(N p hp).1, (N p hp).2.1, ?_⟩) Y
  cases q : (hide2 h).get? p.1 with
  | none => rfl
  | some ob => have := of_hide2 q; rw [(N p hp).2.2] at this; cases this

end

section
theorem g_bisect_right (w : World) : nsIn (KF w) mainGlobals "bisect_right" = some (some (.ref 30)) := by kernel_rfl
theorem g_bisect_left (w : World) : nsIn (KF w) mainGlobals "bisect_left" = some (some (.ref 39)) := by kernel_rfl
theorem g_write (w : World) : nsIn (KF w) mainGlobals "_law_write" = some (some (.ref 106)) := by kernel_rfl
theorem g_from_sixes (w : World) : nsIn (KF w) mainGlobals "_law_from_sixes" = some (some (.ref 118)) := by kernel_rfl
theorem g_from_fours (w : World) : nsIn (KF w) mainGlobals "_law_from_fours" = some (some (.ref 123)) := by kernel_rfl
theorem g_b16encode (w : World) : nsIn (KF w) mainGlobals "b16encode" = some (some (.ref 99)) := by kernel_rfl


theorem ne_off {L : Nat} (h : 132 < L) (i : Nat) : L + i ≠ 125 ∧ L + i ≠ 132 := by (first | lia | omega)
/-- what the key of the sixes gives -/
noncomputable def key6 (k : Nat) (size : Int) (found rest : List Int) (v : Int) : List Int := wr k ((octs ((found ++ [v]) ++ rest) ((((found ++ [v]) ++ rest).length + 3) / 4)).take size.toNat)
section
variable {prog : Program} {w : World} {A : Around} {E : Value → Shared → Prop} {h : Heap} {g : Array GenState} {d : Drawn} {t : Nat} {o : OsState} {ga va fa ra : Addr} {gits vits fits rits : Array Value} {goal vals found rest : List Int} {size : Int} {ts tk : Tok} {k r : Nat} {Q : Value → Shared → Prop}
theorem ask6_spec (X : W2 w h) (R : Room A 9) (hg : h.IsList ga gits) (hgi : IntsAre gits.toList goal) (hv : h.IsList va vits) (hvi : IntsAre vits.toList vals) (hvr : ∀ v ∈ vals, 0 ≤ v ∧ v < 64) (hvl : vals.length ≤ 100)
    (hf : h.IsList fa fits) (hfi : IntsAre fits.toList found) (hfr : ∀ v ∈ found, 0 ≤ v ∧ v < 64) (hr : h.IsList ra rits) (hri : IntsAre rits.toList rest) (hrr : ∀ v ∈ rest, 0 ≤ v ∧ v < 64) (hfl : found.length + rest.length ≤ 50)
    (hs0 : 0 ≤ size) (hs1 : size ≤ 50) (hk5 : k < 5) (hrl : r ≤ vals.length) (hP : ∀ i (hi : i < vals.length), lexlt goal (key6 k size found rest vals[i]) = decide (r ≤ i))
    (H : ∀ h' t' tr, Keep2 h h' → W2 w h' → Q (.int (r : Int) tr) ⟨h', g, d, t', o⟩) :
    wpAny (model prog w) A (call (.ref 130) [.ref ga, .ref va, .ref fa, .ref ra, .int size ts, .int (k : Int) tk]) Q E ⟨h, g, d, t, o⟩ := by
  refine enterC2 (n := 8) (binds := [(Str.ofString "goal", .ref ga), (Str.ofString "values", .ref va), (Str.ofString "found", .ref fa), (Str.ofString "rest", .ref ra), (Str.ofString "size", .int size ts), (Str.ofString "which", .int (k : Int) tk)]) X.gd R rfl rfl (by kernel_rfl) rfl (BindsTo.of_eq rfl) rfl ?_ (by decide) rfl rfl rfl rfl rfl ?_
  · intro n x hx
    simp only [List.mem_cons, List.not_mem_nil, or_false] at hx
    rcases hx with rfl | rfl | rfl | rfl | rfl | rfl
    · exact .inl rfl
    · exact .inl rfl
    all_goals exact .inr ⟨rfl, rfl⟩
  intro h₁ t₁ A' L env cells V hcode hqual hL R' hk1 F N Y
  have G := X.gd
  have X1 := X.keeps hk1
  dsimp only at V hcode hqual
  obtain ⟨o1, o2, o3, o4, rfl, d1, d2, d3, d4⟩ := CellsAre.four Y
  with_reducible (refine r_seq ?_; refine wpAny_Return_some ?_; refine r_callNK ?_)
  (with_reducible refine' r_glob ?V ?G ?hk ?hx ?eB ?_); (case V => assumption); (case hx => kernel_rfl); (case eB => with_reducible exact g_bisect_right _); (case G => assumption); (case hk => exact Fr.keep (by assumption))
  (with_reducible refine' r_calldefKW ?G ?hk ?ha ?_ ?h1 ?h2); (case G => assumption); (case hk => kernel_rfl); (case ha => rfl); (case h1 => rfl); (case h2 => rfl)
  (with_reducible refine r_args ?_ ?h1); (case h1 => rfl)
  (with_reducible refine' r_local ?V ?hn ?hv ?hx ?_); (case V => assumption); (case hx => kernel_rfl); (case hn => first | exact Fr.ns (by assumption) | assumption); (case hv => walk_at "mlk")
  (with_reducible refine r_args ?_ ?h1); (case h1 => rfl)
  (with_reducible refine' r_local ?V ?hn ?hv ?hx ?_); (case V => assumption); (case hx => kernel_rfl); (case hn => first | exact Fr.ns (by assumption) | assumption); (case hv => walk_at "mlk")
  with_reducible (refine r_args0 ?_; refine r_kw ?_)
  obtain ⟨ps, e6, ok6⟩ := X1.t6
  refine r_lambda V hcode hqual X1.gd X1.gd.hd6 (.inl rfl) e6 ok6 (Ev.clos V (cl2 := [(Str.ofString "which", L + 4), (Str.ofString "size", L + 3), (Str.ofString "rest", L + 2), (Str.ofString "found", L + 1)]) rfl) rfl X1.size ?_
  intro f c' ctv pm h2 t2 ps' hx2 hfo hle hcr hP2 hok2
  have hLs : 132 < L := Nat.lt_of_lt_of_le X.size hL
  have k12 : Keep2 h₁ h2 := fun x ob e => hx2 x ob (hide2_ne e).1 (of_hide2 e)
  have F2 := fr_keep2 F k12 hLs
  have hc1 : h2.IsCell (L + 4) (some (.int (k : Int) tk)) := ⟨o1, hx2 _ _ (ne_off hLs 4).1 (N _ (.head _)).1, d1⟩
  have hc2 : h2.IsCell (L + 3) (some (.int size ts)) := ⟨o2, hx2 _ _ (ne_off hLs 3).1 (N _ (.tail _ (.head _))).1, d2⟩
  have hc3 : h2.IsCell (L + 2) (some (.ref ra)) := ⟨o3, hx2 _ _ (ne_off hLs 2).1 (N _ (.tail _ (.tail _ (.head _)))).1, d3⟩
  have hc4 : h2.IsCell (L + 1) (some (.ref fa)) := ⟨o4, hx2 _ _ (ne_off hLs 1).1 (N _ (.tail _ (.tail _ (.tail _ (.head _))))).1, d4⟩
  have K2 : Keep2 h h2 := Keep2.trans (Keeps.two hk1) k12
  have X2 : W2 w h2 := by
    refine ⟨X.gd.keeps K2.hide, ⟨ps', hP2, hok2⟩, ?_⟩
    obtain ⟨ps4, e4, r4⟩ := X1.t4
    exact ⟨ps4, hx2 _ _ (by decide) e4, r4.keep k12⟩
  have lst : ∀ {a : Addr} {its : Array Value}, h.IsList a its → h2.IsList a its := fun hl => isList_keep (X.list hl) K2
  have G2 : Gd w h2 := X2.gd.keeps fun _ _ e => of_hide2 e
  with_reducible (refine r_kw0 ?_; refine And.intro (Fr.keep (by assumption)) ?_)
  refine bisect_right_spec (F := key6 k size found rest) (nk := 7) G2 (Room.le (by assumption) (by (first | lia | omega))) (lst hv) hvi (lst hg) hgi ?_ (by (first | lia | omega)) hrl hP ?_
  · refine ⟨⟨_, _, hfo, rfl⟩, ?_⟩
    intro v tv h3 g3 d3' t3 o3' A3 Q3 E3 hvm hk3 R3 Hk
    refine enterL (n := 6) (G2.nolimit.keeps hk3) R3 (hk3 _ _ hfo) (hcr.keeps hk3) (BindsTo.of_eq rfl) (by decide) (locs rfl) rfl rfl rfl ?_
    intro h4 t4 A4 L4 env4 V4 hL4 R4 F4 N4
    have G3 : Gd w h3 := G2.keeps hk3
    have c1 : h3.IsCell (L + 4) (some (.int (k : Int) tk)) := isCell_keep hc1 hk3
    have c2 : h3.IsCell (L + 3) (some (.int size ts)) := isCell_keep hc2 hk3
    have c3 : h3.IsCell (L + 2) (some (.ref ra)) := isCell_keep hc3 hk3
    have c4 : h3.IsCell (L + 1) (some (.ref fa)) := isCell_keep hc4 hk3
    have lf : h3.IsList fa fits := isList_keep (lst hf) hk3
    have lr : h3.IsList ra rits := isList_keep (lst hr) hk3
    have sf : fits.size = found.length := by have := hfi.length; simpa using this
    have sr : rits.size = rest.length := by have := hri.length; simpa using this
    clear hc1 hc2 hc3 hc4 F F2 N
    with_reducible refine r_callN ?_
    (with_reducible refine' r_boot ?V ?G ?hk ?hx ?eB ?_); (case V => assumption); (case hx => kernel_rfl); (case eB => with_reducible exact g_list _); (case G => assumption); (case hk => exact Fr.keep (by assumption))
    (with_reducible refine r_cwType ?_ ?h1 ?h2); (case h1 => rfl); (case h2 => rfl)
    (with_reducible refine r_args ?_ ?h1); (case h1 => rfl)
    with_reducible refine r_callN ?_
    (with_reducible refine' r_glob ?V ?G ?hk ?hx ?eB ?_); (case V => assumption); (case hx => kernel_rfl); (case eB => with_reducible exact g_write _); (case G => assumption); (case hk => exact Fr.keep (by assumption))
    (with_reducible refine' r_calldef ?G ?hx ?_ ?h1 ?h2); (case G => assumption); (case hx => kernel_rfl); (case h1 => rfl); (case h2 => rfl)
    (with_reducible refine r_args ?_ ?h1); (case h1 => rfl)
    with_reducible refine r_callN ?_
    (with_reducible refine' r_glob ?V ?G ?hk ?hx ?eB ?_); (case V => assumption); (case hx => kernel_rfl); (case eB => with_reducible exact g_from_sixes _); (case G => assumption); (case hk => exact Fr.keep (by assumption))
    (with_reducible refine' r_calldef ?G ?hx ?_ ?h1 ?h2); (case G => assumption); (case hx => kernel_rfl); (case h1 => rfl); (case h2 => rfl)
    (with_reducible refine r_args ?_ ?h1); (case h1 => rfl)
    with_reducible (refine wpAny_BinOp ?_; refine wpAny_BinOp ?_)
    (with_reducible refine' r_free ?V ?hc ?hv ?hx ?hn ?_); (case V => assumption); (case hx => decide +kernel); (case hc => rfl); (case hv => exact isCell_fr (by assumption) (by assumption)); (case hn => kernel_rfl)
    with_reducible refine PyProof.Rows.List_ ?_
    (with_reducible refine r_args ?_ ?h1); (case h1 => rfl)
    (with_reducible refine' r_local ?V ?hn ?hv ?hx ?_); (case V => assumption); (case hx => kernel_rfl); (case hn => first | exact Fr.ns (by assumption) | assumption); (case hv => walk_at "mlk")
    with_reducible refine r_args0 ?_
    (with_reducible refine' r_newList ?F ?N ?hz ?_); (case F => assumption); (case N => assumption); (case hz => first | decide | (simp only [List.length_cons, List.length_nil, sizeLine_eq]; (first | lia | omega))); intro _ _ _ _ _ _
    have hz1 : fits.size + ([Value.int v tv] : List Value).toArray.size ≤ 1000000 := by simp; (first | lia | omega)
    refine r_addL (by assumption) (by assumption) (isList_keep lf (Fr.keep (by assumption))) (isList_news (by assumption) (List.Mem.head _)) hz1 ?_
    intro a5 h5 ha5 hlt5 F5 N5
    (with_reducible refine' r_free ?V ?hc ?hv ?hx ?hn ?_); (case V => assumption); (case hx => decide +kernel); (case hc => rfl); (case hv => exact isCell_fr (by assumption) (by assumption)); (case hn => kernel_rfl)
    have hz2 : (fits.toList ++ ([Value.int v tv] : List Value).toArray.toList).toArray.size + rits.size ≤ 1000000 := by simp; (first | lia | omega)
    refine r_addL F5 N5 (isList_news N5 (List.Mem.head _)) (isList_keep lr F5.keep) hz2 ?_
    intro a6 h6 ha6 hlt6 F6 N6
    have hI6 : IntsAre ((fits.toList ++ ([Value.int v tv] : List Value).toArray.toList).toArray.toList ++ rits.toList).toArray.toList ((found ++ [v]) ++ rest) := by
      show IntsAre ((fits.toList ++ [Value.int v tv]) ++ rits.toList) _
      exact (hfi.append (.cons v tv .nil)).append hri
    have hin : ∀ x ∈ (found ++ [v]) ++ rest, 0 ≤ x ∧ x < 64 := by
      intro x hx
      simp only [List.mem_append, List.mem_singleton] at hx
      rcases hx with (hx | rfl) | hx
      · exact hfr x hx
      · exact hvr _ hvm
      · exact hrr x hx
    (with_reducible refine r_args ?_ ?h1); (case h1 => rfl)
    (with_reducible refine' r_free ?V ?hc ?hv ?hx ?hn ?_); (case V => assumption); (case hx => decide +kernel); (case hc => rfl); (case hv => exact isCell_fr (by assumption) (by assumption)); (case hn => kernel_rfl)
    with_reducible (refine r_args0 ?_; refine And.intro (Fr.keep (by assumption)) ?_)
    refine sixes_spec (Gd.keeps (by assumption) (Fr.keep (by assumption))) (Room.le (by assumption) (by (first | lia | omega))) (isList_news N6 (List.Mem.head _)) hI6 hin (by simp; (first | lia | omega)) hs0 (by (first | lia | omega)) ?_
    intro h7 t7 by7 tb7 hk7 hb7
    have F7 := fr_keeps F6 hk7
    have N7 := news_keeps N6 hk7
    (with_reducible refine r_args ?_ ?h1); (case h1 => rfl)
    (with_reducible refine' r_free ?V ?hc ?hv ?hx ?hn ?_); (case V => assumption); (case hx => decide +kernel); (case hc => rfl); (case hv => exact isCell_fr (by assumption) (by assumption)); (case hn => kernel_rfl)
    with_reducible (refine r_args0 ?_; refine And.intro (Fr.keep (by assumption)) ?_)
    have hl7 : ((octs ((found ++ [v]) ++ rest) ((((found ++ [v]) ++ rest).length + 3) / 4)).take size.toNat).length ≤ 400 := by rw [List.length_take]; (first | lia | omega)
    refine write_spec hk5 (Gd.keeps (by assumption) (Fr.keep (by assumption))) (Room.le (by assumption) (by (first | lia | omega))) hb7 hl7 ?_
    intro h8 t8 by8 tb8 hk8 hb8
    have F8 := fr_keeps F7 hk8
    with_reducible refine r_args0 ?_
    have hz8 : by8.size ≤ 1000000 := by
      rw [size_of, hb8]; unfold wr
      have := raw_len ((octs ((found ++ [v]) ++ rest) ((((found ++ [v]) ++ rest).length + 3) / 4)).take size.toNat) (sg k)
      (first | lia | omega)
    refine r_listBytes R4.hh hz8 ?_
    intro h9 t9 l9 its9 hk9 hle9 hl9 hi9
    rw [hb8] at hi9
    exact Hk _ _ _ _ (Keeps.trans F8.keep hk9) hl9 hi9
  · intro h5 t5 tr hk5
    exact H _ _ _ (Keep2.trans K2 (Keeps.two hk5)) (X2.keeps hk5)
end

end

section


/-- what the key of the fours gives -/
noncomputable def key4 (n : Nat) (found rest : List Int) (v : Int) : List Int := hx (fours ((found ++ [v]) ++ rest) n)
section
variable {prog : Program} {w : World} {A : Around} {E : Value → Shared → Prop} {h : Heap} {g : Array GenState} {d : Drawn} {t : Nat} {o : OsState} {ga fa ra : Addr} {gits fits rits : Array Value} {goal found rest : List Int} {n r : Nat} {Q : Value → Shared → Prop}
theorem ask4_spec (X : W2 w h) (R : Room A 7) (hg : h.IsList ga gits) (hgi : IntsAre gits.toList goal)
    (hf : h.IsList fa fits) (hfi : IntsAre fits.toList found) (hfr : ∀ v ∈ found, 0 ≤ v ∧ v < 16) (hr : h.IsList ra rits) (hri : IntsAre rits.toList rest) (hrr : ∀ v ∈ rest, 0 ≤ v ∧ v < 16) (hn : found.length + 1 + rest.length = 2 * n) (hn1 : n ≤ 100)
    (hrl : r ≤ 16) (hP : ∀ i : Nat, i < 16 → lexlt (key4 n found rest (i : Int)) goal = decide (i < r))
    (H : ∀ h' t' tr, Keep2 h h' → W2 w h' → Q (.int (r : Int) tr) ⟨h', g, d, t', o⟩) :
    wpAny (model prog w) A (call (.ref 137) [.ref ga, .ref fa, .ref ra]) Q E ⟨h, g, d, t, o⟩ := by
  refine enterC2 (n := 6) (binds := [(Str.ofString "goal", .ref ga), (Str.ofString "found", .ref fa), (Str.ofString "rest", .ref ra)]) X.gd R rfl rfl (by kernel_rfl) rfl (BindsTo.of_eq rfl) rfl ?_ (by decide) rfl rfl rfl rfl rfl ?_
  · intro n x hx
    simp only [List.mem_cons, List.not_mem_nil, or_false] at hx
    rcases hx with rfl | rfl | rfl
    · exact .inl rfl
    all_goals exact .inr ⟨rfl, rfl⟩
  intro h₁ t₁ A' L env cells V hcode hqual hL R' hk1 F N Y
  have G := X.gd
  dsimp only at V hcode hqual
  obtain ⟨o1, o2, rfl, d1, d2⟩ := CellsAre.two Y
  with_reducible (refine r_seq ?_; refine wpAny_Return_some ?_; refine r_callNK ?_)
  (with_reducible refine' r_glob ?V ?G ?hk ?hx ?eB ?_); (case V => assumption); (case hx => kernel_rfl); (case eB => with_reducible exact g_bisect_left _); (case G => assumption); (case hk => exact Fr.keep (by assumption))
  (with_reducible refine' r_calldefKW ?G ?hk ?ha ?_ ?h1 ?h2); (case G => assumption); (case hk => kernel_rfl); (case ha => rfl); (case h1 => rfl); (case h2 => rfl)
  (with_reducible refine r_args ?_ ?h1); (case h1 => rfl)
  with_reducible refine r_callN ?_
  (with_reducible refine' r_boot ?V ?G ?hk ?hx ?eB ?_); (case V => assumption); (case hx => kernel_rfl); (case eB => with_reducible exact g_list _); (case G => assumption); (case hk => exact Fr.keep (by assumption))
  (with_reducible refine r_cwType ?_ ?h1 ?h2); (case h1 => rfl); (case h2 => rfl)
  (with_reducible refine r_args ?_ ?h1); (case h1 => rfl)
  with_reducible refine r_callN ?_
  (with_reducible refine' r_boot ?V ?G ?hk ?hx ?eB ?_); (case V => assumption); (case hx => kernel_rfl); (case eB => with_reducible exact g_range _); (case G => assumption); (case hk => exact Fr.keep (by assumption))
  (with_reducible refine r_cwType ?_ ?h1 ?h2); (case h1 => rfl); (case h2 => rfl)
  (with_reducible refine r_args ?_ ?h1); (case h1 => rfl)
  with_reducible (refine r_cint (fun _ => ?_); refine r_args0 ?_)
  (with_reducible refine' r_range1 ?F ?N ?_); (case F => assumption); (case N => assumption); intro _ _ _ _ _ _ _ _ _ _ _
  with_reducible refine r_args0 ?_
  refine r_listRange (n := 16) R'.hh (by assumption) (small_one (by decide) (by decide) (by decide) (by decide)) (by decide) (by decide) ?_
  intro hb tb lb bits hkb hleb hlb hbi
  have F0 := fr_keeps (by assumption) hkb
  have N0 := news_keeps (by assumption) hkb
  have hkr : Keeps h₁ hb := Keeps.trans (by assumption) hkb
  have X1 : W2 w hb := X.keeps (Keeps.trans hk1 hkr)
  (with_reducible refine r_args ?_ ?h1); (case h1 => rfl)
  (with_reducible refine' r_local ?V ?hn ?hv ?hx ?_); (case V => assumption); (case hx => kernel_rfl); (case hn => first | exact Fr.ns (by assumption) | assumption); (case hv => walk_at "mlk")
  with_reducible (refine r_args0 ?_; refine r_kw ?_)
  obtain ⟨ps, e4, ok4⟩ := X1.t4
  refine r_lambda V hcode hqual X1.gd X1.gd.hd4 (.inr rfl) e4 ok4 (Ev.clos V (cl2 := [(Str.ofString "rest", L + 2), (Str.ofString "found", L + 1)]) rfl) rfl X1.size ?_
  intro f c' ctv pm h2 t2 ps' hx2 hfo hle hcr hP2 hok2
  have hLs : 132 < L := Nat.lt_of_lt_of_le X.size hL
  have k12 : Keep2 hb h2 := fun x ob e => hx2 x ob (hide2_ne e).2 (of_hide2 e)
  have F2 := fr_keep2 F0 k12 hLs
  have hc3 : h2.IsCell (L + 2) (some (.ref ra)) := ⟨o1, hx2 _ _ (ne_off hLs 2).2 (N0 _ (.head _)).1, d1⟩
  have hc4 : h2.IsCell (L + 1) (some (.ref fa)) := ⟨o2, hx2 _ _ (ne_off hLs 1).2 (N0 _ (.tail _ (.head _))).1, d2⟩
  have K2 : Keep2 h h2 := Keep2.trans (Keeps.two (Keeps.trans hk1 hkr)) k12
  have X2 : W2 w h2 := by
    refine ⟨X.gd.keeps K2.hide, ?_, ⟨ps', hP2, hok2⟩⟩
    obtain ⟨ps6, e6, r6⟩ := X1.t6
    exact ⟨ps6, hx2 _ _ (by decide) e6, r6.keep k12⟩
  have lst : ∀ {a : Addr} {its : Array Value}, h.IsList a its → h2.IsList a its := fun hl => isList_keep (X.list hl) K2
  have llb : h2.IsList lb bits := isList_keep (X1.list hlb) k12
  have G2 : Gd w h2 := X2.gd.keeps fun _ _ e => of_hide2 e
  with_reducible (refine r_kw0 ?_; refine And.intro (Fr.keep (by assumption)) ?_)
  refine bisect_left_spec (F := key4 n found rest) (nk := 5) (r := r) G2 (Room.le (by assumption) (by (first | lia | omega))) llb hbi (lst hg) hgi ?_ (by simp) (by simpa using hrl) ?_ ?_
  · refine ⟨⟨_, _, hfo, rfl⟩, ?_⟩
    intro v tv h3 g3 d3' t3 o3' A3 Q3 E3 hvm hk3 R3 Hk
    have hv16 : 0 ≤ v ∧ v < 16 := by
      obtain ⟨i, hi, rfl⟩ := List.mem_map.mp hvm
      have := List.mem_range.mp hi
      (first | lia | omega)
    refine enterL (n := 4) (G2.nolimit.keeps hk3) R3 (hk3 _ _ hfo) (hcr.keeps hk3) (BindsTo.of_eq rfl) (by decide) (locs rfl) rfl rfl rfl ?_
    intro h4 t4 A4 L4 env4 V4 hL4 R4 F4 N4
    have G3 : Gd w h3 := G2.keeps hk3
    have c3 : h3.IsCell (L + 2) (some (.ref ra)) := isCell_keep hc3 hk3
    have c4 : h3.IsCell (L + 1) (some (.ref fa)) := isCell_keep hc4 hk3
    have lf : h3.IsList fa fits := isList_keep (lst hf) hk3
    have lr : h3.IsList ra rits := isList_keep (lst hr) hk3
    have sf : fits.size = found.length := by have := hfi.length; simpa using this
    have sr : rits.size = rest.length := by have := hri.length; simpa using this
    clear hc3 hc4 F F0 F2 N N0
    with_reducible refine r_callN ?_
    (with_reducible refine' r_boot ?V ?G ?hk ?hx ?eB ?_); (case V => assumption); (case hx => kernel_rfl); (case eB => with_reducible exact g_list _); (case G => assumption); (case hk => exact Fr.keep (by assumption))
    (with_reducible refine r_cwType ?_ ?h1 ?h2); (case h1 => rfl); (case h2 => rfl)
    (with_reducible refine r_args ?_ ?h1); (case h1 => rfl)
    with_reducible refine r_callN ?_
    (with_reducible refine' r_glob ?V ?G ?hk ?hx ?eB ?_); (case V => assumption); (case hx => kernel_rfl); (case eB => with_reducible exact g_b16encode _); (case G => assumption); (case hk => exact Fr.keep (by assumption))
    (with_reducible refine' r_calldef ?G ?hx ?_ ?h1 ?h2); (case G => assumption); (case hx => kernel_rfl); (case h1 => rfl); (case h2 => rfl)
    (with_reducible refine r_args ?_ ?h1); (case h1 => rfl)
    with_reducible refine r_callN ?_
    (with_reducible refine' r_glob ?V ?G ?hk ?hx ?eB ?_); (case V => assumption); (case hx => kernel_rfl); (case eB => with_reducible exact g_from_fours _); (case G => assumption); (case hk => exact Fr.keep (by assumption))
    (with_reducible refine' r_calldef ?G ?hx ?_ ?h1 ?h2); (case G => assumption); (case hx => kernel_rfl); (case h1 => rfl); (case h2 => rfl)
    (with_reducible refine r_args ?_ ?h1); (case h1 => rfl)
    with_reducible (refine wpAny_BinOp ?_; refine wpAny_BinOp ?_)
    (with_reducible refine' r_free ?V ?hc ?hv ?hx ?hn ?_); (case V => assumption); (case hx => decide +kernel); (case hc => rfl); (case hv => exact isCell_fr (by assumption) (by assumption)); (case hn => kernel_rfl)
    with_reducible refine PyProof.Rows.List_ ?_
    (with_reducible refine r_args ?_ ?h1); (case h1 => rfl)
    (with_reducible refine' r_local ?V ?hn ?hv ?hx ?_); (case V => assumption); (case hx => kernel_rfl); (case hn => first | exact Fr.ns (by assumption) | assumption); (case hv => walk_at "mlk")
    with_reducible refine r_args0 ?_
    (with_reducible refine' r_newList ?F ?N ?hz ?_); (case F => assumption); (case N => assumption); (case hz => first | decide | (simp only [List.length_cons, List.length_nil, sizeLine_eq]; (first | lia | omega))); intro _ _ _ _ _ _
    have hz1 : fits.size + ([Value.int v tv] : List Value).toArray.size ≤ 1000000 := by simp; (first | lia | omega)
    refine r_addL (by assumption) (by assumption) (isList_keep lf (Fr.keep (by assumption))) (isList_news (by assumption) (List.Mem.head _)) hz1 ?_
    intro a5 h5 ha5 hlt5 F5 N5
    (with_reducible refine' r_free ?V ?hc ?hv ?hx ?hn ?_); (case V => assumption); (case hx => decide +kernel); (case hc => rfl); (case hv => exact isCell_fr (by assumption) (by assumption)); (case hn => kernel_rfl)
    have hz2 : (fits.toList ++ ([Value.int v tv] : List Value).toArray.toList).toArray.size + rits.size ≤ 1000000 := by simp; (first | lia | omega)
    refine r_addL F5 N5 (isList_news N5 (List.Mem.head _)) (isList_keep lr F5.keep) hz2 ?_
    intro a6 h6 ha6 hlt6 F6 N6
    have hI6 : IntsAre ((fits.toList ++ ([Value.int v tv] : List Value).toArray.toList).toArray.toList ++ rits.toList).toArray.toList ((found ++ [v]) ++ rest) := by
      show IntsAre ((fits.toList ++ [Value.int v tv]) ++ rits.toList) _
      exact (hfi.append (.cons v tv .nil)).append hri
    have hin : ∀ x ∈ (found ++ [v]) ++ rest, 0 ≤ x ∧ x < 16 := by
      intro x hx
      simp only [List.mem_append, List.mem_singleton] at hx
      rcases hx with (hx | rfl) | hx
      · exact hfr x hx
      · exact hv16
      · exact hrr x hx
    with_reducible (refine r_args0 ?_; refine And.intro (Fr.keep (by assumption)) ?_)
    refine fours_spec (n := n) (Gd.keeps (by assumption) (Fr.keep (by assumption))) (Room.le (by assumption) (by (first | lia | omega))) (isList_news N6 (List.Mem.head _)) hI6 hin (by simp; (first | lia | omega)) (by (first | lia | omega)) ?_
    intro h7 t7 by7 tb7 hk7 hb7
    have F7 := fr_keeps F6 hk7
    have N7 := news_keeps N6 hk7
    with_reducible (refine r_args0 ?_; refine And.intro (Fr.keep (by assumption)) ?_)
    have hl7 : (fours ((found ++ [v]) ++ rest) n).length = n := by simp [fours]
    refine b16encode_spec (Gd.keeps (by assumption) (Fr.keep (by assumption))) (Room.le (by assumption) (by (first | lia | omega))) hb7 (by (first | lia | omega)) (by (first | lia | omega)) ?_
    intro h8 t8 by8 tb8 hk8 hb8
    have F8 := fr_keeps F7 hk8
    with_reducible refine r_args0 ?_
    have hz8 : by8.size ≤ 1000000 := by
      rw [size_of, hb8]; unfold hx
      rw [List.length_flatMap]
      have : ∀ l : List Int, (l.map fun c => [HX (c / 16), HX (c % 16)].length).sum = 2 * l.length := by
        intro l; induction l with
        | nil => rfl
        | cons c l ih => rw [List.map_cons, List.sum_cons, ih]; simp; (first | lia | omega)
      rw [this, hl7]; (first | lia | omega)
    refine r_listBytes R4.hh hz8 ?_
    intro h9 t9 l9 its9 hk9 hle9 hl9 hi9
    rw [hb8] at hi9
    exact Hk _ _ _ _ (Keeps.trans F8.keep hk9) hl9 hi9
  · intro i hi
    have hi' : i < 16 := by simpa using hi
    have q := hP i hi'
    rw [← q]
    congr 1
    simp
  · intro h5 t5 tr hk5
    exact H _ _ _ (Keep2.trans K2 (Keeps.two hk5)) (X2.keeps hk5)
end

end

section
/-- the tables, told by the ledger -/
noncomputable def TabN (b : Heap) (news : List (Addr × Obj)) (pos : Pos) (qual : Str) (ps : Array Value) : Prop :=
  ps = #[] ∨ ∃ (c' : Addr) (oc : Obj) (vs : Array Value) (t : Tok), ps = #[rawInt pos.line, rawInt pos.col, .ref c'] ∧ oc.data = .fields vs ∧ vs[1]? = some (.str qual t) ∧ c' ≠ 125 ∧ c' ≠ 132 ∧ (b.get? c' = some oc ∨ (c', oc) ∈ news)
noncomputable def NW (b : Heap) (news : List (Addr × Obj)) : Prop :=
  (∃ ps, ((125 : Addr), tabObj ps) ∈ news ∧ TabN b news pos6 qual6 ps) ∧ (∃ ps, ((132 : Addr), tabObj ps) ∈ news ∧ TabN b news pos4 qual4 ps)
theorem TabN.mono {b : Heap} {news news' : List (Addr × Obj)} {pos : Pos} {qual : Str} {ps : Array Value} (x : TabN b news pos qual ps) (hs : ∀ p ∈ news, p ∈ news') : TabN b news' pos qual ps := by
  rcases x with x | ⟨c, oc, vs, t, e, hd, hv, h1, h2, h3⟩
  · exact .inl x
  · exact .inr ⟨c, oc, vs, t, e, hd, hv, h1, h2, h3.imp id (hs _)⟩
theorem NW.mono {b : Heap} {news news' : List (Addr × Obj)} (x : NW b news) (hs : ∀ p ∈ news, p ∈ news') : NW b news' :=
  ⟨let ⟨ps, m, r⟩ := x.1; ⟨ps, hs _ m, r.mono hs⟩, let ⟨ps, m, r⟩ := x.2; ⟨ps, hs _ m, r.mono hs⟩⟩
section
variable {w : World} {h0 h : Heap} {L : Addr} {m : Str → Option Value} {news : List (Addr × Obj)}
theorem tab_of {P : Addr} {pos : Pos} {qual : Str} (F : Fr (hide2 h0) L h m) (N : News (hide2 h0) L h news) (x : ∃ ps, (P, tabObj ps) ∈ news ∧ TabN (hide2 h0) news pos qual ps) : TabG h P pos qual := by
  obtain ⟨ps, hm, r⟩ := x
  refine ⟨ps, (N _ hm).1, ?_⟩
  rcases r with r | ⟨c, oc, vs, t, e, hd, hv, h1, h2, h3⟩
  · exact .inl r
  · refine .inr ⟨c, e, c, oc, vs, t, rfl, ?_, hd, hv⟩
    rw [hide2_get h1 h2]
    rcases h3 with h3 | h3
    · exact F.keep _ _ h3
    · exact (N _ h3).1
theorem nw_w2 (G : Gd w (hide2 h0)) (F : Fr (hide2 h0) L h m) (N : News (hide2 h0) L h news) (x : NW (hide2 h0) news) : W2 w h :=
  ⟨G.keeps fun b o e => by rw [hide2_get (hide2_ne e).1 (hide2_ne e).2]; exact F.keep b o e, tab_of F N x.1, tab_of F N x.2⟩
theorem hide2_none {P : Addr} (hP : P = 125 ∨ P = 132) : (hide2 h0).get? P = none := by
  cases q : (hide2 h0).get? P with
  | none => rfl
  | some ob => rcases hP with rfl | rfl; exact absurd rfl (hide2_ne q).1; exact absurd rfl (hide2_ne q).2
theorem tab_news {P I : Addr} {oI : Obj} {pos : Pos} {qual : Str} (hP : P = 125 ∨ P = 132) (F : Fr (hide2 h0) L h m) (hL : 132 < L) (hI : h.get? I = some oI) (hoI : ∀ vs t q, oI.data = .fields vs → vs[1]? ≠ some (.str q t)) (hI2 : I ≠ 125 ∧ I ≠ 132) (x : TabG h P pos qual) :
    ∃ tn, News (hide2 h0) L h tn ∧ (∃ ps, (P, tabObj ps) ∈ tn ∧ TabN (hide2 h0) tn pos qual ps) ∧ ∀ p ∈ tn, p.1 ≠ I := by
  obtain ⟨ps, e, r⟩ := x
  have hPL : P ≠ L := by
    rintro rfl
    rcases hP with rfl | rfl
    · exact absurd hL (by decide)
    · exact absurd hL (by decide)
  have hPI : P ≠ I := by rcases hP with rfl | rfl; exact hI2.1.symm; exact hI2.2.symm
  have base : ∀ p ∈ [(P, tabObj ps)], h.get? p.1 = some p.2 ∧ p.1 ≠ L ∧ (hide2 h0).get? p.1 = none := by
    intro p hp
    rw [List.mem_singleton.mp hp]
    exact ⟨e, hPL, hide2_none hP⟩
  rcases r with rfl | ⟨c, e2, c2, oc, vs, t, e3, hoc, hd, hv⟩
  · exact ⟨[(P, tabObj #[])], base, ⟨#[], .head _, .inl rfl⟩, fun p hp => by rw [List.mem_singleton.mp hp]; exact hPI⟩
  · cases e3
    have hn := hide2_ne hoc
    have hoc' := of_hide2 hoc
    cases q : (hide2 h0).get? c with
    | some ob =>
      have : ob = oc := by
        have := F.keep _ _ q
        rw [hoc'] at this; exact (Option.some.inj this).symm
      subst this
      exact ⟨[(P, tabObj ps)], base, ⟨ps, .head _, .inr ⟨c, ob, vs, t, e2, hd, hv, hn.1, hn.2, .inl q⟩⟩, fun p hp => by rw [List.mem_singleton.mp hp]; exact hPI⟩
    | none =>
      refine ⟨[(P, tabObj ps), (c, oc)], fun p hp => ?_, ⟨ps, .head _, .inr ⟨c, oc, vs, t, e2, hd, hv, hn.1, hn.2, .inr (.tail _ (.head _))⟩⟩, fun p hp => ?_⟩
      · rcases List.mem_cons.mp hp with rfl | hp
        · exact ⟨e, hPL, hide2_none hP⟩
        · rw [List.mem_singleton.mp hp]
          refine ⟨hoc', ?_, q⟩
          rintro rfl
          obtain ⟨oL, es, ep, eL, hLd, _⟩ := F.ns
          rw [hoc'] at eL; cases eL
          rw [hd] at hLd; cases hLd
      · rcases List.mem_cons.mp hp with rfl | hp
        · exact hPI
        · rw [List.mem_singleton.mp hp]
          rintro rfl
          rw [hoc'] at hI; cases hI
          exact hoI vs t _ hd hv
theorem w2_nw {I : Addr} {oI : Obj} (X : W2 w h) (F : Fr (hide2 h0) L h m) (hL : 132 < L) (hI : h.get? I = some oI) (hoI : ∀ vs t q, oI.data = .fields vs → vs[1]? ≠ some (.str q t)) (hI2 : I ≠ 125 ∧ I ≠ 132) :
    ∃ tn, News (hide2 h0) L h tn ∧ NW (hide2 h0) tn ∧ ∀ p ∈ tn, p.1 ≠ I := by
  obtain ⟨t6, N6, y6, n6⟩ := tab_news (.inl rfl) F hL hI hoI hI2 X.t6
  obtain ⟨t4, N4, y4, n4⟩ := tab_news (.inr rfl) F hL hI hoI hI2 X.t4
  refine ⟨t6 ++ t4, fun p hp => (List.mem_append.mp hp).elim (N6 p) (N4 p), ⟨?_, ?_⟩, fun p hp => (List.mem_append.mp hp).elim (n6 p) (n4 p)⟩
  · obtain ⟨ps, hm, r⟩ := y6
    exact ⟨ps, List.mem_append_left _ hm, r.mono fun p hp => List.mem_append_left _ hp⟩
  · obtain ⟨ps, hm, r⟩ := y4
    exact ⟨ps, List.mem_append_right _ hm, r.mono fun p hp => List.mem_append_right _ hp⟩
end
noncomputable def itObj (x n c : Int) : Obj := { cls := .type "range_iterator", data := .fields #[rawInt x, rawInt n, rawInt c] }
theorem itObj_no (x n c : Int) : ∀ vs t q, (itObj x n c).data = .fields vs → vs[1]? ≠ some (.str q t) := by
  intro vs t q e
  cases e
  simp [rawInt]
section loops
variable {prog : Program} {w : World} {A : Around} {b h : Heap} {g : Array GenState} {d : Drawn} {t : Nat} {o : OsState}
  {L : Addr} {cs : Scope} {cl : List (Str × Addr)} {m : Str → Option Value} {news : List (Addr × Obj)} {env : Env} {x : Str} {QF : Flow → Shared → Prop} {body : List Stmt}
noncomputable def VEnd (b : Heap) (L I : Addr) (oI : Obj) (g : Array GenState) (d : Drawn) (o : OsState) (Jn : (Str → Option Value) → List (Addr × Obj) → Prop) (s₂ : Shared) : Prop :=
  ∃ h' tk m' news', s₂ = ⟨h', g, d, tk, o⟩ ∧ Fr b L h' m' ∧ News b L h' ((I, oI) :: news') ∧ (∀ p ∈ news', p.1 ≠ I) ∧ Jn m' news'
noncomputable def VPost (b : Heap) (L I : Addr) (oI : Obj) (g : Array GenState) (d : Drawn) (o : OsState) (Jn : (Str → Option Value) → List (Addr × Obj) → Prop) (QF : Flow → Shared → Prop) (f : Flow) (s₂ : Shared) : Prop := match f with
  | .ret v => QF (.ret v) s₂
  | .brk => QF .next s₂
  | _ => VEnd b L I oI g d o Jn s₂
theorem r_forRangeV {r : Addr} {x0 y0 c : Int} {t1 t2 t3 : Tok} {n : Nat} (J : Nat → (Str → Option Value) → List (Addr × Obj) → Prop) (V : Ev env cs L cl) (hh : A.handled = none) (hr : IsRange h r x0 y0 c t1 t2 t3) (hsmall : Builtin.Range.small x0 y0 c = true)
    (hn : Builtin.Range.rangeSize x0 y0 c = (n : Int)) (F : Fr b L h m) (N : News b L h news) (hj : J 0 m news)
    (turn : ∀ (i : Nat) u m₁ news₁ h₁ t₁ I oI, i < n → L < I → (∀ vs t q, oI.data = .fields vs → vs[1]? ≠ some (.str q t)) → (∀ p ∈ news₁, p.1 ≠ I) → J i m₁ news₁ → Fr b L h₁ (fun y => if y = x then some (.int (x0 + (i : Int) * c) u) else m₁ y) → News b L h₁ ((I, oI) :: news₁) →
      wpAny (model prog w) A (execs body env) (VPost b L I oI g d o (J (i + 1)) QF) NoE ⟨h₁, g, d, t₁, o⟩)
    (done : ∀ m₁ news₁ h₁ t₁, J n m₁ news₁ → Fr b L h₁ m₁ → News b L h₁ news₁ → QF .next ⟨h₁, g, d, t₁, o⟩) :
    wpAny (model prog w) A (pyIter (.ref r)) (fun it s₂ => LoopAtV prog w A b env x body QF NoE it s₂) NoE ⟨h, g, d, t, o⟩ := by
  obtain rfl := V.locals
  refine wpAny_pyIter_range hr hsmall ?_
  have W : Walks prog w A h.objs.size [h.objs.size] [h.objs.size] n (fun i v => i < n ∧ ∃ t, v = .int (x0 + i * c) t)
      (fun i h' => IsRangeIter h' h.objs.size (x0 + (i : Nat) * c) ((n : Int) - (i : Nat)) c) := (Walks.range hh _ x0 c n).bound
  have hnew := next_is_new F
  refine ⟨_, _, _, n, _, _, m, news, J, rfl, W, ?_, ?_, ?_, (by show IsRangeIter _ _ _ _ _; rw [hn]; simpa using Heap.get?_push_size _ rfl), F.push _, (fun p hp => ⟨Heap.get?_push_of_some _ (N p hp).1, (N p hp).2⟩), hj, ?_, ?_⟩
  · intro hm
    exact absurd F.ns.lt ((List.mem_singleton.mp hm) ▸ Nat.lt_irrefl _)
  · intro b' hb
    rw [List.mem_singleton.mp hb]
    exact hnew
  · intro p hp hI
    exact absurd (Heap.lt_size (N p hp).1) ((List.mem_singleton.mp hI) ▸ Nat.lt_irrefl _)
  · rintro i v m₁ news₁ s₁ own ⟨hh', tk', rfl⟩ hin ⟨_, t, rfl⟩ hJ hoff hown hget hall hst F₁ N₁
    have hst' : hh'.get? h.objs.size = some (itObj (x0 + ((i + 1 : Nat) : Int) * c) ((n : Int) - ((i + 1 : Nat) : Int)) c) := hst
    have hmem := hall h.objs.size (List.mem_singleton.mpr rfl) hnew _ hst'
    have N₂ : News b env.locals hh' ((h.objs.size, itObj (x0 + ((i + 1 : Nat) : Int) * c) ((n : Int) - ((i + 1 : Nat) : Int)) c) :: news₁) := fun p hp => by
      rcases List.mem_cons.mp hp with rfl | hp
      · exact N₁ _ (List.mem_append_left _ hmem)
      · exact N₁ _ (List.mem_append_right _ hp)
    refine wpAny_mono (turn i t m₁ news₁ hh' tk' h.objs.size _ hin F.ns.lt (itObj_no _ _ _) (fun p hp e => hoff p hp (List.mem_singleton.mpr e)) hJ F₁ N₂) (fun f s₂ p => ?_) fun _ _ e => e
    have fin : VEnd b env.locals h.objs.size (itObj (x0 + ((i + 1 : Nat) : Int) * c) ((n : Int) - ((i + 1 : Nat) : Int)) c) g d o (J (i + 1)) s₂ →
        LoopStepU b env.locals [h.objs.size] own (J (i + 1)) ⟨hh', g, d, tk', o⟩ .next s₂ := by
      rintro ⟨h', tk, m', news', e, F', N', ho, r⟩
      refine ⟨rfl, h', tk, m', news', e, F', fun p hp => ?_, fun p hp hI => ho p hp (List.mem_singleton.mp hI), r⟩
      rcases List.mem_append.mp hp with hp | hp
      · have h1 : p.1 = h.objs.size := List.mem_singleton.mp (hown p hp)
        have h2 : hh'.get? p.1 = some p.2 := hget p hp
        have h3 : p = (h.objs.size, itObj (x0 + ((i + 1 : Nat) : Int) * c) ((n : Int) - ((i + 1 : Nat) : Int)) c) := by
          rw [h1, hst'] at h2
          exact Prod.ext h1 (Option.some.inj h2).symm
        rw [h3]; exact N' _ (List.mem_cons_self ..)
      · exact N' _ (List.mem_cons_of_mem _ hp)
    cases f with
    | ret v => exact .ret p
    | brk => exact .brk p
    | next => exact .next (fin p)
    | cont => exact .cont (fin p)
  · rintro h' tk m' news' F' N' _ hJ
    exact done m' news' h' tk hJ F' N'
end loops
theorem enter2 {prog : Program} {w : World} {A : Around} {E : Value → Shared → Prop} {h : Heap} {g : Array GenState} {d : Drawn} {t : Nat} {o : OsState} {n : Nat} {f : Addr} {fo : Obj} {fd : FuncData} {body : List Stmt}
    {args : List Value} {kw : List (Str × Value)} {binds : List (Str × Value)} {Q : Value → Shared → Prop}
    (G : Gd w (hide2 h)) (R : Room A (n + 1)) (hl : (KF w).lookup f = some fo) (hfd : fo.data = .func fd) (hcode : codeIn (KF w) fd.code fd.qualname = true) (hbody : fd.body = .stmts body)
    (hbind : BindsTo ⟨h, g, d, t, o⟩ fd ⟨args, kw⟩ binds) (hcell : ∀ x ∈ fd.scope.names, x.2 ≠ .cell) (hloc : ∀ x ∈ binds, fd.scope.names.lookup x.1 = some .local)
    (hgl : fd.globals = mainGlobals) (hbl : fd.builtins = builtinsNs)
    (hco : fd.scope.isCoroutine = false) (hgen : fd.scope.isGenerator = false) (hk : fd.scope.kind = .function)
    (H : ∀ h₁ t₁ (A' : Around) (L : Addr) (env : Env), Ev env fd.scope L fd.closure → h.objs.size ≤ L → Room A' n → Keeps h h₁ → Fr (hide2 h) L h₁ (fun x => binds.reverse.lookup x) →
      wpAny (model prog w) A' (execs body env) (fun fl s' => Q (match fl with | .ret v => v | _ => .none) s') NoE ⟨h₁, g, d, t₁, o⟩) :
    wpAny (model prog w) A (call (.ref f) args kw) Q E ⟨h, g, d, t, o⟩ := by
  have G' : Gd w h := G.keeps fun _ _ e => of_hide2 e
  refine enter G' R hl hfd hcode hbody hbind hcell hloc hgl hbl hco hgen hk ?_
  intro h₁ t₁ A' L env V hL R' F N
  exact H h₁ t₁ A' L env V hL R' F.keep ⟨F.ns, fun x ob e => F.keep x ob (of_hide2 e), by rw [hide2_size]; exact F.above⟩

end

section
theorem rep_fold {α : Type} (v : α) (n : Nat) : List.foldl (fun x1 x2 => x1 ++ x2) (#[] : Array α) (List.replicate n #[v]) = (List.replicate n v).toArray := by
  have key : ∀ (n : Nat) (acc : Array α), List.foldl (fun x1 x2 => x1 ++ x2) acc (List.replicate n #[v]) = acc ++ (List.replicate n v).toArray := by
    intro n
    induction n with
    | zero => intro acc; simp
    | succ n ih =>
      intro acc
      rw [List.replicate_succ, List.foldl_cons, ih, List.replicate_succ]
      apply Array.ext'
      simp
  rw [key]; simp
section rules
variable {prog : Program} {w : World} {A : Around} {E : Value → Shared → Prop} {b h : Heap} {g : Array GenState} {d : Drawn} {t : Nat} {o : OsState} {L a : Addr} {m : Str → Option Value} {news : List (Addr × Obj)} {Q : Value → Shared → Prop}
theorem r_mul1 {v : Value} {k : Nat} {x : Int} {u : Tok} (F : Fr b L h m) (N : News b L h news) (hm : (a, listOf #[v] k) ∈ news) (h0 : -1000 ≤ x) (h1 : x ≤ 1000)
    (H : ∀ a' h', h.objs.size ≤ a' → (∀ p ∈ news, p.1 < a') → Fr b L h' m → News b L h' ((a', listOf (List.replicate x.toNat v).toArray 0) :: news) → Q (.ref a') ⟨h', g, d, t, o⟩) :
    wpAny (model prog w) A (binaryOp .Mult (.ref a) (.int x u)) Q E ⟨h, g, d, t, o⟩ := by
  refine mul_list F N (N _ hm).1 (by (first | lia | omega)) (by (first | lia | omega)) (by simp; (first | lia | omega)) fun h' F' N' => H _ h' (Nat.le_refl _) (fun p hp => Heap.lt_size (N p hp).1) F' ?_
  have e : (if (#[v] : Array Value).isEmpty = true then 0 else x.toNat) = x.toNat := if_neg (by simp)
  rw [e, rep_fold] at N'
  exact N'
end rules
theorem g_ask4 (w : World) : nsIn (KF w) mainGlobals "_law_ask_fours" = some (some (.ref 137)) := by kernel_rfl
theorem g_ask6 (w : World) : nsIn (KF w) mainGlobals "_law_ask_sixes" = some (some (.ref 130)) := by kernel_rfl
theorem ints_rep (n : Nat) (v : Int) (t : Tok) : IntsAre (List.replicate n (Value.int v t)) (List.replicate n v) := by
  induction n with
  | zero => exact .nil
  | succ n ih => rw [List.replicate_succ, List.replicate_succ]; exact .cons _ _ ih


inductive J4 (b : Heap) (ga : Addr) (truth : List Int) (i : Nat) (m : Str → Option Value) (nx : List (Addr × Obj)) : Prop
  | mk (fa : Addr) (fits : Array Value) (kf : Nat) (tc : Tok) : (fa, listOf fits kf) ∈ nx → IntsAre fits.toList (truth.take i) → NW b nx → m (Str.ofString "found") = some (.ref fa) → m (Str.ofString "goal") = some (.ref ga) → m (Str.ofString "count") = some (.int (truth.length : Int) tc) → J4 b ga truth i m nx
section
variable {prog : Program} {w : World} {A : Around} {E : Value → Shared → Prop} {h : Heap} {g : Array GenState} {d : Drawn} {t : Nat} {o : OsState} {ga : Addr} {gits : Array Value} {goal truth : List Int} {n : Nat} {tc : Tok} {Q : Value → Shared → Prop}
theorem read4_spec (X : W2 w h) (R : Room A 8) (hg : h.IsList ga gits) (hgi : IntsAre gits.toList goal) (ht : ∀ v ∈ truth, 0 ≤ v ∧ v < 16) (hn : truth.length = 2 * n) (hn1 : n ≤ 100)
    (hP : ∀ i (hi : i < truth.length), ∀ j : Nat, j < 16 → lexlt (key4 n (truth.take i) (List.replicate (truth.length - 1 - i) 15) (j : Int)) goal = decide ((j : Int) < truth[i]))
    (H : ∀ h' t' a its, Keep2 h h' → W2 w h' → h'.IsList a its → IntsAre its.toList truth → Q (.ref a) ⟨h', g, d, t', o⟩) :
    wpAny (model prog w) A (call (.ref 149) [.ref ga, .int (truth.length : Int) tc]) Q E ⟨h, g, d, t, o⟩ := by
  refine enter2 (n := 7) X.gd R rfl rfl (by kernel_rfl) rfl (BindsTo.of_eq rfl) (by decide) (locs rfl) rfl rfl rfl rfl rfl ?_
  intro h₁ t₁ A' L env V hL R' hk1 F
  have G := X.gd
  have X1 := X.keeps hk1
  dsimp only at V
  have hLs : 132 < L := Nat.lt_of_lt_of_le X.size hL
  obtain ⟨oL0, _, _, eL0, _⟩ := F.ns
  obtain ⟨tn, N, nw, _⟩ := w2_nw (I := L) (oI := oL0) X1 F hLs eL0 (by intro vs t q e; obtain ⟨oL, es, ep, eL, hLd, _⟩ := F.ns; rw [eL0] at eL; cases eL; rw [e] at hLd; cases hLd) ⟨(ne_off hLs 0).1, (ne_off hLs 0).2⟩
  with_reducible refine r_seq ?_
  (with_reducible refine r_assign ?_ ?h1); (case h1 => rfl)
  with_reducible (refine PyProof.Rows.List_ ?_; refine r_args0 ?_)
  (with_reducible refine' r_newList ?F ?N ?hz ?_); (case F => assumption); (case N => assumption); (case hz => first | decide | (simp only [List.length_cons, List.length_nil, sizeLine_eq]; (first | lia | omega))); intro _ _ _ _ _ _
  (with_reducible refine' r_storeG ?V ?F ?N ?hx ?_); (case V => assumption); (case F => assumption); (case N => assumption); (case hx => kernel_rfl); intro _ _ _ _ _ _
  with_reducible (refine sq_next ?_; refine r_seq ?_)
  refine r_for V (by assumption) (by kernel_rfl) ?_ (fun _ => rfl)
  with_reducible refine r_callN ?_
  (with_reducible refine' r_boot ?V ?G ?hk ?hx ?eB ?_); (case V => assumption); (case hx => kernel_rfl); (case eB => with_reducible exact g_range _); (case G => assumption); (case hk => exact Fr.keep (by assumption))
  (with_reducible refine r_cwType ?_ ?h1 ?h2); (case h1 => rfl); (case h2 => rfl)
  (with_reducible refine r_args ?_ ?h1); (case h1 => rfl)
  (with_reducible refine' r_local ?V ?hn ?hv ?hx ?_); (case V => assumption); (case hx => kernel_rfl); (case hn => first | exact Fr.ns (by assumption) | assumption); (case hv => walk_at "mlk")
  with_reducible refine r_args0 ?_
  (with_reducible refine' r_range1 ?F ?N ?_); (case F => assumption); (case N => assumption); intro _ _ _ _ _ _ _ _ _ _ _
  have hrs : Builtin.Range.rangeSize 0 (truth.length : Int) 1 = ((truth.length : Nat) : Int) := by
    unfold Builtin.Range.rangeSize
    split <;> (try split) <;> (first | lia | omega)
  refine r_forRangeV (J4 (hide2 h) ga truth) V R'.hh (by assumption) (small_one (by decide) (by decide) (by (first | lia | omega)) (by (first | lia | omega))) hrs (by assumption) (by assumption) ?_ ?_ ?_
  · exact ⟨_, _, _, _, .head _, .nil, nw.mono fun p hp => .tail _ hp, by walk_at "mlk", by walk_at "mlk", by walk_at "mlk"⟩
  · rintro i u m₁ news₁ h2 t2 I oI hin hI hoI hne ⟨fa, fits, kf, tc2, hm, hfi, nw2, m1, m2, m3⟩ F2 N2
    with_reducible refine r_seq ?_
    (with_reducible refine r_assign ?_ ?h1); (case h1 => rfl)
    with_reducible refine r_callN ?_
    (with_reducible refine' r_glob ?V ?G ?hk ?hx ?eB ?_); (case V => assumption); (case hx => kernel_rfl); (case eB => with_reducible exact g_ask4 _); (case G => assumption); (case hk => exact Fr.keep (by assumption))
    (with_reducible refine' r_calldef ?G ?hx ?_ ?h1 ?h2); (case G => assumption); (case hx => kernel_rfl); (case h1 => rfl); (case h2 => rfl)
    (with_reducible refine r_args ?_ ?h1); (case h1 => rfl)
    (with_reducible refine' r_local ?V ?hn ?hv ?hx ?_); (case V => assumption); (case hx => kernel_rfl); (case hn => first | exact Fr.ns (by assumption) | assumption); (case hv => walk_at "mlk")
    (with_reducible refine r_args ?_ ?h1); (case h1 => rfl)
    (with_reducible refine' r_local ?V ?hn ?hv ?hx ?_); (case V => assumption); (case hx => kernel_rfl); (case hn => first | exact Fr.ns (by assumption) | assumption); (case hv => walk_at "mlk")
    (with_reducible refine r_args ?_ ?h1); (case h1 => rfl)
    with_reducible (refine wpAny_BinOp ?_; refine PyProof.Rows.List_ ?_)
    (with_reducible refine r_args ?_ ?h1); (case h1 => rfl)
    with_reducible (refine r_cint (fun _ => ?_); refine r_args0 ?_)
    (with_reducible refine' r_newList ?F ?N ?hz ?_); (case F => assumption); (case N => assumption); (case hz => first | decide | (simp only [List.length_cons, List.length_nil, sizeLine_eq]; (first | lia | omega))); intro _ _ _ _ _ _
    with_reducible (refine wpAny_BinOp ?_; refine wpAny_BinOp ?_)
    (with_reducible refine' r_local ?V ?hn ?hv ?hx ?_); (case V => assumption); (case hx => kernel_rfl); (case hn => first | exact Fr.ns (by assumption) | assumption); (case hv => walk_at "mlk")
    with_reducible (refine r_cint (fun _ => ?_); refine r_sub (fun _ => ?_))
    (with_reducible refine' r_local ?V ?hn ?hv ?hx ?_); (case V => assumption); (case hx => kernel_rfl); (case hn => first | exact Fr.ns (by assumption) | assumption); (case hv => walk_at "mlk")
    with_reducible refine r_sub (fun _ => ?_)
    have hx1 : (truth.length : Int) - 1 - (0 + (i : Int) * 1) = ((truth.length - 1 - i : Nat) : Int) := by (first | lia | omega)
    refine r_mul1 (by assumption) (by assumption) (List.Mem.head _) (by (first | lia | omega)) (by (first | lia | omega)) ?_
    intro ra h5 hra hlt5 F5 N5
    rw [hx1, Int.toNat_natCast] at N5
    have hgb : (hide2 h).IsList ga gits := X.list hg
    have X5 : W2 w h5 := nw_w2 G F5 N5 (nw2.mono fun p hp => .tail _ (.tail _ (.tail _ hp)))
    have hIlt : 132 < I := Nat.lt_trans hLs hI
    have hti := ht truth[i] (List.getElem_mem _)
    have hfn : fa ≠ 125 ∧ fa ≠ 132 := by
      obtain ⟨ob, e1, r1⟩ := X5.list (isList_news N5 (.tail _ (.tail _ (.tail _ hm))))
      exact hide2_ne e1
    with_reducible (refine r_args0 ?_; refine And.intro (Fr.keep (by assumption)) ?_)
    refine ask4_spec (n := n) (r := truth[i].toNat) X5 (Room.le (by assumption) (by (first | lia | omega))) (isList_keep hgb F5.keep) hgi (isList_news N5 (.tail _ (.tail _ (.tail _ hm)))) hfi (fun v hv => ht v (List.mem_of_mem_take hv))
      (isList_news N5 (.head _)) (ints_rep _ _ _) (fun v hv => by rw [(List.mem_replicate.mp hv).2]; decide) ?_ hn1 (by (first | lia | omega)) ?_ ?_
    · rw [List.length_take, List.length_replicate]; (first | lia | omega)
    · intro j hj
      rw [hP i hin j hj]
      exact decide_eq_decide.mpr (by (first | lia | omega))
    · intro h6 t6 tr k56 X6
      have F6 := fr_keep2 F5 k56 hLs
      have hI6 : h6.get? I = some oI := k56 _ _ ((hide2_get (b := I) (ne_off hIlt 0).1 (ne_off hIlt 0).2).trans (N5 _ (.tail _ (.tail _ (.head _)))).1)
      obtain ⟨tn6, Nt6, nw6, ne6⟩ := w2_nw X6 F6 hLs hI6 hoI ⟨(ne_off hIlt 0).1, (ne_off hIlt 0).2⟩
      have N6 : News (hide2 h) L h6 ((I, oI) :: (fa, listOf fits kf) :: tn6) := by
        intro p hp
        rcases List.mem_cons.mp hp with rfl | hp
        · exact ⟨hI6, (N5 _ (.tail _ (.tail _ (.head _)))).2⟩
        · rcases List.mem_cons.mp hp with rfl | hp
          · exact ⟨k56 _ _ (by rw [hide2_get hfn.1 hfn.2]; exact (N5 _ (.tail _ (.tail _ (.tail _ hm)))).1), (N5 _ (.tail _ (.tail _ (.tail _ hm)))).2⟩
          · exact Nt6 p hp
      (with_reducible refine' r_storeG ?V ?F ?N ?hx ?_); (case V => assumption); (case F => assumption); (case N => assumption); (case hx => kernel_rfl); intro _ _ _ _ _ _
      with_reducible (refine sq_next ?_; refine r_seq ?_; refine wpAny_If ?_)
      (with_reducible refine r_testCmp ?_ ?h1); (case h1 => rfl)
      (with_reducible refine' r_local ?V ?hn ?hv ?hx ?_); (case V => assumption); (case hx => kernel_rfl); (case hn => first | exact Fr.ns (by assumption) | assumption); (case hv => walk_at "mlk")
      with_reducible (refine r_cint (fun _ => ?_); refine r_eq ?_; refine wpAny_truthy_bool ?_)
      have hc : ((truth[i].toNat : Int) == 16) = false := beq_eq_false_iff_ne.mpr (by (first | lia | omega))
      refine ite_f hc ?_
      with_reducible (refine wpAny_execs_nil ?_; refine sq_next ?_; refine r_seq ?_)
      (with_reducible refine r_assign ?_ ?h1); (case h1 => rfl)
      with_reducible refine wpAny_BinOp ?_
      (with_reducible refine' r_local ?V ?hn ?hv ?hx ?_); (case V => assumption); (case hx => kernel_rfl); (case hn => first | exact Fr.ns (by assumption) | assumption); (case hv => walk_at "mlk")
      with_reducible refine PyProof.Rows.List_ ?_
      (with_reducible refine r_args ?_ ?h1); (case h1 => rfl)
      (with_reducible refine' r_local ?V ?hn ?hv ?hx ?_); (case V => assumption); (case hx => kernel_rfl); (case hn => first | exact Fr.ns (by assumption) | assumption); (case hv => walk_at "mlk")
      with_reducible refine r_args0 ?_
      (with_reducible refine' r_newList ?F ?N ?hz ?_); (case F => assumption); (case N => assumption); (case hz => first | decide | (simp only [List.length_cons, List.length_nil, sizeLine_eq]; (first | lia | omega))); intro _ _ _ _ _ _
      have sf : fits.size ≤ truth.length := by have := hfi.length; rw [List.length_take] at this; simp at this; (first | lia | omega)
      have hz7 : fits.size + ([Value.int (truth[i].toNat : Int) tr] : List Value).toArray.size ≤ 1000000 := by simp; (first | lia | omega)
      refine r_addL (by assumption) (by assumption) (isList_news (by assumption) (.tail _ (.tail _ (.head _)))) (isList_news (by assumption) (List.Mem.head _)) hz7 ?_
      intro D h7 hD hlt7 F7 N7
      (with_reducible refine' r_storeG ?V ?F ?N ?hx ?_); (case V => assumption); (case F => assumption); (case N => assumption); (case hx => kernel_rfl); intro _ _ _ _ _ _
      with_reducible (refine sq_next ?_; refine wpAny_execs_nil ?_)
      rename_i h8 t8 F8 N8
      refine ⟨h8, t8, _, (D, listOf (fits.toList ++ ([Value.int (truth[i].toNat : Int) tr] : List Value).toArray.toList).toArray 0) :: tn6, rfl, F8, fun p hp => ?_, fun p hp => ?_, ⟨D, _, _, _, .head _, ?_, nw6.mono fun p hp => .tail _ hp, by walk_at "mlk", by walk_at "mlk", by walk_at "mlk"⟩⟩
      · rcases List.mem_cons.mp hp with rfl | hp
        · exact N8 _ (.tail _ (.tail _ (.head _)))
        · rcases List.mem_cons.mp hp with rfl | hp
          · exact N8 _ (.head _)
          · exact N8 _ (.tail _ (.tail _ (.tail _ (.tail _ hp))))
      · rcases List.mem_cons.mp hp with rfl | hp
        · exact Nat.ne_of_gt (hlt7 _ (.tail _ (.head _)))
        · exact ne6 p hp
      · have e : truth.take (i + 1) = truth.take i ++ [truth[i]] := by rw [List.take_add_one]; simp [hin]
        rw [e]
        have e2 : ((truth[i].toNat : Nat) : Int) = truth[i] := by (first | lia | omega)
        show IntsAre (fits.toList ++ [Value.int (truth[i].toNat : Int) tr]) _
        rw [e2]
        exact hfi.append (.cons _ _ .nil)
  · rintro m₁ news₁ h2 t2 ⟨fa, fits, kf, tc2, hm, hfi, nw2, m1, m2, m3⟩ F2 N2
    with_reducible (refine sq_next ?_; refine r_seq ?_; refine wpAny_Return_some ?_)
    (with_reducible refine' r_local ?V ?hn ?hv ?hx ?_); (case V => assumption); (case hx => kernel_rfl); (case hn => first | exact Fr.ns (by assumption) | assumption); (case hv => walk_at "mlk")
    with_reducible refine sq_ret ?_
    rw [List.take_length] at hfi
    exact H _ _ _ _ F2.keep (nw_w2 G F2 N2 nw2) (isList_news N2 hm) hfi
end

end

section
theorem slice_from (items : Array Value) (x : Int) (n : Nat) (hx : x = (n : Int)) (hn : n ≤ items.size) : slicePick items (some x) none none = (items.toList.drop n).toArray := by
  subst hx
  have e : sliceBounds (some (n : Int)) none none items.size = (((n : Nat) : Int), ((items.size : Nat) : Int), 1) := by
    simp only [sliceBounds, Option.getD_none, show (1 : Int) > 0 by decide, if_true, if_neg (show ¬ ((n : Int) < 0) by (first | lia | omega))]
    congr 1
    (first | lia | omega)
  rw [kmk_pick_nat _ e, List.take_of_length_le (by rw [List.length_drop, Array.length_toList]; (first | lia | omega))]
theorem swaps_of {env : Env} {cs : Scope} {L : Addr} {cl : List (Str × Addr)} {elt : Expr} {gens : List Comprehension} {scope : Scope} {pos py : Pos} {y : Str} {line : Nat} (V : Ev env cs L cl)
    (h : ((if cs.kind.isAnnotationScope then ScopeKind.function else cs.kind) == .function && cs.names.lookup y == some .local && py.line == pos.line && !(scope.names.any fun (n, k) => n == y && (k == .local || k == .cell))) = true) :
    swapsWith (.ListComp elt gens scope pos) (some (.Name y py)) line env = pure true := by
  show (pure (env.blockKind == .function && env.kindOf y == some .local && py.line == pos.line && !(scope.names.any fun (n, k) => n == y && (k == .local || k == .cell))) : Sem Bool) = pure true
  rw [Env.blockKind, V.scope, V.kind]
  exact congrArg pure h
/-- the first of each list -/
noncomputable def heads (l : List (List Int)) : List Int := l.map fun c => c.getD 0 0


inductive J6 (b : Heap) (ga ca : Addr) (size : Int) (k : Nat) (truth : List Int) (i : Nat) (m : Str → Option Value) (nx : List (Addr × Obj)) : Prop
  | mk (fa : Addr) (fits : Array Value) (kf : Nat) (ts tk : Tok) : (fa, listOf fits kf) ∈ nx → IntsAre fits.toList (truth.take i) → NW b nx → m (Str.ofString "found") = some (.ref fa) → m (Str.ofString "goal") = some (.ref ga) → m (Str.ofString "choices") = some (.ref ca) → m (Str.ofString "size") = some (.int size ts) → m (Str.ofString "which") = some (.int (k : Int) tk) → J6 b ga ca size k truth i m nx
section
variable {prog : Program} {w : World} {A : Around} {E : Value → Shared → Prop} {h : Heap} {g : Array GenState} {d : Drawn} {t : Nat} {o : OsState} {ga ca : Addr} {gits cits : Array Value} {goal truth : List Int} {chs : List (List Int)} {size : Int} {k : Nat} {ts tk : Tok} {Q : Value → Shared → Prop}
theorem read6_spec (X : W2 w h) (R : Room A 10) (hg : h.IsList ga gits) (hgi : IntsAre gits.toList goal) (hc : h.IsList ca cits) (hcl : cits.size = chs.length)
    (hch : ∀ j (hj : j < chs.length), ∃ a its, cits[j]? = some (.ref a) ∧ h.IsList a its ∧ IntsAre its.toList chs[j]) (hcr : ∀ c ∈ chs, c.length ≤ 100 ∧ 0 < c.length ∧ ∀ v ∈ c, 0 ≤ v ∧ v < 64) (hcn : chs.length ≤ 40)
    (ht : ∀ v ∈ truth, 0 ≤ v ∧ v < 64) (htl : truth.length = chs.length) (hs0 : 0 ≤ size) (hs1 : size ≤ 50) (hk5 : k < 5)
    (hP : ∀ i (hi : i < chs.length), ∃ r : Nat, 1 ≤ r ∧ r ≤ chs[i].length ∧ (∀ j (hj : j < chs[i].length), lexlt goal (key6 k size (truth.take i) (heads (chs.drop (i + 1))) chs[i][j]) = decide (r ≤ j)) ∧ chs[i].getD (r - 1) 0 = truth.getD i 0)
    (H : ∀ h' t' a its, Keep2 h h' → W2 w h' → h'.IsList a its → IntsAre its.toList truth → Q (.ref a) ⟨h', g, d, t', o⟩) :
    wpAny (model prog w) A (call (.ref 142) [.ref ga, .ref ca, .int size ts, .int (k : Int) tk]) Q E ⟨h, g, d, t, o⟩ := by
  refine enter2 (n := 9) X.gd R rfl rfl (by kernel_rfl) rfl (BindsTo.of_eq rfl) (by decide) (locs rfl) rfl rfl rfl rfl rfl ?_
  intro h₁ t₁ A' L env V hL R' hk1 F
  have G := X.gd
  have X1 := X.keeps hk1
  dsimp only at V
  have hLs : 132 < L := Nat.lt_of_lt_of_le X.size hL
  obtain ⟨oL0, _, _, eL0, _⟩ := F.ns
  obtain ⟨tn, N, nw, _⟩ := w2_nw (I := L) (oI := oL0) X1 F hLs eL0 (by intro vs t q e; obtain ⟨oL, es, ep, eL, hLd, _⟩ := F.ns; rw [eL0] at eL; cases eL; rw [e] at hLd; cases hLd) ⟨(ne_off hLs 0).1, (ne_off hLs 0).2⟩
  have hgb : (hide2 h).IsList ga gits := X.list hg
  have hcb : (hide2 h).IsList ca cits := X.list hc
  with_reducible refine r_seq ?_
  (with_reducible refine r_assign ?_ ?h1); (case h1 => rfl)
  with_reducible (refine PyProof.Rows.List_ ?_; refine r_args0 ?_)
  (with_reducible refine' r_newList ?F ?N ?hz ?_); (case F => assumption); (case N => assumption); (case hz => first | decide | (simp only [List.length_cons, List.length_nil, sizeLine_eq]; (first | lia | omega))); intro _ _ _ _ _ _
  (with_reducible refine' r_storeG ?V ?F ?N ?hx ?_); (case V => assumption); (case F => assumption); (case N => assumption); (case hx => kernel_rfl); intro _ _ _ _ _ _
  with_reducible (refine sq_next ?_; refine r_seq ?_)
  refine r_for V (by assumption) (by kernel_rfl) ?_ (fun _ => rfl)
  with_reducible refine r_callN ?_
  (with_reducible refine' r_boot ?V ?G ?hk ?hx ?eB ?_); (case V => assumption); (case hx => kernel_rfl); (case eB => with_reducible exact g_range _); (case G => assumption); (case hk => exact Fr.keep (by assumption))
  (with_reducible refine r_cwType ?_ ?h1 ?h2); (case h1 => rfl); (case h2 => rfl)
  (with_reducible refine r_args ?_ ?h1); (case h1 => rfl)
  with_reducible refine r_callN ?_
  (with_reducible refine' r_boot ?V ?G ?hk ?hx ?eB ?_); (case V => assumption); (case hx => kernel_rfl); (case eB => with_reducible exact g_len _); (case G => assumption); (case hk => exact Fr.keep (by assumption))
  (with_reducible refine r_cwBuiltin ?_ ?h1 ?h2); (case h1 => rfl); (case h2 => rfl)
  (with_reducible refine r_args ?_ ?h1); (case h1 => rfl)
  (with_reducible refine' r_local ?V ?hn ?hv ?hx ?_); (case V => assumption); (case hx => kernel_rfl); (case hn => first | exact Fr.ns (by assumption) | assumption); (case hv => walk_at "mlk")
  with_reducible refine r_args0 ?_
  refine r_lenList (isList_keep hcb (Fr.keep (by assumption))) (by (first | lia | omega)) (fun _ _ => ?_)
  with_reducible refine r_args0 ?_
  (with_reducible refine' r_range1 ?F ?N ?_); (case F => assumption); (case N => assumption); intro _ _ _ _ _ _ _ _ _ _ _
  have hrs : Builtin.Range.rangeSize 0 (cits.size : Int) 1 = ((chs.length : Nat) : Int) := by
    rw [hcl]
    unfold Builtin.Range.rangeSize
    split <;> (try split) <;> (first | lia | omega)
  refine r_forRangeV (J6 (hide2 h) ga ca size k truth) V R'.hh (by assumption) (small_one (by decide) (by decide) (by (first | lia | omega)) (by (first | lia | omega))) hrs (by assumption) (by assumption) ?_ ?_ ?_
  · exact ⟨_, _, _, _, _, .head _, .nil, nw.mono fun p hp => .tail _ hp, by walk_at "mlk", by walk_at "mlk", by walk_at "mlk", by walk_at "mlk", by walk_at "mlk"⟩
  · rintro i u m₁ news₁ h2 t2 I oI hin hI hoI hne ⟨fa, fits, kf, ts2, tk2, hm, hfi, nw2, m1, m2, m3, m4, m5⟩ F2 N2
    with_reducible refine r_seq ?_
    refine Assign_ListComp_U F2 V.locals (swaps_of V rfl) (Ev.clos V (cl2 := []) rfl) (by decide) rfl (by decide) rfl (V.kind _) ?_ ?_ (fun _ => rfl)
    · rw [V.scope]; rfl
    with_reducible refine Subscript_ ?_
    (with_reducible refine' r_local ?V ?hn ?hv ?hx ?_); (case V => assumption); (case hx => kernel_rfl); (case hn => first | exact Fr.ns (by assumption) | assumption); (case hv => walk_at "mlk")
    with_reducible (refine r_Slice ?_; refine r_partS ?_; refine wpAny_BinOp ?_)
    (with_reducible refine' r_local ?V ?hn ?hv ?hx ?_); (case V => assumption); (case hx => kernel_rfl); (case hn => first | exact Fr.ns (by assumption) | assumption); (case hv => walk_at "mlk")
    with_reducible (refine r_cint (fun _ => ?_); refine r_add (fun _ => ?_); refine r_partN ?_; refine r_partN ?_; refine r_slicePost ?_)
    refine r_sliceTail F2 N2 (isList_keep hcb F2.keep) (.int _ _) .none (by (first | lia | omega)) rfl (fun _ => rfl) ?_
    intro D h3 hD hlt3 F3 N3
    rw [slice_from cits _ (i + 1) (by (first | lia | omega)) (by (first | lia | omega))] at N3
    have hDsz : (cits.toList.drop (i + 1)).toArray.size = chs.length - (i + 1) := by simp; (first | lia | omega)
    have hin' : i < chs.length := hin
    refine CompSrc.ledger R'.hh F3 N3 (.head _) (by rw [hDsz, sizeLine_eq]; (first | lia | omega)) fun g' => ?_
    refine compRest_of (fun j => (chs.getD (i + 1 + j) []).getD 0 0) (.inr ⟨_, .head _, rfl, _, rfl⟩) ?_ ?_
    · intro j v C m2' h4 tk4 hj hPv hn hx F4 N4
      have hj' : i + 1 + j < chs.length := by rw [hDsz] at hj; (first | lia | omega)
      obtain ⟨aj, itj, ej, lj, ij⟩ := hch (i + 1 + j) hj'
      have ev : v = .ref aj := by
        have : cits[i + 1 + j]? = some v := by
          rw [← Array.getElem?_toList]
          simpa [List.getElem?_drop] using hPv
        rw [ej] at this; exact (Option.some.inj this).symm
      subst ev
      have V' := V.comp (scope := { kind := .function, names := [(Str.ofString ".0", .local), (Str.ofString "values", .local)], isGenerator := false, isCoroutine := false }) (C := C) (cl2 := [])
      have hcj := hcr chs[i + 1 + j] (List.getElem_mem _)
      with_reducible refine Subscript_ ?_
      (with_reducible refine' r_local ?V ?hn ?hv ?hx ?_); (case V => assumption); (case hx => kernel_rfl); (case hn => first | exact Fr.ns (by assumption) | assumption); (case hv => walk_at "mlk")
      with_reducible refine r_cint (fun _ => ?_)
      refine r_itemI (isList_keep (X.list lj) F4.keep) ij (by decide) (by (first | lia | omega)) (by (first | lia | omega)) rfl (fun u' => ?_)
      have e : chs.getD (i + 1 + j) [] = chs[i + 1 + j] := by simp [List.getD, hj']
      refine ⟨_, _, u', rfl, ?_, fun _ _ e => e⟩
      show Value.int _ u' = Value.int ((chs.getD (i + 1 + j) []).getD 0 0) u'
      rw [e]; rfl
    · intro ys hys D5 h5 tk5 F5 N5 o5
      have hrest : IntsAre ys (heads (chs.drop (i + 1))) := by
        have e : (List.range (cits.toList.drop (i + 1)).toArray.size).map (fun j => (chs.getD (i + 1 + j) []).getD 0 0) = heads (chs.drop (i + 1)) := by
          rw [hDsz]
          apply List.ext_getElem
          · simp [heads]
          · intro j h1 h2
            have hj' : i + 1 + j < chs.length := by simp at h1; (first | lia | omega)
            simp [heads, List.getD, hj']
        rw [← e]; exact hys
      clear hys
      with_reducible (refine sq_next ?_; refine r_seq ?_)
      (with_reducible refine r_assign ?_ ?h1); (case h1 => rfl)
      with_reducible refine r_callN ?_
      (with_reducible refine' r_glob ?V ?G ?hk ?hx ?eB ?_); (case V => assumption); (case hx => kernel_rfl); (case eB => with_reducible exact g_ask6 _); (case G => assumption); (case hk => exact Fr.keep (by assumption))
      (with_reducible refine' r_calldef ?G ?hx ?_ ?h1 ?h2); (case G => assumption); (case hx => kernel_rfl); (case h1 => rfl); (case h2 => rfl)
      (with_reducible refine r_args ?_ ?h1); (case h1 => rfl)
      (with_reducible refine' r_local ?V ?hn ?hv ?hx ?_); (case V => assumption); (case hx => kernel_rfl); (case hn => first | exact Fr.ns (by assumption) | assumption); (case hv => walk_at "mlk")
      (with_reducible refine r_args ?_ ?h1); (case h1 => rfl)
      with_reducible refine Subscript_ ?_
      (with_reducible refine' r_local ?V ?hn ?hv ?hx ?_); (case V => assumption); (case hx => kernel_rfl); (case hn => first | exact Fr.ns (by assumption) | assumption); (case hv => walk_at "mlk")
      (with_reducible refine' r_local ?V ?hn ?hv ?hx ?_); (case V => assumption); (case hx => kernel_rfl); (case hn => first | exact Fr.ns (by assumption) | assumption); (case hv => walk_at "mlk")
      obtain ⟨ai, iti, ei, li, ii⟩ := hch i hin'
      obtain ⟨r, r1, r2, hPr, hrt⟩ := hP i hin'
      have hci := hcr chs[i] (List.getElem_mem _)
      have hidx : cits[(0 + (i : Int) * 1).toNat]? = some (.ref ai) := by
        have : (0 + (i : Int) * 1).toNat = i := by (first | lia | omega)
        rw [this]; exact ei
      refine r_item (isList_keep hcb (Fr.keep (by assumption))) (by (first | lia | omega)) (by (first | lia | omega)) hidx rfl ?_
      (with_reducible refine r_args ?_ ?h1); (case h1 => rfl)
      (with_reducible refine' r_local ?V ?hn ?hv ?hx ?_); (case V => assumption); (case hx => kernel_rfl); (case hn => first | exact Fr.ns (by assumption) | assumption); (case hv => walk_at "mlk")
      (with_reducible refine r_args ?_ ?h1); (case h1 => rfl)
      (with_reducible refine' r_local ?V ?hn ?hv ?hx ?_); (case V => assumption); (case hx => kernel_rfl); (case hn => first | exact Fr.ns (by assumption) | assumption); (case hv => walk_at "mlk")
      (with_reducible refine r_args ?_ ?h1); (case h1 => rfl)
      (with_reducible refine' r_local ?V ?hn ?hv ?hx ?_); (case V => assumption); (case hx => kernel_rfl); (case hn => first | exact Fr.ns (by assumption) | assumption); (case hv => walk_at "mlk")
      (with_reducible refine r_args ?_ ?h1); (case h1 => rfl)
      (with_reducible refine' r_local ?V ?hn ?hv ?hx ?_); (case V => assumption); (case hx => kernel_rfl); (case hn => first | exact Fr.ns (by assumption) | assumption); (case hv => walk_at "mlk")
      with_reducible (refine r_args0 ?_; refine And.intro (Fr.keep (by assumption)) ?_)
      have X5 : W2 w h5 := nw_w2 G F5 N5 (nw2.mono fun p hp => .tail _ (.tail _ (.tail _ hp)))
      have hIlt : 132 < I := Nat.lt_trans hLs hI
      have hfn : fa ≠ 125 ∧ fa ≠ 132 := by
        obtain ⟨ob, e1, q1⟩ := X5.list (isList_news N5 (.tail _ (.tail _ (.tail _ hm))))
        exact hide2_ne e1
      have hlir : (hide2 h).IsList ai iti := X.list li
      refine ask6_spec (r := r) X5 (Room.le (by assumption) (by (first | lia | omega))) (isList_keep hgb F5.keep) hgi (isList_keep hlir F5.keep) ii hci.2.2 hci.1 (isList_news N5 (.tail _ (.tail _ (.tail _ hm)))) hfi (fun v hv => ht v (List.mem_of_mem_take hv))
        (isList_news (its := ys.toArray) (n := ys.length) N5 (.head _)) hrest ?_ ?_ hs0 hs1 hk5 r2 hPr ?_
      · intro v hv
        obtain ⟨c, hcm, rfl⟩ := List.mem_map.mp hv
        have hcc := hcr c (List.mem_of_mem_drop hcm)
        exact getD_range hcc.2.2 (by decide) 0
      · rw [List.length_take]; simp [heads]; (first | lia | omega)
      · intro h6 t6 tr k56 X6
        have F6 := fr_keep2 F5 k56 hLs
        have hI6 : h6.get? I = some oI := k56 _ _ ((hide2_get (b := I) (ne_off hIlt 0).1 (ne_off hIlt 0).2).trans (N5 _ (.tail _ (.tail _ (.head _)))).1)
        obtain ⟨tn6, Nt6, nw6, ne6⟩ := w2_nw X6 F6 hLs hI6 hoI ⟨(ne_off hIlt 0).1, (ne_off hIlt 0).2⟩
        have N6 : News (hide2 h) L h6 ((I, oI) :: (fa, listOf fits kf) :: tn6) := by
          intro p hp
          rcases List.mem_cons.mp hp with rfl | hp
          · exact ⟨hI6, (N5 _ (.tail _ (.tail _ (.head _)))).2⟩
          · rcases List.mem_cons.mp hp with rfl | hp
            · exact ⟨k56 _ _ (by rw [hide2_get hfn.1 hfn.2]; exact (N5 _ (.tail _ (.tail _ (.tail _ hm)))).1), (N5 _ (.tail _ (.tail _ (.tail _ hm)))).2⟩
            · exact Nt6 p hp
        (with_reducible refine' r_storeG ?V ?F ?N ?hx ?_); (case V => assumption); (case F => assumption); (case N => assumption); (case hx => kernel_rfl); intro _ _ _ _ _ _
        with_reducible (refine sq_next ?_; refine r_seq ?_; refine wpAny_If ?_)
        (with_reducible refine r_testCmp ?_ ?h1); (case h1 => rfl)
        (with_reducible refine' r_local ?V ?hn ?hv ?hx ?_); (case V => assumption); (case hx => kernel_rfl); (case hn => first | exact Fr.ns (by assumption) | assumption); (case hv => walk_at "mlk")
        with_reducible (refine r_cint (fun _ => ?_); refine r_eq ?_; refine wpAny_truthy_bool ?_)
        have hc0 : ((r : Int) == 0) = false := beq_eq_false_iff_ne.mpr (by (first | lia | omega))
        refine ite_f hc0 ?_
        with_reducible (refine wpAny_execs_nil ?_; refine sq_next ?_; refine r_seq ?_)
        (with_reducible refine r_assign ?_ ?h1); (case h1 => rfl)
        with_reducible refine wpAny_BinOp ?_
        (with_reducible refine' r_local ?V ?hn ?hv ?hx ?_); (case V => assumption); (case hx => kernel_rfl); (case hn => first | exact Fr.ns (by assumption) | assumption); (case hv => walk_at "mlk")
        with_reducible refine PyProof.Rows.List_ ?_
        (with_reducible refine r_args ?_ ?h1); (case h1 => rfl)
        with_reducible (refine Subscript_ ?_; refine Subscript_ ?_)
        (with_reducible refine' r_local ?V ?hn ?hv ?hx ?_); (case V => assumption); (case hx => kernel_rfl); (case hn => first | exact Fr.ns (by assumption) | assumption); (case hv => walk_at "mlk")
        (with_reducible refine' r_local ?V ?hn ?hv ?hx ?_); (case V => assumption); (case hx => kernel_rfl); (case hn => first | exact Fr.ns (by assumption) | assumption); (case hv => walk_at "mlk")
        refine r_item (isList_keep hcb (Fr.keep (by assumption))) (by (first | lia | omega)) (by (first | lia | omega)) hidx rfl ?_
        with_reducible refine wpAny_BinOp ?_
        (with_reducible refine' r_local ?V ?hn ?hv ?hx ?_); (case V => assumption); (case hx => kernel_rfl); (case hn => first | exact Fr.ns (by assumption) | assumption); (case hv => walk_at "mlk")
        with_reducible (refine r_cint (fun _ => ?_); refine r_sub (fun _ => ?_))
        refine r_itemI (isList_keep hlir (Fr.keep (by assumption))) ii (by (first | lia | omega)) (by (first | lia | omega)) (by (first | lia | omega)) rfl (fun u7 => ?_)
        have hrr : chs[i].getD ((r : Int) - 1).toNat 0 = truth.getD i 0 := by
          rw [← hrt]; congr 1; (first | lia | omega)
        rw [hrr]
        with_reducible refine r_args0 ?_
        (with_reducible refine' r_newList ?F ?N ?hz ?_); (case F => assumption); (case N => assumption); (case hz => first | decide | (simp only [List.length_cons, List.length_nil, sizeLine_eq]; (first | lia | omega))); intro _ _ _ _ _ _
        have sf : fits.size ≤ truth.length := by have := hfi.length; rw [List.length_take] at this; simp at this; (first | lia | omega)
        have hz7 : fits.size + ([Value.int (truth.getD i 0) u7] : List Value).toArray.size ≤ 1000000 := by simp; (first | lia | omega)
        refine r_addL (by assumption) (by assumption) (isList_news (by assumption) (.tail _ (.tail _ (.head _)))) (isList_news (by assumption) (List.Mem.head _)) hz7 ?_
        intro D h7 hD hlt7 F7 N7
        (with_reducible refine' r_storeG ?V ?F ?N ?hx ?_); (case V => assumption); (case F => assumption); (case N => assumption); (case hx => kernel_rfl); intro _ _ _ _ _ _
        with_reducible (refine sq_next ?_; refine wpAny_execs_nil ?_)
        rename_i h8 t8 F8 N8
        refine ⟨h8, t8, _, (D, listOf (fits.toList ++ ([Value.int (truth.getD i 0) u7] : List Value).toArray.toList).toArray 0) :: tn6, rfl, F8, fun p hp => ?_, fun p hp => ?_, ⟨D, _, _, _, _, .head _, ?_, nw6.mono fun p hp => .tail _ hp, by walk_at "mlk", by walk_at "mlk", by walk_at "mlk", by walk_at "mlk", by walk_at "mlk"⟩⟩
        · rcases List.mem_cons.mp hp with rfl | hp
          · exact N8 _ (.tail _ (.tail _ (.head _)))
          · rcases List.mem_cons.mp hp with rfl | hp
            · exact N8 _ (.head _)
            · exact N8 _ (.tail _ (.tail _ (.tail _ (.tail _ hp))))
        · rcases List.mem_cons.mp hp with rfl | hp
          · exact Nat.ne_of_gt (hlt7 _ (.tail _ (.head _)))
          · exact ne6 p hp
        · have hti : i < truth.length := by (first | lia | omega)
          have e : truth.take (i + 1) = truth.take i ++ [truth.getD i 0] := by rw [List.take_add_one]; simp [List.getD, hti]
          rw [e]
          show IntsAre (fits.toList ++ [Value.int (truth.getD i 0) u7]) _
          exact hfi.append (.cons _ _ .nil)
  · rintro m₁ news₁ h2 t2 ⟨fa, fits, kf, ts2, tk2, hm, hfi, nw2, m1, m2, m3, m4, m5⟩ F2 N2
    with_reducible (refine sq_next ?_; refine r_seq ?_; refine wpAny_Return_some ?_)
    (with_reducible refine' r_local ?V ?hn ?hv ?hx ?_); (case V => assumption); (case hx => kernel_rfl); (case hn => first | exact Fr.ns (by assumption) | assumption); (case hv => walk_at "mlk")
    with_reducible refine sq_ret ?_
    rw [← htl, List.take_length] at hfi
    exact H _ _ _ _ F2.keep (nw_w2 G F2 N2 nw2) (isList_news N2 hm) hfi
end

end

section
section sort
variable {prog : Program} {w : World} {A : Around} {E : Value → Shared → Prop} {s : Shared} {it : Nat → Keyed} {κ : SortKind} {sn : Nat → Int}
/-- a comparison of two of the items tells which sign is less, and changes nothing -/
noncomputable def LtOk (prog : Program) (w : World) (A : Around) (s : Shared) (κ : SortKind) (it : Nat → Keyed) (sn : Nat → Int) : Prop :=
  ∀ (E : Value → Shared → Prop) (i j : Nat) (st : SortSt) (Q : Option Bool → SortSt → Prop), kindOf st = κ → (decide (sn i < sn j) != decide (sn j < sn i)) = true → Q (some (decide (sn i < sn j))) st → wpS (model prog w) A E s (lt' (it i) (it j)) Q st
noncomputable abbrev sS (κ : SortKind) (it : Nat → Keyed) (P : Array Nat) (pe : Array (Nat × Nat × Nat)) (g : Nat) : SortSt := SortSt.mk' κ (P.map it) pe g none
theorem s_elem {P : Array Nat} {i a : Nat} {st : SortSt} {Q : Keyed → SortSt → Prop} (hi : P[i]? = some a) (h : Q (it a) st) : wpS (model prog w) A E s (elem' (P.map it) i) Q st := by
  rw [elem'_eq, Array.getElem?_map, hi]
  exact wpS_pure h
theorem s_ltAt (hL : LtOk prog w A s κ it sn) {P : Array Nat} {pe : Array (Nat × Nat × Nat)} {g i j a b : Nat} {Q : Option Bool → SortSt → Prop} (hi : P[i]? = some a) (hj : P[j]? = some b) (hab : (decide (sn a < sn b) != decide (sn b < sn a)) = true)
    (h : Q (some (decide (sn a < sn b))) (sS κ it P pe g)) : wpS (model prog w) A E s (ltAt' i j) Q (sS κ it P pe g) := by
  rw [ltAt'_eq]
  refine wpS_bind (wpS_get ?_)
  show wpS _ _ _ _ (do let x ← elem' (P.map it) i; let y ← elem' (P.map it) j; lt' x y) Q _
  exact wpS_bind (s_elem hi (wpS_bind (s_elem hj (hL E a b _ Q rfl hab h))))
/-- a run that rises strictly for n items -/
theorem s_count (hL : LtOk prog w A s κ it sn) {P : Array Nat} {pe : Array (Nat × Nat × Nat)} {g lo nrem n : Nat} {Q : Option Nat → SortSt → Prop} (hn1 : 1 < n) (hn : n ≤ nrem) (hP : lo + nrem ≤ P.size)
    (hup : ∀ j, 1 ≤ j → j < n → sn (P.getD (lo + j - 1) 0) < sn (P.getD (lo + j) 0)) (hend : n = nrem ∨ sn (P.getD (lo + n) 0) < sn (P.getD (lo + n - 1) 0)) (hrose : sn (P.getD lo 0) < sn (P.getD (lo + n - 1) 0))
    (h : Q (some n) (sS κ it P pe g)) : wpS (model prog w) A E s (countRun' lo nrem) Q (sS κ it P pe g) := by
  have gP : ∀ i, i < P.size → P[i]? = some (P.getD i 0) := fun i hi => by simp [Array.getD, hi]
  have nlt : ∀ {x y : Int}, x < y → (decide (x < y) != decide (y < x)) = true := fun {x y} hxy => by
    rw [decide_eq_true hxy, decide_eq_false (by (first | lia | omega))]; rfl
  have nlt' : ∀ {x y : Int}, y < x → (decide (x < y) != decide (y < x)) = true := fun {x y} hxy => by
    rw [decide_eq_true hxy, decide_eq_false (by (first | lia | omega))]; rfl
  rw [countRun'_eq]
  refine wpS_bind (wpS_mono (wpS_forRange (I := fun x c st => st = sS κ it P pe g ∧ c = (none, x) ∧ x ≤ n) (Q := fun c st => st = sS κ it P pe g ∧ c = (none, n)) ?step ?fin ⟨rfl, rfl, by (first | lia | omega)⟩) ?post)
  case fin =>
    rintro c st ⟨rfl, rfl, hx⟩
    have : max 1 nrem = n := by (first | lia | omega)
    rw [this]; exact ⟨rfl, rfl⟩
  case step =>
    rintro x c st h1 hx ⟨rfl, rfl, hxn⟩
    dsimp only
    by_cases hxe : x = n
    · subst hxe
      have hd : sn (P.getD (lo + x) 0) < sn (P.getD (lo + x - 1) 0) := hend.resolve_left (by (first | lia | omega))
      refine wpS_bind (s_ltAt hL (gP _ (by (first | lia | omega))) (gP _ (by (first | lia | omega))) (nlt hd) ?_)
      rw [decide_eq_true hd]
      dsimp only
      exact wpS_pure ⟨rfl, rfl⟩
    · have hd := hup x h1 (by (first | lia | omega))
      refine wpS_bind (s_ltAt hL (gP _ (by (first | lia | omega))) (gP _ (by (first | lia | omega))) (nlt' hd) ?_)
      rw [decide_eq_false (by (first | lia | omega))]
      dsimp only
      exact wpS_pure ⟨rfl, rfl, by (first | lia | omega)⟩
  case post =>
    rintro c st ⟨rfl, rfl⟩
    dsimp only
    by_cases hne : n = nrem
    · rw [if_pos (by simpa using hne)]
      exact wpS_pure h
    · rw [if_neg (by simpa using hne), if_pos hn1]
      refine wpS_bind (s_ltAt hL (gP _ (by (first | lia | omega))) (gP _ (by (first | lia | omega))) (nlt hrose) ?_)
      rw [decide_eq_true hrose]
      dsimp only
      exact wpS_pure h
end sort

end

section
noncomputable def gallop' : Bool → Keyed → Array Keyed → Nat → Nat → Nat → StateT SortSt Sem (Option Nat) := sortPriv% PySem.Builtin.gallop
theorem mid_in {lo hi : Nat} (h : ¬ lo ≥ hi) : lo ≤ lo + (hi - lo) / 2 ∧ lo + (hi - lo) / 2 < hi := by (first | lia | omega)
theorem mid_up {lo hi n x m : Nat} (hx : x < n) (h : lo ≤ m) (a4 : hi - lo ≤ n - x) : hi - (m + 1) ≤ n - (x + 1) :=
  Nat.le_trans (Nat.sub_le_sub_left (Nat.succ_le_succ h) hi) (Nat.sub_le_sub_right a4 1)
theorem mid_dn {lo hi n x m : Nat} (hx : x < n) (h : m < hi) (a4 : hi - lo ≤ n - x) : m - lo ≤ n - (x + 1) :=
  Nat.le_trans (by rw [Nat.sub_right_comm]; exact Nat.sub_le_sub_right (Nat.le_sub_one_of_lt h) lo) (Nat.sub_le_sub_right a4 1)
section sort
variable {prog : Program} {w : World} {A : Around} {E : Value → Shared → Prop} {s : Shared} {it : Nat → Keyed} {κ : SortKind} {sn : Nat → Int}
/-- is the item at i beyond the key? -/
noncomputable def bey (sn : Nat → Int) (left : Bool) (key : Nat) (Pa : Array Nat) (i : Nat) : Bool := if left then decide (sn (Pa.getD i 0) < sn key) else !decide (sn key < sn (Pa.getD i 0))
noncomputable def apart (sn : Nat → Int) (key : Nat) (Pa : Array Nat) (i : Nat) : Bool := decide (sn (Pa.getD i 0) < sn key) != decide (sn key < sn (Pa.getD i 0))
theorem s_beyond (hL : LtOk prog w A s κ it sn) {left : Bool} {key base i : Nat} {Pa : Array Nat} {c : Bool} {st : SortSt} {Q : Option Bool → SortSt → Prop} (hk : kindOf st = κ) (hi : base + i < Pa.size) (ha : apart sn key Pa (base + i) = true) (hc : bey sn left key Pa (base + i) = c)
    (h : Q (some c) st) :
    wpS (model prog w) A E s (do let x ← elem' (Pa.map it) (base + i); if left = true then lt' x (it key) else do let y ← lt' (it key) x; pure (Option.map (fun x => !x) y)) Q st := by
  refine wpS_bind (s_elem (a := Pa.getD (base + i) 0) (by simp [Array.getD, hi]) ?_)
  subst hc
  cases left with
  | true =>
    rw [if_pos rfl]
    exact hL E _ _ st Q hk ha h
  | false =>
    rw [if_neg (by decide)]
    refine wpS_bind (hL E _ _ st _ hk (by unfold apart at ha; revert ha; cases decide (sn (Pa.getD (base + i) 0) < sn key) <;> cases decide (sn key < sn (Pa.getD (base + i) 0)) <;> decide) ?_)
    exact wpS_pure h
theorem s_gallop (hL : LtOk prog w A s κ it sn) {left : Bool} {key base n hint r : Nat} {Pa : Array Nat} {st : SortSt} {Q : Option Nat → SortSt → Prop} (hk : kindOf st = κ) (hsz : base + n ≤ Pa.size) (hh : hint < n) (hr : r ≤ n)
    (hB : ∀ i, i < n → apart sn key Pa (base + i) = true ∧ bey sn left key Pa (base + i) = decide (i < r)) (h : Q (some r) st) :
    wpS (model prog w) A E s (gallop' left (it key) (Pa.map it) base n hint) Q st := by
  refine wpS_bind ?_
  refine s_beyond hL hk (by (first | lia | omega)) (hB _ hh).1 (hB _ hh).2 ?_
  dsimp only
  by_cases hright : hint < r
  · rw [if_pos (decide_eq_true hright)]
    refine wpS_bind (wpS_mono (wpS_forRange (I := fun x c st' => st' = st ∧ ∃ la of, c = (none, la, of) ∧ hint + la < r ∧ la < of ∧ x + 1 ≤ of) (Q := fun c st' => st' = st ∧ ∃ la of, c = (none, la, of) ∧ hint + la < r ∧ (n - hint ≤ of ∨ r ≤ hint + of)) ?step ?fin ⟨rfl, 0, 1, rfl, by (first | lia | omega), by (first | lia | omega), by (first | lia | omega)⟩) ?post)
    case fin =>
      rintro c st' ⟨rfl, la, of, rfl, a1, a2, a3⟩
      exact ⟨rfl, la, of, rfl, a1, .inl (by (first | lia | omega))⟩
    case step =>
      rintro x c st' _ hx ⟨rfl, la, of, rfl, a1, a2, a3⟩
      dsimp only
      by_cases hge : of ≥ n - hint
      · rw [if_pos hge]
        exact wpS_pure ⟨rfl, la, of, rfl, a1, .inl hge⟩
      · rw [if_neg hge]
        have hm : hint + of < n := by (first | lia | omega)
        refine wpS_bind (s_beyond hL hk (by (first | lia | omega)) (hB _ hm).1 (hB _ hm).2 ?_)
        dsimp only
        by_cases hmr : hint + of < r
        · rw [if_neg (by rw [decide_eq_true hmr]; decide)]
          exact wpS_pure ⟨rfl, _, _, rfl, hmr, by (first | lia | omega), by (first | lia | omega)⟩
        · rw [if_pos (by rw [decide_eq_false hmr]; decide)]
          exact wpS_pure ⟨rfl, la, of, rfl, a1, .inr (by (first | lia | omega))⟩
    case post =>
      rintro c st' ⟨rfl, la, of, rfl, a1, a2⟩
      have h1 : hint + la + 1 ≤ r := by (first | lia | omega)
      have h2 : r ≤ hint + min of (n - hint) := by
        rcases a2 with a2 | a2
        · rw [Nat.min_eq_right a2]; (first | lia | omega)
        · rcases Nat.le_total of (n - hint) with a3 | a3
          · rw [Nat.min_eq_left a3]; exact a2
          · rw [Nat.min_eq_right a3]; (first | lia | omega)
      dsimp only
      have h3 : hint + min of (n - hint) ≤ n := by (first | lia | omega)
      refine wpS_bind (wpS_mono (wpS_forRange (I := fun x c st2 => st2 = st' ∧ ∃ lo hi, c = (none, lo, hi) ∧ lo ≤ r ∧ r ≤ hi ∧ hi ≤ n ∧ hi - lo ≤ n - x) (Q := fun c st2 => st2 = st' ∧ ∃ lo, c = (none, lo, r)) ?step2 ?fin2 ⟨rfl, _, _, rfl, h1, h2, h3, by (first | lia | omega)⟩) ?post2)
      case fin2 =>
        rintro c st' ⟨rfl, lo, hi, rfl, a1, a2, a3, a4⟩
        have : hi = r := by (first | lia | omega)
        subst this
        exact ⟨rfl, lo, rfl⟩
      case step2 =>
        rintro x c st' _ hx ⟨rfl, lo, hi, rfl, a1, a2, a3, a4⟩
        dsimp only
        by_cases hge : lo ≥ hi
        · rw [if_pos hge]
          have : hi = r := by (first | lia | omega)
          subst this
          exact wpS_pure ⟨rfl, lo, rfl⟩
        · rw [if_neg hge]
          have hmi := mid_in hge
          have hm : lo + (hi - lo) / 2 < n := Nat.lt_of_lt_of_le hmi.2 a3
          refine wpS_bind (s_beyond hL hk (by (first | lia | omega)) (hB _ hm).1 (hB _ hm).2 ?_)
          dsimp only
          by_cases hmr : lo + (hi - lo) / 2 < r
          · rw [if_pos (decide_eq_true hmr)]
            exact wpS_pure ⟨rfl, _, _, rfl, hmr, a2, a3, mid_up hx hmi.1 a4⟩
          · rw [if_neg (by rw [decide_eq_false hmr]; decide)]
            exact wpS_pure ⟨rfl, _, _, rfl, a1, Nat.not_lt.mp hmr, Nat.le_of_lt hm, mid_dn hx hmi.2 a4⟩
      case post2 =>
        rintro c st' ⟨rfl, lo, rfl⟩
        exact wpS_pure h
  · rw [if_neg (by rw [decide_eq_false hright]; decide)]
    refine wpS_bind (wpS_mono (wpS_forRange (I := fun x c st' => st' = st ∧ ∃ la of, c = (none, la, of) ∧ la ≤ hint ∧ r ≤ hint - la ∧ la < of ∧ x + 1 ≤ of) (Q := fun c st' => st' = st ∧ ∃ la of, c = (none, la, of) ∧ la ≤ hint ∧ r ≤ hint - la ∧ (hint + 1 ≤ of ∨ (of ≤ hint ∧ hint - of < r))) ?step ?fin ⟨rfl, 0, 1, rfl, by (first | lia | omega), by (first | lia | omega), by (first | lia | omega), by (first | lia | omega)⟩) ?post)
    case fin =>
      rintro c st' ⟨rfl, la, of, rfl, a1, a2, a3, a4⟩
      exact ⟨rfl, la, of, rfl, a1, a2, .inl (by (first | lia | omega))⟩
    case step =>
      rintro x c st' _ hx ⟨rfl, la, of, rfl, a1, a2, a3, a4⟩
      dsimp only
      by_cases hge : of ≥ hint + 1
      · rw [if_pos hge]
        exact wpS_pure ⟨rfl, la, of, rfl, a1, a2, .inl hge⟩
      · rw [if_neg hge]
        have hm : hint - of < n := by (first | lia | omega)
        refine wpS_bind (s_beyond hL hk (by (first | lia | omega)) (hB _ hm).1 (hB _ hm).2 ?_)
        dsimp only
        by_cases hmr : hint - of < r
        · rw [if_pos (decide_eq_true hmr)]
          exact wpS_pure ⟨rfl, la, of, rfl, a1, a2, .inr ⟨by (first | lia | omega), hmr⟩⟩
        · rw [if_neg (by rw [decide_eq_false hmr]; decide)]
          exact wpS_pure ⟨rfl, _, _, rfl, by (first | lia | omega), by (first | lia | omega), by (first | lia | omega), by (first | lia | omega)⟩
    case post =>
      rintro c st' ⟨rfl, la, of, rfl, a1, a2, a3⟩
      have h1 : hint + 1 - min of (hint + 1) ≤ r := by
        rcases a3 with a3 | ⟨a3, a4⟩
        · rw [Nat.min_eq_right a3]; (first | lia | omega)
        · rw [Nat.min_eq_left (by (first | lia | omega))]; (first | lia | omega)
      have h2 : r ≤ hint - la := a2
      dsimp only
      have h3 : hint - la ≤ n := by (first | lia | omega)
      refine wpS_bind (wpS_mono (wpS_forRange (I := fun x c st2 => st2 = st' ∧ ∃ lo hi, c = (none, lo, hi) ∧ lo ≤ r ∧ r ≤ hi ∧ hi ≤ n ∧ hi - lo ≤ n - x) (Q := fun c st2 => st2 = st' ∧ ∃ lo, c = (none, lo, r)) ?step2 ?fin2 ⟨rfl, _, _, rfl, h1, h2, h3, by (first | lia | omega)⟩) ?post2)
      case fin2 =>
        rintro c st' ⟨rfl, lo, hi, rfl, a1, a2, a3, a4⟩
        have : hi = r := by (first | lia | omega)
        subst this
        exact ⟨rfl, lo, rfl⟩
      case step2 =>
        rintro x c st' _ hx ⟨rfl, lo, hi, rfl, a1, a2, a3, a4⟩
        dsimp only
        by_cases hge : lo ≥ hi
        · rw [if_pos hge]
          have : hi = r := by (first | lia | omega)
          subst this
          exact wpS_pure ⟨rfl, lo, rfl⟩
        · rw [if_neg hge]
          have hmi := mid_in hge
          have hm : lo + (hi - lo) / 2 < n := Nat.lt_of_lt_of_le hmi.2 a3
          refine wpS_bind (s_beyond hL hk (by (first | lia | omega)) (hB _ hm).1 (hB _ hm).2 ?_)
          dsimp only
          by_cases hmr : lo + (hi - lo) / 2 < r
          · rw [if_pos (decide_eq_true hmr)]
            exact wpS_pure ⟨rfl, _, _, rfl, hmr, a2, a3, mid_up hx hmi.1 a4⟩
          · rw [if_neg (by rw [decide_eq_false hmr]; decide)]
            exact wpS_pure ⟨rfl, _, _, rfl, a1, Nat.not_lt.mp hmr, Nat.le_of_lt hm, mid_dn hx hmi.2 a4⟩
      case post2 =>
        rintro c st' ⟨rfl, lo, rfl⟩
        exact wpS_pure h
end sort

end

section
noncomputable def mergeHi' : Array Keyed → Array Keyed → StateT SortSt Sem (Array Keyed) := sortPriv% PySem.Builtin.mergeHi
section sort
variable {prog : Program} {w : World} {A : Around} {E : Value → Shared → Prop} {s : Shared} {it : Nat → Keyed} {κ : SortKind} {sn : Nat → Int}
theorem s_for_cons {β : Type} {a b : Nat} {c : β} {f : Nat → β → StateT SortSt Sem (ForInStep β)} {Q : β → SortSt → Prop} {st : SortSt} (hab : a < b)
    (h : wpS (model prog w) A E s (f a c) (fun r st' => match r with | .done c' => Q c' st' | .yield c' => wpS (model prog w) A E s (forIn [a + 1:b] c' f) Q st') st) : wpS (model prog w) A E s (forIn [a:b] c f) Q st := by
  have e : ∀ (a : Nat) (c : β), forIn [a:b] c f = forIn (List.range' a (b - a)) c f := fun a c => by
    rw [Std.Legacy.Range.forIn_eq_forIn_range']
    have hsz : ([a:b] : Std.Legacy.Range).size = b - a := by simp [Std.Legacy.Range.size]
    show forIn (List.range' a ([a:b] : Std.Legacy.Range).size 1) c f = _
    rw [hsz]
  rw [e]
  obtain ⟨n, hn⟩ : ∃ n, b - a = n + 1 := ⟨b - a - 1, by (first | lia | omega)⟩
  rw [hn, List.range'_succ, List.forIn_cons]
  refine wpS_bind (wpS_mono h fun r st' h' => ?_)
  cases r with
  | done c' => exact wpS_pure h'
  | yield c' =>
    have h'' : wpS (model prog w) A E s (forIn [a + 1:b] c' f) Q st' := h'
    rw [e, show b - (a + 1) = n by (first | lia | omega)] at h''
    exact h''
theorem s_for_nil {β : Type} {a b : Nat} {c : β} {f : Nat → β → StateT SortSt Sem (ForInStep β)} {Q : β → SortSt → Prop} {st : SortSt} (hab : b ≤ a) (h : Q c st) : wpS (model prog w) A E s (forIn [a:b] c f) Q st := by
  have e : forIn [a:b] c f = forIn (List.range' a (b - a)) c f := by
    rw [Std.Legacy.Range.forIn_eq_forIn_range']
    have hsz : ([a:b] : Std.Legacy.Range).size = b - a := by simp [Std.Legacy.Range.size]
    show forIn (List.range' a ([a:b] : Std.Legacy.Range).size 1) c f = _
    rw [hsz]
  rw [e, show b - a = 0 by (first | lia | omega)]
  exact wpS_pure h
theorem s_turns {β : Type} {total : Nat} {c0 : β} {f : Nat → β → StateT SortSt Sem (ForInStep β)} {st : SortSt} {Q : β → SortSt → Prop} (c : Nat → β) (n : Nat) (hn : n ≤ total) (hc : c0 = c 0)
    (turn : ∀ j, j < n → ∀ Q' : ForInStep β → SortSt → Prop, Q' (.yield (c (j + 1))) st → wpS (model prog w) A E s (f j (c j)) Q' st)
    (H : wpS (model prog w) A E s (forIn [n:total] (c n) f) Q st) : wpS (model prog w) A E s (forIn [0:total] c0 f) Q st := by
  subst hc
  have key : ∀ k, k ≤ n → wpS (model prog w) A E s (forIn [n - k:total] (c (n - k)) f) Q st := by
    intro k
    induction k with
    | zero => intro _; exact H
    | succ k ih =>
      intro hk
      refine s_for_cons (by (first | lia | omega)) (turn _ (by (first | lia | omega)) _ ?_)
      have e : n - (k + 1) + 1 = n - k := by (first | lia | omega)
      dsimp only
      rw [e]
      exact ih (by (first | lia | omega))
  have := key n (Nat.le_refl n)
  rwa [Nat.sub_self] at this
theorem s_lt (hL : LtOk prog w A s κ it sn) {i j : Nat} {st : SortSt} {c : Bool} {Q : Option Bool → SortSt → Prop} (hk : kindOf st = κ) (hij : (decide (sn i < sn j) != decide (sn j < sn i)) = true) (hc : decide (sn i < sn j) = c) (h : Q (some c) st) :
    wpS (model prog w) A E s (lt' (it i) (it j)) Q st := by
  subst hc; exact hL E i j st Q hk hij h
theorem s_ifn {α : Type} {c : Prop} [Decidable c] {x y : StateT SortSt Sem α} {Q : α → SortSt → Prop} {st : SortSt} (h : ¬ c) (H : wpS (model prog w) A E s y Q st) : wpS (model prog w) A E s (if c then x else y) Q st := by rw [if_neg h]; exact H
theorem s_ifp {α : Type} {c : Prop} [Decidable c] {x y : StateT SortSt Sem α} {Q : α → SortSt → Prop} {st : SortSt} (h : c) (H : wpS (model prog w) A E s x Q st) : wpS (model prog w) A E s (if c then x else y) Q st := by rw [if_pos h]; exact H
local macro_rules
  | `(tactic| walk_at "sif") => `(tactic| (first
      | refine s_ifn (by first | (first | lia | omega) | (simp only [beq_iff_eq]; (first | lia | omega)) | decide) ?_
      | refine s_ifp (by first | (first | lia | omega) | (simp only [beq_iff_eq]; (first | lia | omega)) | decide) ?_))
theorem drop8 (l : List Nat) (h : l.length = 52) : l.drop 44 = [l.getD 44 0, l.getD 45 0, l.getD 46 0, l.getD 47 0, l.getD 48 0, l.getD 49 0, l.getD 50 0, l.getD 51 0] := by
  rw [List.drop_eq_getElem_cons (by (first | lia | omega)), List.drop_eq_getElem_cons (by (first | lia | omega)), List.drop_eq_getElem_cons (by (first | lia | omega)), List.drop_eq_getElem_cons (by (first | lia | omega)), List.drop_eq_getElem_cons (by (first | lia | omega)), List.drop_eq_getElem_cons (by (first | lia | omega)), List.drop_eq_getElem_cons (by (first | lia | omega)), List.drop_eq_getElem_cons (by (first | lia | omega)), List.drop_eq_nil_of_le (by (first | lia | omega))]
  simp [List.getD, h]
section
variable {Pa Pb P : Array Nat} {pe : Array (Nat × Nat × Nat)} {nB : Nat} {Q : Array Keyed → SortSt → Prop}
theorem s_mergeA (hL : LtOk prog w A s κ it sn) (hA : Pa.size = 52) (hB : Pb.size = nB) (h2 : 2 ≤ nB) (hlt : ∀ i j, i < 52 → j < nB → sn (Pb.getD j 0) < sn (Pa.getD i 0)) (H : Q ((Pb ++ Pa).map it) (sS κ it P pe 7)) :
   wpS (model prog w) A E s (mergeHi' (Pa.map it) (Pb.map it)) Q (sS κ it P pe 7) := by
  have gA : ∀ i, i < 52 → Pa[i]? = some (Pa.getD i 0) := fun i hi => by simp [Array.getD, hA, hi]
  have gB : ∀ i, i < nB → Pb[i]? = some (Pb.getD i 0) := fun i hi => by simp [Array.getD, hB, hi]
  have nlt : ∀ {x y : Int}, x < y → (decide (x < y) != decide (y < x)) = true := fun {x y} hxy => by
    rw [decide_eq_true hxy, decide_eq_false (by (first | lia | omega))]; rfl
  have sA : (Pa.map it).size = 52 := by rw [Array.size_map, hA]
  have sB : (Pb.map it).size = nB := by rw [Array.size_map, hB]
  refine wpS_bind ?_
  refine wpS_lift (wpAny_rule ⟨rfl, ?_⟩)
  refine wpS_bind ?_
  rw [sA, sB]
  refine s_elem (gA 51 (by (first | lia | omega))) ?_
  (try dsimp only)
  walk_at "sif"
  walk_at "sif"
  refine wpS_bind (wpS_get ?_)
  (try dsimp only)
  refine wpS_bind (s_for_cons (by (first | lia | omega)) ?_)
  (try dsimp only)
  refine wpS_bind ?_
  refine s_turns (fun j => (none, 51 - j, nB, ((List.range (j + 1)).map fun t => it (Pa.getD (51 - t) 0)).toArray, j, 0)) 6 (by (first | lia | omega)) rfl ?_ ?_
  · intro j hj Q' HQ
    (try dsimp only)
    refine wpS_bind (s_elem (gB _ (by (first | lia | omega))) ?_)
    refine wpS_bind (s_elem (gA _ (by (first | lia | omega))) ?_)
    refine wpS_bind (s_lt hL rfl (nlt (hlt _ _ (by (first | lia | omega)) (by (first | lia | omega)))) (decide_eq_true (hlt _ _ (by (first | lia | omega)) (by (first | lia | omega)))) ?_)
    (try dsimp only)
    refine s_ifp rfl ?_
    refine wpS_bind (s_elem (gA _ (by (first | lia | omega))) ?_)
    (try dsimp only)
    walk_at "sif"
    walk_at "sif"
    refine wpS_pure ?_
    (try dsimp only)
    have e : ((List.range (j + 1 + 1)).map fun t => it (Pa.getD (51 - t) 0)).toArray = (((List.range (j + 1)).map fun t => it (Pa.getD (51 - t) 0)).toArray).push (it (Pa.getD (51 - (j + 1)) 0)) := by
      rw [List.range_succ, List.map_append]; simp
    rw [e] at HQ
    exact HQ
  have ho : ((List.range (6 + 1)).map fun t => it (Pa.getD (51 - t) 0)).toArray = ((((((#[it (Pa.getD 51 0)].push (it (Pa.getD 50 0))).push (it (Pa.getD 49 0))).push (it (Pa.getD 48 0))).push (it (Pa.getD 47 0))).push (it (Pa.getD 46 0))).push (it (Pa.getD 45 0))) := rfl
  (try dsimp only)
  rw [ho]
  iterate 1
    refine s_for_cons (by (first | lia | omega)) ?_
    (try dsimp only)
    refine wpS_bind (s_elem (gB _ (by (first | lia | omega))) ?_)
    refine wpS_bind (s_elem (gA _ (by (first | lia | omega))) ?_)
    refine wpS_bind (s_lt hL rfl (nlt (hlt _ _ (by (first | lia | omega)) (by (first | lia | omega)))) (decide_eq_true (hlt _ _ (by (first | lia | omega)) (by (first | lia | omega)))) ?_)
    (try dsimp only)
    refine s_ifp rfl ?_
    refine wpS_bind (s_elem (gA _ (by (first | lia | omega))) ?_)
    (try dsimp only)
    walk_at "sif"
    walk_at "sif"
    refine wpS_pure ?_
    (try dsimp only)
  refine wpS_bind (wpS_lift (wpAny_rule ⟨rfl, ?_⟩))
  (try dsimp only)
  refine wpS_bind (s_for_cons (by (first | lia | omega)) ?_)
  (try dsimp only)
  walk_at "sif"
  refine wpS_bind (wpS_modify ?_)
  refine wpS_bind (s_elem (gB _ (by (first | lia | omega))) ?_)
  refine wpS_bind (s_gallop (r := 0) hL rfl (by (first | lia | omega)) (by (first | lia | omega)) (by (first | lia | omega)) ?_ ?_)
  · intro i hi
    have := hlt i (nB - 1) (by (first | lia | omega)) (by (first | lia | omega))
    constructor
    · unfold apart; rw [Nat.zero_add, decide_eq_true this, decide_eq_false (by (first | lia | omega))]; rfl
    · unfold bey; rw [Nat.zero_add, decide_eq_true this, decide_eq_false (by (first | lia | omega))]; rfl
  (try dsimp only)
  walk_at "sif"
  walk_at "sif"
  refine wpS_pure ?_
  (try dsimp only)
  refine wpS_pure ?_
  (try dsimp only)
  refine wpS_pure ?_
  have e : (Pa.map it).extract 0 0 ++ (Pb.map it).extract 0 nB ++ (((((((((#[it (Pa.getD 51 0)].push (it (Pa.getD 50 0))).push (it (Pa.getD 49 0))).push (it (Pa.getD 48 0))).push (it (Pa.getD 47 0))).push (it (Pa.getD 46 0))).push (it (Pa.getD 45 0))).push (it (Pa.getD 44 0))) ++ ((Pa.map it).extract 0 44).reverse).reverse) = (Pb ++ Pa).map it := by
    apply Array.ext'
    have l52 : Pa.toList.length = 52 := by rw [Array.length_toList, hA]
    have hg : ∀ i, i < 52 → Pa.getD i 0 = Pa.toList.getD i 0 := fun i hi => by simp [Array.getD, List.getD, hA, hi]
    have hd := drop8 Pa.toList l52
    rw [hg 51 (by (first | lia | omega)), hg 50 (by (first | lia | omega)), hg 49 (by (first | lia | omega)), hg 48 (by (first | lia | omega)), hg 47 (by (first | lia | omega)), hg 46 (by (first | lia | omega)), hg 45 (by (first | lia | omega)), hg 44 (by (first | lia | omega))]
    simp only [Array.toList_append, Array.toList_extract, Array.toList_reverse, Array.toList_push, Array.toList_map, List.reverse_append, List.reverse_reverse, List.extract_eq_take_drop, List.drop_zero, Nat.sub_zero, List.take_zero, List.nil_append]
    rw [List.take_of_length_le (l := Pb.toList.map it) (by rw [List.length_map, Array.length_toList, hB]; (first | lia | omega)), List.map_append]
    congr 1
    show (Pa.toList.map it).take 44 ++ ([Pa.toList.getD 44 0, Pa.toList.getD 45 0, Pa.toList.getD 46 0, Pa.toList.getD 47 0, Pa.toList.getD 48 0, Pa.toList.getD 49 0, Pa.toList.getD 50 0, Pa.toList.getD 51 0].map it) = _
    rw [← hd, ← List.map_take, ← List.map_append, List.take_append_drop]
  exact (congrArg (fun x => Q x (sS κ it P pe 7)) e).mpr H
theorem s_mergeB (hL : LtOk prog w A s κ it sn) (hA : Pa.size = 52) (hB : Pb.size = 12) (hlt : ∀ i j, i < 52 → j < 11 → sn (Pb.getD j 0) < sn (Pa.getD i 0)) (hm1 : ∀ i, i < 26 → sn (Pa.getD i 0) < sn (Pb.getD 11 0)) (hm2 : ∀ i, 26 ≤ i → i < 52 → sn (Pb.getD 11 0) < sn (Pa.getD i 0))
    (H : Q ((Pb.toList.take 11 ++ (Pa.toList.take 26 ++ ([Pb.getD 11 0] ++ Pa.toList.drop 26))).toArray.map it) (sS κ it P pe 6)) :
   wpS (model prog w) A E s (mergeHi' (Pa.map it) (Pb.map it)) Q (sS κ it P pe 7) := by
  have gA : ∀ i, i < 52 → Pa[i]? = some (Pa.getD i 0) := fun i hi => by simp [Array.getD, hA, hi]
  have gB : ∀ i, i < 12 → Pb[i]? = some (Pb.getD i 0) := fun i hi => by simp [Array.getD, hB, hi]
  have nlt : ∀ {x y : Int}, x < y → (decide (x < y) != decide (y < x)) = true := fun {x y} hxy => by
    rw [decide_eq_true hxy, decide_eq_false (by (first | lia | omega))]; rfl
  have sA : (Pa.map it).size = 52 := by rw [Array.size_map, hA]
  have sB : (Pb.map it).size = 12 := by rw [Array.size_map, hB]
  refine wpS_bind ?_
  refine wpS_lift (wpAny_rule ⟨rfl, ?_⟩)
  refine wpS_bind ?_
  rw [sA, sB]
  refine s_elem (gA 51 (by (first | lia | omega))) ?_
  (try dsimp only)
  walk_at "sif"
  walk_at "sif"
  refine wpS_bind (wpS_get ?_)
  (try dsimp only)
  refine wpS_bind (s_for_cons (by (first | lia | omega)) ?_)
  (try dsimp only)
  refine wpS_bind ?_
  refine s_turns (fun j => (none, 51 - j, 12, ((List.range (j + 1)).map fun t => it (Pa.getD (51 - t) 0)).toArray, j, 0)) 6 (by (first | lia | omega)) rfl ?_ ?_
  · intro j hj Q' HQ
    (try dsimp only)
    refine wpS_bind (s_elem (gB 11 (by (first | lia | omega))) ?_)
    refine wpS_bind (s_elem (gA _ (by (first | lia | omega))) ?_)
    refine wpS_bind (s_lt hL rfl (nlt (hm2 _ (by (first | lia | omega)) (by (first | lia | omega)))) (decide_eq_true (hm2 _ (by (first | lia | omega)) (by (first | lia | omega)))) ?_)
    (try dsimp only)
    refine s_ifp rfl ?_
    refine wpS_bind (s_elem (gA _ (by (first | lia | omega))) ?_)
    (try dsimp only)
    walk_at "sif"
    walk_at "sif"
    refine wpS_pure ?_
    (try dsimp only)
    have e : ((List.range (j + 1 + 1)).map fun t => it (Pa.getD (51 - t) 0)).toArray = (((List.range (j + 1)).map fun t => it (Pa.getD (51 - t) 0)).toArray).push (it (Pa.getD (51 - (j + 1)) 0)) := by
      rw [List.range_succ, List.map_append]; simp
    rw [e] at HQ
    exact HQ
  have ho : ((List.range (6 + 1)).map fun t => it (Pa.getD (51 - t) 0)).toArray = ((((((#[it (Pa.getD 51 0)].push (it (Pa.getD 50 0))).push (it (Pa.getD 49 0))).push (it (Pa.getD 48 0))).push (it (Pa.getD 47 0))).push (it (Pa.getD 46 0))).push (it (Pa.getD 45 0))) := rfl
  (try dsimp only)
  rw [ho]
  iterate 1
    refine s_for_cons (by (first | lia | omega)) ?_
    (try dsimp only)
    refine wpS_bind (s_elem (gB 11 (by (first | lia | omega))) ?_)
    refine wpS_bind (s_elem (gA _ (by (first | lia | omega))) ?_)
    refine wpS_bind (s_lt hL rfl (nlt (hm2 _ (by (first | lia | omega)) (by (first | lia | omega)))) (decide_eq_true (hm2 _ (by (first | lia | omega)) (by (first | lia | omega)))) ?_)
    (try dsimp only)
    refine s_ifp rfl ?_
    refine wpS_bind (s_elem (gA _ (by (first | lia | omega))) ?_)
    (try dsimp only)
    walk_at "sif"
    walk_at "sif"
    refine wpS_pure ?_
    (try dsimp only)
  refine wpS_bind (wpS_lift (wpAny_rule ⟨rfl, ?_⟩))
  (try dsimp only)
  refine wpS_bind (s_for_cons (by (first | lia | omega)) ?_)
  (try dsimp only)
  walk_at "sif"
  refine wpS_bind (wpS_modify ?_)
  refine wpS_bind (s_elem (gB 11 (by (first | lia | omega))) ?_)
  refine wpS_bind (s_gallop (r := 26) hL rfl (by (first | lia | omega)) (by (first | lia | omega)) (by (first | lia | omega)) ?_ ?_)
  · intro i hi
    by_cases h26 : i < 26
    · have := hm1 i h26
      constructor
      · unfold apart; rw [Nat.zero_add, decide_eq_true this, decide_eq_false (by (first | lia | omega))]; rfl
      · unfold bey; rw [Nat.zero_add, decide_eq_true h26, if_neg (by decide), decide_eq_false (by (first | lia | omega))]; rfl
    · have := hm2 i (by (first | lia | omega)) (by (first | lia | omega))
      constructor
      · unfold apart; rw [Nat.zero_add, decide_eq_true this, decide_eq_false (by (first | lia | omega))]; rfl
      · unfold bey; rw [Nat.zero_add, decide_eq_true this, decide_eq_false h26]; rfl
  (try dsimp only)
  walk_at "sif"
  walk_at "sif"
  refine wpS_bind (s_elem (gB 11 (by (first | lia | omega))) ?_)
  (try dsimp only)
  walk_at "sif"
  refine wpS_bind (s_elem (gA 25 (by (first | lia | omega))) ?_)
  refine wpS_bind (s_gallop (r := 11) hL rfl (by (first | lia | omega)) (by (first | lia | omega)) (by (first | lia | omega)) ?_ ?_)
  · intro i hi
    have := hlt 25 i (by (first | lia | omega)) (by (first | lia | omega))
    constructor
    · unfold apart; rw [Nat.zero_add, decide_eq_true this, decide_eq_false (by (first | lia | omega))]; rfl
    · unfold bey; rw [Nat.zero_add, if_pos rfl, decide_eq_true this, decide_eq_true (by (first | lia | omega))]
  (try dsimp only)
  walk_at "sif"
  refine wpS_bind (s_elem (gA 25 (by (first | lia | omega))) ?_)
  (try dsimp only)
  walk_at "sif"
  refine s_ifn (by simp) ?_
  refine wpS_pure ?_
  (try dsimp only)
  refine s_for_cons (by (first | lia | omega)) ?_
  (try dsimp only)
  walk_at "sif"
  refine wpS_bind (wpS_modify ?_)
  refine wpS_bind (s_elem (gB 10 (by (first | lia | omega))) ?_)
  refine wpS_bind (s_gallop (r := 0) hL rfl (by (first | lia | omega)) (by (first | lia | omega)) (by (first | lia | omega)) ?_ ?_)
  · intro i hi
    have := hlt i 10 (by (first | lia | omega)) (by (first | lia | omega))
    constructor
    · unfold apart; rw [Nat.zero_add, decide_eq_true this, decide_eq_false (by (first | lia | omega))]; rfl
    · unfold bey; rw [Nat.zero_add, decide_eq_true this, decide_eq_false (by (first | lia | omega))]; rfl
  (try dsimp only)
  walk_at "sif"
  walk_at "sif"
  refine wpS_pure ?_
  (try dsimp only)
  refine wpS_pure ?_
  (try dsimp only)
  refine wpS_pure ?_
  have e : (Pa.map it).extract 0 0 ++ (Pb.map it).extract 0 11 ++ ((((((((((((#[it (Pa.getD 51 0)].push (it (Pa.getD 50 0))).push (it (Pa.getD 49 0))).push (it (Pa.getD 48 0))).push (it (Pa.getD 47 0))).push (it (Pa.getD 46 0))).push (it (Pa.getD 45 0))).push (it (Pa.getD 44 0))) ++ ((Pa.map it).extract 26 44).reverse).push (it (Pb.getD 11 0))).push (it (Pa.getD 25 0))) ++ ((Pa.map it).extract 0 25).reverse).reverse) = (Pb.toList.take 11 ++ (Pa.toList.take 26 ++ ([Pb.getD 11 0] ++ Pa.toList.drop 26))).toArray.map it := by
    apply Array.ext'
    have l52 : Pa.toList.length = 52 := by rw [Array.length_toList, hA]
    have hg : ∀ i, i < 52 → Pa.getD i 0 = Pa.toList.getD i 0 := fun i hi => by simp [Array.getD, List.getD, hA, hi]
    have hd := drop8 Pa.toList l52
    rw [hg 51 (by (first | lia | omega)), hg 50 (by (first | lia | omega)), hg 49 (by (first | lia | omega)), hg 48 (by (first | lia | omega)), hg 47 (by (first | lia | omega)), hg 46 (by (first | lia | omega)), hg 45 (by (first | lia | omega)), hg 44 (by (first | lia | omega)), hg 25 (by (first | lia | omega))]
    have e25 : Pa.toList.take 26 = Pa.toList.take 25 ++ [Pa.toList.getD 25 0] := by
      rw [List.take_add_one]; simp [List.getD, l52]
    have e26 : Pa.toList.drop 26 = (Pa.toList.drop 26).take 18 ++ Pa.toList.drop 44 := by
      have := List.take_append_drop 18 (Pa.toList.drop 26)
      rw [List.drop_drop] at this
      exact this.symm
    rw [e25, e26, hd]
    simp only [Array.toList_append, Array.toList_extract, Array.toList_reverse, Array.toList_push, Array.toList_map, List.reverse_append, List.reverse_reverse, List.extract_eq_take_drop, List.drop_zero, Nat.sub_zero, List.take_zero, List.nil_append, List.map_append, List.map_take, List.map_drop, List.append_assoc, List.map_cons, List.map_nil]
    rfl
  exact (congrArg (fun x => Q x (sS κ it P pe 6)) e).mpr H
end
end sort

end

section
theorem fold_set {α : Type} : ∀ (l : List α) (a : Array α) (k : Nat), k + l.length ≤ a.size → ((l.zipIdx k).foldl (fun a x => a.setIfInBounds (0 + x.2) x.1) a).toList = a.toList.take k ++ l ++ a.toList.drop (k + l.length)
  | [], a, k, h => by simp
  | x :: l, a, k, h => by
    rw [List.zipIdx_cons, List.foldl_cons]
    have hl : (x :: l).length = l.length + 1 := rfl
    rw [fold_set l (a.setIfInBounds (0 + k) x) (k + 1) (by simp; (first | lia | omega))]
    have e : (a.setIfInBounds (0 + k) x).toList = a.toList.set k x := by simp
    have hk : k < a.toList.length := by simp; (first | lia | omega)
    rw [e, List.take_set, List.drop_set_of_lt (by (first | lia | omega)), hl]
    rw [show k + 1 + l.length = k + (l.length + 1) by (first | lia | omega), List.take_add_one]
    have e2 : a.toList[k]?.toList = [a.toList[k]] := by simp
    have hkt : ¬ k < (a.toList.take k).length := by rw [List.length_take]; (first | lia | omega)
    rw [e2, List.set_append, if_neg hkt, List.length_take, Nat.min_eq_left (by (first | lia | omega)), Nat.sub_self]
    simp
theorem mia {l r : Nat} (h : ¬ l ≥ r) : l ≤ (l + r) / 2 ∧ (l + r) / 2 < r := by (first | lia | omega)
section sort
variable {prog : Program} {w : World} {A : Around} {E : Value → Shared → Prop} {s : Shared} {it : Nat → Keyed} {κ : SortKind} {sn : Nat → Int}
theorem bubble_map (P : Array Nat) (i d : Nat) : bubble (P.map it) i d = (bubble P i d).map it := kas_swaps_map it (fun k => i - k) (fun k => i - k - 1) _ P
theorem s_bin (hL : LtOk prog w A s κ it sn) {Ps : Nat → Array Nat} {r : Nat → Nat} {pe : Array (Nat × Nat × Nat)} {g lo n ok : Nat} {Q : Bool → SortSt → Prop} (h1 : 1 ≤ ok) (hn : ok ≤ n)
    (hs : ∀ k, ok ≤ k → k < n → lo + k < (Ps k).size ∧ r k ≤ k ∧ (∀ m, m < k → apart sn ((Ps k).getD (lo + k) 0) (Ps k) (lo + m) = true ∧ decide (sn ((Ps k).getD (lo + k) 0) < sn ((Ps k).getD (lo + m) 0)) = decide (r k ≤ m)) ∧ Ps (k + 1) = bubble (Ps k) (lo + k) (k - r k))
    (h : Q true (sS κ it (Ps n) pe g)) : wpS (model prog w) A E s (binarySort' lo n ok) Q (sS κ it (Ps ok) pe g) := by
  rw [binarySort'_eq, Nat.max_eq_left h1]
  refine wpS_bind (wpS_mono (wpS_forRange (I := fun k c st' => c = (none, ()) ∧ st' = sS κ it (Ps k) pe g) (Q := fun c st' => c = (none, ()) ∧ st' = sS κ it (Ps n) pe g) ?step ?fin ⟨rfl, rfl⟩) ?post)
  case post =>
    rintro c st' ⟨rfl, rfl⟩
    exact wpS_pure h
  case fin =>
    rintro c st' ⟨rfl, rfl⟩
    rw [Nat.max_eq_right hn]; exact ⟨rfl, rfl⟩
  case step =>
    rintro k c st' hk1 hk2 ⟨rfl, rfl⟩
    obtain ⟨hsz, hr, hB, hP⟩ := hs k hk1 hk2
    have gP : ∀ i, i < (Ps k).size → (Ps k)[i]? = some ((Ps k).getD i 0) := fun i hi => by simp [Array.getD, hi]
    (try dsimp only)
    refine wpS_bind (wpS_mono (wpS_forRange (I := fun x c st' => st' = sS κ it (Ps k) pe g ∧ ∃ l rr, c = (none, l, rr) ∧ l ≤ r k ∧ r k ≤ rr ∧ rr ≤ k ∧ rr - l ≤ k - x) (Q := fun c st' => st' = sS κ it (Ps k) pe g ∧ ∃ rr, c = (none, r k, rr)) ?step2 ?fin2 ⟨rfl, _, _, rfl, by (first | lia | omega), by (first | lia | omega), by (first | lia | omega), by (first | lia | omega)⟩) ?post2)
    case fin2 =>
      rintro c st' ⟨rfl, l, rr, rfl, a1, a2, a3, a4⟩
      have : l = r k := by (first | lia | omega)
      subst this
      exact ⟨rfl, rr, rfl⟩
    case step2 =>
      rintro x c st' _ hx ⟨rfl, l, rr, rfl, a1, a2, a3, a4⟩
      (try dsimp only)
      by_cases hge : l ≥ rr
      · rw [if_pos hge]
        have : l = r k := by (first | lia | omega)
        subst this
        exact wpS_pure ⟨rfl, rr, rfl⟩
      · rw [if_neg hge]
        have hm : (l + rr) / 2 < k := Nat.lt_of_lt_of_le (mia hge).2 a3
        obtain ⟨b1, b2⟩ := hB _ hm
        refine wpS_bind (s_ltAt hL (gP _ hsz) (gP _ (by (first | lia | omega))) (by unfold apart at b1; revert b1; cases decide (sn ((Ps k).getD (lo + (l + rr) / 2) 0) < sn ((Ps k).getD (lo + k) 0)) <;> cases decide (sn ((Ps k).getD (lo + k) 0) < sn ((Ps k).getD (lo + (l + rr) / 2) 0)) <;> decide) ?_)
        rw [b2]
        (try dsimp only)
        by_cases hmr : r k ≤ (l + rr) / 2
        · rw [if_pos (decide_eq_true hmr)]
          exact wpS_pure ⟨rfl, _, _, rfl, a1, hmr, Nat.le_of_lt hm, mid_dn hx (mia hge).2 a4⟩
        · rw [if_neg (by rw [decide_eq_false hmr]; decide)]
          exact wpS_pure ⟨rfl, _, _, rfl, Nat.not_le.mp hmr, a2, a3, mid_up hx (mia hge).1 a4⟩
    case post2 =>
      rintro c st' ⟨rfl, rr, rfl⟩
      (try dsimp only)
      rw [moveDown'_eq]
      refine wpS_bind (wpS_modify (wpS_pure ⟨rfl, ?_⟩))
      show SortSt.mk' κ (bubble ((Ps k).map it) (lo + k) (lo + k - (lo + r k))) pe g none = _
      rw [bubble_map, show lo + k - (lo + r k) = k - r k by (first | lia | omega), ← hP]
noncomputable def P0 : Array Nat := (List.range 64).toArray
theorem s_set {st st0 : SortSt} {Q : PUnit → SortSt → Prop} (h : Q ⟨⟩ st0) : wpS (model prog w) A E s (set st0 : StateT SortSt Sem PUnit) Q st := by
  unfold wpS; rw [StateT.run_set]; exact wpAny_pure ⟨rfl, h⟩
theorem s_at (hL : LtOk prog w A s κ it sn) {P2 M : Array Nat} {nb g' pw : Nat} {Q : Bool → SortSt → Prop} (hP2 : P2.size = 64)
    (hg1 : ∀ i, i < 52 → apart sn (P2.getD 52 0) P2 (0 + i) = true ∧ bey sn false (P2.getD 52 0) P2 (0 + i) = decide (i < 0)) (hnb : nb ≤ 12) (hnb0 : 0 < nb)
    (hg2 : ∀ i, i < 12 → apart sn (P2.getD 51 0) P2 (52 + i) = true ∧ bey sn true (P2.getD 51 0) P2 (52 + i) = decide (i < nb))
    (hm : ∀ (Q : Array Keyed → SortSt → Prop) pe, Q (M.map it) (sS κ it P2 pe g') → wpS (model prog w) A E s (mergeHi' ((P2.extract 0 52).map it) ((P2.extract 52 (52 + nb)).map it)) Q (sS κ it P2 pe 7)) (hM : M.size ≤ 64)
    (H : Q true (sS κ it (M.toList ++ P2.toList.drop M.size).toArray #[(0, 64, pw)] g')) : wpS (model prog w) A E s (mergeAt' 0) Q (sS κ it P2 #[(0, 52, pw), (52, 12, 0)] 7) := by
  have g2 : ∀ i, i < 64 → P2[i]? = some (P2.getD i 0) := fun i hi => by simp [Array.getD, hP2, hi]
  refine wpS_bind (wpS_get ?_)
  (try dsimp only)
  refine wpS_bind (s_set ?_)
  have epe : ((#[(0, 52, pw), (52, 12, 0)] : Array (Nat × Nat × Nat)).setIfInBounds 0 (0, 52 + 12, pw)).eraseIdxIfInBounds (0 + 1) = #[(0, 64, pw)] := by
    apply Array.ext'
    simp
  rw [epe]
  change wpS (model prog w) A E s _ _ (sS κ it P2 #[(0, 64, pw)] 7)
  refine wpS_bind (s_elem (g2 52 (by (first | lia | omega))) ?_)
  refine wpS_bind (s_gallop (r := 0) hL rfl (by (first | lia | omega)) (by (first | lia | omega)) (by (first | lia | omega)) hg1 ?_)
  (try dsimp only)
  rw [if_neg (by decide)]
  refine wpS_bind (s_elem (g2 51 (by (first | lia | omega))) ?_)
  refine wpS_bind (s_gallop (r := nb) hL rfl (by (first | lia | omega)) (by (first | lia | omega)) (by (first | lia | omega)) hg2 ?_)
  (try dsimp only)
  rw [if_neg (by simp only [beq_iff_eq]; (first | lia | omega)), if_neg (by (first | lia | omega))]
  refine wpS_bind ?_
  have ex1 : (P2.map it).extract 0 52 = (P2.extract 0 52).map it := by simp
  have ex2 : (P2.map it).extract 52 (52 + nb) = (P2.extract 52 (52 + nb)).map it := by simp
  change wpS (model prog w) A E s (mergeHi' ((P2.map it).extract 0 52) ((P2.map it).extract 52 (52 + nb))) _ _
  rw [ex1, ex2]
  refine hm _ _ ?_
  refine wpS_bind (wpS_modify ?_)
  refine wpS_bind (wpS_get ?_)
  refine wpS_pure ?_
  have est : (M.map it).toList.zipIdx.foldl (fun a x => a.setIfInBounds (0 + x.2) x.1) (P2.map it) = (M.toList ++ P2.toList.drop M.size).toArray.map it := by
    apply Array.ext'
    rw [fold_set _ _ _ (by simp; (first | lia | omega))]
    simp
  exact (congrArg (fun x => Q true (SortSt.mk' κ x #[(0, 64, pw)] g' none)) est).mpr H
theorem s_sort (hL : LtOk prog w A s κ it sn) {P2 M : Array Nat} {n2 nb g' : Nat} {Q : Unit → SortSt → Prop}
    (hc1 : ∀ j, 1 ≤ j → j < 52 → sn (P0.getD (0 + j - 1) 0) < sn (P0.getD (0 + j) 0)) (hc1e : sn (P0.getD (0 + 52) 0) < sn (P0.getD (0 + 52 - 1) 0)) (hc1r : sn (P0.getD 0 0) < sn (P0.getD (0 + 52 - 1) 0))
    (hn2 : 1 < n2) (hn2' : n2 ≤ 12) (hc2 : ∀ j, 1 ≤ j → j < n2 → sn (P0.getD (52 + j - 1) 0) < sn (P0.getD (52 + j) 0)) (hc2e : n2 = 12 ∨ sn (P0.getD (52 + n2) 0) < sn (P0.getD (52 + n2 - 1) 0)) (hc2r : sn (P0.getD 52 0) < sn (P0.getD (52 + n2 - 1) 0))
    (hbin : ∀ (Q : Bool → SortSt → Prop) pe g, Q true (sS κ it P2 pe g) → wpS (model prog w) A E s (binarySort' 52 12 n2) Q (sS κ it P0 pe g)) (hP2 : P2.size = 64)
    (hg1 : ∀ i, i < 52 → apart sn (P2.getD 52 0) P2 (0 + i) = true ∧ bey sn false (P2.getD 52 0) P2 (0 + i) = decide (i < 0)) (hnb : nb ≤ 12) (hnb0 : 0 < nb)
    (hg2 : ∀ i, i < 12 → apart sn (P2.getD 51 0) P2 (52 + i) = true ∧ bey sn true (P2.getD 51 0) P2 (52 + i) = decide (i < nb))
    (hm : ∀ (Q : Array Keyed → SortSt → Prop) pe, Q (M.map it) (sS κ it P2 pe g') → wpS (model prog w) A E s (mergeHi' ((P2.extract 0 52).map it) ((P2.extract 52 (52 + nb)).map it)) Q (sS κ it P2 pe 7)) (hM : M.size ≤ 64)
    (H : ∀ pe, Q () (sS κ it (M.toList ++ P2.toList.drop M.size).toArray pe g')) : wpS (model prog w) A E s sortRuns' Q (sS κ it P0 #[] 7) := by
  have g2 : ∀ i, i < 64 → P2[i]? = some (P2.getD i 0) := fun i hi => by simp [Array.getD, hP2, hi]
  rw [sortRuns'_eq]
  refine wpS_bind (wpS_get ?_)
  have hsz : (arrOf (sS κ it P0 #[] 7)).size = 64 := by show (P0.map it).size = 64; rw [Array.size_map]; rfl
  have hmr : minRun' 64 64 0 = 32 := by decide
  simp only [hsz, hmr]
  refine wpS_bind (s_for_cons (by (first | lia | omega)) ?_)
  (try dsimp only)
  rw [if_neg (by (first | lia | omega))]
  refine wpS_bind (s_count hL (n := 52) (by (first | lia | omega)) (by (first | lia | omega)) (Nat.le_refl _) hc1 (.inr hc1e) hc1r ?_)
  (try dsimp only)
  rw [if_neg (by (first | lia | omega))]
  refine wpS_bind (wpS_get ?_)
  refine wpS_bind (wpS_modify ?_)
  refine wpS_pure ?_
  (try dsimp only)
  refine s_for_cons (by (first | lia | omega)) ?_
  (try dsimp only)
  rw [if_neg (by (first | lia | omega))]
  refine wpS_bind (s_count hL (n := n2) hn2 hn2' (Nat.le_refl _) hc2 hc2e hc2r ?_)
  (try dsimp only)
  rw [if_pos (by (first | lia | omega))]
  refine wpS_bind (wpS_lift (wpAny_rule ⟨rfl, ?_⟩))
  refine wpS_bind (hbin _ #[(0, 52, 0)] 7 ?_)
  rw [if_neg (by decide)]
  refine wpS_bind (wpS_get ?_)
  rw [show (pendingOf (sS κ it P2 #[(0, 52, 0)] 7)).back? = some (0, 52, 0) from rfl]
  (try dsimp only)
  refine wpS_bind (s_for_cons (by (first | lia | omega)) ?_)
  refine wpS_bind (wpS_get ?_)
  rw [if_neg (show ¬ ((pendingOf (sS κ it P2 #[(0, 52, 0)] 7)).size > 1) from (by decide : ¬ (1 > 1)))]
  (try dsimp only)
  refine wpS_pure ?_
  (try dsimp only)
  refine wpS_bind (wpS_modify ?_)
  refine wpS_bind (wpS_modify ?_)
  refine wpS_pure ?_
  (try dsimp only)
  refine s_for_cons (by (first | lia | omega)) ?_
  (try dsimp only)
  rw [if_pos (by decide)]
  refine wpS_pure ?_
  (try dsimp only)
  change wpS (model prog w) A E s _ _ (sS κ it P2 #[(0, 52, power' 64 (2 * 0 + 52) (2 * 0 + 52 + 52 + 12) 64), (52, 12, 0)] 7)
  generalize power' 64 (2 * 0 + 52) (2 * 0 + 52 + 52 + 12) 64 = pw
  refine wpS_bind (s_for_cons (by (first | lia | omega)) ?_)
  refine wpS_bind (wpS_get ?_)
  rw [if_neg (show ¬ ((pendingOf (sS κ it P2 #[(0, 52, pw), (52, 12, 0)] 7)).size ≤ 1) from (by decide : ¬ (2 ≤ 1)))]
  refine wpS_bind (s_at hL hP2 hg1 hnb hnb0 hg2 hm hM ?_)
  rw [if_neg (by decide)]
  refine wpS_pure ?_
  (try dsimp only)
  refine s_for_cons (by (first | lia | omega)) ?_
  refine wpS_bind (wpS_get ?_)
  rw [if_pos (show ((pendingOf (sS κ it (M.toList ++ P2.toList.drop M.size).toArray #[(0, 64, pw)] g')).size ≤ 1) from (by decide : 1 ≤ 1))]
  refine wpS_pure ?_
  exact wpS_pure (H _)
end sort

end

section
/-- the values in the order of their signs -/
noncomputable def ord : Nat → List Nat
  | 0 => [62, 63, 52, 53, 54, 55, 56, 57, 58, 59, 60, 61, 0, 1, 2, 3, 4, 5, 6, 7, 8, 9, 10, 11, 12, 13, 14, 15, 16, 17, 18, 19, 20, 21, 22, 23, 24, 25, 26, 27, 28, 29, 30, 31, 32, 33, 34, 35, 36, 37, 38, 39, 40, 41, 42, 43, 44, 45, 46, 47, 48, 49, 50, 51]
  | 1 => [62, 52, 53, 54, 55, 56, 57, 58, 59, 60, 61, 0, 1, 2, 3, 4, 5, 6, 7, 8, 9, 10, 11, 12, 13, 14, 15, 16, 17, 18, 19, 20, 21, 22, 23, 24, 25, 63, 26, 27, 28, 29, 30, 31, 32, 33, 34, 35, 36, 37, 38, 39, 40, 41, 42, 43, 44, 45, 46, 47, 48, 49, 50, 51]
  | 2 => [63, 52, 53, 54, 55, 56, 57, 58, 59, 60, 61, 0, 1, 2, 3, 4, 5, 6, 7, 8, 9, 10, 11, 12, 13, 14, 15, 16, 17, 18, 19, 20, 21, 22, 23, 24, 25, 26, 27, 28, 29, 30, 31, 32, 33, 34, 35, 36, 37, 38, 39, 40, 41, 42, 43, 44, 45, 46, 47, 48, 49, 50, 51, 62]
  | 3 => [52, 53, 54, 55, 56, 57, 58, 59, 60, 61, 62, 63, 0, 1, 2, 3, 4, 5, 6, 7, 8, 9, 10, 11, 12, 13, 14, 15, 16, 17, 18, 19, 20, 21, 22, 23, 24, 25, 26, 27, 28, 29, 30, 31, 32, 33, 34, 35, 36, 37, 38, 39, 40, 41, 42, 43, 44, 45, 46, 47, 48, 49, 50, 51]
  | _ => [63, 52, 53, 54, 55, 56, 57, 58, 59, 60, 61, 0, 1, 2, 3, 4, 5, 6, 7, 8, 9, 10, 11, 12, 13, 14, 15, 16, 17, 18, 19, 20, 21, 22, 23, 24, 25, 62, 26, 27, 28, 29, 30, 31, 32, 33, 34, 35, 36, 37, 38, 39, 40, 41, 42, 43, 44, 45, 46, 47, 48, 49, 50, 51]
/-- after the two runs -/
noncomputable def run2 : Nat → Array Nat
  | 0 => #[0, 1, 2, 3, 4, 5, 6, 7, 8, 9, 10, 11, 12, 13, 14, 15, 16, 17, 18, 19, 20, 21, 22, 23, 24, 25, 26, 27, 28, 29, 30, 31, 32, 33, 34, 35, 36, 37, 38, 39, 40, 41, 42, 43, 44, 45, 46, 47, 48, 49, 50, 51, 62, 63, 52, 53, 54, 55, 56, 57, 58, 59, 60, 61]
  | 1 => #[0, 1, 2, 3, 4, 5, 6, 7, 8, 9, 10, 11, 12, 13, 14, 15, 16, 17, 18, 19, 20, 21, 22, 23, 24, 25, 26, 27, 28, 29, 30, 31, 32, 33, 34, 35, 36, 37, 38, 39, 40, 41, 42, 43, 44, 45, 46, 47, 48, 49, 50, 51, 62, 52, 53, 54, 55, 56, 57, 58, 59, 60, 61, 63]
  | 2 => #[0, 1, 2, 3, 4, 5, 6, 7, 8, 9, 10, 11, 12, 13, 14, 15, 16, 17, 18, 19, 20, 21, 22, 23, 24, 25, 26, 27, 28, 29, 30, 31, 32, 33, 34, 35, 36, 37, 38, 39, 40, 41, 42, 43, 44, 45, 46, 47, 48, 49, 50, 51, 63, 52, 53, 54, 55, 56, 57, 58, 59, 60, 61, 62]
  | 3 => #[0, 1, 2, 3, 4, 5, 6, 7, 8, 9, 10, 11, 12, 13, 14, 15, 16, 17, 18, 19, 20, 21, 22, 23, 24, 25, 26, 27, 28, 29, 30, 31, 32, 33, 34, 35, 36, 37, 38, 39, 40, 41, 42, 43, 44, 45, 46, 47, 48, 49, 50, 51, 52, 53, 54, 55, 56, 57, 58, 59, 60, 61, 62, 63]
  | _ => #[0, 1, 2, 3, 4, 5, 6, 7, 8, 9, 10, 11, 12, 13, 14, 15, 16, 17, 18, 19, 20, 21, 22, 23, 24, 25, 26, 27, 28, 29, 30, 31, 32, 33, 34, 35, 36, 37, 38, 39, 40, 41, 42, 43, 44, 45, 46, 47, 48, 49, 50, 51, 63, 52, 53, 54, 55, 56, 57, 58, 59, 60, 61, 62]
noncomputable def mid1 : Array Nat := #[0, 1, 2, 3, 4, 5, 6, 7, 8, 9, 10, 11, 12, 13, 14, 15, 16, 17, 18, 19, 20, 21, 22, 23, 24, 25, 26, 27, 28, 29, 30, 31, 32, 33, 34, 35, 36, 37, 38, 39, 40, 41, 42, 43, 44, 45, 46, 47, 48, 49, 50, 51, 62, 52, 53, 54, 55, 56, 57, 58, 59, 60, 61, 63]
noncomputable abbrev so (k : Nat) : Nat → Int := fun i => sg k ((min i 63 : Nat) : Int)
section sort
variable {prog : Program} {w : World} {A : Around} {E : Value → Shared → Prop} {s : Shared} {it : Nat → Keyed} {κ : SortKind}
theorem s_bin0 (hL : LtOk prog w A s κ it (so 0)) (Q : Bool → SortSt → Prop) (pe : Array (Nat × Nat × Nat)) (g : Nat) (h : Q true (sS κ it (run2 0) pe g)) : wpS (model prog w) A E s (binarySort' 52 12 10) Q (sS κ it P0 pe g) := by
  have hs : ∀ k, k < 12 → 10 ≤ k → 52 + k < ((fun x => if x = 10 then P0 else if x = 11 then mid1 else run2 0) k).size ∧ (fun x => if x = 10 then 0 else 1) k ≤ k ∧ (∀ m, m < k → apart (so 0) (((fun x => if x = 10 then P0 else if x = 11 then mid1 else run2 0) k).getD (52 + k) 0) ((fun x => if x = 10 then P0 else if x = 11 then mid1 else run2 0) k) (52 + m) = true ∧ decide (so 0 (((fun x => if x = 10 then P0 else if x = 11 then mid1 else run2 0) k).getD (52 + k) 0) < so 0 (((fun x => if x = 10 then P0 else if x = 11 then mid1 else run2 0) k).getD (52 + m) 0)) = decide ((fun x => if x = 10 then 0 else 1) k ≤ m)) ∧ (fun x => if x = 10 then P0 else if x = 11 then mid1 else run2 0) (k + 1) = bubble ((fun x => if x = 10 then P0 else if x = 11 then mid1 else run2 0) k) (52 + k) (k - (fun x => if x = 10 then 0 else 1) k) := by decide +kernel
  exact s_bin hL (Ps := (fun x => if x = 10 then P0 else if x = 11 then mid1 else run2 0)) (r := (fun x => if x = 10 then 0 else 1)) (by (first | lia | omega)) (by (first | lia | omega)) (fun k h1 h2 => hs k h2 h1) h
theorem s_sort0 (hL : LtOk prog w A s κ it (so 0)) {Q : Unit → SortSt → Prop} (H : ∀ pe g, Q () (sS κ it (ord 0).toArray pe g)) : wpS (model prog w) A E s sortRuns' Q (sS κ it P0 #[] 7) := by
  have hc1 : ∀ j, j < 52 → 1 ≤ j → so 0 (P0.getD (0 + j - 1) 0) < so 0 (P0.getD (0 + j) 0) := by decide +kernel
  have hc2 : ∀ j, j < 10 → 1 ≤ j → so 0 (P0.getD (52 + j - 1) 0) < so 0 (P0.getD (52 + j) 0) := by decide +kernel
  have hlt : ∀ i, i < 52 → ∀ j, j < 12 → so 0 (((run2 0).extract 52 (52 + 12)).getD j 0) < so 0 (((run2 0).extract 0 52).getD i 0) := by decide +kernel
  have hm : ∀ (Q : Array Keyed → SortSt → Prop) pe, Q (((run2 0).extract 52 (52 + 12) ++ (run2 0).extract 0 52).map it) (sS κ it (run2 0) pe 7) → wpS (model prog w) A E s (mergeHi' (((run2 0).extract 0 52).map it) (((run2 0).extract 52 (52 + 12)).map it)) Q (sS κ it (run2 0) pe 7) := fun Q pe h =>
    s_mergeA (nB := 12) hL (by decide +kernel) (by decide +kernel) (by (first | lia | omega)) (fun i j hi hj => hlt i hi j hj) h
  refine s_sort (P2 := run2 0) (M := ((run2 0).extract 52 (52 + 12) ++ (run2 0).extract 0 52)) (n2 := 10) (nb := 12) (g' := 7) hL (fun j h1 h2 => hc1 j h2 h1) (by decide +kernel) (by decide +kernel) (by (first | lia | omega)) (by (first | lia | omega)) (fun j h1 h2 => hc2 j h2 h1) (by decide +kernel) (by decide +kernel) (fun Q pe g h => s_bin0 hL Q pe g h) (by decide +kernel) (by decide +kernel) (by (first | lia | omega)) (by (first | lia | omega)) (by decide +kernel) hm (by decide +kernel) ?_
  intro pe
  have e : (((run2 0).extract 52 (52 + 12) ++ (run2 0).extract 0 52)).toList ++ (run2 0).toList.drop (((run2 0).extract 52 (52 + 12) ++ (run2 0).extract 0 52)).size = ord 0 := by decide +kernel
  rw [e]; exact H pe 7
theorem s_bin1 (hL : LtOk prog w A s κ it (so 1)) (Q : Bool → SortSt → Prop) (pe : Array (Nat × Nat × Nat)) (g : Nat) (h : Q true (sS κ it (run2 1) pe g)) : wpS (model prog w) A E s (binarySort' 52 12 10) Q (sS κ it P0 pe g) := by
  have hs : ∀ k, k < 12 → 10 ≤ k → 52 + k < ((fun x => if x = 10 then P0 else if x = 11 then mid1 else run2 1) k).size ∧ (fun x => if x = 10 then 0 else 11) k ≤ k ∧ (∀ m, m < k → apart (so 1) (((fun x => if x = 10 then P0 else if x = 11 then mid1 else run2 1) k).getD (52 + k) 0) ((fun x => if x = 10 then P0 else if x = 11 then mid1 else run2 1) k) (52 + m) = true ∧ decide (so 1 (((fun x => if x = 10 then P0 else if x = 11 then mid1 else run2 1) k).getD (52 + k) 0) < so 1 (((fun x => if x = 10 then P0 else if x = 11 then mid1 else run2 1) k).getD (52 + m) 0)) = decide ((fun x => if x = 10 then 0 else 11) k ≤ m)) ∧ (fun x => if x = 10 then P0 else if x = 11 then mid1 else run2 1) (k + 1) = bubble ((fun x => if x = 10 then P0 else if x = 11 then mid1 else run2 1) k) (52 + k) (k - (fun x => if x = 10 then 0 else 11) k) := by decide +kernel
  exact s_bin hL (Ps := (fun x => if x = 10 then P0 else if x = 11 then mid1 else run2 1)) (r := (fun x => if x = 10 then 0 else 11)) (by (first | lia | omega)) (by (first | lia | omega)) (fun k h1 h2 => hs k h2 h1) h
theorem s_sort1 (hL : LtOk prog w A s κ it (so 1)) {Q : Unit → SortSt → Prop} (H : ∀ pe g, Q () (sS κ it (ord 1).toArray pe g)) : wpS (model prog w) A E s sortRuns' Q (sS κ it P0 #[] 7) := by
  have hc1 : ∀ j, j < 52 → 1 ≤ j → so 1 (P0.getD (0 + j - 1) 0) < so 1 (P0.getD (0 + j) 0) := by decide +kernel
  have hc2 : ∀ j, j < 10 → 1 ≤ j → so 1 (P0.getD (52 + j - 1) 0) < so 1 (P0.getD (52 + j) 0) := by decide +kernel
  have hlt : ∀ i, i < 52 → ∀ j, j < 11 → so 1 (((run2 1).extract 52 (52 + 12)).getD j 0) < so 1 (((run2 1).extract 0 52).getD i 0) := by decide +kernel
  have hm1 : ∀ i, i < 26 → so 1 (((run2 1).extract 0 52).getD i 0) < so 1 (((run2 1).extract 52 (52 + 12)).getD 11 0) := by decide +kernel
  have hm2 : ∀ i, i < 52 → 26 ≤ i → so 1 (((run2 1).extract 52 (52 + 12)).getD 11 0) < so 1 (((run2 1).extract 0 52).getD i 0) := by decide +kernel
  have hm : ∀ (Q : Array Keyed → SortSt → Prop) pe, Q ((ord 1).toArray.map it) (sS κ it (run2 1) pe 6) → wpS (model prog w) A E s (mergeHi' (((run2 1).extract 0 52).map it) (((run2 1).extract 52 (52 + 12)).map it)) Q (sS κ it (run2 1) pe 7) := fun Q pe h => by
    refine s_mergeB hL (by decide +kernel) (by decide +kernel) (fun i j hi hj => hlt i hi j hj) hm1 (fun i h1 h2 => hm2 i h2 h1) ?_
    have e : ((run2 1).extract 52 (52 + 12)).toList.take 11 ++ (((run2 1).extract 0 52).toList.take 26 ++ ([((run2 1).extract 52 (52 + 12)).getD 11 0] ++ ((run2 1).extract 0 52).toList.drop 26)) = ord 1 := by decide +kernel
    rw [e]; exact h
  refine s_sort (P2 := run2 1) (M := (ord 1).toArray) (n2 := 10) (nb := 12) (g' := 6) hL (fun j h1 h2 => hc1 j h2 h1) (by decide +kernel) (by decide +kernel) (by (first | lia | omega)) (by (first | lia | omega)) (fun j h1 h2 => hc2 j h2 h1) (by decide +kernel) (by decide +kernel) (fun Q pe g h => s_bin1 hL Q pe g h) (by decide +kernel) (by decide +kernel) (by (first | lia | omega)) (by (first | lia | omega)) (by decide +kernel) hm (by decide +kernel) ?_
  intro pe
  have e : ((ord 1).toArray).toList ++ (run2 1).toList.drop ((ord 1).toArray).size = ord 1 := by decide +kernel
  rw [e]; exact H pe 6
theorem s_bin2 (hL : LtOk prog w A s κ it (so 2)) (Q : Bool → SortSt → Prop) (pe : Array (Nat × Nat × Nat)) (g : Nat) (h : Q true (sS κ it (run2 2) pe g)) : wpS (model prog w) A E s (binarySort' 52 12 11) Q (sS κ it P0 pe g) := by
  have hs : ∀ k, k < 12 → 11 ≤ k → 52 + k < ((fun x => if x = 11 then P0 else run2 2) k).size ∧ (fun _ => 0) k ≤ k ∧ (∀ m, m < k → apart (so 2) (((fun x => if x = 11 then P0 else run2 2) k).getD (52 + k) 0) ((fun x => if x = 11 then P0 else run2 2) k) (52 + m) = true ∧ decide (so 2 (((fun x => if x = 11 then P0 else run2 2) k).getD (52 + k) 0) < so 2 (((fun x => if x = 11 then P0 else run2 2) k).getD (52 + m) 0)) = decide ((fun _ => 0) k ≤ m)) ∧ (fun x => if x = 11 then P0 else run2 2) (k + 1) = bubble ((fun x => if x = 11 then P0 else run2 2) k) (52 + k) (k - (fun _ => 0) k) := by decide +kernel
  exact s_bin hL (Ps := (fun x => if x = 11 then P0 else run2 2)) (r := (fun _ => 0)) (by (first | lia | omega)) (by (first | lia | omega)) (fun k h1 h2 => hs k h2 h1) h
theorem s_sort2 (hL : LtOk prog w A s κ it (so 2)) {Q : Unit → SortSt → Prop} (H : ∀ pe g, Q () (sS κ it (ord 2).toArray pe g)) : wpS (model prog w) A E s sortRuns' Q (sS κ it P0 #[] 7) := by
  have hc1 : ∀ j, j < 52 → 1 ≤ j → so 2 (P0.getD (0 + j - 1) 0) < so 2 (P0.getD (0 + j) 0) := by decide +kernel
  have hc2 : ∀ j, j < 11 → 1 ≤ j → so 2 (P0.getD (52 + j - 1) 0) < so 2 (P0.getD (52 + j) 0) := by decide +kernel
  have hlt : ∀ i, i < 52 → ∀ j, j < 11 → so 2 (((run2 2).extract 52 (52 + 11)).getD j 0) < so 2 (((run2 2).extract 0 52).getD i 0) := by decide +kernel
  have hm : ∀ (Q : Array Keyed → SortSt → Prop) pe, Q (((run2 2).extract 52 (52 + 11) ++ (run2 2).extract 0 52).map it) (sS κ it (run2 2) pe 7) → wpS (model prog w) A E s (mergeHi' (((run2 2).extract 0 52).map it) (((run2 2).extract 52 (52 + 11)).map it)) Q (sS κ it (run2 2) pe 7) := fun Q pe h =>
    s_mergeA (nB := 11) hL (by decide +kernel) (by decide +kernel) (by (first | lia | omega)) (fun i j hi hj => hlt i hi j hj) h
  refine s_sort (P2 := run2 2) (M := ((run2 2).extract 52 (52 + 11) ++ (run2 2).extract 0 52)) (n2 := 11) (nb := 11) (g' := 7) hL (fun j h1 h2 => hc1 j h2 h1) (by decide +kernel) (by decide +kernel) (by (first | lia | omega)) (by (first | lia | omega)) (fun j h1 h2 => hc2 j h2 h1) (by decide +kernel) (by decide +kernel) (fun Q pe g h => s_bin2 hL Q pe g h) (by decide +kernel) (by decide +kernel) (by (first | lia | omega)) (by (first | lia | omega)) (by decide +kernel) hm (by decide +kernel) ?_
  intro pe
  have e : (((run2 2).extract 52 (52 + 11) ++ (run2 2).extract 0 52)).toList ++ (run2 2).toList.drop (((run2 2).extract 52 (52 + 11) ++ (run2 2).extract 0 52)).size = ord 2 := by decide +kernel
  rw [e]; exact H pe 7
theorem s_bin3 (hL : LtOk prog w A s κ it (so 3)) (Q : Bool → SortSt → Prop) (pe : Array (Nat × Nat × Nat)) (g : Nat) (h : Q true (sS κ it (run2 3) pe g)) : wpS (model prog w) A E s (binarySort' 52 12 12) Q (sS κ it P0 pe g) := by
  have e : run2 3 = P0 := by decide +kernel
  rw [e] at h
  exact s_bin hL (Ps := fun _ => P0) (r := fun _ => 0) (by (first | lia | omega)) (by (first | lia | omega)) (fun k h1 h2 => absurd h2 (by (first | lia | omega))) h
theorem s_sort3 (hL : LtOk prog w A s κ it (so 3)) {Q : Unit → SortSt → Prop} (H : ∀ pe g, Q () (sS κ it (ord 3).toArray pe g)) : wpS (model prog w) A E s sortRuns' Q (sS κ it P0 #[] 7) := by
  have hc1 : ∀ j, j < 52 → 1 ≤ j → so 3 (P0.getD (0 + j - 1) 0) < so 3 (P0.getD (0 + j) 0) := by decide +kernel
  have hc2 : ∀ j, j < 12 → 1 ≤ j → so 3 (P0.getD (52 + j - 1) 0) < so 3 (P0.getD (52 + j) 0) := by decide +kernel
  have hlt : ∀ i, i < 52 → ∀ j, j < 12 → so 3 (((run2 3).extract 52 (52 + 12)).getD j 0) < so 3 (((run2 3).extract 0 52).getD i 0) := by decide +kernel
  have hm : ∀ (Q : Array Keyed → SortSt → Prop) pe, Q (((run2 3).extract 52 (52 + 12) ++ (run2 3).extract 0 52).map it) (sS κ it (run2 3) pe 7) → wpS (model prog w) A E s (mergeHi' (((run2 3).extract 0 52).map it) (((run2 3).extract 52 (52 + 12)).map it)) Q (sS κ it (run2 3) pe 7) := fun Q pe h =>
    s_mergeA (nB := 12) hL (by decide +kernel) (by decide +kernel) (by (first | lia | omega)) (fun i j hi hj => hlt i hi j hj) h
  refine s_sort (P2 := run2 3) (M := ((run2 3).extract 52 (52 + 12) ++ (run2 3).extract 0 52)) (n2 := 12) (nb := 12) (g' := 7) hL (fun j h1 h2 => hc1 j h2 h1) (by decide +kernel) (by decide +kernel) (by (first | lia | omega)) (by (first | lia | omega)) (fun j h1 h2 => hc2 j h2 h1) (by decide +kernel) (by decide +kernel) (fun Q pe g h => s_bin3 hL Q pe g h) (by decide +kernel) (by decide +kernel) (by (first | lia | omega)) (by (first | lia | omega)) (by decide +kernel) hm (by decide +kernel) ?_
  intro pe
  have e : (((run2 3).extract 52 (52 + 12) ++ (run2 3).extract 0 52)).toList ++ (run2 3).toList.drop (((run2 3).extract 52 (52 + 12) ++ (run2 3).extract 0 52)).size = ord 3 := by decide +kernel
  rw [e]; exact H pe 7
theorem s_bin4 (hL : LtOk prog w A s κ it (so 4)) (Q : Bool → SortSt → Prop) (pe : Array (Nat × Nat × Nat)) (g : Nat) (h : Q true (sS κ it (run2 4) pe g)) : wpS (model prog w) A E s (binarySort' 52 12 11) Q (sS κ it P0 pe g) := by
  have hs : ∀ k, k < 12 → 11 ≤ k → 52 + k < ((fun x => if x = 11 then P0 else run2 4) k).size ∧ (fun _ => 0) k ≤ k ∧ (∀ m, m < k → apart (so 4) (((fun x => if x = 11 then P0 else run2 4) k).getD (52 + k) 0) ((fun x => if x = 11 then P0 else run2 4) k) (52 + m) = true ∧ decide (so 4 (((fun x => if x = 11 then P0 else run2 4) k).getD (52 + k) 0) < so 4 (((fun x => if x = 11 then P0 else run2 4) k).getD (52 + m) 0)) = decide ((fun _ => 0) k ≤ m)) ∧ (fun x => if x = 11 then P0 else run2 4) (k + 1) = bubble ((fun x => if x = 11 then P0 else run2 4) k) (52 + k) (k - (fun _ => 0) k) := by decide +kernel
  exact s_bin hL (Ps := (fun x => if x = 11 then P0 else run2 4)) (r := (fun _ => 0)) (by (first | lia | omega)) (by (first | lia | omega)) (fun k h1 h2 => hs k h2 h1) h
theorem s_sort4 (hL : LtOk prog w A s κ it (so 4)) {Q : Unit → SortSt → Prop} (H : ∀ pe g, Q () (sS κ it (ord 4).toArray pe g)) : wpS (model prog w) A E s sortRuns' Q (sS κ it P0 #[] 7) := by
  have hc1 : ∀ j, j < 52 → 1 ≤ j → so 4 (P0.getD (0 + j - 1) 0) < so 4 (P0.getD (0 + j) 0) := by decide +kernel
  have hc2 : ∀ j, j < 11 → 1 ≤ j → so 4 (P0.getD (52 + j - 1) 0) < so 4 (P0.getD (52 + j) 0) := by decide +kernel
  have hlt : ∀ i, i < 52 → ∀ j, j < 11 → so 4 (((run2 4).extract 52 (52 + 12)).getD j 0) < so 4 (((run2 4).extract 0 52).getD i 0) := by decide +kernel
  have hm1 : ∀ i, i < 26 → so 4 (((run2 4).extract 0 52).getD i 0) < so 4 (((run2 4).extract 52 (52 + 12)).getD 11 0) := by decide +kernel
  have hm2 : ∀ i, i < 52 → 26 ≤ i → so 4 (((run2 4).extract 52 (52 + 12)).getD 11 0) < so 4 (((run2 4).extract 0 52).getD i 0) := by decide +kernel
  have hm : ∀ (Q : Array Keyed → SortSt → Prop) pe, Q ((ord 4).toArray.map it) (sS κ it (run2 4) pe 6) → wpS (model prog w) A E s (mergeHi' (((run2 4).extract 0 52).map it) (((run2 4).extract 52 (52 + 12)).map it)) Q (sS κ it (run2 4) pe 7) := fun Q pe h => by
    refine s_mergeB hL (by decide +kernel) (by decide +kernel) (fun i j hi hj => hlt i hi j hj) hm1 (fun i h1 h2 => hm2 i h2 h1) ?_
    have e : ((run2 4).extract 52 (52 + 12)).toList.take 11 ++ (((run2 4).extract 0 52).toList.take 26 ++ ([((run2 4).extract 52 (52 + 12)).getD 11 0] ++ ((run2 4).extract 0 52).toList.drop 26)) = ord 4 := by decide +kernel
    rw [e]; exact h
  refine s_sort (P2 := run2 4) (M := (ord 4).toArray) (n2 := 11) (nb := 12) (g' := 6) hL (fun j h1 h2 => hc1 j h2 h1) (by decide +kernel) (by decide +kernel) (by (first | lia | omega)) (by (first | lia | omega)) (fun j h1 h2 => hc2 j h2 h1) (by decide +kernel) (by decide +kernel) (fun Q pe g h => s_bin4 hL Q pe g h) (by decide +kernel) (by decide +kernel) (by (first | lia | omega)) (by (first | lia | omega)) (by decide +kernel) hm (by decide +kernel) ?_
  intro pe
  have e : ((ord 4).toArray).toList ++ (run2 4).toList.drop ((ord 4).toArray).size = ord 4 := by decide +kernel
  rw [e]; exact H pe 6
theorem s_sort64 {k : Nat} (hk : k < 5) (hL : LtOk prog w A s κ it (so k)) {Q : Unit → SortSt → Prop} (H : ∀ pe g, Q () (sS κ it (ord k).toArray pe g)) : wpS (model prog w) A E s sortRuns' Q (sS κ it P0 #[] 7) := by
  rcases (by (first | lia | omega) : k = 0 ∨ k = 1 ∨ k = 2 ∨ k = 3 ∨ k = 4) with rfl | rfl | rfl | rfl | rfl
  · exact s_sort0 hL H
  · exact s_sort1 hL H
  · exact s_sort2 hL H
  · exact s_sort3 hL H
  · exact s_sort4 hL H
end sort

end

section
/-- a zip of a list and of range(64), drawn i times -/
noncomputable abbrev zObj (f0 f1 : Value) (TI TO : Addr) : Obj := { cls := .type "zip", dict := none, data := .fields #[f0, f1, .bool false, .ref TI, .ref TO], slots := #[] }
structure ZA (z TI TO i1 i2 l : Addr) : Prop where
  TIz : TI ≠ z
  TOz : TO ≠ z
  i1z : i1 ≠ z
  i2z : i2 ≠ z
  TITO : TI ≠ TO
  TIi1 : TI ≠ i1
  TIi2 : TI ≠ i2
  TOi1 : TO ≠ i1
  TOi2 : TO ≠ i2
  i12 : i1 ≠ i2
  lz : l ≠ z
  lTO : l ≠ TO
  li1 : l ≠ i1
  li2 : l ≠ i2
structure ZS (h : Heap) (z TI TO i1 i2 l : Addr) (xs : Array Value) (i : Nat) : Prop where
  zip : ∃ f0 f1, (f0 = Value.none ∨ ∃ T : Nat, f0 = rawInt T) ∧ h.get? z = some (zObj f0 f1 TI TO)
  ti : IsPair h TI (.ref i1) (.ref i2)
  to : ∃ a b, IsPair h TO a b
  it1 : h.IsListIter i1 l i
  it2 : IsRangeIter h i2 (i : Int) (64 - (i : Int)) 1
  lst : h.IsList l xs
section
variable {prog : Program} {w : World} {A : Around} {E : Value → Shared → Prop} {s : Shared} {z TI TO i1 i2 l : Addr} {xs : Array Value} {i : Nat}
theorem ZS.keep {h h' : Heap} (Z : ZS h z TI TO i1 i2 l xs i) (hk : ∀ b ∈ [z, TI, TO, i1, i2, l], ∀ o, h.get? b = some o → h'.get? b = some o) : ZS h' z TI TO i1 i2 l xs i := by
  obtain ⟨⟨f0, f1, hf, hz⟩, ti, ⟨a, b, to⟩, h1, h2, hl⟩ := Z
  exact ⟨⟨f0, f1, hf, hk z (by simp) _ hz⟩, hk TI (by simp) _ ti, ⟨a, b, hk TO (by simp) _ to⟩, h1.at fun o e => hk i1 (by simp) o e, hk i2 (by simp) _ h2, hl.at fun o e => hk l (by simp) o e⟩
theorem nextOf_range_item {it : Addr} {x left step : Int} {Q : Value → Shared → Prop} (hit : IsRangeIter s.heap it x left step) (hleft : 0 < left)
    (hQ : ∀ h', IsRangeIter h' it (x + step) (left - 1) step → Heap.SameBut it s.heap h' → Q (.int x s.toks) { s with heap := h', toks := s.toks + 1 }) :
    wpAny (model prog w) A (Builtin.SmallTypes.nextOf (.ref it)) Q E s := by
  have hT : s.TypeIs (.ref it) "range_iterator" := ⟨_, hit, rfl⟩
  unfold Builtin.SmallTypes.nextOf
  refine wpAny_bind (wpAny_callSpecial?_slot (name := Str.ofString "__next__") hT PySem.F.slot_range_iterator_next
    (call_meets PySem.F.slot_range_iterator_next hT PySem.F.entry_range_iterator_next (PySem.F.args_range_iterator_next_1 _) (AutoRange.range_iterator___next___range_iterator_1 it x left step (by (first | lia | omega))) ⟨hit, ?_⟩))
  exact wpAny_pure (hQ _ (Heap.get?_update_self _ (Heap.get?_update_self _ hit rfl) rfl) ((Heap.SameBut.update ..).trans (Heap.SameBut.update ..)))
/-- what one draw leaves -/
noncomputable def ZNext (h h' : Heap) (z TI TO i1 i2 l : Addr) (xs : Array Value) (i : Nat) (x : Value) (u : Tok) (T : Addr) : Prop :=
  ZS h' z TI TO i1 i2 l xs (i + 1) ∧ h'.get? T = some { cls := .type "tuple", data := .seq #[x, .int (i : Int) u] } ∧ T = h.objs.size ∧ ∀ c o, c ≠ z → c ≠ TO → c ≠ i1 → c ≠ i2 → h.get? c = some o → h'.get? c = some o
theorem alive {a : Addr} {Q : Option Obj → Shared → Prop} (h : Q (s.heap.get? a) s) : wpAny (model prog w) A (loadIfAlive a) Q E s := fun _ _ _ => h
theorem zip_free {f0 f1 : Value} {hp : Heap} {g : Array GenState} {dr : Drawn} {tk : Nat} {os : OsState} (hf : f0 = Value.none ∨ ∃ T : Nat, f0 = rawInt T) (hz : hp.get? z = some (zObj f0 f1 TI TO)) :
    wpAny (model prog w) A (Builtin.SmallTypes.ownedTupleIsFree (.ref z)) (fun c s' => (c = true ∧ s' = ⟨hp, g, dr, tk, os⟩) ∨ (c = false ∧ ∃ h' f1', s' = ⟨h', g, dr, tk, os⟩ ∧ h'.get? z = some (zObj f0 f1' TI TO) ∧ Heap.SameBut z hp h')) E ⟨hp, g, dr, tk, os⟩ := by
  unfold Builtin.SmallTypes.ownedTupleIsFree
  refine wpAny_bind (wpAny_field hz rfl (x := f0) rfl ?_)
  rcases hf with rfl | ⟨T, rfl⟩
  · exact wpAny_pure (.inl ⟨rfl, rfl⟩)
  · show wpAny _ _ (loadIfAlive (T : Int).toNat >>= _) _ _ _
    refine wpAny_bind (alive ?_)
    by_cases hn : (hp.get? (T : Int).toNat).isNone = true
    · rw [if_pos hn]
      exact wpAny_pure (.inl ⟨rfl, rfl⟩)
    · rw [if_neg hn]
      refine wpAny_bind (wpAny_field hz rfl (x := f1) rfl ?_)
      dsimp only
      by_cases hb : (f1 != Value.bool true) = true
      · rw [if_pos hb]
        refine wpAny_bind (wpAny_setField_rec hz (by simp) fun h₁ hz₁ hs₁ => wpAny_pure (.inr ⟨rfl, h₁, .bool true, rfl, hz₁, hs₁⟩))
      · rw [if_neg hb]
        exact wpAny_pure (.inr ⟨rfl, hp, f1, rfl, hz, Heap.SameBut.refl _ _⟩)
theorem zip_next {x : Value} {Q : Value → Shared → Prop} {hp : Heap} {g : Array GenState} {dr : Drawn} {tk0 : Nat} {os : OsState} (D : ZA z TI TO i1 i2 l) (Z : ZS hp z TI TO i1 i2 l xs i) (hx : xs[i]? = some x) (hi : i < 64)
    (hQ : ∀ h' u tk T, ZNext hp h' z TI TO i1 i2 l xs i x u T → Q (.ref T) ⟨h', g, dr, tk, os⟩) :
    wpAny (model prog w) A (Builtin.«zip.__next__» ⟨[.ref z], []⟩) (fun fin s' => ∃ v, fin = .done (.ret v) ∧ Q v s') E ⟨hp, g, dr, tk0, os⟩ := by
  obtain ⟨⟨f0, f1, hf, hz⟩, hTI, ⟨a, b, hTO⟩, h1, h2, hl⟩ := Z
  show wpAny _ _ (field (.ref z) 2 >>= _) _ _ _
  refine wpAny_bind (wpAny_field hz rfl (x := .bool false) rfl ?_)
  show wpAny _ _ (field (.ref z) 3 >>= _) _ _ _
  refine wpAny_bind (wpAny_field hz rfl (x := .ref TI) rfl ?_)
  refine wpAny_bind (wpAny_seqItems hTI rfl ?_)
  show wpAny _ _ (Builtin.SmallTypes.ownedTupleIsFree (.ref z) >>= _) _ _ _
  refine wpAny_bind (wpAny_mono (zip_free hf hz) (fun c s' hc => ?_) fun _ _ e => e)
  rcases hc with ⟨rfl, rfl⟩ | ⟨rfl, h₁, f1', rfl, hz₁, hs₁⟩
  · simp only [if_true]
    refine wpAny_bind (wpAny_rule ?_)
    refine wpAny_bind (wpAny_field hz rfl (x := .ref TO) rfl ?_)
    refine wpAny_bind (wpAny_setField_rec hz (by simp) fun h₁ hz₁ hs₁ => ?_)
    replace hz₁ : h₁.get? z = some (zObj .ellipsis f1 TI TO) := hz₁
    refine wpAny_bind ?_
    simp only [List.zipIdx_cons, List.zipIdx_nil, List.forIn_cons, List.forIn_nil]
    refine wpAny_bind (wpAny_bind (wpAny_onRaise ?_))
    show wpAny _ _ (Builtin.SmallTypes.nextOf (.ref i1) >>= _) _ _ _
    refine wpAny_bind (wpAny_nextOf_list_item (h1.extBut hs₁.extBut D.i1z) (hl.extBut hs₁.extBut D.lz) hx fun h₂ h1₂ hs₂ => wpAny_pure ?_)
    have hTO₂ : IsPair h₂ TO a b := hs₂.extBut _ _ D.TOi1 (hs₁.extBut _ _ D.TOz hTO)
    refine wpAny_bind (wpAny_seqItems hTO₂ rfl ?_)
    refine wpAny_bind (wpAny_updateSeq_pair hTO₂ fun h₃ hTO₃ hs₃ => ?_)
    replace hTO₃ : IsPair h₃ TO x b := hTO₃
    refine wpAny_bind (wpAny_letGo (wpAny_pure ?_))
    refine wpAny_bind (wpAny_bind (wpAny_onRaise ?_))
    show wpAny _ _ (Builtin.SmallTypes.nextOf (.ref i2) >>= _) _ _ _
    have h2₃ : IsRangeIter h₃ i2 (i : Int) (64 - (i : Int)) 1 := hs₃.extBut _ _ D.TOi2.symm (hs₂.extBut _ _ D.i12.symm (hs₁.extBut _ _ D.i2z h2))
    refine wpAny_bind (nextOf_range_item h2₃ (by (first | lia | omega)) fun h₄ h2₄ hs₄ => wpAny_pure ?_)
    have hTO₄ : IsPair h₄ TO x b := hs₄.extBut _ _ D.TOi2 hTO₃
    refine wpAny_bind (wpAny_seqItems hTO₄ rfl ?_)
    refine wpAny_bind (wpAny_updateSeq_pair hTO₄ fun h₅ hTO₅ hs₅ => ?_)
    replace hTO₅ : IsPair h₅ TO x (.int (i : Int) tk0) := hTO₅
    refine wpAny_bind (wpAny_letGo (wpAny_pure (wpAny_pure ?_)))
    refine wpAny_bind (wpAny_seqItems hTO₅ rfl ?_)
    refine wpAny_bind (wpAny_newTuple ?_)
    have hsz : h₅.objs.size = hp.objs.size := by rw [hs₅.1, hs₄.1, hs₃.1, hs₂.1, hs₁.1]
    have hz₅ : h₅.get? z = some (zObj .ellipsis f1 TI TO) := hs₅.extBut _ _ D.TOz.symm (hs₄.extBut _ _ D.i2z.symm (hs₃.extBut _ _ D.TOz.symm (hs₂.extBut _ _ D.i1z.symm hz₁)))
    have hk₅ : ∀ c o, c ≠ z → c ≠ TO → c ≠ i1 → c ≠ i2 → hp.get? c = some o → h₅.get? c = some o := fun c o c1 c2 c3 c4 e =>
      hs₅.extBut _ _ c2 (hs₄.extBut _ _ c4 (hs₃.extBut _ _ c2 (hs₂.extBut _ _ c3 (hs₁.extBut _ _ c1 e))))
    have h1₅ : h₅.IsListIter i1 l (i + 1) := ((h1₂.extBut hs₃.extBut D.TOi1.symm).extBut hs₄.extBut D.i12).extBut hs₅.extBut D.TOi1.symm
    have h2₅ : IsRangeIter h₅ i2 ((i : Int) + 1) (64 - (i : Int) - 1) 1 := hs₅.extBut _ _ D.TOi2.symm h2₄
    have hzlt : z < h₅.objs.size := Heap.lt_size hz₅
    show wpAny _ _ (Builtin.SmallTypes.ownedTupleHandOut (.ref z) (.ref h₅.objs.size) >>= _) _ _ _
    refine wpAny_bind ?_
    unfold Builtin.SmallTypes.ownedTupleHandOut
    have hz₆ : (h₅.push { cls := .type "tuple", data := .seq #[x, .int (i : Int) tk0] }).get? z = some (zObj .ellipsis f1 TI TO) := Heap.get?_push_of_some _ hz₅
    refine wpAny_bind (wpAny_setField_rec hz₆ (by simp) fun h₇ hz₇ hs₇ => ?_)
    replace hz₇ : h₇.get? z = some (zObj (rawInt h₅.objs.size) f1 TI TO) := hz₇
    refine wpAny_setField_rec hz₇ (by simp) fun h₈ hz₈ hs₈ => ?_
    replace hz₈ : h₈.get? z = some (zObj (rawInt h₅.objs.size) (.bool false) TI TO) := hz₈
    have up : ∀ c o, c ≠ z → h₅.get? c = some o → h₈.get? c = some o := fun c o c1 e => hs₈.extBut _ _ c1 (hs₇.extBut _ _ c1 (Heap.get?_push_of_some _ e))
    have hT₈ : h₈.get? h₅.objs.size = some { cls := .type "tuple", data := .seq #[x, .int (i : Int) tk0] } := hs₈.extBut _ _ (Nat.ne_of_gt hzlt) (hs₇.extBut _ _ (Nat.ne_of_gt hzlt) (Heap.get?_push_size _ rfl))
    refine wpAny_pure ⟨_, rfl, hQ h₈ tk0 _ _ ⟨⟨⟨_, _, .inr ⟨_, rfl⟩, hz₈⟩, up _ _ D.TIz (hk₅ _ _ D.TIz D.TITO D.TIi1 D.TIi2 hTI), ⟨_, _, up _ _ D.TOz hTO₅⟩, h1₅.at fun o e => up _ o D.i1z e, ?_, hl.at fun o e => up _ o D.lz (hk₅ _ o D.lz D.lTO D.li1 D.li2 e)⟩, hT₈, hsz, fun c o c1 c2 c3 c4 e => up c o c1 (hk₅ c o c1 c2 c3 c4 e)⟩⟩
    have e1 : ((i + 1 : Nat) : Int) = (i : Int) + 1 := by (first | lia | omega)
    have e2 : 64 - ((i + 1 : Nat) : Int) = 64 - (i : Int) - 1 := by (first | lia | omega)
    rw [e2, e1]
    exact up _ _ D.i2z h2₅
  · rw [if_neg (by decide)]
    refine wpAny_bind ?_
    simp only [List.forIn_toArray, List.forIn_cons, List.forIn_nil]
    refine wpAny_bind (wpAny_bind (wpAny_holding ?_))
    show wpAny _ _ (Builtin.SmallTypes.nextOf (.ref i1) >>= _) _ _ _
    refine wpAny_bind (wpAny_nextOf_list_item (h1.extBut hs₁.extBut D.i1z) (hl.extBut hs₁.extBut D.lz) hx fun h₂ h1₂ hs₂ => wpAny_pure (wpAny_pure ?_))
    dsimp only
    refine wpAny_bind (wpAny_bind (wpAny_holding ?_))
    show wpAny _ _ (Builtin.SmallTypes.nextOf (.ref i2) >>= _) _ _ _
    have h2₂ : IsRangeIter h₂ i2 (i : Int) (64 - (i : Int)) 1 := hs₂.extBut _ _ D.i12.symm (hs₁.extBut _ _ D.i2z h2)
    refine wpAny_bind (nextOf_range_item h2₂ (by (first | lia | omega)) fun h₄ h2₄ hs₄ => wpAny_pure (wpAny_pure (wpAny_pure ?_)))
    dsimp only
    refine wpAny_bind (wpAny_newTuple ?_ (by show 2 ≤ sizeLine; rw [sizeLine_eq]; (first | lia | omega)))
    have hsz : h₄.objs.size = hp.objs.size := by rw [hs₄.1, hs₂.1, hs₁.1]
    have hk₄ : ∀ c o, c ≠ z → c ≠ i1 → c ≠ i2 → hp.get? c = some o → h₄.get? c = some o := fun c o c1 c3 c4 e => hs₄.extBut _ _ c4 (hs₂.extBut _ _ c3 (hs₁.extBut _ _ c1 e))
    have hz₄ : h₄.get? z = some (zObj f0 f1' TI TO) := hs₄.extBut _ _ D.i2z.symm (hs₂.extBut _ _ D.i1z.symm hz₁)
    have h1₄ : h₄.IsListIter i1 l (i + 1) := h1₂.extBut hs₄.extBut D.i12
    refine wpAny_pure ⟨_, rfl, hQ _ tk0 _ _ ⟨⟨⟨_, _, hf, Heap.get?_push_of_some _ hz₄⟩, Heap.get?_push_of_some _ (hk₄ _ _ D.TIz D.TIi1 D.TIi2 hTI), ⟨_, _, Heap.get?_push_of_some _ (hk₄ _ _ D.TOz D.TOi1 D.TOi2 hTO)⟩, h1₄.at fun o e => Heap.get?_push_of_some _ e, ?_, hl.at fun o e => Heap.get?_push_of_some _ (hk₄ _ o D.lz D.li1 D.li2 e)⟩, Heap.get?_push_size _ rfl, hsz, fun c o c1 c2 c3 c4 e => Heap.get?_push_of_some _ (hk₄ c o c1 c3 c4 e)⟩⟩
    have e1 : ((i + 1 : Nat) : Int) = (i : Int) + 1 := by (first | lia | omega)
    have e2 : 64 - ((i + 1 : Nat) : Int) = 64 - (i : Int) - 1 := by (first | lia | omega)
    rw [e2, e1]
    exact Heap.get?_push_of_some _ h2₄
theorem zip_end {Q : PySem.Fin → Shared → Prop} {hp : Heap} {g : Array GenState} {dr : Drawn} {tk0 : Nat} {os : OsState} (hh : A.handled = none) (D : ZA z TI TO i1 i2 l) (Z : ZS hp z TI TO i1 i2 l xs i) (hx : xs[i]? = none)
    (hE : ∀ h' e, (∀ c o, c ≠ z → c ≠ TO → c ≠ i1 → c ≠ i2 → hp.get? c = some o → h'.get? c = some o) → (∃ o, h'.get? e = some o ∧ o.cls = .type "StopIteration") → E (.ref e) ⟨h', g, dr, tk0, os⟩) :
    wpAny (model prog w) A (Builtin.«zip.__next__» ⟨[.ref z], []⟩) Q E ⟨hp, g, dr, tk0, os⟩ := by
  obtain ⟨⟨f0, f1, hf, hz⟩, hTI, ⟨a, b, hTO⟩, h1, h2, hl⟩ := Z
  show wpAny _ _ (field (.ref z) 2 >>= _) _ _ _
  refine wpAny_bind (wpAny_field hz rfl (x := .bool false) rfl ?_)
  show wpAny _ _ (field (.ref z) 3 >>= _) _ _ _
  refine wpAny_bind (wpAny_field hz rfl (x := .ref TI) rfl ?_)
  refine wpAny_bind (wpAny_seqItems hTI rfl ?_)
  show wpAny _ _ (Builtin.SmallTypes.ownedTupleIsFree (.ref z) >>= _) _ _ _
  refine wpAny_bind (wpAny_mono (zip_free hf hz) (fun c s' hc => ?_) fun _ _ e => e)
  rcases hc with ⟨rfl, rfl⟩ | ⟨rfl, h₁, f1', rfl, hz₁, hs₁⟩
  · simp only [if_true]
    refine wpAny_bind (wpAny_rule ?_)
    refine wpAny_bind (wpAny_field hz rfl (x := .ref TO) rfl ?_)
    refine wpAny_bind (wpAny_setField_rec hz (by simp) fun h₁ hz₁ hs₁ => ?_)
    replace hz₁ : h₁.get? z = some (zObj .ellipsis f1 TI TO) := hz₁
    refine wpAny_bind ?_
    simp only [List.zipIdx_cons, List.zipIdx_nil, List.forIn_cons, List.forIn_nil]
    refine wpAny_bind (wpAny_bind (wpAny_onRaise ?_))
    show wpAny _ _ (Builtin.SmallTypes.nextOf (.ref i1) >>= _) _ _ _
    refine wpAny_bind (wpAny_nextOf_list_end hh (h1.extBut hs₁.extBut D.i1z) (hl.extBut hs₁.extBut D.lz) hx fun h₂ e hs₂ he => ?_)
    obtain ⟨oe, hoe, hce⟩ := he
    have hz₂ : h₂.get? z = some (zObj .ellipsis f1 TI TO) := hs₂ _ _ D.i1z.symm hz₁
    have hez : e ≠ z := fun x => by subst x; rw [hz₂] at hoe; cases hoe; simp at hce
    refine wpAny_setField_rec hz₂ (by simp) fun h₃ _ hs₃ => hE h₃ e (fun c o c1 _ c3 _ x => hs₃.extBut _ _ c1 (hs₂ _ _ c3 (hs₁.extBut _ _ c1 x))) ⟨oe, hs₃.extBut _ _ hez hoe, hce⟩
  · rw [if_neg (by decide)]
    refine wpAny_bind ?_
    simp only [List.forIn_toArray, List.forIn_cons, List.forIn_nil]
    refine wpAny_bind (wpAny_bind (wpAny_holding ?_))
    show wpAny _ _ (Builtin.SmallTypes.nextOf (.ref i1) >>= _) _ _ _
    refine wpAny_bind (wpAny_nextOf_list_end hh (h1.extBut hs₁.extBut D.i1z) (hl.extBut hs₁.extBut D.lz) hx fun h₂ e hs₂ he => ?_)
    exact hE h₂ e (fun c o c1 _ c3 _ x => hs₂ _ _ c3 (hs₁.extBut _ _ c1 x)) he
theorem pyNext_zip {x : Value} {Q : Option Value → Shared → Prop} {hp : Heap} {g : Array GenState} {dr : Drawn} {tk0 : Nat} {os : OsState} (D : ZA z TI TO i1 i2 l) (Z : ZS hp z TI TO i1 i2 l xs i) (hx : xs[i]? = some x) (hi : i < 64)
    (hQ : ∀ h' u tk T, ZNext hp h' z TI TO i1 i2 l xs i x u T → Q (some (.ref T)) ⟨h', g, dr, tk, os⟩) : wpAny (model prog w) A (pyNext (.ref z)) Q E ⟨hp, g, dr, tk0, os⟩ := by
  have hT : Shared.TypeIs ⟨hp, g, dr, tk0, os⟩ (.ref z) "zip" := by obtain ⟨f0, f1, _, hz⟩ := Z.zip; exact ⟨_, hz, rfl⟩
  unfold pyNext
  exact wpAny_bind (wpAny_attempt (wpAny_callSpecial?_slot (name := Str.ofString "__next__") hT PySem.F.slot_zip_next
    (wpAny_call_entry PySem.F.slot_zip_next hT PySem.F.entry_zip_next (zip_next D Z hx hi fun h' u tk T a => wpAny_pure (hQ h' u tk T a)) (PySem.F.args_zip_next_1 _))))
theorem pyNext_zip_end {Q : Option Value → Shared → Prop} {hp : Heap} {g : Array GenState} {dr : Drawn} {tk0 : Nat} {os : OsState} (hh : A.handled = none) (D : ZA z TI TO i1 i2 l) (Z : ZS hp z TI TO i1 i2 l xs i) (hx : xs[i]? = none)
    (hQ : ∀ h', (∀ c o, c ≠ z → c ≠ TO → c ≠ i1 → c ≠ i2 → hp.get? c = some o → h'.get? c = some o) → Q none ⟨h', g, dr, tk0, os⟩) : wpAny (model prog w) A (pyNext (.ref z)) Q E ⟨hp, g, dr, tk0, os⟩ := by
  have hT : Shared.TypeIs ⟨hp, g, dr, tk0, os⟩ (.ref z) "zip" := by obtain ⟨f0, f1, _, hz⟩ := Z.zip; exact ⟨_, hz, rfl⟩
  unfold pyNext
  refine wpAny_bind (wpAny_attempt (wpAny_callSpecial?_slot (name := Str.ofString "__next__") hT PySem.F.slot_zip_next
    (wpAny_call_entry PySem.F.slot_zip_next hT PySem.F.entry_zip_next (zip_end hh D Z hx fun h' e hk he => ?_) (PySem.F.args_zip_next_1 _))))
  obtain ⟨o, ho, hc⟩ := he
  refine wpAny_bind (wpAny_isInstance (T := "StopIteration") (b := true) ⟨o, ho, hc⟩ isSubtype_stop ?_)
  exact wpAny_pure (hQ _ hk)
theorem pyIter_zip {Q : Value → Shared → Prop} (Z : ZS s.heap z TI TO i1 i2 l xs i) (h : Q (.ref z) s) : wpAny (model prog w) A (pyIter (.ref z)) Q E s := by
  have hT : s.TypeIs (.ref z) "zip" := by obtain ⟨f0, f1, _, hz⟩ := Z.zip; exact ⟨_, hz, rfl⟩
  refine wpAny_pyIter_slot hT PySem.F.slot_zip_iter (wpAny_call_entry PySem.F.slot_zip_iter hT PySem.F.entry_zip_iter ?_ (PySem.F.args_zip_iter_1 _))
  show wpAny _ _ (ret (.ref z)) _ _ s
  exact wpAny_pure ⟨_, rfl, "zip", _, hT, PySem.F.slot_zip_next.lookup, h⟩
end

end

section
/-- the tuples drawn so far lie above lo -/
noncomputable def Tups (h : Heap) (lo : Addr) (xs : Array Value) (acc : Array Value) (i : Nat) : Prop :=
  acc.size = i ∧ ∀ (j : Nat) (v : Value), acc[j]? = some v → ∃ (T : Addr) (u : Tok) (x : Value), v = .ref T ∧ lo ≤ T ∧ T < h.objs.size ∧ xs[j]? = some x ∧ h.get? T = some { cls := .type "tuple", data := .seq #[x, .int (j : Int) u] }
theorem Tups.keep {h h' : Heap} {lo : Addr} {xs acc : Array Value} {i : Nat} (t : Tups h lo xs acc i) (hk : ∀ c o, lo ≤ c → h.get? c = some o → h'.get? c = some o) : Tups h' lo xs acc i :=
  ⟨t.1, fun j v hv => by
    obtain ⟨T, u, x, e, hl, hlt, hx, hg⟩ := t.2 j v hv
    exact ⟨T, u, x, e, hl, Heap.lt_size (hk T _ hl hg), hx, hk T _ hl hg⟩⟩
theorem Tups.push {h : Heap} {lo T : Addr} {xs acc : Array Value} {i : Nat} {u : Tok} {x : Value} (t : Tups h lo xs acc i) (hl : lo ≤ T) (hx : xs[i]? = some x) (hg : h.get? T = some { cls := .type "tuple", data := .seq #[x, .int (i : Int) u] }) : Tups h lo xs (acc.push (.ref T)) (i + 1) := by
  refine ⟨by rw [Array.size_push, t.1], fun j v hj => ?_⟩
  rw [Array.getElem?_push] at hj
  split at hj
  · rename_i e; rw [t.1] at e; cases hj; subst e; exact ⟨T, u, x, rfl, hl, Heap.lt_size hg, hx, hg⟩
  · exact t.2 j v hj
section
variable {prog : Program} {w : World} {A : Around} {E : Value → Shared → Prop} {s : Shared} {z TI TO i1 i2 l : Addr} {xs : Array Value} {g : Array GenState} {dr : Drawn} {os : OsState}
theorem zip_loop {R : Result → Shared → Prop} (hh : A.handled = none) (D : ZA z TI TO i1 i2 l) (hxs : xs.size = 64) (S lo : Addr) (hS : ∀ c, c = z ∨ c = TI ∨ c = TO ∨ c = i1 ∨ c = i2 ∨ c = l → c ≠ S ∧ c < lo) (hSlo : S < lo) (res : Value) :
    ∀ (k i : Nat) (hp : Heap) (tk : Nat) (acc : Array Value) (c : Nat), 64 - i = k → i ≤ 64 → lo ≤ hp.objs.size → ZS hp z TI TO i1 i2 l xs i → hp.get? S = some { cls := .type "list", dict := none, data := .seq acc c, slots := #[] } → Tups hp lo xs acc i →
    (∀ h' tk' acc' c', (∀ b o, b < lo → b ≠ z → b ≠ TO → b ≠ i1 → b ≠ i2 → b ≠ S → hp.get? b = some o → h'.get? b = some o) → h'.get? S = some { cls := .type "list", dict := none, data := .seq acc' c', slots := #[] } → Tups h' lo xs acc' 64 → R (.ok (.ret res)) ⟨h', g, dr, tk', os⟩) →
    codeAny (model prog w) A (.builtin "list.extend.loop" ⟨[.ref S, .ref z, res], []⟩) R ⟨hp, g, dr, tk, os⟩ := by
  have nz : ∀ c, c = z ∨ c = TI ∨ c = TO ∨ c = i1 ∨ c = i2 ∨ c = l → c ≠ S := fun c hc => (hS c hc).1
  have ab : ∀ {c d : Addr}, (d = z ∨ d = TI ∨ d = TO ∨ d = i1 ∨ d = i2 ∨ d = l) → lo ≤ c → c ≠ d := fun {c d} hd hc e => Nat.lt_irrefl _ (Nat.lt_of_lt_of_le (hS d hd).2 (e ▸ hc))
  intro k
  induction k with
  | zero =>
    intro i hp tk acc c hk hi hlo Z hSo ht hR
    have hin : i = 64 := by (first | lia | omega)
    subst hin
    refine codeAny_builtin PySem.F.entry_extend_loop ?_
    rw [Around.under_plainId PySem.F.plain_extend_loop _]
    show wpAny _ A.in1 (pyNext (.ref z) >>= _) _ _ _
    refine wpAny_bind (pyNext_zip_end hh D Z (by rw [Array.getElem?_eq_none]; (first | lia | omega)) fun h' hk' => ?_)
    exact wpAny_pure (hR h' tk acc c (fun b o _ b1 b2 b3 b4 _ e => hk' b o b1 b2 b3 b4 e) (hk' S _ (nz _ (.inl rfl)).symm (nz _ (.inr (.inr (.inl rfl)))).symm (nz _ (.inr (.inr (.inr (.inl rfl))))).symm (nz _ (.inr (.inr (.inr (.inr (.inl rfl)))))).symm hSo)
      (ht.keep fun c o hc e => hk' c o (ab (.inl rfl) hc) (ab (.inr (.inr (.inl rfl))) hc) (ab (.inr (.inr (.inr (.inl rfl)))) hc) (ab (.inr (.inr (.inr (.inr (.inl rfl))))) hc) e))
  | succ k ih =>
    intro i hp tk acc c hk hi hlo Z hSo ht hR
    have hlt : i < 64 := by (first | lia | omega)
    refine codeAny_builtin PySem.F.entry_extend_loop ?_
    rw [Around.under_plainId PySem.F.plain_extend_loop _]
    show wpAny _ A.in1 (pyNext (.ref z) >>= _) _ _ _
    have hx : xs[i]? = some xs[i] := Array.getElem?_eq_getElem (by (first | lia | omega))
    refine wpAny_bind (pyNext_zip D Z hx hlt fun h' u tk' T ⟨Z', hT, hTe, hk'⟩ => ?_)
    have hSo' := hk' S _ (nz _ (.inl rfl)).symm (nz _ (.inr (.inr (.inl rfl)))).symm (nz _ (.inr (.inr (.inr (.inl rfl))))).symm (nz _ (.inr (.inr (.inr (.inr (.inl rfl)))))).symm hSo
    have hlT : lo ≤ T := by rw [hTe]; exact hlo
    have hST : S ≠ T := fun e => Nat.lt_irrefl _ (Nat.lt_of_lt_of_le hSlo (e ▸ hlT))
    have ht' : Tups h' lo xs acc i := ht.keep fun c o hc e => hk' c o (ab (.inl rfl) hc) (ab (.inr (.inr (.inl rfl))) hc) (ab (.inr (.inr (.inr (.inl rfl)))) hc) (ab (.inr (.inr (.inr (.inr (.inl rfl))))) hc) e
    have oth : ∀ {f : Obj → Obj} {b : Addr} {o : Obj}, b ≠ S → h'.get? b = some o → (h'.update S f).get? b = some o := fun {f b o} hb e => (Heap.get?_update_other _ _ (Ne.symm hb)).trans e
    have lob : ∀ {c : Addr}, lo ≤ c → c ≠ S := fun {c} hc e => Nat.lt_irrefl _ (Nat.lt_of_lt_of_le hSlo (e ▸ hc))
    show wpAny _ A.in1 (updateSeq S (·.push (.ref T)) >>= _) _ _ _
    refine wpAny_bind ?_
    refine wpAny_updateSeq hSo' rfl (wpAny_pure ⟨plainId_quiet PySem.F.plain_extend_loop _, ih (i + 1) _ _ (acc.push (.ref T)) _ (by (first | lia | omega)) hlt ?_ (Z'.keep fun b hb o e => oth (nz b (by simpa using hb)) e) (Heap.get?_update_self _ hSo' rfl)
      ((ht'.keep fun c o hc e => oth (lob hc) e).push (u := u) hlT hx (oth hST.symm hT)) fun h'' tk'' acc' c' hm hS'' ht'' => hR h'' tk'' acc' c' (fun b o b0 b1 b2 b3 b4 b5 e => hm b o b0 b1 b2 b3 b4 b5 (oth b5 (hk' b o b1 b2 b3 b4 e))) hS'' ht''⟩)
      (by rw [ht.1, sizeLine_eq]; (first | lia | omega)) (by show (acc.push (Value.ref T)).size ≤ sizeLine + 1; rw [Array.size_push, ht.1, sizeLine_eq]; (first | lia | omega))
    rw [Heap.size_update]
    exact Nat.le_trans hlT (Nat.le_of_lt (Heap.lt_size hT))
theorem zip_no_len : typeLookup (.type "zip") "__len__" = pure none := by rw [typeLookup_type, builtinLookup_eq_fast]; kernel_rfl
theorem zip_no_hint : typeLookup (.type "zip") "__length_hint__" = pure none := by rw [typeLookup_type, builtinLookup_eq_fast]; kernel_rfl
theorem collect_zip {Q : List Value → Shared → Prop} {hp : Heap} {tk : Nat} (hh : A.handled = none) (D : ZA z TI TO i1 i2 l) (hxs : xs.size = 64) (Z : ZS hp z TI TO i1 i2 l xs 0) (hlt : ∀ c, c = z ∨ c = TI ∨ c = TO ∨ c = i1 ∨ c = i2 ∨ c = l → c < hp.objs.size)
    (hQ : ∀ h' tk' acc, (∀ b o, b ≠ z → b ≠ TO → b ≠ i1 → b ≠ i2 → hp.get? b = some o → h'.get? b = some o) → Tups h' (hp.objs.size + 1) xs acc 64 → Q acc.toList ⟨h', g, dr, tk', os⟩) : wpAny (model prog w) A (collect (.ref z)) Q E ⟨hp, g, dr, tk, os⟩ := by
  have hSz : hp.objs.size ≠ z := fun e => Nat.lt_irrefl _ (e ▸ hlt z (.inl rfl))
  have hT : ∀ {h : Heap} {t : Nat}, ZS h z TI TO i1 i2 l xs 0 → Shared.TypeIs ⟨h, g, dr, t, os⟩ (.ref z) "zip" := fun {h t} Z => by obtain ⟨f0, f1, _, hz⟩ := Z.zip; exact ⟨_, hz, rfl⟩
  unfold collect
  refine wpAny_bind (wpAny_runValue (codeAny_builtin PySem.F.entry_proto_collect ?_))
  rw [Around.under_plainId PySem.F.plain_proto_collect _]
  show wpAny _ A.in1 (newList [] >>= fun l => again (.builtin "list.__iadd__" ⟨[l, .ref z], []⟩)) _ _ _
  refine wpAny_bind (wpAny_newObj_type ?_)
  refine wpAny_pure ⟨plainId_quiet PySem.F.plain_list_iadd _, codeAny_builtin PySem.F.entry_list_iadd ?_⟩
  rw [Around.under_plainId PySem.F.plain_list_iadd _]
  have Z₁ : ZS (hp.push { cls := .type "list", data := .seq ([] : List Value).toArray }) z TI TO i1 i2 l xs 0 := Z.keep fun b _ o e => Heap.get?_push_of_some _ e
  show wpAny _ A.in1 (Builtin.List.listExtendWith (.ref hp.objs.size) (.ref z) (.ref hp.objs.size)) _ _ _
  unfold Builtin.List.listExtendWith
  refine wpAny_bind (wpAny_typeOf (hT Z₁) ?_)
  have h1 : Builtin.List.listSameRef (.ref hp.objs.size) (.ref z) = false := by simp [Builtin.List.listSameRef, hSz]
  have h2 : (Value.type "zip" == Value.type "list") = false := by decide
  have h3 : (Value.type "zip" == Value.type "tuple") = false := by decide
  simp only [h1, h2, h3, Bool.or_false, Bool.false_eq_true, if_false]
  refine wpAny_bind (pyIter_zip Z₁ ?_)
  refine wpAny_bind (wpAny_holding ?_)
  unfold Builtin.List.listLengthHint
  refine wpAny_bind (wpAny_specialOf (hT Z₁) zip_no_len ?_)
  show wpAny _ A.in1 (specialOf (Value.ref z) (Str.ofString "__length_hint__") >>= _) _ _ _
  refine wpAny_bind (wpAny_specialOf (hT Z₁) zip_no_hint ?_)
  refine wpAny_pure ?_
  show wpAny _ A.in1 (rule "list.extend.makes-room" >>= fun _ => Builtin.List.listTouch (.ref hp.objs.size) >>= fun _ =>
    again (.builtin "list.extend.loop" ⟨[.ref hp.objs.size, .ref z, .ref hp.objs.size], []⟩)) _ _ _
  refine wpAny_bind (wpAny_rule ?_)
  have hS₁ : (hp.push { cls := .type "list", data := .seq ([] : List Value).toArray }).get? hp.objs.size = some { cls := .type "list", data := .seq ([] : List Value).toArray } := Heap.get?_push_size _ rfl
  refine wpAny_bind ?_
  show wpAny _ A.in1 (updateSeq hp.objs.size (·.push .none) >>= fun _ => updateSeq hp.objs.size (·.pop)) _ _ _
  refine wpAny_bind (wpAny_updateSeq hS₁ rfl ?_)
  have hS₂ := Heap.get?_update_self (Obj.mapSeq (·.push Value.none)) hS₁ rfl
  refine wpAny_updateSeq hS₂ rfl ?_
  have hS₃ := Heap.get?_update_self (Obj.mapSeq (·.pop)) hS₂ rfl
  have oth : ∀ b o, b ≠ hp.objs.size → (hp.push { cls := .type "list", data := .seq ([] : List Value).toArray }).get? b = some o →
      (((hp.push { cls := .type "list", data := .seq ([] : List Value).toArray }).update hp.objs.size (Obj.mapSeq (·.push Value.none))).update hp.objs.size (Obj.mapSeq (·.pop))).get? b = some o :=
    fun b o hb e => (Heap.get?_update_other _ _ (Ne.symm hb)).trans ((Heap.get?_update_other _ _ (Ne.symm hb)).trans e)
  have nS : ∀ c, c = z ∨ c = TI ∨ c = TO ∨ c = i1 ∨ c = i2 ∨ c = l → c ≠ hp.objs.size := fun c hc => Nat.ne_of_lt (hlt c hc)
  have hsz3 : (((hp.push { cls := .type "list", data := .seq ([] : List Value).toArray }).update hp.objs.size (Obj.mapSeq (·.push Value.none))).update hp.objs.size (Obj.mapSeq (·.pop))).objs.size = hp.objs.size + 1 := by
    rw [Heap.size_update, Heap.size_update, size_push']
  refine wpAny_pure ⟨plainId_quiet PySem.F.plain_extend_loop _, zip_loop hh D hxs hp.objs.size (hp.objs.size + 1) (fun c hc => ⟨nS c hc, Nat.lt_succ_of_lt (hlt c hc)⟩) (Nat.lt_succ_self _) _ 64 0 _ _ #[] _ rfl (by (first | lia | omega)) (Nat.le_of_eq hsz3.symm)
    (Z₁.keep fun b hb o e => oth b o (nS b (by simpa using hb)) e) hS₃ ⟨rfl, fun j v h => by simp at h⟩ fun h' tk' acc' c' hm hS' ht => ?_⟩
  show wpAny _ A (load hp.objs.size >>= _) _ _ _
  refine wpAny_bind (wpAny_load hS' ?_)
  refine wpAny_pure (hQ h' tk' acc' (fun b o b1 b2 b3 b4 e => ?_) ht)
  have hb : b < hp.objs.size := Heap.lt_size e
  exact hm b o (Nat.lt_succ_of_lt hb) b1 b2 b3 b4 (Nat.ne_of_lt hb) (oth b o (Nat.ne_of_lt hb) (Heap.get?_push_of_some _ e))
end

end

section
section
variable {prog : Program} {w : World} {A : Around} {E : Value → Shared → Prop} {s : Shared} {vs : List Value} {k : Nat}
/-- sixty four pairs: the sign and the value -/
noncomputable def Pairs (h : Heap) (k : Nat) (vs : List Value) : Prop := vs.length = 64 ∧ ∀ i, i < 64 → ∃ (T : Addr) (u u' : Tok), vs.getD i Value.none = .ref T ∧ h.get? T = some { cls := .type "tuple", data := .seq #[.int (sg k (i : Int)) u, .int (i : Int) u'] }
theorem Pairs.keep {h h' : Heap} (p : Pairs h k vs) (hk : ∀ i T o, i < 64 → vs.getD i Value.none = .ref T → h.get? T = some o → h'.get? T = some o) : Pairs h' k vs :=
  ⟨p.1, fun i hi => by
    obtain ⟨T, u, u', e, hg⟩ := p.2 i hi
    exact ⟨T, u, u', e, hk i T _ hi e hg⟩⟩
noncomputable def itOf (vs : List Value) (i : Nat) : Keyed := (vs.getD (min i 63) Value.none, vs.getD (min i 63) Value.none)
theorem ltOk_pairs (p : Pairs s.heap k vs) : LtOk prog w A s (tuples' true) (itOf vs) (so k) := by
  intro E i j st Q hk hne hq
  obtain ⟨Ti, ui, ui', ei, gi⟩ := p.2 (min i 63) (by (first | lia | omega))
  obtain ⟨Tj, uj, uj', ej, gj⟩ := p.2 (min j 63) (by (first | lia | omega))
  rw [lt'_eq]
  refine wpS_bind (wpS_get ?_)
  rw [hk]
  show wpS _ _ _ _ (do let r ← (liftM ((keyLt' (tuples' true) (vs.getD (min i 63) Value.none) (vs.getD (min j 63) Value.none)).attempt) : StateT SortSt Sem _); _) Q st
  rw [ei, ej]
  have hd : ((sg k ((min i 63 : Nat) : Int)) == (sg k ((min j 63 : Nat) : Int))) = false := by
    refine beq_eq_false_iff_ne.mpr fun e => ?_
    have hne' : (decide (sg k ((min i 63 : Nat) : Int) < sg k ((min j 63 : Nat) : Int)) != decide (sg k ((min j 63 : Nat) : Int) < sg k ((min i 63 : Nat) : Int))) = true := hne
    rw [e] at hne'
    revert hne'
    cases decide (sg k ((min j 63 : Nat) : Int) < sg k ((min j 63 : Nat) : Int)) <;> decide
  refine wpS_bind (wpS_lift (wpAny_attempt (kat_lt gi rfl gj rfl ?_)))
  refine kat_cons (wpAny_eqBool_int ?_)
  rw [hd]
  refine kat_no (oneLt_int ?_)
  exact ⟨rfl, wpS_pure hq⟩
theorem kind_pairs {Q : SortKind → Shared → Prop} (p : Pairs s.heap k vs) (h : Q (tuples' true) s) : wpAny (model prog w) A (keyKind' vs.toArray) Q E s := by
  have key : ∀ (n : Nat) (l : List Value), (∀ i, i < l.length → ∃ (T : Addr) (u u' : Tok), l.getD i Value.none = .ref T ∧ s.heap.get? T = some { cls := .type "tuple", data := .seq #[.int (sg k ((n + i : Nat) : Int)) u, .int ((n + i : Nat) : Int) u'] }) →
      ∃ fs : List Value, fs.length = l.length ∧ KatTups s.heap l fs ∧ ∀ v ∈ fs, ∃ x u, v = Value.int x u := by
    intro n l
    induction l generalizing n with
    | nil => intro _; exact ⟨[], rfl, KatTups.nil, by simp⟩
    | cons v l ih =>
      intro hl
      obtain ⟨T, u, u', e, hg⟩ := hl 0 (by simp)
      obtain ⟨fs, f1, f2, f3⟩ := ih (n + 1) (fun i hi => by
        obtain ⟨T, u, u', e, hg⟩ := hl (i + 1) (by simp; (first | lia | omega))
        exact ⟨T, u, u', e, by rw [show n + 1 + i = n + (i + 1) by (first | lia | omega)]; exact hg⟩)
      have ev : v = .ref T := e
      subst ev
      refine ⟨.int (sg k ((n + 0 : Nat) : Int)) u :: fs, by simp [f1], KatTups.cons hg rfl rfl rfl f2, fun v hv => ?_⟩
      rcases List.mem_cons.mp hv with rfl | hv
      · exact ⟨_, _, rfl⟩
      · exact f3 v hv
  obtain ⟨fs, f1, f2, f3⟩ := key 0 vs (fun i hi => by
    obtain ⟨T, u, u', e, hg⟩ := p.2 i (by rw [← p.1]; exact hi)
    exact ⟨T, u, u', e, by rw [Nat.zero_add]; exact hg⟩)
  refine kat_kind (T := .type "int") f2 (by rw [f1, p.1]; (first | lia | omega)) (fun v hv => ?_) rfl ?_
  · obtain ⟨x, u, rfl⟩ := f3 v hv
    exact (show Looks (model prog w) s.heap (typeOf (.int x u)) (.type "int") from .now)
  · exact h
theorem sort_pairs {a : Addr} {n : Nat} {P : PySem.Fin → Shared → Prop} (hk : k < 5) (ho : s.heap.get? a = some (seqObj "list" vs.toArray n)) (p : Pairs s.heap k vs)
    (h : ∀ h' c, (∀ b o, b ≠ a → s.heap.get? b = some o → h'.get? b = some o) → h'.get? a = some (seqObj "list" ((ord k).map fun i => vs.getD i Value.none).toArray c) → P (.done (.ret .none)) { s with heap := h' }) :
    wpAny (model prog w) A (Builtin.«list.sort» ⟨[.ref a], []⟩) P E s := by
  have ha : a < s.heap.objs.size := Heap.lt_size ho
  have hlen := p.1
  have s1 := Heap.SameBut.update s.heap a (Obj.mapSeq fun _ => (#[] : Array Value))
  obtain ⟨e1, ho1⟩ : ∃ e1, (s.heap.update a (Obj.mapSeq fun _ => (#[] : Array Value))).get? a = some (seqObj "list" #[] e1) := ⟨_, get?_update_seq ho fun _ => #[]⟩
  have k3 : ∀ b o, b ≠ a → s.heap.get? b = some o → (((s.heap.update a (Obj.mapSeq fun _ => (#[] : Array Value))).push (seqObj "tuple" vs.toArray 0)).push (seqObj "list" #[] 0)).get? b = some o := fun b o hb e =>
    Heap.get?_push_of_some _ (Heap.get?_push_of_some _ (s1.extBut _ _ hb e))
  have p3 : Pairs (((s.heap.update a (Obj.mapSeq fun _ => (#[] : Array Value))).push (seqObj "tuple" vs.toArray 0)).push (seqObj "list" #[] 0)) k vs := p.keep fun i T o hi e hg => k3 T o (fun eq => by
    obtain ⟨T', u, u', e', hg'⟩ := p.2 i hi
    rw [e] at e'; cases e'
    rw [eq, ho] at hg'
    exact absurd (congrArg Obj.cls (Option.some.inj hg')) (by simp [seqObj])) hg
  rw [list_sort_plain]
  refine wpAny_bind (listItems_at ho rfl ?_)
  refine wpAny_bind (listUpdate_at ho rfl ?_ (by rw [List.size_toArray, sizeLine_eq]; (first | lia | omega)) (Nat.zero_le _))
  refine wpAny_bind (seqEpoch_at ho1 rfl ?_)
  refine wpAny_bind (wpAny_newTuple ?_ (by show vs.length ≤ _; rw [sizeLine_eq]; (first | lia | omega)))
  refine wpAny_bind (wpAny_newList ?_ (Nat.zero_le _))
  refine wpAny_holding ?_
  show wpAny (model prog w) A _ P E { s with heap := ((s.heap.update a (Obj.mapSeq fun _ => (#[] : Array Value))).push (seqObj "tuple" vs.toArray 0)).push (seqObj "list" #[] 0) }
  dsimp only
  have hn2 : ¬ vs.toArray.size < 2 := by rw [List.size_toArray]; (first | lia | omega)
  rw [if_neg hn2, if_neg hn2]
  refine wpAny_bind (kind_pairs p3 ?_)
  have est : vs.toArray.zip vs.toArray = P0.map (itOf vs) := by
    apply Array.ext'
    apply List.ext_getElem
    · simp [P0, hlen]
    · intro i h1 h2
      have hi : i < 64 := by simpa [P0] using h2
      have hm : min i 63 = i := by (first | lia | omega)
      simp [P0, itOf, hm, hlen, hi]
  rw [est]
  refine wpAny_bind (wpAny_mono (s_sort64 (Q := fun _ st' => arrOf st' = (ord k).toArray.map (itOf vs) ∧ failedOf st' = none) hk (ltOk_pairs p3) (fun pe g => ⟨rfl, rfl⟩)) ?_ fun _ _ e => e)
  rintro ⟨⟨⟩, st'⟩ s' ⟨rfl, har, hf⟩
  dsimp only
  rw [har, hf]
  have ho6 : (((s.heap.update a (Obj.mapSeq fun _ => (#[] : Array Value))).push (seqObj "tuple" vs.toArray 0)).push (seqObj "list" #[] 0)).get? a = some (seqObj "list" #[] e1) := Heap.get?_push_of_some _ (Heap.get?_push_of_some _ ho1)
  have hout : ((ord k).toArray.map (itOf vs)).map (·.2) = ((ord k).map fun i => vs.getD i Value.none).toArray := by
    apply Array.ext'
    have hall : ∀ x ∈ ord k, x < 64 := by
      rcases (by (first | lia | omega) : k = 0 ∨ k = 1 ∨ k = 2 ∨ k = 3 ∨ k = 4) with rfl | rfl | rfl | rfl | rfl <;> decide +kernel
    simp only [Array.toList_map, List.map_map]
    exact List.map_congr_left fun i hi => by
      have := hall i hi
      show vs.getD (min i 63) Value.none = _
      rw [Nat.min_eq_left (by (first | lia | omega))]
  have hol : (ord k).length ≤ 64 := by
    rcases (by (first | lia | omega) : k = 0 ∨ k = 1 ∨ k = 2 ∨ k = 3 ∨ k = 4) with rfl | rfl | rfl | rfl | rfl <;> decide +kernel
  rw [hout]
  refine wpAny_bind (seqEpoch_at ho6 rfl ?_)
  refine wpAny_bind (listUpdate_at ho6 rfl ?_ (Nat.zero_le _) (by rw [List.size_toArray, List.length_map, sizeLine_eq]; (first | lia | omega)))
  simp only [bne_self_eq_false, Bool.false_eq_true, if_false]
  have s2 := Heap.SameBut.update (((s.heap.update a (Obj.mapSeq fun _ => (#[] : Array Value))).push (seqObj "tuple" vs.toArray 0)).push (seqObj "list" #[] 0)) a (Obj.mapSeq fun _ => ((ord k).map fun i => vs.getD i Value.none).toArray)
  refine wpAny_pure (h _ _ (fun b o hb e => s2.extBut _ _ hb (k3 b o hb e)) (get?_update_seq ho6 fun _ => ((ord k).map fun i => vs.getD i Value.none).toArray))
end

end

section
noncomputable abbrev zh1 (h : Heap) (l : Addr) : Heap := h.push { cls := .type "list_iterator", data := .fields #[.ref l, .int 0 0] }
noncomputable abbrev zh2 (h : Heap) (l : Addr) : Heap := (zh1 h l).push { cls := .type "range_iterator", data := .fields #[rawInt 0, rawInt (Builtin.Range.rangeSize 0 64 1), rawInt 1] }
noncomputable abbrev zh3 (h : Heap) (l : Addr) : Heap := (zh2 h l).push { cls := .type "tuple", data := .seq #[.ref h.objs.size, .ref (zh1 h l).objs.size] }
noncomputable abbrev zh4 (h : Heap) (l : Addr) : Heap := (zh3 h l).push { cls := .type "tuple", data := .seq #[.none, .none] }
noncomputable abbrev zh5 (h : Heap) (l : Addr) : Heap := (zh4 h l).push { cls := .type "zip", data := .fields #[.none, .bool false, .bool false, .ref (zh2 h l).objs.size, .ref (zh3 h l).objs.size] }
theorem meets_zipR (l r : Addr) (xs : Array Value) (t u v : Tok) :
    Meets (Builtin.«zip.__new__» ⟨[.type "zip", .ref l, .ref r], []⟩) (fun _ R s => s.heap.IsList l xs ∧ IsRange s.heap r 0 64 1 t u v ∧
      R (.ok (.ret (.ref (zh4 s.heap l).objs.size))) { s with heap := zh5 s.heap l }) :=
  .of_wp fun prog w A R s h => by
    obtain ⟨hp, g, d, tk, os⟩ := s; obtain ⟨hl1, hr, h⟩ := h
    have hsub := sub_zip
    have hsm : Builtin.Range.small 0 64 1 = true := by decide
    have hL1 : Heap.IsList (Shared.heap ⟨hp, g, d, tk, os⟩) l xs := hl1
    have hL2 : IsRange (Shared.heap ⟨hp.push { cls := .type "list_iterator", data := .fields #[.ref l, .int 0 0] }, g, d, tk, os⟩) r 0 64 1 t u v := Heap.get?_push_of_some _ hr
    wp_walk using wpAny_pyIter_list hL1, wpAny_pyIter_range hL2 hsm
    exact ⟨_, rfl, h⟩
section
variable {prog : Program} {w : World} {A : Around} {E : Value → Shared → Prop} {h : Heap} {g : Array GenState} {d : Drawn} {t : Nat} {o : OsState} {l r : Addr} {xs : Array Value} {t1 t2 t3 : Tok} {Q : Value → Shared → Prop}
theorem r_zip (hl : h.IsList l xs) (hr : IsRange h r 0 64 1 t1 t2 t3)
    (H : ∀ h' z TI TO i1 i2, Keeps h h' → ZA z TI TO i1 i2 l → ZS h' z TI TO i1 i2 l xs 0 → (∀ c, c = z ∨ c = TI ∨ c = TO ∨ c = i1 ∨ c = i2 ∨ c = l → c < h'.objs.size) → (∀ c, c = z ∨ c = TO ∨ c = i1 ∨ c = i2 → h.objs.size ≤ c) → Q (.ref z) ⟨h', g, d, t, o⟩) :
    wpAny (model prog w) A (call (.type "zip") [.ref l, .ref r]) Q E ⟨h, g, d, t, o⟩ := by
  refine callType_new PySem.F.called_zip (by decide) (PySem.F.typeCall_zip_2 _ _) (PySem.F.newCall_zip_2 _ _) (fun obj => PySem.F.args_object_init_3 obj _ _) PySem.F.entry_zip_new
    (meets_zipR l r xs t1 t2 t3) ⟨hl, hr, ?_⟩
  have z1 : (zh1 h l).objs.size = h.objs.size + 1 := Heap.size_push ..
  have z2 : (zh2 h l).objs.size = h.objs.size + 2 := by rw [Heap.size_push, z1]
  have z3 : (zh3 h l).objs.size = h.objs.size + 3 := by rw [Heap.size_push, z2]
  have z4 : (zh4 h l).objs.size = h.objs.size + 4 := by rw [Heap.size_push, z3]
  have z5 : (zh5 h l).objs.size = h.objs.size + 5 := by rw [Heap.size_push, z4]
  have g5 : (zh5 h l).get? (zh4 h l).objs.size = some _ := Heap.get?_push_size _ rfl
  have g4 : (zh5 h l).get? (zh3 h l).objs.size = some _ := Heap.get?_push_of_some _ (Heap.get?_push_size _ rfl)
  have g3 : (zh5 h l).get? (zh2 h l).objs.size = some _ := Heap.get?_push_of_some _ (Heap.get?_push_of_some _ (Heap.get?_push_size _ rfl))
  have g2 : (zh5 h l).get? (zh1 h l).objs.size = some _ := Heap.get?_push_of_some _ (Heap.get?_push_of_some _ (Heap.get?_push_of_some _ (Heap.get?_push_size _ rfl)))
  have g1 : (zh5 h l).get? h.objs.size = some _ := Heap.get?_push_of_some _ (Heap.get?_push_of_some _ (Heap.get?_push_of_some _ (Heap.get?_push_of_some _ (Heap.get?_push_size _ rfl))))
  show _ ∧ _
  rw [z2, z3, z4] at g5
  rw [z1, z2] at g3
  rw [z3] at g4
  rw [z1] at g2
  rw [z4]
  have hlt : l < h.objs.size := by obtain ⟨ol, e, _⟩ := hl; exact Heap.lt_size e
  have ne : ∀ (a b : Nat), a ≠ b → h.objs.size + a ≠ h.objs.size + b := fun a b hab e => hab (Nat.add_left_cancel e)
  have nl : ∀ a : Nat, l ≠ h.objs.size + a := fun a => Nat.ne_of_lt (Nat.lt_of_lt_of_le hlt (Nat.le_add_right _ _))
  have keep : Keeps h (zh5 h l) := fun c o x => Heap.get?_push_of_some _ (Heap.get?_push_of_some _ (Heap.get?_push_of_some _ (Heap.get?_push_of_some _ (Heap.get?_push_of_some _ x))))
  refine ⟨⟨_, g5, rfl⟩, H _ (h.objs.size + 4) (h.objs.size + 2) (h.objs.size + 3) h.objs.size (h.objs.size + 1) keep ?_ ?_ ?_ ?_⟩
  · exact ⟨ne 2 4 (by decide), ne 3 4 (by decide), ne 0 4 (by decide), ne 1 4 (by decide), ne 2 3 (by decide), ne 2 0 (by decide), ne 2 1 (by decide), ne 3 0 (by decide), ne 3 1 (by decide), ne 0 1 (by decide), nl 4, nl 3, nl 0, nl 1⟩
  · exact ⟨⟨_, _, .inl rfl, g5⟩, g3, ⟨_, _, g4⟩, ⟨_, g1, rfl, rfl⟩, g2, hl.at fun o e => keep l o e⟩
  · show ∀ c, _ → c < (zh5 h l).objs.size
    rw [z5]
    rintro c (rfl | rfl | rfl | rfl | rfl | rfl)
    · exact Nat.add_lt_add_left (by decide) _
    · exact Nat.add_lt_add_left (by decide) _
    · exact Nat.add_lt_add_left (by decide) _
    · exact Nat.lt_add_of_pos_right (by decide)
    · exact Nat.add_lt_add_left (by decide) _
    · exact Nat.lt_of_lt_of_le hlt (Nat.le_add_right _ _)
  · rintro c (rfl | rfl | rfl | rfl)
    · exact Nat.le_add_right _ _
    · exact Nat.le_add_right _ _
    · exact Nat.le_refl _
    · exact Nat.le_add_right _ _
theorem r_sortedZip {z TI TO i1 i2 : Addr} {k : Nat} (hh : A.handled = none) (hk : k < 5) (D : ZA z TI TO i1 i2 l) (Z : ZS h z TI TO i1 i2 l xs 0) (hlt : ∀ c, c = z ∨ c = TI ∨ c = TO ∨ c = i1 ∨ c = i2 ∨ c = l → c < h.objs.size) (hxs : IntsAre xs.toList (alph k))
    (H : ∀ h' t' a c vs, (∀ b o, b ≠ z → b ≠ TO → b ≠ i1 → b ≠ i2 → h.get? b = some o → h'.get? b = some o) → h.objs.size ≤ a → Pairs h' k vs → (∀ i T, i < 64 → vs.getD i Value.none = .ref T → h.objs.size ≤ T) → h'.get? a = some (seqObj "list" ((ord k).map fun i => vs.getD i Value.none).toArray c) → Q (.ref a) ⟨h', g, d, t', o⟩) :
    wpAny (model prog w) A (call (.builtin "sorted") [.ref z]) Q E ⟨h, g, d, t, o⟩ := by
  have hal : (alph k).length = 64 := by
    rcases (by (first | lia | omega) : k = 0 ∨ k = 1 ∨ k = 2 ∨ k = 3 ∨ k = 4) with rfl | rfl | rfl | rfl | rfl <;> decide
  have hxl : xs.size = 64 := by rw [← Array.length_toList, ← hal]; exact hxs.length
  refine Calls.call_function_entry kind_sorted plain_sorted entry_sorted (args_sorted1 _) ?_
  unfold Builtin.«sorted»
  refine wpAny_bind (m := checkCount "sorted" 1 1 _) (wpAny_pure ?_)
  refine wpAny_bind (collect_zip hh D hxl Z hlt fun h' t' acc hm ht => ?_)
  refine wpAny_bind (wpAny_newList ?_ (by rw [Array.length_toList, ht.1, sizeLine_eq]; (first | lia | omega)))
  have p : Pairs (h'.push (seqObj "list" acc.toList.toArray 0)) k acc.toList := by
    refine ⟨by rw [Array.length_toList]; exact ht.1, fun i hi => ?_⟩
    have hi' : i < acc.size := by rw [ht.1]; exact hi
    obtain ⟨T, u, x, e, hlo, _, hx, hg⟩ := ht.2 i acc[i] (Array.getElem?_eq_getElem hi')
    have hxi : ∃ u0, x = Value.int (sg k (i : Int)) u0 := by
      obtain ⟨u0, hu0⟩ := IntsAre.get hxs i (sg k (i : Int)) (by unfold sg; rw [Int.toNat_natCast]; simp [List.getD, hal, hi])
      rw [Array.getElem?_toList, hx] at hu0
      exact ⟨u0, Option.some.inj hu0⟩
    obtain ⟨u0, rfl⟩ := hxi
    exact ⟨T, u0, u, by rw [← e]; simp [List.getD, hi'], Heap.get?_push_of_some _ hg⟩
  have hoL : (h'.push (seqObj "list" acc.toList.toArray 0)).get? h'.objs.size = some (seqObj "list" acc.toList.toArray 0) := Heap.get?_push_size _ rfl
  refine wpAny_bind (wpAny_holding (wpAny_call_entry slot_list_sort ⟨_, hoL, rfl⟩ entry_list_sort ?body (args_list_sort _)))
  case body =>
    refine sort_pairs (s := ⟨h'.push (seqObj "list" acc.toList.toArray 0), g, d, t', o⟩) hk hoL p fun h2 c hk2 ho2 => ⟨_, rfl, wpAny_pure ⟨_, rfl, ?_⟩⟩
    have hT : ∀ i T, i < 64 → acc.toList.getD i Value.none = .ref T → h.objs.size ≤ T ∧ T < h'.objs.size := fun i T hi e => by
      have hi' : i < acc.size := by rw [ht.1]; exact hi
      obtain ⟨T', u, x, e', hlo, hlt', _⟩ := ht.2 i acc[i] (Array.getElem?_eq_getElem hi')
      have : acc.toList.getD i Value.none = acc[i] := by simp [List.getD, hi']
      rw [this, e'] at e
      cases e
      exact ⟨Nat.le_of_succ_le hlo, hlt'⟩
    refine H h2 t' h'.objs.size c acc.toList (fun b o b1 b2 b3 b4 e => ?_) ?_ ?_ (fun i T hi e => (hT i T hi e).1) ho2
    · have e' := hm b o b1 b2 b3 b4 e
      exact hk2 b o (Nat.ne_of_lt (Heap.lt_size e')) (Heap.get?_push_of_some _ e')
    · obtain ⟨T, u, u', e, _⟩ := p.2 0 (by (first | lia | omega))
      have := hT 0 T (by (first | lia | omega)) e
      exact Nat.le_of_lt (Nat.lt_of_le_of_lt this.1 this.2)
    · exact p.keep fun i T o hi e hg => hk2 T o (Nat.ne_of_lt (hT i T hi e).2) hg
end

end

section
theorem g_zip (w : World) : nsIn (KF w) mainGlobals "zip" = some none ∧ bootBuiltins "zip" = some (.type "zip") ∧ (Str.ofString "zip") ≠ "__name__" := ⟨by kernel_rfl, by kernel_rfl, by decide⟩
theorem g_sorted (w : World) : nsIn (KF w) mainGlobals "sorted" = some none ∧ bootBuiltins "sorted" = some (.builtin "sorted") ∧ (Str.ofString "sorted") ≠ "__name__" := ⟨by kernel_rfl, by kernel_rfl, by decide⟩
noncomputable def ordI (k : Nat) : List Int := (ord k).map (fun i : Nat => (i : Int))
theorem alph_split {k : Nat} (hk : k < 5) : b64s.take 62 ++ (alph k).drop 62 = alph k := by
  rcases (by (first | lia | omega) : k = 0 ∨ k = 1 ∨ k = 2 ∨ k = 3 ∨ k = 4) with rfl | rfl | rfl | rfl | rfl <;> decide
section
variable {prog : Program} {w : World} {A : Around} {E : Value → Shared → Prop} {h : Heap} {g : Array GenState} {d : Drawn} {t : Nat} {o : OsState} {k : Nat} {Q : Value → Shared → Prop} {a : Addr}
theorem r_itemSel {value slice : Expr} {items : Array Value} {u : Tok} (hk : k < 5) (hl : h.IsList a items) (hsel : ∃ bk tb', items[k]? = some (Value.bytes bk tb') ∧ KBw.bInts bk = (alph k).drop 62)
    (hs : subscripted slice false (.ref a) (.int (k : Int) u) = operate [.ref a, .int (k : Int) u] (getItem (.ref a) (.int (k : Int) u))) (H : ∀ bk tb', KBw.bInts bk = (alph k).drop 62 → Q (.bytes bk tb') ⟨h, g, d, t, o⟩) :
    wpAny (model prog w) A (subscriptTail value slice (.ref a) (.int (k : Int) u)) Q E ⟨h, g, d, t, o⟩ := by
  obtain ⟨bk, tb', e, hb⟩ := hsel
  exact r_item hl (by (first | lia | omega)) (by (first | lia | omega)) (by rw [Int.toNat_natCast]; exact e) hs (H bk tb' hb)
end
theorem tups_of {h : Heap} {k : Nat} {vs : List Value} {lo : Addr} (p : Pairs h k vs) (hlo : ∀ i T, i < 64 → vs.getD i Value.none = .ref T → lo ≤ T) : ∀ n, n ≤ 64 →
    ∃ tups : List (Addr × Obj), (∀ q ∈ tups, h.get? q.1 = some q.2 ∧ lo ≤ q.1) ∧ ∀ i, i < n → ∃ (T : Addr) (u u' : Tok), vs.getD i Value.none = .ref T ∧ (T, ({ cls := .type "tuple", data := .seq #[.int (sg k (i : Int)) u, .int (i : Int) u'] } : Obj)) ∈ tups := by
  intro n
  induction n with
  | zero => intro _; exact ⟨[], by simp, fun i hi => by (first | lia | omega)⟩
  | succ n ih =>
    intro hn
    obtain ⟨tups, h1, h2⟩ := ih (by (first | lia | omega))
    obtain ⟨T, u, u', e, hg⟩ := p.2 n (by (first | lia | omega))
    refine ⟨(T, { cls := .type "tuple", data := .seq #[.int (sg k (n : Int)) u, .int (n : Int) u'] }) :: tups, fun q hq => ?_, fun i hi => ?_⟩
    · rcases List.mem_cons.mp hq with rfl | hq
      · exact ⟨hg, hlo n T (by (first | lia | omega)) e⟩
      · exact h1 q hq
    · by_cases hin : i = n
      · subst hin; exact ⟨T, u, u', e, .head _⟩
      · obtain ⟨T, u, u', e, hm⟩ := h2 i (by (first | lia | omega))
        exact ⟨T, u, u', e, .tail _ hm⟩
theorem ord_lt {k : Nat} (hk : k < 5) : (∀ x ∈ ord k, x < 64) ∧ (ord k).length = 64 := by
  rcases (by (first | lia | omega) : k = 0 ∨ k = 1 ∨ k = 2 ∨ k = 3 ∨ k = 4) with rfl | rfl | rfl | rfl | rfl <;> decide +kernel


section
variable {prog : Program} {w : World} {A : Around} {E : Value → Shared → Prop} {h : Heap} {g : Array GenState} {d : Drawn} {t : Nat} {o : OsState} {k : Nat} {tk : Tok} {Q : Value → Shared → Prop}
theorem vio_spec (hk5 : k < 5) (G : Gd w h) (R : Room A 1)
    (H : ∀ h' t' a its, Keeps h h' → h'.IsList a its → IntsAre its.toList (ordI k) → Q (.ref a) ⟨h', g, d, t', o⟩) :
    wpAny (model prog w) A (call (.ref 111) [.int (k : Int) tk]) Q E ⟨h, g, d, t, o⟩ := by
  refine enter (n := 0) G R rfl rfl (by kernel_rfl) rfl (BindsTo.of_eq rfl) (by decide) (locs rfl) rfl rfl rfl rfl rfl ?_
  intro h₁ t₁ A' L env V hL R' F N
  dsimp only at V
  with_reducible refine r_seq ?_
  (with_reducible refine r_assign ?_ ?h1); (case h1 => rfl)
  with_reducible refine r_cbytes (fun _ => ?_)
  (with_reducible refine' r_storeG ?V ?F ?N ?hx ?_); (case V => assumption); (case F => assumption); (case N => assumption); (case hx => kernel_rfl); intro _ _ _ _ _ _
  with_reducible (refine sq_next ?_; refine r_seq ?_)
  (with_reducible refine r_assign ?_ ?h1); (case h1 => rfl)
  with_reducible refine r_callN ?_
  (with_reducible refine' r_boot ?V ?G ?hk ?hx ?eB ?_); (case V => assumption); (case hx => kernel_rfl); (case eB => with_reducible exact g_list _); (case G => assumption); (case hk => exact Fr.keep (by assumption))
  (with_reducible refine r_cwType ?_ ?h1 ?h2); (case h1 => rfl); (case h2 => rfl)
  (with_reducible refine r_args ?_ ?h1); (case h1 => rfl)
  with_reducible refine wpAny_BinOp ?_
  (with_reducible refine' r_local ?V ?hn ?hv ?hx ?_); (case V => assumption); (case hx => kernel_rfl); (case hn => first | exact Fr.ns (by assumption) | assumption); (case hv => walk_at "mlk")
  with_reducible (refine Subscript_ ?_; refine PyProof.Rows.List_ ?_)
  (with_reducible refine r_args ?_ ?h1); (case h1 => rfl)
  with_reducible refine r_cbytes (fun _ => ?_)
  (with_reducible refine r_args ?_ ?h1); (case h1 => rfl)
  with_reducible refine r_cbytes (fun _ => ?_)
  (with_reducible refine r_args ?_ ?h1); (case h1 => rfl)
  with_reducible refine r_cbytes (fun _ => ?_)
  (with_reducible refine r_args ?_ ?h1); (case h1 => rfl)
  with_reducible refine r_cbytes (fun _ => ?_)
  (with_reducible refine r_args ?_ ?h1); (case h1 => rfl)
  with_reducible (refine r_cbytes (fun _ => ?_); refine r_args0 ?_)
  (with_reducible refine' r_newList ?F ?N ?hz ?_); (case F => assumption); (case N => assumption); (case hz => first | decide | (simp only [List.length_cons, List.length_nil, sizeLine_eq]; (first | lia | omega))); intro _ _ _ _ _ _
  (with_reducible refine' r_local ?V ?hn ?hv ?hx ?_); (case V => assumption); (case hx => kernel_rfl); (case hn => first | exact Fr.ns (by assumption) | assumption); (case hv => walk_at "mlk")
  refine r_itemSel hk5 (isList_news (by assumption) (List.Mem.head _)) ?_ rfl ?_
  · rcases (by (first | lia | omega) : k = 0 ∨ k = 1 ∨ k = 2 ∨ k = 3 ∨ k = 4) with rfl | rfl | rfl | rfl | rfl <;> exact ⟨_, _, rfl, by decide⟩
  intro bk tb' hbk
  have hdl : ((alph k).drop 62).length = 2 ∧ (alph k).length = 64 := by
    rcases (by (first | lia | omega) : k = 0 ∨ k = 1 ∨ k = 2 ∨ k = 3 ∨ k = 4) with rfl | rfl | rfl | rfl | rfl <;> decide
  refine KBa.add_K (ks := b64s.take 62) (by decide) hbk (by rw [hdl.1]; decide) (fun t2 k2 hb2 => ?_)
  rw [alph_split hk5] at hb2
  with_reducible refine r_args0 ?_
  refine r_listBytes R'.hh (by rw [← KBw.ints_length, hb2, hdl.2]; (first | lia | omega)) ?_
  intro h3 t3 l its3 hk3 hle3 hl3 hi3
  rw [hb2] at hi3
  have F3 := fr_keeps (by assumption) hk3
  obtain ⟨ol, hol, holc, nl, hold⟩ := hl3
  have N3 : News h L h3 [(l, ol)] := by
    intro p hp
    rw [List.mem_singleton.mp hp]
    exact ⟨hol, kdx_fresh (by assumption) hle3⟩
  (with_reducible refine' r_storeG ?V ?F ?N ?hx ?_); (case V => assumption); (case F => assumption); (case N => assumption); (case hx => kernel_rfl); intro _ _ _ _ _ _
  with_reducible (refine sq_next ?_; refine r_seq ?_; refine wpAny_Return_some ?_)
  rename_i h4 t4 F4 N4
  refine ListComp_U F4 (Ev.clos V (cl2 := []) rfl) (by decide) rfl (by decide) rfl ?_ (fun _ => rfl)
  with_reducible refine r_callN ?_
  (with_reducible refine' r_boot ?V ?G ?hk ?hx ?eB ?_); (case V => assumption); (case hx => kernel_rfl); (case eB => with_reducible exact g_sorted _); (case G => assumption); (case hk => exact Fr.keep (by assumption))
  (with_reducible refine r_cwBuiltin ?_ ?h1 ?h2); (case h1 => rfl); (case h2 => rfl)
  (with_reducible refine r_args ?_ ?h1); (case h1 => rfl)
  with_reducible refine r_callN ?_
  (with_reducible refine' r_boot ?V ?G ?hk ?hx ?eB ?_); (case V => assumption); (case hx => kernel_rfl); (case eB => with_reducible exact g_zip _); (case G => assumption); (case hk => exact Fr.keep (by assumption))
  (with_reducible refine r_cwType ?_ ?h1 ?h2); (case h1 => rfl); (case h2 => rfl)
  (with_reducible refine r_args ?_ ?h1); (case h1 => rfl)
  (with_reducible refine' r_local ?V ?hn ?hv ?hx ?_); (case V => assumption); (case hx => kernel_rfl); (case hn => first | exact Fr.ns (by assumption) | assumption); (case hv => walk_at "mlk")
  (with_reducible refine r_args ?_ ?h1); (case h1 => rfl)
  with_reducible refine r_callN ?_
  (with_reducible refine' r_boot ?V ?G ?hk ?hx ?eB ?_); (case V => assumption); (case hx => kernel_rfl); (case eB => with_reducible exact g_range _); (case G => assumption); (case hk => exact Fr.keep (by assumption))
  (with_reducible refine r_cwType ?_ ?h1 ?h2); (case h1 => rfl); (case h2 => rfl)
  (with_reducible refine r_args ?_ ?h1); (case h1 => rfl)
  with_reducible (refine r_cint (fun _ => ?_); refine r_args0 ?_)
  (with_reducible refine' r_range1 ?F ?N ?_); (case F => assumption); (case N => assumption); intro _ _ _ _ _ _ _ _ _ _ _
  with_reducible refine r_args0 ?_
  rename_i r h5 t5 _ _ _ _ hr F5 N5 _
  have hl5 : h5.IsList l its3 := ⟨ol, (N5 _ (.head _)).1, holc, nl, hold⟩
  refine r_zip hl5 hr ?_
  intro h6 z TI TO i1 i2 hk6 D Z hlt6 hge6
  with_reducible refine r_args0 ?_
  refine r_sortedZip R'.hh hk5 D Z hlt6 hi3 ?_
  intro h7 t7 a c vs hk7 hle7 hP hTlo ha
  have k57 : Keeps h5 h7 := fun b ob e => by
    have hb : b < h5.objs.size := Heap.lt_size e
    have nb : ∀ c, c = z ∨ c = TO ∨ c = i1 ∨ c = i2 → b ≠ c := fun c hc => Nat.ne_of_lt (Nat.lt_of_lt_of_le hb (hge6 c hc))
    exact hk7 b ob (nb _ (.inl rfl)) (nb _ (.inr (.inl rfl))) (nb _ (.inr (.inr (.inl rfl)))) (nb _ (.inr (.inr (.inr rfl)))) (hk6 b ob e)
  have F7 := fr_keeps F5 k57
  have le56 : h5.objs.size ≤ h6.objs.size := Nat.le_trans (hge6 z (.inl rfl)) (Nat.le_of_lt (hlt6 z (.inl rfl)))
  obtain ⟨tups, ht1, ht2⟩ := tups_of hP hTlo 64 (by (first | lia | omega))
  have N7 : News h L h7 ((a, listOf ((ord k).map fun i => vs.getD i Value.none).toArray c) :: tups) := by
    intro p hp
    rcases List.mem_cons.mp hp with rfl | hp
    · exact ⟨ha, kdx_fresh F5 (Nat.le_trans le56 hle7)⟩
    · exact ⟨(ht1 p hp).1, kdx_fresh F5 (Nat.le_trans le56 (ht1 p hp).2)⟩
  obtain ⟨ho1, ho2⟩ := ord_lt hk5
  have hsz : ((ord k).map fun i => vs.getD i Value.none).toArray.size = 64 := by simp [ho2]
  refine CompSrc.ledger R'.hh F7 N7 (.head _) (by rw [hsz, sizeLine_eq]; (first | lia | omega)) fun g' => ?_
  refine compRest_of (fun j => (((ord k).getD j 0 : Nat) : Int)) (.inr ⟨_, .head _, rfl, _, rfl⟩) ?_ ?_
  · intro j v C m2' h8 tk8 hj hPv hn hx F8 N8
    have hj' : j < 64 := by rw [hsz] at hj; exact hj
    have hjo : j < (ord k).length := by rw [ho2]; exact hj'
    have hlt := ho1 (ord k)[j] (List.getElem_mem _)
    obtain ⟨T, u, u', e, hm⟩ := ht2 (ord k)[j] hlt
    have ev : v = .ref T := by
      rw [← e]
      have : ((ord k).map fun i => vs.getD i Value.none).toArray[j]? = some (vs.getD (ord k)[j] Value.none) := by simp [hjo]
      rw [this] at hPv; exact (Option.some.inj hPv).symm
    subst ev
    have hT8 := (N8 _ (.tail _ hm)).1
    have V' := V.comp (scope := { kind := .function, names := [(Str.ofString ".0", .local), (Str.ofString "pair", .local)], isGenerator := false, isCoroutine := false }) (C := C) (cl2 := [])
    with_reducible refine Subscript_ ?_
    (with_reducible refine' r_local ?V ?hn ?hv ?hx ?_); (case V => assumption); (case hx => kernel_rfl); (case hn => first | exact Fr.ns (by assumption) | assumption); (case hv => walk_at "mlk")
    with_reducible refine r_cint (fun _ => ?_)
    have hgo : (ord k).getD j 0 = (ord k)[j] := by simp [List.getD, hjo]
    refine item_tuple (j := 1) ⟨_, hT8, rfl, _, rfl⟩ (by decide) (by decide) rfl rfl ?_
    refine ⟨_, _, u', rfl, ?_, fun _ _ e => e⟩
    show Value.int _ u' = Value.int (((ord k).getD j 0 : Nat) : Int) u'
    rw [hgo]
  · intro ys hys D5 h9 tk9 F9 N9 o9
    refine H _ _ D5 _ F9.keep (isList_news (its := ys.toArray) (n := ys.length) N9 (.head _)) ?_
    have e : (List.range ((ord k).map fun i => vs.getD i Value.none).toArray.size).map (fun j => (((ord k).getD j 0 : Nat) : Int)) = ordI k := by
      rw [hsz]
      apply List.ext_getElem
      · simp [ordI, ho2]
      · intro j h1 h2
        have hjo : j < (ord k).length := by simpa [ordI] using h2
        simp [ordI, List.getD, hjo]
    rw [← e]; exact hys
end

end

section
theorem roomTop {env : Env} : Room (callerA.deeper env) 12 := ⟨rfl, by show callerA.depth + 1 + 12 < recursionLimit; decide, by show callerA.units + 3 + 8 * 12 < cLine; decide⟩
theorem gh (h : Heap) : ghostOf h [(136, 132), (129, 125)] = hide2 h := by
  show (h.hide 132).hide 125 = (h.hide 125).hide 132
  obtain ⟨objs, l⟩ := h
  show Heap.mk ((objs.modify 132 _).modify 125 _) l = Heap.mk ((objs.modify 125 _).modify 132 _) l
  congr 1
  apply Array.ext
  · simp
  · intro i h1 h2
    simp only [Array.getElem_modify]
    by_cases h3 : 125 = i <;> by_cases h4 : 132 = i <;> simp [h3, h4]
theorem top_go {prog : Program} {w : World} {q : Str} {scope : Scope} {L f : Addr} {c : Value} {body : List Stmt} {Q : Flow → Shared → Prop} {E : Value → Shared → Prop} {s : Shared}
    (H : ∀ env A, Ev env scope L (cellsFrom (L + 1) scope.names []) → Room A 12 → wpAny (model prog w) A (execs body env) Q NoE s) : wpAny (model prog w) (callerA.deeper (envOfC q scope L f c)) (execs body (envOfC q scope L f c)) Q E s :=
  wpAny_mono (H _ _ ⟨rfl, rfl, rfl, rfl, rfl⟩ roomTop) (fun _ _ h => h) fun _ _ e => e.elim
theorem g_sum (w : World) : nsIn (KF w) mainGlobals "sum" = some none ∧ bootBuiltins "sum" = some (.builtin "sum") ∧ ("sum" : Str) ≠ "__name__" := ⟨by kernel_rfl, by kernel_rfl, by decide⟩
theorem g_isinstance (w : World) : nsIn (KF w) mainGlobals "isinstance" = some none ∧ bootBuiltins "isinstance" = some (.builtin "isinstance") ∧ ("isinstance" : Str) ≠ "__name__" := ⟨by kernel_rfl, by kernel_rfl, by decide⟩
theorem g_vio (w : World) : nsIn (KF w) mainGlobals "_law_values_in_order" = some (some (.ref 111)) := by kernel_rfl
theorem g_read6 (w : World) : nsIn (KF w) mainGlobals "_law_read_sixes" = some (some (.ref 142)) := by kernel_rfl
theorem g_read4 (w : World) : nsIn (KF w) mainGlobals "_law_read_fours" = some (some (.ref 149)) := by kernel_rfl
theorem r_sum {prog : Program} {w : World} {A : Around} {E : Value → Shared → Prop} {b h : Heap} {g : Array GenState} {d : Drawn} {t : Nat} {o : OsState} {L a : Addr} {m : Str → Option Value} {news : List (Addr × Obj)} {its : Array Value} {ns : List Int} {Q : Value → Shared → Prop}
    (F : Fr b L h m) (N : News b L h news) (hh : A.handled = none) (hl : h.IsList a its) (hi : IntsAre its.toList ns) (H : ∀ h' t' tk, Fr b L h' m → News b L h' news → Q (.int ns.sum tk) ⟨h', g, d, t', o⟩) :
    wpAny (model prog w) A (call (.builtin "sum") [.ref a]) Q E ⟨h, g, d, t, o⟩ :=
  LSm.sum_ints (s := ⟨h, g, d, t, o⟩) (vs := its.toList) F N hh (by rw [Array.toArray_toList]; exact hl) hi H
theorem r_storeC {prog : Program} {w : World} {A : Around} {E : Value → Shared → Prop} {b h : Heap} {g : Array GenState} {d : Drawn} {t : Nat} {o : OsState} {L c : Addr} {cs : Scope} {cl : List (Str × Addr)} {env : Env} {x : Str} {v : Value} {v0 : Option Value} {oc : Obj} {m : Str → Option Value} {rest : List (Addr × Obj)} {Q : Unit → Shared → Prop}
    (V : Ev env cs L cl) (F : Fr b L h m) (N : News b L h ((c, oc) :: rest)) (hc : cl.lookup x = some c) (hd : oc.data = .cell v0) (hx : chk cs x .cell = true) (hne : ∀ p ∈ rest, p.1 ≠ c)
    (H : ∀ h' oc', Fr b L h' m → News b L h' ((c, oc') :: rest) → oc'.data = .cell (some v) → Q () ⟨h', g, d, t, o⟩) : wpAny (model prog w) A (storeName env x v) Q E ⟨h, g, d, t, o⟩ := by
  obtain ⟨h1, h2, h3⟩ := chk_all hx
  have hmem := N (c, oc) (.head _)
  refine wpAny_storeName_cell (by rw [V.scope]; exact h1) ((V.kind x).trans h2) (V.cells ▸ hc) ⟨oc, hmem.1, hd⟩ fun h' hv hs => ?_
  obtain ⟨o', ho', hd'⟩ := hv
  refine H h' o' ⟨F.ns.sameBut hs (Ne.symm hmem.2.1), fun b ob e => (hs.2 b (fun q => ?_)).trans (F.keep b ob e), F.above⟩ (fun p hp => ?_) hd'
  · rw [q, hmem.2.2] at e; cases e
  · rcases List.mem_cons.mp hp with rfl | hp
    · exact ⟨ho', hmem.2⟩
    · exact ⟨(hs.2 p.1 (hne p hp)).trans (N p (.tail _ hp)).1, (N p (.tail _ hp)).2⟩

end

section
theorem lexlt_app (p a b : List Int) : lexlt (p ++ a) (p ++ b) = lexlt a b := by
  induction p with
  | nil => rfl
  | cons x p ih => simp [lexlt, ih]
theorem lexlt_ne (x y : Int) (a b : List Int) (h : x ≠ y) : lexlt (x :: a) (y :: b) = decide (x < y) := by simp [lexlt, h]
theorem lexlt_self : ∀ a : List Int, lexlt a a = false
  | [] => rfl
  | x :: a => by simp [lexlt, lexlt_self a]
/-- no sign of the one lies under the other's -/
inductive Over : List Int → List Int → Prop
  | nil (a : List Int) : Over a a
  | cons {x y : Int} {a b : List Int} : y ≤ x → Over a b → Over (x :: a) (y :: b)
theorem lexlt_over {a b : List Int} (h : Over a b) : lexlt a b = false := by
  induction h with
  | nil a => exact lexlt_self a
  | cons hxy _ ih =>
    rename_i x y a b _
    unfold lexlt
    by_cases e : x = y
    · rw [if_pos e]; exact ih
    · rw [if_neg e]; exact decide_eq_false (by (first | lia | omega))
/-- the octets of the values, four by four -/
noncomputable def dec : List Int → List Int
  | a :: b :: c :: d :: l => (a * 4 + b / 16) :: (b % 16 * 16 + c / 4) :: (c % 4 * 64 + d) :: dec l
  | [a, b, c] => [a * 4 + b / 16, b % 16 * 16 + c / 4, c % 4 * 64]
  | [a, b] => [a * 4 + b / 16, b % 16 * 16, 0]
  | [a] => [a * 4, 0, 0]
  | [] => []
theorem grp_succ (a b c d : Int) (l : List Int) (j : Nat) : grp (a :: b :: c :: d :: l) (j + 1) = grp l j := by
  unfold grp
  have e : ∀ i, (a :: b :: c :: d :: l).getD (4 * (j + 1) + i) 0 = l.getD (4 * j + i) 0 := by
    intro i
    have : 4 * (j + 1) + i = (4 * j + i) + 4 := by (first | lia | omega)
    rw [this]; rfl
  have e0 := e 0
  simp only [Nat.add_zero] at e0
  rw [e 1, e 2, e 3, e0]
theorem octs_dec : ∀ vals : List Int, octs vals ((vals.length + 3) / 4) = dec vals
  | a :: b :: c :: d :: l => by
    have ih := octs_dec l
    have e : ((a :: b :: c :: d :: l).length + 3) / 4 = (l.length + 3) / 4 + 1 := by simp only [List.length_cons]; (first | lia | omega)
    rw [e]
    unfold octs at ih ⊢
    rw [List.range_succ_eq_map, List.flatMap_cons, List.flatMap_map]
    have e2 : (List.range ((l.length + 3) / 4)).flatMap (fun j => grp ((a :: b :: c :: d :: l) ++ [0, 0, 0]) (Nat.succ j)) = dec l := by
      rw [← ih]
      simp only [List.cons_append, Nat.succ_eq_add_one, grp_succ]
    rw [e2]
    rfl
  | [a, b, c] => by simp [octs, grp, dec, List.range_succ]
  | [a, b] => by simp [octs, grp, dec, List.range_succ]
  | [a] => by simp [octs, grp, dec, List.range_succ]
  | [] => rfl
theorem dv {x d k : Int} (d0 : 0 ≤ d) (d1 : d < k) : (x * k + d) / k = x := by
  have hk : 0 < k := Int.lt_of_le_of_lt d0 d1
  rw [Int.add_comm, Int.add_mul_ediv_right _ _ (Int.ne_of_gt hk), Int.ediv_eq_zero_of_lt d0 d1, Int.zero_add]
theorem md {x d k : Int} (d0 : 0 ≤ d) (d1 : d < k) : (x * k + d) % k = d := by
  rw [Int.add_comm, Int.add_mul_emod_self_right, Int.emod_eq_of_lt d0 d1]
theorem dm (x k : Int) : x / k * k + x % k = x := by rw [Int.mul_comm, Int.mul_ediv_add_emod]
theorem le_dv {x k : Int} (h : 0 ≤ x) (hk : 0 ≤ k) : 0 ≤ x / k := Int.ediv_nonneg h hk
theorem dec_enc : ∀ ks : List Int, (∀ c ∈ ks, 0 ≤ c ∧ c < 256) → (dec (encS 0 0 ks)).take ks.length = ks
  | a :: b :: c :: l, h => by
    have ha := h a (by simp)
    have hb := h b (by simp)
    have hc := h c (by simp)
    have ih := dec_enc l (fun x hx => h x (by simp [hx]))
    simp only [encS, dec, List.length_cons, List.take_succ_cons, ih]
    have b1 : b / 16 < 16 := by (first | lia | omega)
    have c1 : c / 64 < 4 := by (first | lia | omega)
    rw [dv (le_dv hb.1 (by decide)) b1, md (le_dv hb.1 (by decide)) b1, dv (le_dv hc.1 (by decide)) c1, md (le_dv hc.1 (by decide)) c1, dm, dm, dm]
  | [a, b], h => by
    have ha := h a (by simp)
    have hb := h b (by simp)
    simp only [encS, dec, List.length_cons, List.length_nil, List.take_succ_cons, List.take_zero]
    have b1 : b / 16 < 16 := by (first | lia | omega)
    have e : b % 16 * 4 / 4 = b % 16 := Int.mul_ediv_cancel _ (by decide)
    rw [dv (le_dv hb.1 (by decide)) b1, md (le_dv hb.1 (by decide)) b1, e, dm, dm]
  | [a], h => by
    have ha := h a (by simp)
    simp only [encS, dec, List.length_cons, List.length_nil, List.take_succ_cons, List.take_zero]
    congr 1
    omega
  | [], _ => rfl
/-- what the last value's spare bits weigh -/
noncomputable def dvs (n : Nat) : Int := if n % 3 = 0 then 1 else if n % 3 = 1 then 16 else 4
theorem enc_info : ∀ ks : List Int, (∀ c ∈ ks, 0 ≤ c ∧ c < 256) → (encS 0 0 ks).length = (4 * ks.length + 2) / 3 ∧ (∀ v ∈ encS 0 0 ks, 0 ≤ v ∧ v < 64) ∧ ∀ v, (encS 0 0 ks).getLast? = some v → v % dvs ks.length = 0
  | a :: b :: c :: l, h => by
    have ha := h a (by simp)
    have hb := h b (by simp)
    have hc := h c (by simp)
    obtain ⟨i1, i2, i3⟩ := enc_info l (fun x hx => h x (by simp [hx]))
    simp only [encS]
    refine ⟨?_, ?_, ?_⟩
    · simp only [List.length_cons, i1]; (first | lia | omega)
    · intro v hv
      simp only [List.mem_cons] at hv
      rcases hv with rfl | rfl | rfl | rfl | hv
      · (first | lia | omega)
      · (first | lia | omega)
      · (first | lia | omega)
      · (first | lia | omega)
      · exact i2 v hv
    · intro v hv
      have e : dvs (a :: b :: c :: l).length = dvs l.length := by
        show dvs (l.length + 3) = _
        unfold dvs; simp
      rw [e]
      cases q : encS 0 0 l with
      | nil =>
        have : l = [] := by
          cases l with
          | nil => rfl
          | cons x l => simp [encS] at q
        subst this
        unfold dvs; simp
      | cons x r =>
        apply i3 v
        rw [q] at hv ⊢
        simpa [List.getLast?_cons_cons] using hv
  | [a, b], h => by
    have ha := h a (by simp)
    have hb := h b (by simp)
    simp [encS, dvs]
    (first | lia | omega)
  | [a], h => by
    have ha := h a (by simp)
    simp [encS, dvs]
    (first | lia | omega)
  | [], _ => by simp [encS]
theorem enc_dec : ∀ (T : List Int) (n : Nat), T.length = (4 * n + 2) / 3 → (∀ v ∈ T, 0 ≤ v ∧ v < 64) → (∀ v, T.getLast? = some v → v % dvs n = 0) → encS 0 0 ((dec T).take n) = T ∧ ((dec T).take n).length = n
  | a :: b :: c :: d :: l, n, hl, h, hd => by
    have ha := h a (by simp)
    have hb := h b (by simp)
    have hc := h c (by simp)
    have hd' := h d (by simp)
    simp only [List.length_cons] at hl
    obtain ⟨m, rfl⟩ : ∃ m, n = m + 3 := ⟨n - 3, by omega⟩
    have e : dvs (m + 3) = dvs m := by unfold dvs; simp
    obtain ⟨i1, i2⟩ := enc_dec l m (by omega) (fun x hx => h x (by simp [hx])) (fun v hv => by
      rw [← e]; apply hd
      cases l with
      | nil => simp at hv
      | cons x r => simpa [List.getLast?_cons_cons] using hv)
    refine ⟨?_, ?_⟩
    · simp only [dec, List.take_succ_cons, encS, i1]
      have b1 : b / 16 < 4 := by (first | lia | omega)
      have c1 : c / 4 < 16 := by (first | lia | omega)
      rw [dv (le_dv hb.1 (by decide)) b1, md (le_dv hb.1 (by decide)) b1, dv (le_dv hc.1 (by decide)) c1, md (le_dv hc.1 (by decide)) c1, dv hd'.1 hd'.2, md hd'.1 hd'.2, dm, dm]
    · simp only [dec, List.take_succ_cons, List.length_cons, i2]
  | [a, b, c], n, hl, h, hd => by
    have ha := h a (by simp)
    have hb := h b (by simp)
    have hc := h c (by simp)
    simp only [List.length_cons, List.length_nil] at hl
    obtain rfl : n = 2 := by omega
    have hc2 := hd c (by simp)
    simp only [dvs] at hc2
    simp [dec, encS]
    simp at hc2
    omega
  | [a, b], n, hl, h, hd => by
    have ha := h a (by simp)
    have hb := h b (by simp)
    simp only [List.length_cons, List.length_nil] at hl
    obtain rfl : n = 1 := by omega
    have hc2 := hd b (by simp)
    simp [dvs] at hc2
    simp [dec, encS]
    omega
  | [a], n, hl, h, hd => by
    simp only [List.length_cons, List.length_nil] at hl
    omega
  | [], n, hl, h, hd => by
    simp only [List.length_nil] at hl
    obtain rfl : n = 0 := by omega
    simp [dec, encS]
/-- a row of values in the order of their signs -/
structure Good (k : Nat) (d : Int) (c : List Int) : Prop where
  mem : ∀ v ∈ c, 0 ≤ v ∧ v < 64 ∧ v % d = 0
  has : ∀ v : Int, 0 ≤ v → v < 64 → v % d = 0 → v ∈ c
  inc : c.Pairwise fun a b => sg k a < sg k b
  pos : 0 < c.length ∧ c.length ≤ 64
noncomputable def lastOf (k : Nat) (d : Int) : List Int := (ordI k).filter fun v => v % d == 0
noncomputable def goodB (k : Nat) (d : Int) (c : List Int) : Bool :=
  c.all (fun v => decide (0 ≤ v ∧ v < 64 ∧ v % d = 0)) && (List.range 64).all (fun i => decide (((i : Int) % d = 0) → (i : Int) ∈ c)) && decide (c.Pairwise fun a b => sg k a < sg k b) && decide (0 < c.length ∧ c.length ≤ 64)
theorem good_of {k : Nat} {d : Int} {c : List Int} (h : goodB k d c = true) : Good k d c := by
  simp only [goodB, Bool.and_eq_true, List.all_eq_true, decide_eq_true_eq] at h
  obtain ⟨⟨⟨h1, h2⟩, h3⟩, h4⟩ := h
  refine ⟨h1, fun v v0 v1 hd => ?_, h3, h4⟩
  have := h2 v.toNat (List.mem_range.mpr (by (first | lia | omega)))
  rw [Int.toNat_of_nonneg v0] at this
  exact this hd
theorem last_one (k : Nat) (hk : k < 5) : lastOf k 1 = ordI k := by
  rcases (by (first | lia | omega) : k = 0 ∨ k = 1 ∨ k = 2 ∨ k = 3 ∨ k = 4) with rfl | rfl | rfl | rfl | rfl <;> decide +kernel
theorem good_last {k n : Nat} (hk : k < 5) : Good k (dvs n) (lastOf k (dvs n)) := by
  apply good_of
  unfold dvs
  split
  · rcases (by (first | lia | omega) : k = 0 ∨ k = 1 ∨ k = 2 ∨ k = 3 ∨ k = 4) with rfl | rfl | rfl | rfl | rfl <;> decide +kernel
  split
  · rcases (by (first | lia | omega) : k = 0 ∨ k = 1 ∨ k = 2 ∨ k = 3 ∨ k = 4) with rfl | rfl | rfl | rfl | rfl <;> decide +kernel
  · rcases (by (first | lia | omega) : k = 0 ∨ k = 1 ∨ k = 2 ∨ k = 3 ∨ k = 4) with rfl | rfl | rfl | rfl | rfl <;> decide +kernel
theorem good_ord {k : Nat} (hk : k < 5) : Good k 1 (ordI k) := by
  have := good_last (n := 0) hk
  have e : dvs 0 = 1 := rfl
  rw [e, last_one k hk] at this
  exact this
/-- at each place a value out of its row -/
inductive Fits (k : Nat) : List (List Int) → List Int → Prop
  | nil : Fits k [] []
  | cons {d : Int} {c : List Int} {t : Int} {cs : List (List Int)} {ts : List Int} : Good k d c → t ∈ c → Fits k cs ts → Fits k (c :: cs) (t :: ts)
theorem Fits.len {k : Nat} {cs : List (List Int)} {ts : List Int} (h : Fits k cs ts) : ts.length = cs.length := by
  induction h with
  | nil => rfl
  | cons _ _ _ ih => simp [ih]
theorem Fits.range {k : Nat} {cs : List (List Int)} {ts : List Int} (h : Fits k cs ts) : ∀ v ∈ ts, 0 ≤ v ∧ v < 64 := by
  induction h with
  | nil => intro v hv; cases hv
  | cons G hm _ ih =>
    intro v hv
    rcases List.mem_cons.mp hv with rfl | hv
    · exact ⟨(G.mem _ hm).1, (G.mem _ hm).2.1⟩
    · exact ih v hv
theorem Fits.row {k : Nat} {cs : List (List Int)} {ts : List Int} (h : Fits k cs ts) : ∀ c ∈ cs, c.length ≤ 100 ∧ 0 < c.length ∧ ∀ v ∈ c, 0 ≤ v ∧ v < 64 := by
  induction h with
  | nil => intro v hv; cases hv
  | cons G hm _ ih =>
    intro c hc
    rcases List.mem_cons.mp hc with rfl | hc
    · exact ⟨by have := G.pos.2; (first | lia | omega), G.pos.1, fun v hv => ⟨(G.mem _ hv).1, (G.mem _ hv).2.1⟩⟩
    · exact ih c hc
theorem Fits.at {k : Nat} {cs : List (List Int)} {ts : List Int} (h : Fits k cs ts) : ∀ i (hi : i < cs.length), (∃ d, Good k d cs[i]) ∧ ts.getD i 0 ∈ cs[i] := by
  induction h with
  | nil => intro i hi; cases hi
  | cons G hm _ ih =>
    intro i hi
    cases i with
    | zero => exact ⟨⟨_, G⟩, hm⟩
    | succ i => exact ih i (by simpa using hi)
theorem Fits.drop {k : Nat} {cs : List (List Int)} {ts : List Int} (h : Fits k cs ts) : ∀ i, Fits k (cs.drop i) (ts.drop i) := by
  induction h with
  | nil => intro i; simp; exact .nil
  | cons G hm h' ih =>
    intro i
    cases i with
    | zero => exact .cons G hm h'
    | succ i => exact ih i
theorem Fits.splice {k : Nat} {cs : List (List Int)} {ts : List Int} (h : Fits k cs ts) : ∀ i us, i ≤ cs.length → Fits k (cs.drop i) us → Fits k cs (ts.take i ++ us) := by
  induction h with
  | nil => intro i us _ hu; simpa using hu
  | cons G hm h' ih =>
    intro i us hi hu
    cases i with
    | zero => exact hu
    | succ i => exact .cons G hm (ih i us (by simpa using hi) hu)
theorem Good.head {k : Nat} {d : Int} {c : List Int} (G : Good k d c) : c.getD 0 0 ∈ c ∧ ∀ t ∈ c, sg k (c.getD 0 0) ≤ sg k t := by
  obtain ⟨_, _, inc, pos⟩ := G
  cases c with
  | nil => simp at pos
  | cons x c =>
    refine ⟨by simp, fun t ht => ?_⟩
    rcases List.mem_cons.mp ht with rfl | ht
    · exact Int.le_refl _
    · exact Int.le_of_lt ((List.pairwise_cons.mp inc).1 t ht)
theorem Fits.heads {k : Nat} {cs : List (List Int)} {ts : List Int} (h : Fits k cs ts) : Fits k cs (heads cs) := by
  induction h with
  | nil => exact .nil
  | cons G hm h' ih => exact .cons G G.head.1 ih
theorem Fits.over {k : Nat} {cs : List (List Int)} {ts : List Int} (h : Fits k cs ts) (p : List Int) : Over (ts.map (sg k) ++ p) ((Mine.heads cs).map (sg k) ++ p) := by
  induction h with
  | nil => exact .nil _
  | cons G hm h' ih => exact .cons (G.head.2 _ hm) ih
theorem Fits.last {k : Nat} {B : List Int} : ∀ {cs : List (List Int)} {ts : List Int}, Fits k (cs ++ [B]) ts → ∀ v, ts.getLast? = some v → v ∈ B
  | [], _, .cons _ hm .nil, v, hv => by
    simp at hv; subst hv; exact hm
  | c :: cs, t :: ts, .cons _ hm h', v, hv => by
    have hl := h'.len
    refine Fits.last h' v ?_
    cases ts with
    | nil => simp at hl
    | cons x r => simpa [List.getLast?_cons_cons] using hv
theorem fits_rep {k : Nat} {d d2 : Int} {A B : List Int} (GA : Good k d A) (GB : Good k d2 B) : ∀ (m : Nat) (ts : List Int), ts.length = m + 1 → (∀ v ∈ ts, v ∈ A) → (∀ v, ts.getLast? = some v → v ∈ B) → Fits k (List.replicate m A ++ [B]) ts
  | 0, [t], _, _, hB => .cons GB (hB t (by simp)) .nil
  | m + 1, t :: ts, hl, hA, hB => by
    rw [List.replicate_succ]
    refine .cons GA (hA t (by simp)) (fits_rep GA GB m ts (by simpa using hl) (fun v hv => hA v (by simp [hv])) fun v hv => ?_)
    apply hB
    cases ts with
    | nil => simp at hv
    | cons x r => simpa [List.getLast?_cons_cons] using hv
/-- the rows of values, one for each place -/
noncomputable def chsOf (k n : Nat) : List (List Int) := List.replicate ((4 * n + 2) / 3 - 1) (ordI k) ++ [lastOf k (dvs n)]
theorem fits_enc {k : Nat} {hid : List Int} (hk : k < 5) (hr : ∀ c ∈ hid, 0 ≤ c ∧ c < 256) (hn : 1 ≤ hid.length) : Fits k (chsOf k hid.length) (encS 0 0 hid) := by
  obtain ⟨i1, i2, i3⟩ := enc_info hid hr
  refine fits_rep (good_ord hk) (good_last hk) _ _ (by (first | lia | omega)) (fun v hv => (good_ord hk).has v (i2 v hv).1 (i2 v hv).2 (by (first | lia | omega))) fun v hv => ?_
  have hm := i2 v (List.mem_of_getLast? hv)
  exact (good_last hk).has v hm.1 hm.2 (i3 v hv)
theorem wr_dec {k n : Nat} (hk : k < 5) (hn : 1 ≤ n) {T : List Int} (h : Fits k (chsOf k n) T) : wr k ((octs T ((T.length + 3) / 4)).take ((n : Int)).toNat) = T.map (sg k) ++ List.replicate (padN n) 61 := by
  have hlast : ∀ v, T.getLast? = some v → v % dvs n = 0 := fun v hv => ((good_last (n := n) hk).mem v (Fits.last (k := k) h v hv)).2.2
  have hlen : T.length = (4 * n + 2) / 3 := by rw [h.len]; unfold chsOf; simp; (first | lia | omega)
  obtain ⟨e1, e2⟩ := enc_dec T n hlen h.range hlast
  rw [octs_dec, Int.toNat_natCast]
  unfold wr
  rw [e1, e2]
theorem plain6 {k : Nat} {hid : List Int} (hk : k < 5) (hr : ∀ c ∈ hid, 0 ≤ c ∧ c < 256) (hn : 1 ≤ hid.length) :
    ∀ i (hi : i < (chsOf k hid.length).length), ∃ r : Nat, 1 ≤ r ∧ r ≤ (chsOf k hid.length)[i].length ∧ (∀ j (hj : j < (chsOf k hid.length)[i].length),
      lexlt (wr k hid) (key6 k (hid.length : Int) ((encS 0 0 hid).take i) (heads ((chsOf k hid.length).drop (i + 1))) (chsOf k hid.length)[i][j]) = decide (r ≤ j)) ∧
      (chsOf k hid.length)[i].getD (r - 1) 0 = (encS 0 0 hid).getD i 0 := by
  have Ft := fits_enc hk hr hn
  have htl := Ft.len
  unfold wr
  generalize encS 0 0 hid = truth at Ft htl ⊢
  intro i hi
  obtain ⟨⟨d, G⟩, hm⟩ := Ft.at i hi
  have hti : i < truth.length := by (first | lia | omega)
  have eg : truth.getD i 0 = truth[i] := by simp [List.getD, hti]
  rw [eg] at hm ⊢
  obtain ⟨q, hq, e⟩ := List.mem_iff_getElem.mp hm
  refine ⟨q + 1, by (first | lia | omega), by (first | lia | omega), fun j hj => ?_, by simp [List.getD, hq, e]⟩
  have hmj : (chsOf k hid.length)[i][j] ∈ (chsOf k hid.length)[i] := List.getElem_mem _
  have hinc := List.pairwise_iff_getElem.mp G.inc
  have key : Fits k (chsOf k hid.length) (truth.take i ++ (chsOf k hid.length)[i][j] :: heads ((chsOf k hid.length).drop (i + 1))) := by
    refine Ft.splice i _ (by (first | lia | omega)) ?_
    rw [List.drop_eq_getElem_cons hi]
    exact .cons G hmj (Ft.drop (i + 1)).heads
  have ek : key6 k (hid.length : Int) (truth.take i) (heads ((chsOf k hid.length).drop (i + 1))) (chsOf k hid.length)[i][j] = (truth.take i).map (sg k) ++ (sg k (chsOf k hid.length)[i][j] :: ((heads ((chsOf k hid.length).drop (i + 1))).map (sg k) ++ List.replicate (padN hid.length) 61)) := by
    unfold key6
    rw [List.append_assoc, List.singleton_append, wr_dec hk hn key]
    simp
  have et : truth.map (sg k) = (truth.take i).map (sg k) ++ (sg k truth[i] :: (truth.drop (i + 1)).map (sg k)) := by
    have : truth = truth.take i ++ truth[i] :: truth.drop (i + 1) := by
      rw [← List.drop_eq_getElem_cons hti, List.take_append_drop]
    conv => lhs; rw [this]
    rw [List.map_append, List.map_cons]
  rw [ek, et, List.append_assoc, lexlt_app, List.cons_append]
  rcases Nat.lt_trichotomy j q with hjq | rfl | hjq
  · have := hinc j q hj hq hjq
    rw [e] at this
    rw [lexlt_ne _ _ _ _ (by (first | lia | omega))]
    exact decide_eq_decide.mpr (by (first | lia | omega))
  · rw [e]
    have ov := lexlt_over (Over.cons (Int.le_refl (sg k truth[i])) ((Ft.drop (i + 1)).over (List.replicate (padN hid.length) 61)))
    rw [ov]
    exact (decide_eq_false (by (first | lia | omega))).symm
  · have := hinc q j hq hj hjq
    rw [e] at this
    rw [lexlt_ne _ _ _ _ (by (first | lia | omega))]
    exact decide_eq_decide.mpr (by (first | lia | omega))
/-- the figures of the octets -/
noncomputable def figs (ks : List Int) : List Int := ks.flatMap fun c => [c / 16, c % 16]
theorem figs_len : ∀ ks : List Int, (figs ks).length = 2 * ks.length
  | [] => rfl
  | c :: l => by
    have := figs_len l
    unfold figs at this ⊢
    rw [List.flatMap_cons, List.length_append, this]; simp; (first | lia | omega)
theorem figs_in {ks : List Int} (h : ∀ c ∈ ks, 0 ≤ c ∧ c < 256) : ∀ v ∈ figs ks, 0 ≤ v ∧ v < 16 := by
  intro v hv
  obtain ⟨c, hc, hv⟩ := List.mem_flatMap.mp hv
  have := h c hc
  simp only [List.mem_cons, List.not_mem_nil, or_false] at hv
  rcases hv with rfl | rfl <;> (first | lia | omega)
theorem hx_figs (ks : List Int) : hx ks = (figs ks).map HX := by
  unfold hx figs
  rw [List.map_flatMap]
  rfl
theorem fours_cons (a b : Int) (l : List Int) (n : Nat) : fours (a :: b :: l) (n + 1) = (a * 16 + b) :: fours l n := by
  unfold fours
  rw [List.range_succ_eq_map, List.map_cons, List.map_map]
  congr 1
theorem figs_fours : ∀ (n : Nat) (T : List Int), T.length = 2 * n → (∀ v ∈ T, 0 ≤ v ∧ v < 16) → figs (fours T n) = T
  | 0, [], _, _ => rfl
  | n + 1, [a], hl, _ => by simp at hl; (first | lia | omega)
  | n + 1, a :: b :: l, hl, h => by
    have ha := h a (by simp)
    have hb := h b (by simp)
    have ih := figs_fours n l (by simp at hl; (first | lia | omega)) (fun v hv => h v (by simp [hv]))
    rw [fours_cons]
    unfold figs at ih ⊢
    rw [List.flatMap_cons, ih]
    have e1 : (a * 16 + b) / 16 = a := by (first | lia | omega)
    have e2 : (a * 16 + b) % 16 = b := by (first | lia | omega)
    rw [e1, e2]; rfl
theorem fours_figs : ∀ ks : List Int, (∀ c ∈ ks, 0 ≤ c ∧ c < 256) → fours (figs ks) ks.length = ks
  | [], _ => rfl
  | c :: l, h => by
    have hc := h c (by simp)
    have ih := fours_figs l (fun v hv => h v (by simp [hv]))
    have e : figs (c :: l) = c / 16 :: c % 16 :: figs l := rfl
    rw [e, List.length_cons, fours_cons, ih]
    congr 1
    (first | lia | omega)
theorem HX_lt {a b : Int} (_ : 0 ≤ a) (_ : b < 16) (h : a < b) : HX a < HX b := by
  unfold HX
  split <;> split <;> (first | lia | omega)
theorem over_rep : ∀ ts : List Int, (∀ v ∈ ts, 0 ≤ v ∧ v < 16) → Over ((List.replicate ts.length 15).map HX) (ts.map HX)
  | [], _ => .nil _
  | t :: ts, h => by
    have ht := h t (by simp)
    rw [List.length_cons, List.replicate_succ, List.map_cons, List.map_cons]
    refine .cons ?_ (over_rep ts fun v hv => h v (by simp [hv]))
    by_cases e : t = 15
    · rw [e]; exact Int.le_refl _
    · exact Int.le_of_lt (HX_lt ht.1 (by decide) (by (first | lia | omega)))
theorem plain4 {hid : List Int} (hr : ∀ c ∈ hid, 0 ≤ c ∧ c < 256) :
    ∀ i (hi : i < (figs hid).length), ∀ j : Nat, j < 16 → lexlt (key4 hid.length ((figs hid).take i) (List.replicate ((figs hid).length - 1 - i) 15) (j : Int)) (hx hid) = decide ((j : Int) < (figs hid)[i]) := by
  rw [hx_figs]
  have hl := figs_len hid
  have hin := figs_in hr
  generalize figs hid = truth at hl hin ⊢
  intro i hi j hj
  have ht := hin truth[i] (List.getElem_mem _)
  have ek : key4 hid.length (truth.take i) (List.replicate (truth.length - 1 - i) 15) (j : Int) = (truth.take i).map HX ++ (HX (j : Int) :: (List.replicate (truth.length - 1 - i) 15).map HX) := by
    unfold key4
    rw [hx_figs, figs_fours]
    · simp
    · simp; (first | lia | omega)
    · intro v hv
      simp only [List.mem_append, List.mem_singleton] at hv
      rcases hv with (hv | rfl) | hv
      · exact hin v (List.mem_of_mem_take hv)
      · (first | lia | omega)
      · rw [(List.mem_replicate.mp hv).2]; decide
  have et : truth.map HX = (truth.take i).map HX ++ (HX truth[i] :: (truth.drop (i + 1)).map HX) := by
    have : truth = truth.take i ++ truth[i] :: truth.drop (i + 1) := by
      rw [← List.drop_eq_getElem_cons hi, List.take_append_drop]
    conv => lhs; rw [this]
    rw [List.map_append, List.map_cons]
  rw [ek, et, lexlt_app]
  rcases Int.lt_trichotomy (j : Int) truth[i] with h | h | h
  · have := HX_lt (by (first | lia | omega)) ht.2 h
    rw [lexlt_ne _ _ _ _ (by (first | lia | omega))]
    exact decide_eq_decide.mpr (by (first | lia | omega))
  · rw [← h]
    have e : truth.length - 1 - i = (truth.drop (i + 1)).length := by simp; (first | lia | omega)
    rw [e]
    rw [lexlt_over (Over.cons (Int.le_refl _) (over_rep _ fun v hv => hin v (List.mem_of_mem_drop hv)))]
    exact (decide_eq_false (by (first | lia | omega))).symm
  · have := HX_lt ht.1 (by (first | lia | omega)) h
    rw [lexlt_ne _ _ _ _ (by (first | lia | omega))]
    exact decide_eq_decide.mpr (by (first | lia | omega))
theorem wr_tail (k : Nat) {hid : List Int} (hr : ∀ c ∈ hid, 0 ≤ c ∧ c < 256) : (wr k hid).drop ((4 * hid.length + 2) / 3) = List.replicate (padN hid.length) 61 := by
  have := (enc_info hid hr).1
  unfold wr
  rw [← this, ← List.length_map (as := encS 0 0 hid) (f := sg k), List.drop_left]
theorem wr_len (k : Nat) {hid : List Int} (hr : ∀ c ∈ hid, 0 ≤ c ∧ c < 256) : (wr k hid).length = (4 * hid.length + 2) / 3 + padN hid.length := by
  have := (enc_info hid hr).1
  unfold wr
  rw [List.length_append, List.length_map, this, List.length_replicate]
theorem pad_eq (n : Nat) : ((-(n : Int)) % 3).toNat = padN n := by unfold padN; split <;> (try split) <;> (first | lia | omega)
theorem back6 {hid : List Int} (hr : ∀ c ∈ hid, 0 ≤ c ∧ c < 256) : (octs (encS 0 0 hid) (((encS 0 0 hid).length + 3) / 4)).take ((hid.length : Int)).toNat = hid := by
  rw [octs_dec, Int.toNat_natCast]
  exact dec_enc hid hr

end

section
section rules
variable {prog : Program} {w : World} {A : Around} {E : Value → Shared → Prop} {b h : Heap} {g : Array GenState} {d : Drawn} {t : Nat} {o : OsState}
  {L a a2 : Addr} {m : Str → Option Value} {news : List (Addr × Obj)} {env : Env} {s : Shared} {cl : List (Str × Addr)}
  {x : Str} {pos : Pos} {elt ct : Expr} {scope : Scope} {Q : Value → Shared → Prop}
theorem r_isinstB {by_ : Array UInt8} {tb : Tok} (H : Q (.bool true) ⟨h, g, d, t, o⟩) : wpAny (model prog w) A (call (.builtin "isinstance") [.bytes by_ tb, .type "bytes"]) Q E ⟨h, g, d, t, o⟩ :=
  call_isinstance_yes (Tx := "bytes") rfl PySem.F.isi_meta_bytes (by rw [isSubtype_type]; kernel_rfl) H
theorem r_isinstB0 {by_ : Array UInt8} {tb : Tok} (H : Q (.bool true) ⟨h, g, d, t, o⟩) : wpAny (model prog w) A (call (.builtin "isinstance") ([] ++ [.bytes by_ tb, .type "bytes"])) Q E ⟨h, g, d, t, o⟩ := r_isinstB H
theorem r_neL {its its2 : Array Value} {ns ms : List Int} (R : Room A 9) (hl : h.IsList a its) (hl2 : h.IsList a2 its2) (hi : IntsAre its.toList ns) (hj : IntsAre its2.toList ms) (e : ns = ms) (H : Q (.bool false) ⟨h, g, d, t, o⟩) :
    wpAny (model prog w) A (compareOp .NotEq (.ref a) (.ref a2)) Q E ⟨h, g, d, t, o⟩ := by
  refine ke_ne_ints (xs := its.toList) (ys := its2.toList) (by simpa using hl) (by simpa using hl2) hi hj (by have := R.un; (first | lia | omega)) ?_
  rw [decide_eq_true e]; exact H
theorem bInts_inj {b1 b2 : Array UInt8} (e : KBw.bInts b1 = KBw.bInts b2) : b1.toList = b2.toList := by
  rw [bInts_eq, bInts_eq] at e
  have inj : Function.Injective (fun x : UInt8 => (x.toNat : Int)) := fun x y q => UInt8.toNat_inj.mp (by have : (x.toNat : Int) = y.toNat := q; (first | lia | omega))
  exact (List.map_inj_right fun x y q => inj q).mp e
theorem r_eqB {b1 b2 : Array UInt8} {t1 t2 : Tok} {ks : List Int} (h1 : KBw.bInts b1 = ks) (h2 : KBw.bInts b2 = ks) (H : Q (.bool true) ⟨h, g, d, t, o⟩) : wpAny (model prog w) A (compareOp .Eq (.bytes b1 t1) (.bytes b2 t2)) Q E ⟨h, g, d, t, o⟩ := by
  refine PySem.W.eq_bytes ?_
  rw [bInts_inj (h1.trans h2.symm), beq_self_eq_true]; exact H
theorem src_of {its : Array Value} (F : Fr b L h m) (hl : h.IsList a its) : ∃ tn, News b L h tn ∧ SrcAt b a its tn ∧ ∀ p ∈ tn, p.1 = a := by
  obtain ⟨ob, e, hc, n, hd⟩ := hl
  cases q : b.get? a with
  | some o2 =>
    have := F.keep _ _ q
    rw [e] at this; cases this
    exact ⟨[], News.nil, .inl ⟨ob, q, hc, n, hd⟩, fun p hp => nomatch hp⟩
  | none =>
    refine ⟨[(a, ob)], fun p hp => ?_, .inr ⟨ob, .head _, hc, n, hd⟩, fun p hp => by rw [List.mem_singleton.mp hp]⟩
    rw [List.mem_singleton.mp hp]
    refine ⟨e, ?_, q⟩
    rintro rfl
    obtain ⟨oL, es, ep, eL, hLd, _⟩ := F.ns
    rw [e] at eL; cases eL
    rw [hd] at hLd; cases hLd
theorem src_mono {its : Array Value} {news' : List (Addr × Obj)} (x : SrcAt b a its news) (hs : ∀ p ∈ news, p ∈ news') : SrcAt b a its news' := x.imp id fun ⟨ob, hm, r⟩ => ⟨ob, hs _ hm, r⟩
theorem r_testCall {f : Expr} {args : List Expr} {kws : List Keyword} {whole : Sem Value} {QB : Bool → Shared → Prop} (H : wpAny (model prog w) A whole (fun v s₁ => wpAny (model prog w) A (truthy v) QB E s₁) E ⟨h, g, d, t, o⟩) :
    wpAny (model prog w) A (isTrue (.Call f args kws pos) env whole) QB E ⟨h, g, d, t, o⟩ := isTrue_plain H
theorem sliceI {its : Array Value} {ns : List Int} {x : Int} {n : Nat} (hi : IntsAre its.toList ns) (hx : x = (n : Int)) : IntsAre (slicePick its (some x) none none).toList (ns.drop n) := by
  subst hx
  have := kmk_from (vs := its.toList) (x := (n : Int)) hi (by (first | lia | omega))
  simpa using this
theorem hx_len (ks : List Int) : (hx ks).length = 2 * ks.length := by rw [hx_figs, List.length_map, figs_len]
/-- one turn's test -/
noncomputable def TestIs (prog : Program) (w : World) (A : Around) (b : Heap) (L : Addr) (m : Str → Option Value) (env : Env) (ct : Expr) (x : Str) (scope : Scope) (cl : List (Str × Addr)) (s : Shared) (P : Nat → Value → Prop) (n : Nat) (p : Nat → Bool) (news : List (Addr × Obj)) : Prop :=
  ∀ (i : Nat) v C m₂ h tk all, i < n → P i v → h.Ns C m₂ → m₂ x = some v → Fr b L h m → News b L h all → (∀ p ∈ news, p ∈ all) →
    wpAny (model prog w) A (isTrue ct (compEnvC scope cl C env) (eval ct (compEnvC scope cl C env))) (fun y s₂ => ∃ h' tk', s₂ = { s with heap := h', toks := tk' } ∧ y = p i ∧ Fr b L h' m ∧ News b L h' all) NoE { s with heap := h, toks := tk }
theorem compRestT_of {S : List (Addr × Obj) → Prop} {P : Nat → Value → Prop} {Fin : List Value → List (Addr × Obj) → Prop} {n : Nat} (f : Nat → Int) (p : Nat → Bool) (hS : S news)
    (ht : TestIs prog w A b L m env ct x scope cl s P n p news)
    (he : EltInt prog w A b L m env elt x scope cl s P n f news) (fin : ∀ ys, IntsAre ys (((List.range n).filter p).map f) → Fin ys news) : LCt.CompRestT prog w A b L m env ct elt x scope cl s S P Fin n 0 [] news := by
  have key : ∀ (k i : Nat) (ys : List Value), i + k = n → IntsAre ys (((List.range i).filter p).map f) → LCt.CompRestT prog w A b L m env ct elt x scope cl s S P Fin k i ys news := by
    intro k
    induction k with
    | zero => intro i ys e hi; have : i = n := by (first | lia | omega)
              subst this; exact LCt.CompRestT.zero (fin ys hi)
    | succ k ih =>
      intro i ys e hi
      refine LCt.CompRestT.succ fun v I oI C oC D m₂ h tk E' hP hC hx F N off hne => ?_
      have NC := (N (C, oC) (.tail _ (.head _))).1
      refine wpAny_mono (ht i v C m₂ h tk _ (by (first | lia | omega)) hP (hC.ns NC) hx F N fun p hp => .tail _ (.tail _ (.tail _ hp))) (fun y s₂ q => ?_) fun _ _ y => y.elim
      obtain ⟨h', tk', rfl, rfl, F2, N2⟩ := q
      have NC' := (N2 (C, oC) (.tail _ (.head _))).1
      have e2 : (List.range (i + 1)).filter p = (List.range i).filter p ++ (if p i = true then [i] else []) := by
        rw [List.range_succ, List.filter_append]; congr 1; cases hp : p i <;> simp [hp]
      cases hp : p i with
      | true =>
        rw [if_pos rfl]
        refine wpAny_mono (he i v C m₂ h' tk' (by (first | lia | omega)) hP (hC.ns NC') hx F2 (fun p hp => N2 p (.tail _ (.tail _ (.tail _ hp))))) (fun y s₂ q => ?_) fun _ _ y => y.elim
        obtain ⟨h2, tk2, ty, rfl, rfl, hk2⟩ := q
        refine CompEnd.intro (fr_keeps F2 hk2) (news_keeps N2 hk2) news (fun p hp => hp) off hS (ih (i + 1) _ (by (first | lia | omega)) ?_)
        rw [e2, if_pos hp, List.map_append]
        exact hi.append (.cons _ _ .nil)
      | false =>
        rw [if_neg (by decide)]
        refine CompEnd.intro F2 N2 news (fun p hp => hp) off hS (ih (i + 1) _ (by (first | lia | omega)) ?_)
        rw [e2, if_neg (by rw [hp]; decide), List.append_nil]
        exact hi
  exact key n 0 [] (by (first | lia | omega)) .nil
end rules
theorem range_getD (l : List Int) : (List.range l.length).map (fun i => l.getD i 0) = l := by
  apply List.ext_getElem
  · simp
  · intro j h1 h2
    simp [List.getD, h2]
theorem filter_getD (l : List Int) (q : Int → Bool) : ((List.range l.length).filter (fun i => q (l.getD i 0))).map (fun i => l.getD i 0) = l.filter q := by
  have e := List.filter_map (f := fun i => l.getD i 0) (p := q) (l := List.range l.length)
  rw [range_getD] at e
  exact e.symm
theorem cutFd {w : World} {f : Addr} {fo : Obj} {fd : FuncData} {body : List Stmt} {P : FuncData → List Stmt → Prop} (hl : (KF w).lookup f = some fo) (hfd : fo.data = .func fd) (hbody : fd.body = .stmts body) (H : P fd body) :
    ∀ fo' fd' body', (KF w).lookup f = some fo' → fo'.data = .func fd' → fd'.body = .stmts body' → P fd' body' := by
  intro fo' fd' body' h1 h2 h3
  rw [hl] at h1; cases h1
  rw [hfd] at h2; cases h2
  rw [hbody] at h3; cases h3
  exact H
theorem chs_lo {k n j : Nat} (hj : j < (chsOf k n).length) (h : j < (4 * n + 2) / 3 - 1) : (chsOf k n)[j] = ordI k := by
  have e : (chsOf k n)[j]? = some (ordI k) := by unfold chsOf; rw [List.getElem?_append_left (by simpa using h)]; simp [h]
  exact Option.some.inj ((List.getElem?_eq_getElem hj).symm.trans e)
theorem chs_hi {k n j : Nat} (hj : j < (chsOf k n).length) (h : j = (4 * n + 2) / 3 - 1) : (chsOf k n)[j] = lastOf k (dvs n) := by
  have e : (chsOf k n)[j]? = some (lastOf k (dvs n)) := by unfold chsOf; rw [List.getElem?_append_right (by simp; (first | lia | omega))]; simp [h]
  exact Option.some.inj ((List.getElem?_eq_getElem hj).symm.trans e)

end

section


section
variable {prog : Program} {w : World} {A : Around} {hb h : Heap} {g : Array GenState} {d : Drawn} {t : Nat} {o : OsState} {L va la : Addr} {vits lits : Array Value} {tn : List (Addr × Obj)} {env : Env} {m : Str → Option Value} {oc : Obj} {k : Nat} {hid : List Int} {u tk tb tbw tbh tp : Tok} {by_ byw byh : Array UInt8} {Q : Flow → Shared → Prop}
theorem law3 (GG : Gd w (hide2 hb)) (R : Room A 12) (hk5 : k < 5) (hidr : ∀ c ∈ hid, 0 ≤ c ∧ c < 256) (hl2 : 2 ≤ hid.length) (hl8 : hid.length ≤ 8) (hLs : 132 < L)
    (F : Fr (hide2 hb) L h m) (N : News (hide2 hb) L h ((L + 1, oc) :: (132, tabObj #[]) :: (125, tabObj #[]) :: tn)) (hoc : oc.data = .cell (some (.int (hid.length : Int) u)))
    (m1 : m (Str.ofString "hidden") = some (.bytes by_ tb)) (m2 : m (Str.ofString "written") = some (.bytes byw tbw)) (m3 : m (Str.ofString "which") = some (.int (k : Int) tk)) (m4 : m (Str.ofString "hexed") = some (.bytes byh tbh))
    (m5 : m (Str.ofString "values") = some (.ref va)) (m6 : m (Str.ofString "last") = some (.ref la)) (m7 : m (Str.ofString "places") = some (.int ((4 * (hid.length : Int) + 2) / 3) tp))
    (hb11 : KBw.bInts by_ = hid) (hbw : KBw.bInts byw = wr k hid) (hbh : KBw.bInts byh = hx hid) (Sv : SrcAt (hide2 hb) va vits tn) (hvi : IntsAre vits.toList (ordI k)) (Sl : SrcAt (hide2 hb) la lits tn) (hli : IntsAre lits.toList (lastOf k (dvs hid.length)))
    (HQ : ∀ h' t', Keeps (hide2 hb) h' → GrownAll [(136, 132), (129, 125)] h' → Q (.ret (.bool true)) ⟨h', g, d, t', o⟩) :
    ∀ fo fd body, (KF w).lookup 154 = some fo → fo.data = .func fd → fd.body = .stmts body → Ev env fd.scope L (cellsFrom (L + 1) fd.scope.names []) →
      wpAny (model prog w) A (execs (body.drop 11) env) Q NoE ⟨h, g, d, t, o⟩ := by
  refine cutFd rfl rfl rfl ?_
  intro V
  dsimp only at V
  dsimp only [List.drop]
  have hwlen := wr_len k hidr
  have hpad : padN hid.length ≤ 2 := by unfold padN; split <;> (try split) <;> (first | lia | omega)
  with_reducible refine r_seq ?_
  (with_reducible refine r_assign ?_ ?h1); (case h1 => rfl)
  with_reducible refine r_callN ?_
  (with_reducible refine' r_glob ?V ?G ?hk ?hx ?eB ?_); (case V => assumption); (case hx => kernel_rfl); (case eB => with_reducible exact g_read6 _); (case G => assumption); (case hk => exact Fr.keep (by assumption))
  (with_reducible refine' r_calldef ?G ?hx ?_ ?h1 ?h2); (case G => assumption); (case hx => kernel_rfl); (case h1 => rfl); (case h2 => rfl)
  (with_reducible refine r_args ?_ ?h1); (case h1 => rfl)
  with_reducible refine r_callN ?_
  (with_reducible refine' r_boot ?V ?G ?hk ?hx ?eB ?_); (case V => assumption); (case hx => kernel_rfl); (case eB => with_reducible exact g_list _); (case G => assumption); (case hk => exact Fr.keep (by assumption))
  (with_reducible refine r_cwType ?_ ?h1 ?h2); (case h1 => rfl); (case h2 => rfl)
  (with_reducible refine r_args ?_ ?h1); (case h1 => rfl)
  (with_reducible refine' r_local ?V ?hn ?hv ?hx ?_); (case V => assumption); (case hx => kernel_rfl); (case hn => first | exact Fr.ns (by assumption) | assumption); (case hv => walk_at "mlk")
  with_reducible refine r_args0 ?_
  refine r_listBytes R.hh (by rw [size_of, hbw]; (first | lia | omega)) ?_
  intro h1 t1 wl wits hk1 hle1 hwl hwi
  rw [hbw] at hwi
  have F1 := fr_keeps F hk1
  obtain ⟨ol, hol, holc, nl, hold⟩ := hwl
  have N1 : News (hide2 hb) L h1 ((wl, ol) :: (L + 1, oc) :: (132, tabObj #[]) :: (125, tabObj #[]) :: tn) := by
    intro p hp
    rcases List.mem_cons.mp hp with rfl | hp
    · exact ⟨hol, kdx_fresh F hle1⟩
    · exact news_keeps N hk1 p hp
  clear F N
  (with_reducible refine r_args ?_ ?h1); (case h1 => rfl)
  with_reducible (refine wpAny_BinOp ?_; refine wpAny_BinOp ?_; refine PyProof.Rows.List_ ?_)
  (with_reducible refine r_args ?_ ?h1); (case h1 => rfl)
  (with_reducible refine' r_local ?V ?hn ?hv ?hx ?_); (case V => assumption); (case hx => kernel_rfl); (case hn => first | exact Fr.ns (by assumption) | assumption); (case hv => walk_at "mlk")
  with_reducible refine r_args0 ?_
  (with_reducible refine' r_newList ?F ?N ?hz ?_); (case F => assumption); (case N => assumption); (case hz => first | decide | (simp only [List.length_cons, List.length_nil, sizeLine_eq]; (first | lia | omega))); intro _ _ _ _ _ _
  with_reducible refine wpAny_BinOp ?_
  (with_reducible refine' r_local ?V ?hn ?hv ?hx ?_); (case V => assumption); (case hx => kernel_rfl); (case hn => first | exact Fr.ns (by assumption) | assumption); (case hv => walk_at "mlk")
  with_reducible (refine r_cint (fun _ => ?_); refine r_sub (fun _ => ?_))
  refine r_mul1 (by assumption) (by assumption) (List.Mem.head _) (by (first | lia | omega)) (by (first | lia | omega)) ?_
  intro ra h2 hra hlt2 F2 N2
  clear F1 N1
  rw [show ((4 * (hid.length : Int) + 2) / 3 - 1).toNat = (4 * hid.length + 2) / 3 - 1 by (first | lia | omega)] at N2
  with_reducible refine PyProof.Rows.List_ ?_
  (with_reducible refine r_args ?_ ?h1); (case h1 => rfl)
  (with_reducible refine' r_local ?V ?hn ?hv ?hx ?_); (case V => assumption); (case hx => kernel_rfl); (case hn => first | exact Fr.ns (by assumption) | assumption); (case hv => walk_at "mlk")
  with_reducible refine r_args0 ?_
  (with_reducible refine' r_newList ?F ?N ?hz ?_); (case F => assumption); (case N => assumption); (case hz => first | decide | (simp only [List.length_cons, List.length_nil, sizeLine_eq]; (first | lia | omega))); intro _ _ _ _ _ _
  refine r_addL (by assumption) (by assumption) (isList_news (by assumption) (.tail _ (.head _))) (isList_news (by assumption) (.head _)) (by simp; (first | lia | omega)) ?_
  intro ca h3 hca hlt3 F3 N3
  (with_reducible refine r_args ?_ ?h1); (case h1 => rfl)
  (with_reducible refine' r_cell ?V ?hc ?hv ?hx ?_); (case V => assumption); (case hx => decide +kernel); (case hc => rfl); (case hv => exact isCell_news (by assumption) (by walk_at "mmem") (by assumption))
  (with_reducible refine r_args ?_ ?h1); (case h1 => rfl)
  (with_reducible refine' r_local ?V ?hn ?hv ?hx ?_); (case V => assumption); (case hx => kernel_rfl); (case hn => first | exact Fr.ns (by assumption) | assumption); (case hv => walk_at "mlk")
  with_reducible (refine r_args0 ?_; refine And.intro (Fr.keep (by assumption)) ?_)
  have X3 : W2 w h3 := nw_w2 GG F3 N3 ⟨⟨#[], by walk_at "mmem", .inl rfl⟩, ⟨#[], by walk_at "mmem", .inl rfl⟩⟩
  have hwl3 : h3.IsList wl wits := ⟨ol, (N3 (wl, ol) (by walk_at "mmem")).1, holc, nl, hold⟩
  have hsub : ∀ p ∈ tn, p ∈ (L + 1, oc) :: (132, tabObj #[]) :: (125, tabObj #[]) :: tn := fun p hp => .tail _ (.tail _ (.tail _ hp))
  have N3t : News (hide2 hb) L h3 tn := fun p hp => N3 p (.tail _ (.tail _ (.tail _ (.tail _ (.tail _ (hsub p hp))))))
  have hI3 := (N3 (L + 1, oc) (by walk_at "mmem"))
  have hv3 : h3.IsList va vits := Sv.list F3.keep N3t
  have hl3 : h3.IsList la lits := Sl.list F3.keep N3t
  have Ft := fits_enc hk5 hidr (by (first | lia | omega) : 1 ≤ hid.length)
  have hcl : (chsOf k hid.length).length = (4 * hid.length + 2) / 3 := by unfold chsOf; simp; (first | lia | omega)
  refine read6_spec (goal := wr k hid) (truth := encS 0 0 hid) (chs := chsOf k hid.length) X3 (R.le (by (first | lia | omega))) hwl3 hwi (isList_news N3 (.head _)) ?_ ?_ Ft.row (by (first | lia | omega)) Ft.range Ft.len (by (first | lia | omega)) (by (first | lia | omega)) hk5 (plain6 hk5 hidr (by (first | lia | omega))) ?_
  · rw [hcl]; simp; (first | lia | omega)
  · intro j hj
    have hj' := hj
    rw [hcl] at hj'
    by_cases hjl : j < (4 * hid.length + 2) / 3 - 1
    · refine ⟨va, vits, ?_, hv3, ?_⟩
      · simp [hjl, List.getElem?_append]
      · rw [chs_lo _ hjl]; exact hvi
    · have hje : j = (4 * hid.length + 2) / 3 - 1 := by (first | lia | omega)
      refine ⟨la, lits, ?_, hl3, ?_⟩
      · simp [hje]
      · rw [chs_hi _ hje]; exact hli
  intro h4 t4 sa sits k34 X4 hsl hsi
  have F4 := fr_keep2 F3 k34 hLs
  have hI4 : h4.get? (L + 1) = some oc := k34 _ _ ((hide2_get (ne_off hLs 1).1 (ne_off hLs 1).2).trans hI3.1)
  have hoI : ∀ vs t q, oc.data = .fields vs → vs[1]? ≠ some (.str q t) := by intro vs t q e; rw [hoc] at e; cases e
  obtain ⟨tn4, Nt4, nw4, ne4⟩ := w2_nw X4 F4 hLs hI4 hoI (ne_off hLs 1)
  obtain ⟨tn5, Nt5, Ss, _⟩ := src_of F4 hsl
  have N4 : News (hide2 hb) L h4 ((L + 1, oc) :: (tn4 ++ tn5)) := by
    intro p hp
    rcases List.mem_cons.mp hp with rfl | hp
    · exact ⟨hI4, hI3.2⟩
    · rcases List.mem_append.mp hp with hp | hp
      · exact Nt4 p hp
      · exact Nt5 p hp
  clear F3 N3 N3t F2 N2 hv3 hl3 hwl3 Nt4 Nt5
  (with_reducible refine' r_storeG ?V ?F ?N ?hx ?_); (case V => assumption); (case F => assumption); (case N => assumption); (case hx => kernel_rfl); intro _ _ _ _ _ _
  with_reducible (refine sq_next ?_; refine r_seq ?_)
  (with_reducible refine r_assign ?_ ?h1); (case h1 => rfl)
  with_reducible refine r_callN ?_
  (with_reducible refine' r_glob ?V ?G ?hk ?hx ?eB ?_); (case V => assumption); (case hx => kernel_rfl); (case eB => with_reducible exact g_read4 _); (case G => assumption); (case hk => exact Fr.keep (by assumption))
  (with_reducible refine' r_calldef ?G ?hx ?_ ?h1 ?h2); (case G => assumption); (case hx => kernel_rfl); (case h1 => rfl); (case h2 => rfl)
  (with_reducible refine r_args ?_ ?h1); (case h1 => rfl)
  with_reducible refine r_callN ?_
  (with_reducible refine' r_boot ?V ?G ?hk ?hx ?eB ?_); (case V => assumption); (case hx => kernel_rfl); (case eB => with_reducible exact g_list _); (case G => assumption); (case hk => exact Fr.keep (by assumption))
  (with_reducible refine r_cwType ?_ ?h1 ?h2); (case h1 => rfl); (case h2 => rfl)
  (with_reducible refine r_args ?_ ?h1); (case h1 => rfl)
  (with_reducible refine' r_local ?V ?hn ?hv ?hx ?_); (case V => assumption); (case hx => kernel_rfl); (case hn => first | exact Fr.ns (by assumption) | assumption); (case hv => walk_at "mlk")
  with_reducible refine r_args0 ?_
  rename_i h5 t5 F5 N5
  refine r_listBytes R.hh (by rw [size_of, hbh, hx_len]; (first | lia | omega)) ?_
  intro h6 t6 xl xits hk6 hle6 hxl hxi
  rw [hbh] at hxi
  have F6 := fr_keeps F5 hk6
  have N6 := news_keeps N5 hk6
  clear F4 N4 F5 N5
  (with_reducible refine r_args ?_ ?h1); (case h1 => rfl)
  with_reducible (refine wpAny_BinOp ?_; refine r_cint (fun _ => ?_))
  (with_reducible refine' r_cell ?V ?hc ?hv ?hx ?_); (case V => assumption); (case hx => decide +kernel); (case hc => rfl); (case hv => exact isCell_news (by assumption) (by walk_at "mmem") (by assumption))
  (with_reducible refine r_mul ?h1 ?h2 (fun _ => ?_)); (case h1 => (first | lia | omega)); (case h2 => (first | lia | omega))
  with_reducible (refine r_args0 ?_; refine And.intro (Fr.keep (by assumption)) ?_)
  have X6 : W2 w h6 := nw_w2 GG F6 N6 (nw4.mono fun p hp => .tail _ (List.mem_append_left _ hp))
  have hI6 := N6 (L + 1, oc) (.head _)
  rw [show 2 * (hid.length : Int) = ((figs hid).length : Int) by rw [figs_len]; (first | lia | omega)]
  refine read4_spec (goal := hx hid) (truth := figs hid) (n := hid.length) X6 (R.le (by (first | lia | omega))) hxl hxi (figs_in hidr) (figs_len hid) (by (first | lia | omega)) (plain4 hidr) ?_
  intro h7 t7 fa fits k67 X7 hfl hfi
  have F7 := fr_keep2 F6 k67 hLs
  have hI7 : h7.get? (L + 1) = some oc := k67 _ _ ((hide2_get (ne_off hLs 1).1 (ne_off hLs 1).2).trans hI6.1)
  have hs7 : h7.IsList sa sits := isList_keep (X6.list (Ss.list F6.keep fun p hp => N6 p (.tail _ (List.mem_append_right _ hp)))) k67
  obtain ⟨tn8, Nt8, Ss8, _⟩ := src_of F7 hs7
  obtain ⟨tn9, Nt9, Sf9, _⟩ := src_of F7 hfl
  obtain ⟨tnT, NtT, nwT, _⟩ := w2_nw X7 F7 hLs hI7 hoI (ne_off hLs 1)
  have N7 : News (hide2 hb) L h7 ((L + 1, oc) :: (tn8 ++ (tn9 ++ tnT))) := by
    intro p hp
    rcases List.mem_cons.mp hp with rfl | hp
    · exact ⟨hI7, hI6.2⟩
    · rcases List.mem_append.mp hp with hp | hp
      · exact Nt8 p hp
      · rcases List.mem_append.mp hp with hp | hp
        · exact Nt9 p hp
        · exact NtT p hp
  clear F6 N6 Nt8 Nt9 NtT
  (with_reducible refine' r_storeG ?V ?F ?N ?hx ?_); (case V => assumption); (case F => assumption); (case N => assumption); (case hx => kernel_rfl); intro _ _ _ _ _ _
  with_reducible (refine sq_next ?_; refine r_seq ?_; refine wpAny_If ?_; refine isTrue_or ?_)
  (with_reducible refine r_testCmp ?_ ?h1); (case h1 => rfl)
  (with_reducible refine' r_local ?V ?hn ?hv ?hx ?_); (case V => assumption); (case hx => kernel_rfl); (case hn => first | exact Fr.ns (by assumption) | assumption); (case hv => walk_at "mlk")
  with_reducible (refine r_cnone ?_; refine r_is_none ?_; refine wpAny_truthy_bool ?_)
  (with_reducible refine ite_f ?hd ?_); (case hd => first | rfl | decide)
  with_reducible refine isTrue_or ?_
  (with_reducible refine r_testCmp ?_ ?h1); (case h1 => rfl)
  (with_reducible refine' r_local ?V ?hn ?hv ?hx ?_); (case V => assumption); (case hx => kernel_rfl); (case hn => first | exact Fr.ns (by assumption) | assumption); (case hv => walk_at "mlk")
  with_reducible (refine r_cnone ?_; refine r_is_none ?_; refine wpAny_truthy_bool ?_)
  (with_reducible refine ite_f ?hd ?_); (case hd => first | rfl | decide)
  with_reducible refine isTrue_or_nil ?_
  (with_reducible refine ite_f ?hd ?_); (case hd => first | rfl | decide)
  with_reducible (refine wpAny_execs_nil ?_; refine sq_next ?_; refine r_seq ?_; refine wpAny_Return_some ?_; refine BoolOp_and ?_)
  (with_reducible refine r_cmp ?_ ?h1); (case h1 => rfl)
  with_reducible refine r_callN ?_
  (with_reducible refine' r_glob ?V ?G ?hk ?hx ?eB ?_); (case V => assumption); (case hx => kernel_rfl); (case eB => with_reducible exact g_from_sixes _); (case G => assumption); (case hk => exact Fr.keep (by assumption))
  (with_reducible refine' r_calldef ?G ?hx ?_ ?h1 ?h2); (case G => assumption); (case hx => kernel_rfl); (case h1 => rfl); (case h2 => rfl)
  (with_reducible refine r_args ?_ ?h1); (case h1 => rfl)
  (with_reducible refine' r_local ?V ?hn ?hv ?hx ?_); (case V => assumption); (case hx => kernel_rfl); (case hn => first | exact Fr.ns (by assumption) | assumption); (case hv => walk_at "mlk")
  (with_reducible refine r_args ?_ ?h1); (case h1 => rfl)
  (with_reducible refine' r_cell ?V ?hc ?hv ?hx ?_); (case V => assumption); (case hx => decide +kernel); (case hc => rfl); (case hv => exact isCell_news (by assumption) (by walk_at "mmem") (by assumption))
  with_reducible (refine r_args0 ?_; refine And.intro (Fr.keep (by assumption)) ?_)
  rename_i h8 t8 F8 N8
  clear F7 N7
  have hel := (enc_info hid hidr).1
  refine sixes_spec (GG.keeps F8.keep) (R.le (by (first | lia | omega))) (Ss8.list F8.keep fun p hp => N8 p (.tail _ (List.mem_append_left _ hp))) hsi Ft.range (by (first | lia | omega)) (by (first | lia | omega)) (by (first | lia | omega)) ?_
  intro h9 t9 by9 tb9 hk9 hb9
  rw [back6 hidr] at hb9
  have F9 := fr_keeps F8 hk9
  have N9 := news_keeps N8 hk9
  clear F8 N8
  (with_reducible refine' r_local ?V ?hn ?hv ?hx ?_); (case V => assumption); (case hx => kernel_rfl); (case hn => first | exact Fr.ns (by assumption) | assumption); (case hv => walk_at "mlk")
  refine r_eqB hb9 hb11 ?_
  with_reducible refine wpAny_truthy_bool ?_
  (with_reducible refine ite_t ?hd ?_); (case hd => first | rfl | decide)
  with_reducible refine BoolOp_one ?_
  (with_reducible refine r_cmp ?_ ?h1); (case h1 => rfl)
  with_reducible refine r_callN ?_
  (with_reducible refine' r_glob ?V ?G ?hk ?hx ?eB ?_); (case V => assumption); (case hx => kernel_rfl); (case eB => with_reducible exact g_from_fours _); (case G => assumption); (case hk => exact Fr.keep (by assumption))
  (with_reducible refine' r_calldef ?G ?hx ?_ ?h1 ?h2); (case G => assumption); (case hx => kernel_rfl); (case h1 => rfl); (case h2 => rfl)
  (with_reducible refine r_args ?_ ?h1); (case h1 => rfl)
  (with_reducible refine' r_local ?V ?hn ?hv ?hx ?_); (case V => assumption); (case hx => kernel_rfl); (case hn => first | exact Fr.ns (by assumption) | assumption); (case hv => walk_at "mlk")
  with_reducible (refine r_args0 ?_; refine And.intro (Fr.keep (by assumption)) ?_)
  refine fours_spec (n := hid.length) (GG.keeps F9.keep) (R.le (by (first | lia | omega))) (Sf9.list F9.keep fun p hp => N9 p (.tail _ (List.mem_append_right _ (List.mem_append_left _ hp)))) hfi (figs_in hidr) (figs_len hid) (by (first | lia | omega)) ?_
  intro h10 t10 by10 tb10 hk10 hb10
  rw [fours_figs hid hidr] at hb10
  have F10 := fr_keeps F9 hk10
  have N10 := news_keeps N9 hk10
  clear F9 N9
  (with_reducible refine' r_local ?V ?hn ?hv ?hx ?_); (case V => assumption); (case hx => kernel_rfl); (case hn => first | exact Fr.ns (by assumption) | assumption); (case hv => walk_at "mlk")
  refine r_eqB hb10 hb11 ?_
  with_reducible refine sq_ret ?_
  obtain ⟨⟨p6, hm6, _⟩, p4, hm4, _⟩ := nwT
  exact HQ _ _ F10.keep ⟨⟨p4, (N10 _ (.tail _ (List.mem_append_right _ (List.mem_append_right _ hm4)))).1⟩, ⟨p6, (N10 _ (.tail _ (List.mem_append_right _ (List.mem_append_right _ hm6)))).1⟩, trivial⟩
end

end

section


section
variable {prog : Program} {w : World} {A : Around} {hb h : Heap} {g : Array GenState} {d : Drawn} {t : Nat} {o : OsState} {L : Addr} {env : Env} {m : Str → Option Value} {oc : Obj} {k : Nat} {hid : List Int} {u tk tb tbw : Tok} {by_ byw : Array UInt8} {Q : Flow → Shared → Prop}
theorem law2 (GG : Gd w (hide2 hb)) (R : Room A 12) (hk5 : k < 5) (hidr : ∀ c ∈ hid, 0 ≤ c ∧ c < 256) (hl2 : 2 ≤ hid.length) (hl8 : hid.length ≤ 8) (hLs : 132 < L)
    (F : Fr (hide2 hb) L h m) (N : News (hide2 hb) L h [(L + 1, oc), (132, tabObj #[]), (125, tabObj #[])]) (hoc : oc.data = .cell (some (.int (hid.length : Int) u)))
    (m1 : m (Str.ofString "hidden") = some (.bytes by_ tb)) (m2 : m (Str.ofString "written") = some (.bytes byw tbw)) (m3 : m (Str.ofString "which") = some (.int (k : Int) tk))
    (hb11 : KBw.bInts by_ = hid) (hbw : KBw.bInts byw = wr k hid)
    (HQ : ∀ h' t', Keeps (hide2 hb) h' → GrownAll [(136, 132), (129, 125)] h' → Q (.ret (.bool true)) ⟨h', g, d, t', o⟩) :
    ∀ fo fd body, (KF w).lookup 154 = some fo → fo.data = .func fd → fd.body = .stmts body → Ev env fd.scope L (cellsFrom (L + 1) fd.scope.names []) →
      wpAny (model prog w) A (execs (body.drop 5) env) Q NoE ⟨h, g, d, t, o⟩ := by
  refine cutFd rfl rfl rfl ?_
  intro V
  dsimp only at V
  dsimp only [List.drop]
  with_reducible refine r_seq ?_
  (with_reducible refine r_assign ?_ ?h1); (case h1 => rfl)
  with_reducible refine r_callN ?_
  (with_reducible refine' r_glob ?V ?G ?hk ?hx ?eB ?_); (case V => assumption); (case hx => kernel_rfl); (case eB => with_reducible exact g_b16encode _); (case G => assumption); (case hk => exact Fr.keep (by assumption))
  (with_reducible refine' r_calldef ?G ?hx ?_ ?h1 ?h2); (case G => assumption); (case hx => kernel_rfl); (case h1 => rfl); (case h2 => rfl)
  (with_reducible refine r_args ?_ ?h1); (case h1 => rfl)
  (with_reducible refine' r_local ?V ?hn ?hv ?hx ?_); (case V => assumption); (case hx => kernel_rfl); (case hn => first | exact Fr.ns (by assumption) | assumption); (case hv => walk_at "mlk")
  with_reducible (refine r_args0 ?_; refine And.intro (Fr.keep (by assumption)) ?_)
  refine b16encode_spec (GG.keeps F.keep) (R.le (by (first | lia | omega))) hb11 (by (first | lia | omega)) (by (first | lia | omega)) ?_
  intro h1 t1 byh tbh hk1 hbh
  have F1 := fr_keeps F hk1
  have N1 := news_keeps N hk1
  clear F N
  (with_reducible refine' r_storeG ?V ?F ?N ?hx ?_); (case V => assumption); (case F => assumption); (case N => assumption); (case hx => kernel_rfl); intro _ _ _ _ _ _
  with_reducible (refine sq_next ?_; refine r_seq ?_; refine wpAny_If ?_; refine isTrue_or ?_; refine isTrue_not ?_; refine r_testCall ?_; refine r_callN ?_)
  (with_reducible refine' r_boot ?V ?G ?hk ?hx ?eB ?_); (case V => assumption); (case hx => kernel_rfl); (case eB => with_reducible exact g_isinstance _); (case G => assumption); (case hk => exact Fr.keep (by assumption))
  (with_reducible refine r_cwBuiltin ?_ ?h1 ?h2); (case h1 => rfl); (case h2 => rfl)
  (with_reducible refine r_args ?_ ?h1); (case h1 => rfl)
  (with_reducible refine' r_local ?V ?hn ?hv ?hx ?_); (case V => assumption); (case hx => kernel_rfl); (case hn => first | exact Fr.ns (by assumption) | assumption); (case hv => walk_at "mlk")
  (with_reducible refine r_args ?_ ?h1); (case h1 => rfl)
  (with_reducible refine' r_boot ?V ?G ?hk ?hx ?eB ?_); (case V => assumption); (case hx => kernel_rfl); (case eB => with_reducible exact g_bytes _); (case G => assumption); (case hk => exact Fr.keep (by assumption))
  with_reducible (refine r_args0 ?_; refine r_isinstB0 ?_; refine wpAny_truthy_bool ?_)
  (with_reducible refine ite_f ?hd ?_); (case hd => first | rfl | decide)
  with_reducible (refine isTrue_or ?_; refine isTrue_not ?_; refine r_testCall ?_; refine r_callN ?_)
  (with_reducible refine' r_boot ?V ?G ?hk ?hx ?eB ?_); (case V => assumption); (case hx => kernel_rfl); (case eB => with_reducible exact g_isinstance _); (case G => assumption); (case hk => exact Fr.keep (by assumption))
  (with_reducible refine r_cwBuiltin ?_ ?h1 ?h2); (case h1 => rfl); (case h2 => rfl)
  (with_reducible refine r_args ?_ ?h1); (case h1 => rfl)
  (with_reducible refine' r_local ?V ?hn ?hv ?hx ?_); (case V => assumption); (case hx => kernel_rfl); (case hn => first | exact Fr.ns (by assumption) | assumption); (case hv => walk_at "mlk")
  (with_reducible refine r_args ?_ ?h1); (case h1 => rfl)
  (with_reducible refine' r_boot ?V ?G ?hk ?hx ?eB ?_); (case V => assumption); (case hx => kernel_rfl); (case eB => with_reducible exact g_bytes _); (case G => assumption); (case hk => exact Fr.keep (by assumption))
  with_reducible (refine r_args0 ?_; refine r_isinstB0 ?_; refine wpAny_truthy_bool ?_)
  (with_reducible refine ite_f ?hd ?_); (case hd => first | rfl | decide)
  with_reducible refine isTrue_or_nil ?_
  (with_reducible refine ite_f ?hd ?_); (case hd => first | rfl | decide)
  with_reducible (refine wpAny_execs_nil ?_; refine sq_next ?_; refine r_seq ?_)
  (with_reducible refine r_assign ?_ ?h1); (case h1 => rfl)
  with_reducible (refine wpAny_BinOp ?_; refine wpAny_BinOp ?_; refine wpAny_BinOp ?_; refine r_cint (fun _ => ?_))
  (with_reducible refine' r_cell ?V ?hc ?hv ?hx ?_); (case V => assumption); (case hx => decide +kernel); (case hc => rfl); (case hv => exact isCell_news (by assumption) (by walk_at "mmem") (by assumption))
  (with_reducible refine r_mul ?h1 ?h2 (fun _ => ?_)); (case h1 => (first | lia | omega)); (case h2 => (first | lia | omega))
  with_reducible (refine r_cint (fun _ => ?_); refine r_add (fun _ => ?_); refine r_cint (fun _ => ?_))
  (with_reducible refine r_div ?h1 ?h2 (fun _ => ?_)); (case h1 => (first | lia | omega)); (case h2 => (first | lia | omega))
  (with_reducible refine' r_storeG ?V ?F ?N ?hx ?_); (case V => assumption); (case F => assumption); (case N => assumption); (case hx => kernel_rfl); intro _ _ _ _ _ _
  with_reducible (refine sq_next ?_; refine r_seq ?_; refine wpAny_If ?_; refine isTrue_or ?_)
  (with_reducible refine r_testCmp ?_ ?h1); (case h1 => rfl)
  with_reducible (refine Subscript_ ?_; refine r_callN ?_)
  (with_reducible refine' r_boot ?V ?G ?hk ?hx ?eB ?_); (case V => assumption); (case hx => kernel_rfl); (case eB => with_reducible exact g_list _); (case G => assumption); (case hk => exact Fr.keep (by assumption))
  (with_reducible refine r_cwType ?_ ?h1 ?h2); (case h1 => rfl); (case h2 => rfl)
  (with_reducible refine r_args ?_ ?h1); (case h1 => rfl)
  (with_reducible refine' r_local ?V ?hn ?hv ?hx ?_); (case V => assumption); (case hx => kernel_rfl); (case hn => first | exact Fr.ns (by assumption) | assumption); (case hv => walk_at "mlk")
  with_reducible refine r_args0 ?_
  have hpad : padN hid.length ≤ 2 := by unfold padN; split <;> (try split) <;> (first | lia | omega)
  have hwlen := wr_len k hidr
  refine r_listBytes R.hh (by rw [size_of, hbw]; (first | lia | omega)) ?_
  intro h2 t2 wl wits hk2 hle2 hwl hwi
  rw [hbw] at hwi
  have F2 := fr_keeps (by assumption) hk2
  have N2 := news_keeps (by assumption) hk2
  clear F1 N1
  with_reducible (refine r_Slice ?_; refine r_partS ?_)
  (with_reducible refine' r_local ?V ?hn ?hv ?hx ?_); (case V => assumption); (case hx => kernel_rfl); (case hn => first | exact Fr.ns (by assumption) | assumption); (case hv => walk_at "mlk")
  with_reducible (refine r_partN ?_; refine r_partN ?_; refine r_slicePost ?_)
  refine kba_turn (value' := .Name (Str.ofString "x") ⟨0, 0, 0, 0⟩) (fun _ => rfl) ?_
  have hwz : wits.size = (wr k hid).length := by have := hwi.length; simpa using this
  refine r_sliceTail F2 N2 hwl (.int _ _) .none (by (first | lia | omega)) rfl (fun _ => rfl) ?_
  intro sl h3 hsl hlt3 F3 N3
  clear F2 N2
  with_reducible (refine wpAny_BinOp ?_; refine PyProof.Rows.List_ ?_)
  (with_reducible refine r_args ?_ ?h1); (case h1 => rfl)
  with_reducible (refine r_cint (fun _ => ?_); refine r_args0 ?_)
  (with_reducible refine' r_newList ?F ?N ?hz ?_); (case F => assumption); (case N => assumption); (case hz => first | decide | (simp only [List.length_cons, List.length_nil, sizeLine_eq]; (first | lia | omega))); intro _ _ _ _ _ _
  with_reducible (refine wpAny_BinOp ?_; refine wpAny_UnaryOp ?_)
  (with_reducible refine' r_cell ?V ?hc ?hv ?hx ?_); (case V => assumption); (case hx => decide +kernel); (case hc => rfl); (case hv => exact isCell_news (by assumption) (by walk_at "mmem") (by assumption))
  with_reducible (refine r_neg (fun _ => ?_); refine r_cint (fun _ => ?_))
  (with_reducible refine r_mod ?h1 (fun _ => ?_)); (case h1 => (first | lia | omega))
  refine r_mul1 (by assumption) (by assumption) (List.Mem.head _) (by (first | lia | omega)) (by (first | lia | omega)) ?_
  intro pl h4 hpl hlt4 F4 N4
  have hI1 := sliceI (n := (4 * hid.length + 2) / 3) hwi (x := (4 * (hid.length : Int) + 2) / 3) (by (first | lia | omega))
  rw [wr_tail k hidr] at hI1
  rw [pad_eq] at N4
  skip
  refine r_neL (R.le (by (first | lia | omega))) (isList_news N4 (.tail _ (.tail _ (.head _)))) (isList_news N4 (.head _)) hI1 (ints_rep _ _ _) rfl ?_
  with_reducible refine wpAny_truthy_bool ?_
  (with_reducible refine ite_f ?hd ?_); (case hd => first | rfl | decide)
  with_reducible refine isTrue_or ?_
  (with_reducible refine r_testCmp ?_ ?h1); (case h1 => rfl)
  with_reducible refine r_callN ?_
  (with_reducible refine' r_boot ?V ?G ?hk ?hx ?eB ?_); (case V => assumption); (case hx => kernel_rfl); (case eB => with_reducible exact g_len _); (case G => assumption); (case hk => exact Fr.keep (by assumption))
  (with_reducible refine r_cwBuiltin ?_ ?h1 ?h2); (case h1 => rfl); (case h2 => rfl)
  (with_reducible refine r_args ?_ ?h1); (case h1 => rfl)
  (with_reducible refine' r_local ?V ?hn ?hv ?hx ?_); (case V => assumption); (case hx => kernel_rfl); (case hn => first | exact Fr.ns (by assumption) | assumption); (case hv => walk_at "mlk")
  with_reducible refine r_args0 ?_
  refine r_lenBytes hbh (by rw [hx_len]; (first | lia | omega)) (fun _ _ => ?_)
  with_reducible (refine wpAny_BinOp ?_; refine r_cint (fun _ => ?_))
  (with_reducible refine' r_cell ?V ?hc ?hv ?hx ?_); (case V => assumption); (case hx => decide +kernel); (case hc => rfl); (case hv => exact isCell_news (by assumption) (by walk_at "mmem") (by assumption))
  (with_reducible refine r_mul ?h1 ?h2 (fun _ => ?_)); (case h1 => (first | lia | omega)); (case h2 => (first | lia | omega))
  with_reducible (refine r_ne ?_; refine wpAny_truthy_bool ?_)
  refine ite_f (by rw [hx_len]; simp) ?_
  have N4' : News (hide2 hb) L h4 [(L + 1, oc), (132, tabObj #[]), (125, tabObj #[])] := fun p hp => N4 p (.tail _ (.tail _ (.tail _ hp)))
  clear N4 N3 F3
  with_reducible refine isTrue_or_nil ?_
  (with_reducible refine ite_f ?hd ?_); (case hd => first | rfl | decide)
  with_reducible (refine wpAny_execs_nil ?_; refine sq_next ?_; refine r_seq ?_)
  (with_reducible refine r_assign ?_ ?h1); (case h1 => rfl)
  with_reducible refine r_callN ?_
  (with_reducible refine' r_glob ?V ?G ?hk ?hx ?eB ?_); (case V => assumption); (case hx => kernel_rfl); (case eB => with_reducible exact g_vio _); (case G => assumption); (case hk => exact Fr.keep (by assumption))
  (with_reducible refine' r_calldef ?G ?hx ?_ ?h1 ?h2); (case G => assumption); (case hx => kernel_rfl); (case h1 => rfl); (case h2 => rfl)
  (with_reducible refine r_args ?_ ?h1); (case h1 => rfl)
  (with_reducible refine' r_local ?V ?hn ?hv ?hx ?_); (case V => assumption); (case hx => kernel_rfl); (case hn => first | exact Fr.ns (by assumption) | assumption); (case hv => walk_at "mlk")
  with_reducible (refine r_args0 ?_; refine And.intro (Fr.keep (by assumption)) ?_)
  refine vio_spec hk5 (GG.keeps F4.keep) (R.le (by (first | lia | omega))) ?_
  intro h5 t5 va vits hk45 hvl hvi
  have F5 := fr_keeps F4 hk45
  have N5 := news_keeps N4' hk45
  clear F4 N4'
  obtain ⟨tn, Nt, Sv, hta⟩ := src_of F5 hvl
  have N5' : News (hide2 hb) L h5 ((L + 1, oc) :: (132, tabObj #[]) :: (125, tabObj #[]) :: tn) := by
    intro p hp
    rcases List.mem_append.mp (show p ∈ [(L + 1, oc), (132, tabObj #[]), (125, tabObj #[])] ++ tn from hp) with hp | hp
    · exact N5 p hp
    · exact Nt p hp
  clear N5 Nt
  (with_reducible refine' r_storeG ?V ?F ?N ?hx ?_); (case V => assumption); (case F => assumption); (case N => assumption); (case hx => kernel_rfl); intro _ _ _ _ _ _
  with_reducible (refine sq_next ?_; refine r_seq ?_)
  rename_i h6 t6 F6 N6
  clear F5 N5'
  have hvz : vits.size = 64 := by have := hvi.length; rw [Array.length_toList] at this; rw [this]; have := (ord_lt hk5).2; simpa [ordI] using this
  have hol : (ordI k).length = 64 := by have := (ord_lt hk5).2; simpa [ordI] using this
  have hdv : dvs hid.length = 1 ∨ dvs hid.length = 16 ∨ dvs hid.length = 4 := by unfold dvs; split <;> (try split) <;> simp
  have hd3 : ([1, 16, 4] : List Int).getD ((hid.length : Int) % 3).toNat 0 = dvs hid.length := by
    unfold dvs
    rcases (by (first | lia | omega) : hid.length % 3 = 0 ∨ hid.length % 3 = 1 ∨ hid.length % 3 = 2) with e | e | e
    · rw [show ((hid.length : Int) % 3).toNat = 0 by (first | lia | omega), e]; rfl
    · rw [show ((hid.length : Int) % 3).toNat = 1 by (first | lia | omega), e]; rfl
    · rw [show ((hid.length : Int) % 3).toNat = 2 by (first | lia | omega), e]; rfl
  refine LCt.Assign_ListComp_T F6 V.locals (swaps_of V rfl) (Ev.clos V (cl2 := [(Str.ofString "size", L + 1)]) rfl) (by decide) rfl (by decide) rfl (V.kind _) ?_ ?_ (fun _ => rfl)
  · rw [V.scope]; rfl
  (with_reducible refine' r_local ?V ?hn ?hv ?hx ?_); (case V => assumption); (case hx => kernel_rfl); (case hn => first | exact Fr.ns (by assumption) | assumption); (case hv => walk_at "mlk")
  refine Or.inl ⟨va, vits, _, rfl, R.hh, F6, N6, src_mono Sv (fun p hp => .tail _ (.tail _ (.tail _ hp))), by rw [hvz, sizeLine_eq]; (first | lia | omega), ?_⟩
  rintro _ ⟨g', rfl⟩
  have helt : ∀ (j : Nat) (v : Value), j < 64 → vits[j]? = some v → ∃ uj, v = .int ((ordI k).getD j 0) uj := by
    intro j v hj hv
    obtain ⟨uj, hu⟩ := IntsAre.get hvi j ((ordI k)[j]'(by (first | lia | omega))) (by simp [hol, hj])
    rw [Array.getElem?_toList, hv] at hu
    refine ⟨uj, ?_⟩
    have e2 : (ordI k).getD j 0 = (ordI k)[j]'(by (first | lia | omega)) := by simp [List.getD, hol, hj]
    rw [e2]; exact Option.some.inj hu
  refine compRestT_of (fun i => (ordI k).getD i 0) (fun i => (ordI k).getD i 0 % dvs hid.length == 0) (src_mono Sv (fun p hp => .tail _ (.tail _ (.tail _ hp)))) ?_ ?_ ?_
  · intro j v C m2' h8 tk8 all hj hPv hn hx F8 N8 hall
    obtain ⟨uj, rfl⟩ := helt j v (by (first | lia | omega)) hPv
    have V' := V.comp (scope := { kind := .function, names := [(Str.ofString ".0", .local), (Str.ofString "value", .local), (Str.ofString "size", .free)], isGenerator := false, isCoroutine := false }) (C := C) (cl2 := [(Str.ofString "size", L + 1)])
    have hmem : (L + 1, oc) ∈ all := hall _ (.head _)
    clear F6 N6
    (with_reducible refine r_testCmp ?_ ?h1); (case h1 => rfl)
    with_reducible refine wpAny_BinOp ?_
    (with_reducible refine' r_local ?V ?hn ?hv ?hx ?_); (case V => assumption); (case hx => kernel_rfl); (case hn => first | exact Fr.ns (by assumption) | assumption); (case hv => walk_at "mlk")
    with_reducible (refine Subscript_ ?_; refine PyProof.Rows.List_ ?_)
    (with_reducible refine r_args ?_ ?h1); (case h1 => rfl)
    with_reducible refine r_cint (fun _ => ?_)
    (with_reducible refine r_args ?_ ?h1); (case h1 => rfl)
    with_reducible refine r_cint (fun _ => ?_)
    (with_reducible refine r_args ?_ ?h1); (case h1 => rfl)
    with_reducible (refine r_cint (fun _ => ?_); refine r_args0 ?_)
    (with_reducible refine' r_newList ?F ?N ?hz ?_); (case F => assumption); (case N => assumption); (case hz => first | decide | (simp only [List.length_cons, List.length_nil, sizeLine_eq]; (first | lia | omega))); intro _ _ _ _ _ _
    with_reducible refine wpAny_BinOp ?_
    (with_reducible refine' r_cell ?V ?hc ?hv ?hx ?_); (case V => assumption); (case hx => decide +kernel); (case hc => rfl); (case hv => exact isCell_news (by assumption) (by walk_at "mmem") (by assumption))
    with_reducible refine r_cint (fun _ => ?_)
    (with_reducible refine r_mod ?h1 (fun _ => ?_)); (case h1 => (first | lia | omega))
    rename_i F10 N10 _ _
    refine r_itemI (ns := [1, 16, 4]) (isList_news N10 (.head _)) (.cons _ _ (.cons _ _ (.cons _ _ .nil))) (by (first | lia | omega)) (by simp; (first | lia | omega)) (by decide) rfl (fun u' => ?_)
    rw [hd3]
    (with_reducible refine r_mod ?h1 (fun _ => ?_)); (case h1 => (first | lia | omega))
    with_reducible (refine r_cint (fun _ => ?_); refine r_eq ?_; refine wpAny_truthy_bool ?_)
    exact ⟨_, _, rfl, rfl, F10, fun p hp => N10 p (.tail _ hp)⟩
  · intro j v C m2' h8 tk8 hj hPv hn hx F8 N8
    obtain ⟨uj, rfl⟩ := helt j v (by (first | lia | omega)) hPv
    have V' := V.comp (scope := { kind := .function, names := [(Str.ofString ".0", .local), (Str.ofString "value", .local), (Str.ofString "size", .free)], isGenerator := false, isCoroutine := false }) (C := C) (cl2 := [(Str.ofString "size", L + 1)])
    (with_reducible refine' r_local ?V ?hn ?hv ?hx ?_); (case V => assumption); (case hx => kernel_rfl); (case hn => first | exact Fr.ns (by assumption) | assumption); (case hv => walk_at "mlk")
    exact ⟨_, _, _, rfl, rfl, fun _ _ e => e⟩
  intro ys hys D h9 t9 F9 N9 o9
  rw [hvz, ← hol, filter_getD (ordI k) (fun v => v % dvs hid.length == 0)] at hys
  have hys : IntsAre ys (lastOf k (dvs hid.length)) := hys
  have N9' : News (hide2 hb) L h9 ((L + 1, oc) :: (132, tabObj #[]) :: (125, tabObj #[]) :: (D, lst ys) :: tn) := by
    intro p hp
    rcases List.mem_cons.mp hp with rfl | hp
    · exact N9 _ (.tail _ (.head _))
    rcases List.mem_cons.mp hp with rfl | hp
    · exact N9 _ (.tail _ (.tail _ (.head _)))
    rcases List.mem_cons.mp hp with rfl | hp
    · exact N9 _ (.tail _ (.tail _ (.tail _ (.head _))))
    rcases List.mem_cons.mp hp with rfl | hp
    · exact N9 _ (.head _)
    · exact N9 _ (.tail _ (.tail _ (.tail _ (.tail _ hp))))
  dsimp only
  exact law3 GG R hk5 hidr hl2 hl8 hLs F9 N9' hoc (by walk_at "mlk") (by walk_at "mlk") (by walk_at "mlk") (by walk_at "mlk") (by walk_at "mlk") (by walk_at "mlk") (by walk_at "mlk") hb11 hbw hbh (src_mono Sv fun p hp => .tail _ hp) hvi (lits := ys.toArray) (.inr ⟨_, .head _, rfl, _, rfl⟩) hys HQ _ _ _ rfl rfl rfl V
end

end

section


theorem post_true (args : List WData) : PySem.Challenge.rw_mq0187_01.row.claim.post args (.bool true) args = true := by
  refine postW_of (r := PySem.Challenge.rw_mq0187_01.row.toRowW) (X := true) ?_ ?_ rfl
  · simp [PySem.Challenge.rw_mq0187_01, OpenLaw.row, WShape.has, WShape.arms]
  · exact w_eq_bool (k := true) (l := true) (by simp [WTm.value]) (by simp [WTm.value])
theorem fin : PySem.Challenge.rw_mq0187_01.Holds := by
  refine Mine.hd ?_
  k_go0
  rename_i w s0 s1 mg mb G Y fa ob pm cd doc ho hcd hg X V T B TE TW script hs hlay0 hL1 hr1 hl2 a1 a2 sa vs a3 hL ra w1 r0 hI hr hc1 hc2 hD h1 tk1 oc hoc X0 X' T' K' F' codeHd' N' l0
  rw [gh] at X' T' F' lifted N'
  rw [gh] at codeHd codeHd'
  have GG : Gd w (hide2 s1.heap) := ⟨X', ⟨_, _, _, _, _, T'⟩, codeHd, codeHd'⟩
  refine top_go ?_
  intro env A V R
  dsimp only at V
  obtain ⟨m, hm, F⟩ : ∃ m, m (Str.ofString "script") = some (.ref sa) ∧ Fr (hide2 s1.heap) s1.heap.objs.size h1 m := ⟨_, by kernel_rfl, F'⟩
  clear F'
  have hgs : s1.gens = #[] := hg
  with_reducible refine r_seq ?_
  (with_reducible refine r_assign ?_ ?h1); (case h1 => rfl)
  with_reducible refine Subscript_ ?_
  (with_reducible refine' r_local ?V ?hn ?hv ?hx ?_); (case V => assumption); (case hx => kernel_rfl); (case hn => first | exact Fr.ns (by assumption) | assumption); (case hv => walk_at "mlk")
  with_reducible (refine r_Slice ?_; refine r_partN ?_; refine r_partS ?_; refine r_cint (fun _ => ?_); refine r_partN ?_; refine r_slicePost ?_)
  clear Y X T B TE TW hT8 hT9 hs hlay0 hL1 hr1 hl2 ra r0 hr hD K'
  have hsl : script.length ≤ 63 := by (first | lia | omega)
  have hvl : vs.toArray.size = script.length := by have := hI.length; simpa using this
  refine r_sliceTail F N' (isList_keep lifted F.keep) .none (.int _ _) (by (first | lia | omega)) rfl (fun _ => rfl) ?_
  intro D h2 hD hlt2 F2 N2
  obtain ⟨draws, hdI, hdl⟩ : ∃ draws, IntsAre (slicePick vs.toArray none (some 6) none).toList draws ∧ draws.length ≤ 6 := ⟨script.take 6, kmk_upto (vs := vs) hI (by decide), by rw [List.length_take]; (first | lia | omega)⟩
  (with_reducible refine' r_storeG ?V ?F ?N ?hx ?_); (case V => assumption); (case F => assumption); (case N => assumption); (case hx => kernel_rfl); intro _ _ _ _ _ _
  with_reducible (refine sq_next ?_; refine r_seq ?_)
  (with_reducible refine r_assign ?_ ?h1); (case h1 => rfl)
  with_reducible (refine wpAny_BinOp ?_; refine wpAny_BinOp ?_; refine r_callN ?_)
  (with_reducible refine' r_boot ?V ?G ?hk ?hx ?eB ?_); (case V => assumption); (case hx => kernel_rfl); (case eB => with_reducible exact g_sum _); (case G => assumption); (case hk => exact Fr.keep (by assumption))
  (with_reducible refine r_cwBuiltin ?_ ?h1 ?h2); (case h1 => rfl); (case h2 => rfl)
  (with_reducible refine r_args ?_ ?h1); (case h1 => rfl)
  (with_reducible refine' r_local ?V ?hn ?hv ?hx ?_); (case V => assumption); (case hx => kernel_rfl); (case hn => first | exact Fr.ns (by assumption) | assumption); (case hv => walk_at "mlk")
  with_reducible refine r_args0 ?_
  refine r_sum (by assumption) (by assumption) R.hh (isList_news (by assumption) (.head _)) hdI ?_
  intro h3 t3 u3 F3 N3
  with_reducible (refine r_cint (fun _ => ?_); refine r_add (fun _ => ?_); refine r_cint (fun _ => ?_))
  (with_reducible refine r_mod ?h1 (fun _ => ?_)); (case h1 => (first | lia | omega))
  (with_reducible refine' r_storeG ?V ?F ?N ?hx ?_); (case V => assumption); (case F => assumption); (case N => assumption); (case hx => kernel_rfl); intro _ _ _ _ _ _
  with_reducible (refine sq_next ?_; refine r_seq ?_)
  (with_reducible refine r_assign ?_ ?h1); (case h1 => rfl)
  with_reducible refine r_callN ?_
  (with_reducible refine' r_boot ?V ?G ?hk ?hx ?eB ?_); (case V => assumption); (case hx => kernel_rfl); (case eB => with_reducible exact g_bytes _); (case G => assumption); (case hk => exact Fr.keep (by assumption))
  (with_reducible refine r_cwType ?_ ?h1 ?h2); (case h1 => rfl); (case h2 => rfl)
  (with_reducible refine r_args ?_ ?h1); (case h1 => rfl)
  with_reducible (refine wpAny_BinOp ?_; refine PyProof.Rows.List_ ?_)
  (with_reducible refine r_args ?_ ?h1); (case h1 => rfl)
  with_reducible refine r_cint (fun _ => ?_)
  (with_reducible refine r_args ?_ ?h1); (case h1 => rfl)
  with_reducible (refine r_cint (fun _ => ?_); refine r_args0 ?_)
  (with_reducible refine' r_newList ?F ?N ?hz ?_); (case F => assumption); (case N => assumption); (case hz => first | decide | (simp only [List.length_cons, List.length_nil, sizeLine_eq]; (first | lia | omega))); intro _ _ _ _ _ _
  rename_i m4 S4 h4 t4 F4 N4 _ t5 a5 h5 hle5 hlt5 F5 N5
  obtain ⟨k, hk5, hke⟩ : ∃ k : Nat, k < 5 ∧ (draws.sum + 1) % 5 = (k : Int) := ⟨((draws.sum + 1) % 5).toNat, by (first | lia | omega), by (first | lia | omega)⟩
  rw [hke] at S4
  clear F4 N4
  have hds : (slicePick vs.toArray none (some 6) none).size = draws.length := by have := hdI.length; simpa using this
  refine ListComp_U F5 (Ev.clos V (cl2 := []) rfl) (by decide) rfl (by decide) rfl ?_ (fun _ => rfl)
  (with_reducible refine' r_local ?V ?hn ?hv ?hx ?_); (case V => assumption); (case hx => kernel_rfl); (case hn => first | exact Fr.ns (by assumption) | assumption); (case hv => walk_at "mlk")
  refine CompSrc.ledger R.hh F5 N5 (.tail _ (.head _)) (by rw [hds, sizeLine_eq]; (first | lia | omega)) fun g' => ?_
  refine compRest_of (fun j => draws.getD j 0 % 256) (.inr ⟨_, .tail _ (.head _), rfl, _, rfl⟩) ?_ ?_
  · intro j v C m2' h8 tk8 hj hPv hn hx F8 N8
    have V' := V.comp (scope := { kind := .function, names := [(Str.ofString ".0", .local), (Str.ofString "x", .local)], isGenerator := false, isCoroutine := false }) (C := C) (cl2 := [])
    have hjl : j < draws.length := by rw [hds] at hj; exact hj
    obtain ⟨uj, hu⟩ := IntsAre.get hdI j draws[j] (by simp)
    have ev : v = .int (draws.getD j 0) uj := by
      rw [Array.getElem?_toList] at hu
      have e2 : draws.getD j 0 = draws[j] := by simp [List.getD, hjl]
      rw [e2]
      exact Option.some.inj (hPv.symm.trans hu)
    subst ev
    with_reducible refine wpAny_BinOp ?_
    (with_reducible refine' r_local ?V ?hn ?hv ?hx ?_); (case V => assumption); (case hx => kernel_rfl); (case hn => first | exact Fr.ns (by assumption) | assumption); (case hv => walk_at "mlk")
    with_reducible refine r_cint (fun _ => ?_)
    (with_reducible refine r_mod ?h1 (fun _ => ?_)); (case h1 => (first | lia | omega))
    exact ⟨_, _, _, rfl, rfl, fun _ _ e => e⟩
  · intro ys hys D5 h9 tk9 F9 N9 o9
    skip
    obtain ⟨hid, hhid⟩ : ∃ hid : List Int, hid = [251, 15] ++ (List.range (slicePick vs.toArray none (some 6) none).size).map (fun j => draws.getD j 0 % 256) := ⟨_, rfl⟩
    have hyl : ys.length ≤ 6 := by have := hys.length; rw [List.length_map, List.length_range, hds] at this; (first | lia | omega)
    refine r_addL F9 N9 (isList_news N9 (.tail _ (.head _))) (isList_news (its := ys.toArray) (n := ys.length) N9 (.head _)) (by simp; (first | lia | omega)) ?_
    intro D6 h10 hD6 hlt10 F10 N10
    with_reducible refine r_args0 ?_
    have hidl : hid.length = 2 + draws.length := by rw [hhid]; simp [hds]; (first | lia | omega)
    have hidr : ∀ c ∈ hid, 0 ≤ c ∧ c < 256 := by
      intro c hc
      rw [hhid] at hc
      rcases List.mem_append.mp hc with hc | hc
      · rcases List.mem_cons.mp hc with rfl | hc
        · decide
        · rw [List.mem_singleton.mp hc]; decide
      · obtain ⟨j, _, rfl⟩ := List.mem_map.mp hc
        (first | lia | omega)
    refine r_mkBytes (ns := hid) (isList_news N10 (List.Mem.head _)) ?_ hidr ?_ R.hh ?_
    · rw [hhid]
      exact IntsAre.append (.cons _ _ (.cons _ _ .nil)) hys
    · (first | lia | omega)
    intro h11 t11 by11 tb11 hk11 hb11
    have F11 := fr_keeps F10 hk11
    have N11 := news_keeps N10 hk11
    (with_reducible refine' r_storeG ?V ?F ?N ?hx ?_); (case V => assumption); (case F => assumption); (case N => assumption); (case hx => kernel_rfl); intro _ _ _ _ _ _
    with_reducible (refine sq_next ?_; refine r_seq ?_)
    (with_reducible refine r_assign ?_ ?h1); (case h1 => rfl)
    with_reducible refine r_callN ?_
    (with_reducible refine' r_boot ?V ?G ?hk ?hx ?eB ?_); (case V => assumption); (case hx => kernel_rfl); (case eB => with_reducible exact g_len _); (case G => assumption); (case hk => exact Fr.keep (by assumption))
    (with_reducible refine r_cwBuiltin ?_ ?h1 ?h2); (case h1 => rfl); (case h2 => rfl)
    (with_reducible refine r_args ?_ ?h1); (case h1 => rfl)
    (with_reducible refine' r_local ?V ?hn ?hv ?hx ?_); (case V => assumption); (case hx => kernel_rfl); (case hn => first | exact Fr.ns (by assumption) | assumption); (case hv => walk_at "mlk")
    with_reducible refine r_args0 ?_
    rename_i h12 t12 F12 N12
    refine r_lenBytes hb11 (by (first | lia | omega)) (fun u12 t13 => ?_)
    have N12' : News (hide2 s1.heap) s1.heap.objs.size h12 [(s1.heap.objs.size + 1, oc), (132, tabObj #[]), (125, tabObj #[])] := fun p hp => N12 p (.tail _ (.tail _ (.tail _ (.tail _ hp))))
    refine r_storeC V F12 N12' rfl hoc (by decide +kernel) ?_ ?_
    · intro p hp
      rcases List.mem_cons.mp hp with rfl | hp
      · exact Nat.ne_of_lt (Nat.lt_trans l0.1 (Nat.lt_succ_self _))
      · rw [List.mem_singleton.mp hp]
        exact Nat.ne_of_lt (Nat.lt_trans l0.2 (Nat.lt_succ_self _))
    intro h14 oc14 F14 N14 hoc14
    have hcell : h14.IsCell (s1.heap.objs.size + 1) (some (.int (hid.length : Int) u12)) := ⟨oc14, (N14 _ (.head _)).1, hoc14⟩
    with_reducible (refine sq_next ?_; refine r_seq ?_)
    (with_reducible refine r_assign ?_ ?h1); (case h1 => rfl)
    with_reducible refine r_callN ?_
    (with_reducible refine' r_glob ?V ?G ?hk ?hx ?eB ?_); (case V => assumption); (case hx => kernel_rfl); (case eB => with_reducible exact g_write _); (case G => assumption); (case hk => exact Fr.keep (by assumption))
    (with_reducible refine' r_calldef ?G ?hx ?_ ?h1 ?h2); (case G => assumption); (case hx => kernel_rfl); (case h1 => rfl); (case h2 => rfl)
    (with_reducible refine r_args ?_ ?h1); (case h1 => rfl)
    (with_reducible refine' r_local ?V ?hn ?hv ?hx ?_); (case V => assumption); (case hx => kernel_rfl); (case hn => first | exact Fr.ns (by assumption) | assumption); (case hv => walk_at "mlk")
    (with_reducible refine r_args ?_ ?h1); (case h1 => rfl)
    (with_reducible refine' r_local ?V ?hn ?hv ?hx ?_); (case V => assumption); (case hx => kernel_rfl); (case hn => first | exact Fr.ns (by assumption) | assumption); (case hv => walk_at "mlk")
    with_reducible (refine r_args0 ?_; refine And.intro (Fr.keep (by assumption)) ?_)
    refine write_spec hk5 (GG.keeps F14.keep) (R.le (by (first | lia | omega))) hb11 (by (first | lia | omega)) ?_
    intro h15 t15 byw tbw hk15 hbw
    have F15 := fr_keeps F14 hk15
    have N15 := news_keeps N14 hk15
    refine r_store V F15 N15 (by kernel_rfl) ?_
    intro h16 t16 F16 N16
    dsimp only
    refine law2 GG R hk5 hidr (by (first | lia | omega)) (by (first | lia | omega)) l0.1 F16 N16 hoc14 (by walk_at "mlk") (by walk_at "mlk") (by walk_at "mlk") hb11 hbw ?_ _ _ _ rfl rfl rfl V
    intro h17 t17 hk17 hg17
    refine ⟨⟨.inl ⟨.bool true, .bool true, [], rfl, fun _ => rfl, .bool true, post_true _, fun _ => ⟨List.nodup_nil, fun a ha => nomatch ha⟩⟩, ?_, rfl, hgs⟩, hg17⟩
    have e := gh s1.heap
    intro x ob hx
    exact hk17 x ob (by rw [← e]; exact hx)

end

end Mine

theorem PySem.Challenge.cw_mq0187_01_holds : PySem.Challenge.rw_mq0187_01.Holds := by
  exact Mine.fin
