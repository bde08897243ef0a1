import PyProof.Rows.All
import Wide.All
import OpenK.AllK
import Wide.FinOn
import PyProof.SetRoads
import PyProof.Rows.RegSetRoads
import KE.KEqDict
import PySem.Challenge.RW_xo0005_01
set_option Elab.async false
set_option maxRecDepth 100000
section -- Hd
open PySem PySem.W PyProof.Rows
set_option maxHeartbeats 0
namespace Mine
open_top hd for PySem.Challenge.rw_xo0005_01
end Mine
end
section -- Base
open PySem PySem.W PySem.Calls PyProof.Rows
namespace Mine

def Sub (h h' : Heap) : Prop := ∀ b o, h.get? b = some o → h'.get? b = some o
theorem Sub.refl (h : Heap) : Sub h h := fun _ _ e => e
theorem Sub.trans {a b c : Heap} (x : Sub a b) (y : Sub b c) : Sub a c := fun p o e => y p o (x p o e)

/-- what stays known of the top -/
structure Gr (w : World) (p : Program) (loose : List Str) (mg mb : Str → Option Value) (h : Heap) : Prop where
  X : (hd.heap_39 w.params).In h
  T : TopRead p loose mg mb h
theorem Gr.keeps {w : World} {p : Program} {loose : List Str} {mg mb : Str → Option Value} {h h' : Heap} (G : Gr w p loose mg mb h) (k : Sub h h') : Gr w p loose mg mb h' := ⟨G.X.keeps k, G.T.keeps k⟩

theorem small_log {a : Int} (h : a.natAbs ≤ 4096) : a.natAbs.log2 < 1920 := by
  by_cases h0 : a.natAbs = 0
  · rw [h0]; decide
  · exact (Nat.log2_lt h0).2 (Nat.lt_of_le_of_lt h (by decide +kernel))

def StrIs (x : Str) (v : Value) : Prop := ∃ t, v = .str x t
theorem strIs {x y : Str} {t : Tok} (e : y = x) : StrIs x (.str y t) := ⟨t, e ▸ rfl⟩
def IntIs (x : Int) (v : Value) : Prop := ∃ t, v = .int x t
theorem intIs {x y : Int} {t : Tok} (e : y = x) : IntIs x (.int y t) := ⟨t, e ▸ rfl⟩

/-- room for calls -/
structure Fit (A : Around) (d : Nat) : Prop where
  hh : A.handled = none
  hd : A.depth + d < recursionLimit
  hu : A.units + 8 * d < cLine
theorem Fit.mono {A : Around} {d d' : Nat} (f : Fit A d) (h : d' ≤ d) : Fit A d' := ⟨f.hh, by have := f.hd; omega, by have := f.hu; omega⟩
theorem Fit.deeper {A : Around} {d : Nat} {env : Env} (f : Fit A (d + 1)) : Fit (A.deeper env) d :=
  ⟨f.hh, by have := f.hd; show A.depth + 1 + d < _; omega, by have := f.hu; show A.units + 3 + 8 * d < _; omega⟩
theorem Fit.hdl {A : Around} {d : Nat} {env : Env} (f : Fit A d) : (A.deeper env).handled = none := f.hh
theorem Fit.lt {A : Around} {d : Nat} (f : Fit A d) : A.depth < recursionLimit := by have := f.hd; omega
theorem Fit.ult {A : Around} {d : Nat} (f : Fit A d) : A.units < cLine := by have := f.hu; omega

/-- the state: s with another heap and another count -/
@[reducible] def St (s : Shared) (h : Heap) (tk : Nat) : Shared := { s with heap := h, toks := tk }

section
variable {prog : Program} {w : World} {A : Around} {E : Value → Shared → Prop} {s : Shared} {h : Heap} {tk : Nat} {env : Env} {K : Frag}

theorem enter {Q : Value → Shared → Prop}
    {name qual : Str} {params : Arguments} {body : List Stmt} {scope : Scope} {dV kV doc pm cdv ct oc : Value} {an od : Option Addr} {osl : Array (Option Value)} {f : Addr} {args : List Value} {binds : List (Str × Value)}
    (hroom : A.depth < recursionLimit) (X : K.In h) (hl : h.NoLimit)
    (ho : K.lookup f = some ⟨oc, od, .func (fnOf name qual params body scope dV kV doc pm an cdv ct), osl⟩) (hcd : codeIn K cdv qual = true)
    (hbind : bindArgs (fnOf name qual params body scope dV kV doc pm an cdv ct) ⟨args, []⟩ = pure binds) (hloc : ∀ y ∈ binds, scope.names.lookup y.1 = some .local)
    (hco : scope.isCoroutine = false) (hgen : scope.isGenerator = false) (hk : scope.kind = .function) (hcell : ∀ x ∈ scope.names, x.2 ≠ .cell)
    (k : ∀ h₁ tk₁, Fr h h.objs.size h₁ (fun x => binds.reverse.lookup x) → News h h.objs.size h₁ [] →
      wpAny (model prog w) (A.deeper (envOf qual scope h.objs.size f cdv)) (execs body (envOf qual scope h.objs.size f cdv))
        (fun fl s' => Q (match fl with | .ret v => v | _ => .none) s') (fun _ _ => False) (St s h₁ tk₁))
    : wpAny (model prog w) A (call (.ref f) args) Q E (St s h tk) := by
  refine wpAny_call (codeAny_call_def (fd := fnOf name qual params body scope dV kV doc pm an cdv ct) (body := body) (binds := binds) hroom (X _ _ ho) rfl hl (codeRec_of X hcd) rfl (BindsTo.of_eq hbind) hcell hloc (fun h₁ hns hk₁ => ?_) hco hgen hk)
  exact wpAny_mono (k h₁ _ ⟨hns, hk₁, Nat.le_refl _⟩ News.nil) (fun _ _ x => x) (fun _ _ x => x.elim)

theorem ev_cut {α : Type} {M : Model} {t : Sem α} (P : α → Prop) {Q : α → Shared → Prop}
    (h1 : wpAny M A t (fun v s' => ∃ h' tk', s' = St s h' tk' ∧ Sub h h' ∧ P v) E (St s h tk))
    (h2 : ∀ v h' tk', Sub h h' → P v → Q v (St s h' tk')) : wpAny M A t Q E (St s h tk) :=
  wpAny_mono h1 (fun v _ ⟨h', tk', e, a, b⟩ => e ▸ h2 v h' tk' a b) fun _ _ x => x

theorem execs_cut {M : Model} {st : Stmt} {rest : List Stmt} {Q : Flow → Shared → Prop} (P : Heap → Prop)
    (h1 : wpAny M A (exec st env) (fun f s' => f = .next ∧ ∃ h' tk', s' = St s h' tk' ∧ P h') E (St s h tk))
    (h2 : ∀ h' tk', P h' → wpAny M A (execs rest env) Q E (St s h' tk')) : wpAny M A (execs (st :: rest) env) Q E (St s h tk) := by
  refine wpAny_execs_cons (wpAny_mono h1 (fun f s' q => ?_) fun _ _ x => x)
  obtain ⟨rfl, h', tk', rfl, p⟩ := q
  exact h2 h' tk' p

theorem w_int {i : Int} {k : Nat} {pos : Pos} {M : Model} {Q : Value → Shared → Prop} (q : ∀ t tk', Q (.int i t) (St s h tk')) : wpAny M A (eval (.Constant (.int i) k pos) env) Q E (St s h tk) :=
  wpAny_Constant_int (q _ _)
theorem w_str {x : Str} {k : Nat} {pos : Pos} {M : Model} {Q : Value → Shared → Prop} (q : ∀ t tk', Q (.str x t) (St s h tk')) : wpAny M A (eval (.Constant (.str x) k pos) env) Q E (St s h tk) :=
  Calls.Constant_str (q _ _)
section
variable {a b : Int} {t u : Tok} {x y : Str} {Q : Value → Shared → Prop}
theorem w_add (q : ∀ t tk', Q (.int (a + b) t) (St s h tk')) : wpAny (model prog w) A (binaryOp .Add (.int a t) (.int b u)) Q E (St s h tk) := add_int (q _ _)
theorem w_iadd (q : ∀ t tk', Q (.int (a + b) t) (St s h tk')) : wpAny (model prog w) A (inplaceOp .Add (.int a t) (.int b u)) Q E (St s h tk) := iadd_int (q _ _)
theorem w_sub (q : ∀ t tk', Q (.int (a - b) t) (St s h tk')) : wpAny (model prog w) A (binaryOp .Sub (.int a t) (.int b u)) Q E (St s h tk) := sub_int (q _ _)
theorem w_mul (hm : IntMulOk a b) (q : ∀ t tk', Q (.int (a * b) t) (St s h tk')) : wpAny (model prog w) A (binaryOp .Mult (.int a t) (.int b u)) Q E (St s h tk) := mul_int (q _ _) hm
theorem w_mod (hb : 0 < b) (q : ∀ t tk', Q (.int (a % b) t) (St s h tk')) : wpAny (model prog w) A (binaryOp .Mod (.int a t) (.int b u)) Q E (St s h tk) := mod_int' (by omega) (by rw [Int.fmod_eq_emod_of_nonneg _ (by omega)]; exact q _ _)
theorem w_fdiv (hb : b ≠ 0) (hp : Builtin.divisionGoesByPylong a b = false) (q : ∀ t tk', Q (.int (a.fdiv b) t) (St s h tk')) : wpAny (model prog w) A (binaryOp .FloorDiv (.int a t) (.int b u)) Q E (St s h tk) := floordiv_int hb (q _ _) (.inl hp)
theorem w_div (hb : 0 < b) (hp : Builtin.divisionGoesByPylong a b = false) (q : ∀ t tk', Q (.int (a / b) t) (St s h tk')) : wpAny (model prog w) A (binaryOp .FloorDiv (.int a t) (.int b u)) Q E (St s h tk) := w_fdiv (by omega) hp (fun t k => by rw [Int.fdiv_eq_ediv_of_nonneg _ (by omega)]; exact q t k)
theorem w_neg (q : ∀ t tk', Q (.int (-a) t) (St s h tk')) : wpAny (model prog w) A (unaryOp .USub (.int a t)) Q E (St s h tk) := neg_int (q _ _)
theorem w_abs (q : ∀ t tk', Q (.int (if a < 0 then -a else a) t) (St s h tk')) : wpAny (model prog w) A (call (.builtin "abs") [.int a t]) Q E (St s h tk) := call_abs_int fun _ _ => q _ _
theorem w_adds (hsz : x.length + y.length ≤ sizeLine) (q : ∀ t tk', Q (.str (x ++ y) t) (St s h tk')) : wpAny (model prog w) A (binaryOp .Add (.str x t) (.str y u)) Q E (St s h tk) := add_str (fun _ _ => q _ _) hsz
end
end

section
variable {prog : Program} {w : World} {A : Around} {E : Value → Shared → Prop} {s : Shared} {h h₀ : Heap} {tk : Nat} {p : Program} {loose : List Str} {mg mb : Str → Option Value} {Q : Value → Shared → Prop}
theorem nmG {L : Addr} {h' : Heap} {m : Str → Option Value} {x : Str} {pos : Pos} {v : Value} {env : Env} (G : Gr w p loose mg mb h₀) (F : Fr h₀ L h' m) (e : nsIn (hd.heap_39 w.params) mainGlobals x = some (some v)) (q : Q v (St s h' tk))
    (hg : env.globals = mainGlobals) (hk : env.scope.kind = .function) (hx : env.kindOf x = some .globalImplicit) (hd : (x == ("__debug__" : Str)) = false) :
    wpAny (model prog w) A (eval (.Name x pos) env) Q E (St s h' tk) :=
  Name_function_global hk hx (loadGlobal_global (env := env) (by rw [hg]; exact G.T.g.keeps F.keep) (mg_of G.X G.T.g e) q) hd
theorem nmB {L : Addr} {h' : Heap} {m : Str → Option Value} {x : Str} {pos : Pos} {v : Value} {env : Env} (G : Gr w p loose mg mb h₀) (F : Fr h₀ L h' m) (e : nsIn (hd.heap_39 w.params) mainGlobals x = some none) (hv : bootBuiltins x = some v) (hn : x ≠ "__name__") (q : Q v (St s h' tk))
    (hg : env.globals = mainGlobals) (hb : env.builtins = builtinsNs) (hk : env.scope.kind = .function) (hx : env.kindOf x = some .globalImplicit) (hd : (x == ("__debug__" : Str)) = false) :
    wpAny (model prog w) A (eval (.Name x pos) env) Q E (St s h' tk) :=
  Name_function_global hk hx (loadGlobal_builtin (env := env) (by rw [hg]; exact G.T.g.keeps F.keep) (mg_none_of G.X G.T.g e) (by rw [hb]; exact G.T.b.keeps F.keep) ((G.T.builtins x hn).trans hv) q) hd
theorem nb_str {L : Addr} {h' : Heap} {m : Str → Option Value} {pos : Pos} {env : Env} (G : Gr w p loose mg mb h₀) (F : Fr h₀ L h' m) (q : Q (.type "str") (St s h' tk))
    (hg : env.globals = mainGlobals) (hb : env.builtins = builtinsNs) (hk : env.scope.kind = .function) (hx : env.kindOf (Str.ofString "str") = some .globalImplicit) :
    wpAny (model prog w) A (eval (.Name (Str.ofString "str") pos) env) Q E (St s h' tk) := nmB G F rfl rfl (by decide) q hg hb hk hx (by decide)
theorem nb_int {L : Addr} {h' : Heap} {m : Str → Option Value} {pos : Pos} {env : Env} (G : Gr w p loose mg mb h₀) (F : Fr h₀ L h' m) (q : Q (.type "int") (St s h' tk))
    (hg : env.globals = mainGlobals) (hb : env.builtins = builtinsNs) (hk : env.scope.kind = .function) (hx : env.kindOf (Str.ofString "int") = some .globalImplicit) :
    wpAny (model prog w) A (eval (.Name (Str.ofString "int") pos) env) Q E (St s h' tk) := nmB G F rfl rfl (by decide) q hg hb hk hx (by decide)
theorem nb_range {L : Addr} {h' : Heap} {m : Str → Option Value} {pos : Pos} {env : Env} (G : Gr w p loose mg mb h₀) (F : Fr h₀ L h' m) (q : Q (.type "range") (St s h' tk))
    (hg : env.globals = mainGlobals) (hb : env.builtins = builtinsNs) (hk : env.scope.kind = .function) (hx : env.kindOf (Str.ofString "range") = some .globalImplicit) :
    wpAny (model prog w) A (eval (.Name (Str.ofString "range") pos) env) Q E (St s h' tk) := nmB G F rfl rfl (by decide) q hg hb hk hx (by decide)
theorem nb_len {L : Addr} {h' : Heap} {m : Str → Option Value} {pos : Pos} {env : Env} (G : Gr w p loose mg mb h₀) (F : Fr h₀ L h' m) (q : Q (.builtin "len") (St s h' tk))
    (hg : env.globals = mainGlobals) (hb : env.builtins = builtinsNs) (hk : env.scope.kind = .function) (hx : env.kindOf (Str.ofString "len") = some .globalImplicit) :
    wpAny (model prog w) A (eval (.Name (Str.ofString "len") pos) env) Q E (St s h' tk) := nmB G F rfl rfl (by decide) q hg hb hk hx (by decide)
theorem nb_abs {L : Addr} {h' : Heap} {m : Str → Option Value} {pos : Pos} {env : Env} (G : Gr w p loose mg mb h₀) (F : Fr h₀ L h' m) (q : Q (.builtin "abs") (St s h' tk))
    (hg : env.globals = mainGlobals) (hb : env.builtins = builtinsNs) (hk : env.scope.kind = .function) (hx : env.kindOf (Str.ofString "abs") = some .globalImplicit) :
    wpAny (model prog w) A (eval (.Name (Str.ofString "abs") pos) env) Q E (St s h' tk) := nmB G F rfl rfl (by decide) q hg hb hk hx (by decide)
theorem nb_sum {L : Addr} {h' : Heap} {m : Str → Option Value} {pos : Pos} {env : Env} (G : Gr w p loose mg mb h₀) (F : Fr h₀ L h' m) (q : Q (.builtin "sum") (St s h' tk))
    (hg : env.globals = mainGlobals) (hb : env.builtins = builtinsNs) (hk : env.scope.kind = .function) (hx : env.kindOf (Str.ofString "sum") = some .globalImplicit) :
    wpAny (model prog w) A (eval (.Name (Str.ofString "sum") pos) env) Q E (St s h' tk) := nmB G F rfl rfl (by decide) q hg hb hk hx (by decide)
theorem nb_min {L : Addr} {h' : Heap} {m : Str → Option Value} {pos : Pos} {env : Env} (G : Gr w p loose mg mb h₀) (F : Fr h₀ L h' m) (q : Q (.builtin "min") (St s h' tk))
    (hg : env.globals = mainGlobals) (hb : env.builtins = builtinsNs) (hk : env.scope.kind = .function) (hx : env.kindOf (Str.ofString "min") = some .globalImplicit) :
    wpAny (model prog w) A (eval (.Name (Str.ofString "min") pos) env) Q E (St s h' tk) := nmB G F rfl rfl (by decide) q hg hb hk hx (by decide)
theorem nb_isinstance {L : Addr} {h' : Heap} {m : Str → Option Value} {pos : Pos} {env : Env} (G : Gr w p loose mg mb h₀) (F : Fr h₀ L h' m) (q : Q (.builtin "isinstance") (St s h' tk))
    (hg : env.globals = mainGlobals) (hb : env.builtins = builtinsNs) (hk : env.scope.kind = .function) (hx : env.kindOf (Str.ofString "isinstance") = some .globalImplicit) :
    wpAny (model prog w) A (eval (.Name (Str.ofString "isinstance") pos) env) Q E (St s h' tk) := nmB G F rfl rfl (by decide) q hg hb hk hx (by decide)
theorem nb_tuple {L : Addr} {h' : Heap} {m : Str → Option Value} {pos : Pos} {env : Env} (G : Gr w p loose mg mb h₀) (F : Fr h₀ L h' m) (q : Q (.type "tuple") (St s h' tk))
    (hg : env.globals = mainGlobals) (hb : env.builtins = builtinsNs) (hk : env.scope.kind = .function) (hx : env.kindOf (Str.ofString "tuple") = some .globalImplicit) :
    wpAny (model prog w) A (eval (.Name (Str.ofString "tuple") pos) env) Q E (St s h' tk) := nmB G F rfl rfl (by decide) q hg hb hk hx (by decide)
end

section
variable {prog : Program} {w : World} {A : Around} {E : Value → Shared → Prop} {s : Shared} {h h₀ : Heap} {tk : Nat} {L : Addr} {m : Str → Option Value} {news : List (Addr × Obj)}
theorem w_st {name : Str} {scope : Scope} {a : Addr} {cd : Value} {x : Str} {v : Value} {M : Model} {Q : Unit → Shared → Prop} (F : Fr h₀ L h m) (N : News h₀ L h news)
    (q : ∀ h' tk', Fr h₀ L h' (fun y => if y = x then some v else m y) → News h₀ L h' news → Q () (St s h' tk'))
    (hk : scope.kind = .function) (hl : (envOf name scope L a cd).kindOf x = some .local) :
    wpAny M A (storeName (envOf name scope L a cd) x v) Q E (St s h tk) := stN (s := St s h tk) F N (fun h' F' N' => q h' _ F' N') hk hl
theorem w_stC {name : Str} {scope : Scope} {a : Addr} {cd : Value} {x : Str} {v : Value} {M : Model} {Q : Unit → Shared → Prop} (F : Fr h₀ L h m) (N : News h₀ L h news)
    (q : ∀ h' tk', Fr h₀ L h' (fun y => if y = x then some v else m y) → News h₀ L h' news → Q () (St s h' tk'))
    (hk : scope.kind = .function) (hl : (envOfC name scope L a cd).kindOf x = some .local) :
    wpAny M A (storeName (envOfC name scope L a cd) x v) Q E (St s h tk) := stLocN (s := St s h tk) F N (fun h' F' N' => q h' _ F' N') hk hl
theorem w_strInt {a : Int} {t : Tok} {Q : Value → Shared → Prop} (ha : a.natAbs.log2 < 1920) (q : ∀ t tk', Q (.str (Str.ofString (toString a)) t) (St s h tk')) : wpAny (model prog w) A (call (.type "str") [.int a t]) Q E (St s h tk) :=
  PySem.P.str_of_int ha (q _ _)
end

section
variable {prog : Program} {w : World} {A : Around} {E : Value → Shared → Prop} {s : Shared} {h h₀ : Heap} {tk : Nat} {L : Addr} {m : Str → Option Value} {news : List (Addr × Obj)}
/-- what an expression's evaluation leaves: the frame as it was, more on the ledger -/
def Ev (h₀ : Heap) (L : Addr) (m : Str → Option Value) (news : List (Addr × Obj)) (s : Shared) (V : Value → Prop) (v : Value) (s' : Shared) : Prop :=
  ∃ h' tk', s' = St s h' tk' ∧ Fr h₀ L h' m ∧ (∃ own, News h₀ L h' (own ++ news)) ∧ V v
theorem asg_cut {name : Str} {scope : Scope} {a : Addr} {cd : Value} {x : Str} {px pos : Pos} {value : Expr} {rest : List Stmt} {Q : Flow → Shared → Prop} (V : Value → Prop) (F : Fr h₀ L h m) (N : News h₀ L h news)
    (h1 : Fr h₀ L h m → News h₀ L h news → wpAny (model prog w) A (eval value (envOf name scope L a cd)) (Ev h₀ L m news s V) E (St s h tk))
    (h2 : ∀ v h' tk', V v → Fr h₀ L h' (fun y => if y = x then some v else m y) → News h₀ L h' news → wpAny (model prog w) A (execs rest (envOf name scope L a cd)) Q E (St s h' tk'))
    (hk : scope.kind = .function) (hl : (envOf name scope L a cd).kindOf x = some .local) (hs : swapsWith value (some (.Name x px)) pos.line (envOf name scope L a cd) = pure false) :
    wpAny (model prog w) A (execs (.Assign [.Name x px] value pos :: rest) (envOf name scope L a cd)) Q E (St s h tk) := by
  refine wpAny_execs_cons (wpAny_Assign_Name (wpAny_mono (h1 F N) (fun v s' q => ?_) fun _ _ e => e) hs)
  obtain ⟨h', tk', rfl, F', ⟨own, N'⟩, hv⟩ := q
  exact w_st F' N' (fun h'' tk'' F'' N'' => h2 v h'' tk'' hv F'' N''.right) hk hl
theorem ret_cut {name : Str} {scope : Scope} {a : Addr} {cd : Value} {pos : Pos} {value : Expr} {rest : List Stmt} {Q : Flow → Shared → Prop} (V : Value → Prop) (F : Fr h₀ L h m) (N : News h₀ L h news)
    (h1 : Fr h₀ L h m → News h₀ L h news → wpAny (model prog w) A (eval value (envOf name scope L a cd)) (Ev h₀ L m news s V) E (St s h tk))
    (h2 : ∀ v h' tk', V v → Sub h₀ h' → Q (.ret v) (St s h' tk')) :
    wpAny (model prog w) A (execs (.Return (some value) pos :: rest) (envOf name scope L a cd)) Q E (St s h tk) := by
  refine wpAny_execs_cons (wpAny_Return_some (wpAny_mono (h1 F N) (fun v s' q => ?_) fun _ _ e => e))
  obtain ⟨h', tk', rfl, F', ⟨own, N'⟩, hv⟩ := q
  exact h2 v h' tk' hv F'.keep
end

section
variable {prog : Program} {w : World} {A : Around} {E : Value → Shared → Prop} {s : Shared} {h h₀ : Heap} {tk : Nat} {L : Addr} {m : Str → Option Value} {news : List (Addr × Obj)} {env : Env}
def EvB (h₀ : Heap) (L : Addr) (m : Str → Option Value) (news : List (Addr × Obj)) (s : Shared) (c b : Bool) (s' : Shared) : Prop :=
  ∃ h' tk', s' = St s h' tk' ∧ Fr h₀ L h' m ∧ (∃ own, News h₀ L h' (own ++ news)) ∧ b = c
theorem if_cut {test : Expr} {body orelse : List Stmt} {pos : Pos} {rest : List Stmt} {Q : Flow → Shared → Prop} (c : Bool) (F : Fr h₀ L h m) (N : News h₀ L h news)
    (h1 : Fr h₀ L h m → News h₀ L h news → wpAny (model prog w) A (isTrue test env (eval test env)) (EvB h₀ L m news s c) E (St s h tk))
    (h2 : ∀ h' tk', Fr h₀ L h' m → News h₀ L h' news → wpAny (model prog w) A (execs (if c then body else orelse) env) (fun f s' => match f with | .next => wpAny (model prog w) A (execs rest env) Q E s' | f => Q f s') E (St s h' tk')) :
    wpAny (model prog w) A (execs (.If test body orelse pos :: rest) env) Q E (St s h tk) := by
  refine wpAny_execs_cons (wpAny_If (wpAny_mono (h1 F N) (fun b s' q => ?_) fun _ _ e => e))
  obtain ⟨h', tk', rfl, F', ⟨own, N'⟩, rfl⟩ := q
  have := h2 h' tk' F' N'.right
  cases b <;> exact this
end

section
variable {prog : Program} {w : World} {A : Around} {E : Value → Shared → Prop} {s : Shared} {h h' h₀ : Heap} {tk : Nat} {L : Addr} {m : Str → Option Value} {news : List (Addr × Obj)}
theorem get_none_size {h : Heap} {a : Addr} (ha : h.objs.size ≤ a) : h.get? a = none := by
  cases e : h.get? a with
  | none => rfl
  | some o => exact absurd (Heap.lt_size e) (Nat.not_lt.mpr ha)
theorem News.add {M : Addr} {o : Obj} (F : Fr h₀ L h m) (N : News h₀ L h' news) (hM : h.get? M = none) (e : h'.get? M = some o) : News h₀ L h' ((M, o) :: news) := by
  intro q hq
  rcases List.mem_cons.mp hq with rfl | hq
  · refine ⟨e, ?_, ?_⟩
    · rintro rfl
      obtain ⟨oL, _, _, hL, _⟩ := F.ns
      rw [hM] at hL; cases hL
    · cases q : h₀.get? M with
      | none => rfl
      | some o' => have := F.keep _ _ q; rw [hM] at this; cases this
  · exact N q hq
theorem Fr.sub (F : Fr h₀ L h m) (k : Sub h h') : Fr h₀ L h' m := ⟨F.ns.keeps k, fun b o e => k b o (F.keep b o e), F.above⟩
theorem News.sub (N : News h₀ L h news) (k : Sub h h') : News h₀ L h' news := N.grown k
def Ev2 (h₀ : Heap) (L : Addr) (m : Str → Option Value) (news : List (Addr × Obj)) (s : Shared) (V : Value → List (Addr × Obj) → Prop) (v : Value) (s' : Shared) : Prop :=
  ∃ h' tk' own, s' = St s h' tk' ∧ Fr h₀ L h' m ∧ News h₀ L h' (own ++ news) ∧ V v own
theorem asg_cut2 {name : Str} {scope : Scope} {a : Addr} {cd : Value} {x : Str} {px pos : Pos} {value : Expr} {rest : List Stmt} {Q : Flow → Shared → Prop} (V : Value → List (Addr × Obj) → Prop) (F : Fr h₀ L h m) (N : News h₀ L h news)
    (h1 : Fr h₀ L h m → News h₀ L h news → wpAny (model prog w) A (eval value (envOf name scope L a cd)) (Ev2 h₀ L m news s V) E (St s h tk))
    (h2 : ∀ v own h' tk', V v own → Fr h₀ L h' (fun y => if y = x then some v else m y) → News h₀ L h' (own ++ news) → wpAny (model prog w) A (execs rest (envOf name scope L a cd)) Q E (St s h' tk'))
    (hk : scope.kind = .function) (hl : (envOf name scope L a cd).kindOf x = some .local) (hs : swapsWith value (some (.Name x px)) pos.line (envOf name scope L a cd) = pure false) :
    wpAny (model prog w) A (execs (.Assign [.Name x px] value pos :: rest) (envOf name scope L a cd)) Q E (St s h tk) := by
  refine wpAny_execs_cons (wpAny_Assign_Name (wpAny_mono (h1 F N) (fun v s' q => ?_) fun _ _ e => e) hs)
  obtain ⟨h', tk', own, rfl, F', N', hv⟩ := q
  exact w_st F' N' (fun h'' tk'' F'' N'' => h2 v own h'' tk'' hv F'' N'') hk hl
end

section
variable {prog : Program} {w : World} {A : Around} {E : Value → Shared → Prop} {s : Shared} {h h' h₀ : Heap} {tk : Nat} {m : Str → Option Value} {p : Program} {loose : List Str} {mg mb : Str → Option Value} {Q : Value → Shared → Prop} {x : Str} {pos : Pos} {v : Value} {env : Env} {M : Model}
theorem nm_loc (hn : h.Ns env.locals m) (hv : m x = some v) (q : Q v (St s h tk)) (hk : env.scope.kind = .function) (hl : env.kindOf x = some .local) (hd : (x == ("__debug__" : Str)) = false := by decide) :
    wpAny M A (eval (.Name x pos) env) Q E (St s h tk) := wpAny_Name (wpAny_loadName_local hk hl hn hv q) hd
theorem nm_cell {c : Addr} (hc : env.cells.lookup x = some c) (hv : h.IsCell c (some v)) (q : Q v (St s h tk)) (hk : env.scope.kind = .function) (hl : env.kindOf x = some .cell) (hd : (x == ("__debug__" : Str)) = false := by decide) :
    wpAny M A (eval (.Name x pos) env) Q E (St s h tk) := wpAny_Name (wpAny_loadName_cell hk hl hc hv q) hd
theorem nm_free {c : Addr} (hc : env.cells.lookup x = some c) (hv : h.IsCell c (some v)) (q : Q v (St s h tk)) (hk : env.scope.kind = .function) (hl : env.kindOf x = some .free) (hd : (x == ("__debug__" : Str)) = false := by decide) (hn : (x == ("__classdict__" : Str)) = false := by decide) :
    wpAny M A (eval (.Name x pos) env) Q E (St s h tk) := wpAny_Name (wpAny_loadName_free hk hl hc hv q hn) hd
theorem nm_G (G : Gr w p loose mg mb h) (e : nsIn (hd.heap_39 w.params) mainGlobals x = some (some v)) (q : Q v (St s h tk))
    (hg : env.globals = mainGlobals) (hk : env.scope.kind = .function) (hx : env.kindOf x = some .globalImplicit) (hd : (x == ("__debug__" : Str)) = false := by decide) :
    wpAny (model prog w) A (eval (.Name x pos) env) Q E (St s h tk) :=
  Name_function_global hk hx (loadGlobal_global (env := env) (by rw [hg]; exact G.T.g) (mg_of G.X G.T.g e) q) hd
theorem nm_B (G : Gr w p loose mg mb h) (e : nsIn (hd.heap_39 w.params) mainGlobals x = some none) (hv : bootBuiltins x = some v) (hn : x ≠ "__name__") (q : Q v (St s h tk))
    (hg : env.globals = mainGlobals) (hb : env.builtins = builtinsNs) (hk : env.scope.kind = .function) (hx : env.kindOf x = some .globalImplicit) (hd : (x == ("__debug__" : Str)) = false := by decide) :
    wpAny (model prog w) A (eval (.Name x pos) env) Q E (St s h tk) :=
  Name_function_global hk hx (loadGlobal_builtin (env := env) (by rw [hg]; exact G.T.g) (mg_none_of G.X G.T.g e) (by rw [hb]; exact G.T.b) ((G.T.builtins x hn).trans hv) q) hd
/-- a call of one of the text's own functions by its name -/
theorem callG {f : Addr} {o : Obj} {fd : FuncData} {np : Pos} {e : Expr} {rest : List Expr} (G : Gr w p loose mg mb h) (e0 : nsIn (hd.heap_39 w.params) mainGlobals x = some (some (.ref f))) (ho : (hd.heap_39 w.params).lookup f = some o) (hdat : o.data = .func fd)
    (hg : env.globals = mainGlobals) (hk : env.scope.kind = .function) (hx : env.kindOf x = some .globalImplicit)
    (q : wpAny (model prog w) A (spliced (backTo pos (starEach (e :: rest) env))) (fun vs s₁ => Sub h s₁.heap ∧ wpAny (model prog w) A (call (.ref f) vs) Q E s₁) E (St s h tk))
    (hc : eval (.Call (.Name x np) (e :: rest) [] pos) env = (do callWith pos (← eval (.Name x np) env) [] (backTo pos (starEach (e :: rest) env)) (backToKw pos (keywordEach [] env))))
    (he : starEach (e :: rest) env = (false, eval e env) :: starEach rest env) (hd : (x == ("__debug__" : Str)) = false := by decide) :
    wpAny (model prog w) A (eval (.Call (.Name x np) (e :: rest) [] pos) env) Q E (St s h tk) := by
  refine Call_ (nm_G G e0 ?_ hg hk hx hd) hc
  exact callWith_def hdat (wpAny_mono q (fun vs s₁ q' => ⟨q'.1 _ _ (G.X _ _ ho), q'.2⟩) fun _ _ x => x) he
end

section
variable {prog : Program} {w : World} {A : Around} {E : Value → Shared → Prop} {s : Shared} {h : Heap} {tk : Nat} {K : Frag}
theorem enterC {Q : Value → Shared → Prop}
    {name qual : Str} {params : Arguments} {body : List Stmt} {scope : Scope} {dV kV doc pm cdv ct oc : Value} {an od : Option Addr} {osl : Array (Option Value)} {f : Addr} {args : List Value} {binds : List (Str × Value)}
    (hroom : A.depth < recursionLimit) (X : K.In h) (hl : h.NoLimit)
    (ho : K.lookup f = some ⟨oc, od, .func (fnOf name qual params body scope dV kV doc pm an cdv ct), osl⟩) (hcd : codeIn K cdv qual = true)
    (hbind : bindArgs (fnOf name qual params body scope dV kV doc pm an cdv ct) ⟨args, []⟩ = pure binds)
    (hkind : (binds.all fun y => scope.names.lookup y.1 == some .local || scope.names.lookup y.1 == some .cell) = true)
    (hnd : ((cellsFrom 0 scope.names []).map (·.1)).Nodup)
    (hco : scope.isCoroutine = false) (hgen : scope.isGenerator = false) (hk : scope.kind = .function)
    (k : ∀ h₁ tk₁ cells, Fr h h.objs.size h₁ (bindL (envOfC qual scope h.objs.size f cdv).kindOf binds fun _ => none) → News h h.objs.size h₁ cells →
      CellsAre (bindC (envOfC qual scope h.objs.size f cdv).kindOf binds fun _ => none) (cellsFrom (h.objs.size + 1) scope.names []) cells →
      wpAny (model prog w) (A.deeper (envOfC qual scope h.objs.size f cdv)) (execs body (envOfC qual scope h.objs.size f cdv))
        (fun fl s' => Q (match fl with | .ret v => v | _ => .none) s') (fun _ _ => False) (St s h₁ tk₁))
    : wpAny (model prog w) A (call (.ref f) args) Q E (St s h tk) := by
  refine wpAny_call (codeAny_call_function hroom (X _ _ ho) rfl hco hgen rfl (codeRec_of X hcd) ?_)
  rw [hbind]
  refine wpAny_pure (wpAny_newFunctionEnv_cells hk (kindsX hkind _) fun env' he s' x => ?_)
  subst he
  refine ⟨hl.keeps x.toInCall.keep, codeAny_func ?_⟩
  obtain ⟨h₁, tk₁, rfl, _⟩ := x.done
  obtain ⟨cells, NC, Y⟩ := Cl.news (h₀ := h) (Nat.le_refl _) fun n c hm => ⟨x.cell n c (lookup_of_mem_nodup (cellsFrom_names scope.names 0 (h.objs.size + 1) [] [] rfl ▸ hnd) hm), x.above n c hm⟩
  exact wpAny_mono (k h₁ tk₁ cells ⟨x.toInCall.ns, x.toInCall.keep, Nat.le_refl _⟩ NC Y) (fun _ _ y => y) (fun _ _ y => y.elim)
end
end Mine
end
section -- Z1
open PySem PySem.W PySem.Calls PyProof.Rows
namespace Mine
section
variable {prog : Program} {w : World} {A : Around} {E : Value → Shared → Prop} {s : Shared} {h : Heap} {tk : Nat} {p : Program} {loose : List Str} {mg mb : Str → Option Value} {Q : Value → Shared → Prop}
def pads : List String := ["00", "01", "02", "03", "04", "05", "06", "07", "08", "09", "10", "11"]
def pad (n : Int) : Str := Str.ofString (pads.getD n.toNat "")
theorem pad_le {n : Int} (h1 : 0 ≤ n) (h2 : n ≤ 11) : (pad n).length ≤ 2 := by
  have hn : n = 0 ∨ n = 1 ∨ n = 2 ∨ n = 3 ∨ n = 4 ∨ n = 5 ∨ n = 6 ∨ n = 7 ∨ n = 8 ∨ n = 9 ∨ n = 10 ∨ n = 11 := by omega
  rcases hn with rfl | rfl | rfl | rfl | rfl | rfl | rfl | rfl | rfl | rfl | rfl | rfl <;> decide +kernel
theorem dec_le {n : Int} (h1 : 0 ≤ n) (h2 : n ≤ 11) : (Str.ofString (toString n)).length ≤ 2 := by
  have hn : n = 0 ∨ n = 1 ∨ n = 2 ∨ n = 3 ∨ n = 4 ∨ n = 5 ∨ n = 6 ∨ n = 7 ∨ n = 8 ∨ n = 9 ∨ n = 10 ∨ n = 11 := by omega
  rcases hn with rfl | rfl | rfl | rfl | rfl | rfl | rfl | rfl | rfl | rfl | rfl | rfl <;> decide +kernel
set_option maxHeartbeats 0 in
theorem w_pct {h₀ : Heap} (X : (hd.heap_39 w.params).In h₀) (n : Int) (t u : Tok) (h1 : 0 ≤ n) (h2 : n ≤ 11) (q : ∀ t' tk', Q (.str (pad n) t') (St s h tk')) :
    wpAny (model prog w) A (binaryOp .Mod (.str (Str.ofString "%02d") t) (.int n u)) Q E (St s h tk) := by
  have hn : n = 0 ∨ n = 1 ∨ n = 2 ∨ n = 3 ∨ n = 4 ∨ n = 5 ∨ n = 6 ∨ n = 7 ∨ n = 8 ∨ n = 9 ∨ n = 10 ∨ n = 11 := by omega
  rcases hn with rfl | rfl | rfl | rfl | rfl | rfl | rfl | rfl | rfl | rfl | rfl | rfl
  all_goals (walk1; exact q _ _)
end
end Mine
end
section -- C1
open PySem PySem.W PySem.Calls PyProof.Rows
namespace Mine
section
variable {prog : Program} {w : World} {A : Around} {E : Value → Shared → Prop} {s : Shared} {h : Heap} {tk : Nat} {p : Program} {loose : List Str} {mg mb : Str → Option Value} {Q : Value → Shared → Prop}

theorem c_mod (G : Gr w p loose mg mb h) (hA : Fit A 1) (a b : Int) (t u : Tok) (hb : 0 < b)
    (q : ∀ t' h' tk', Sub h h' → Q (.int (a % b) t') (St s h' tk')) : wpAny (model prog w) A (call (.ref 72) [.int a t, .int b u]) Q E (St s h tk) := by
  refine enter (binds := [(("a" : Str), .int a t), (("b" : Str), .int b u)]) hA.lt G.X G.T.nolimit rfl rfl rfl (locs rfl) rfl rfl rfl (by decide) fun h₁ tk₁ F N => ?_
  refine wpAny_execs_cons (wpAny_Return_some (wpAny_BinOp (ld F rfl (ld F rfl (w_mod hb fun _ _ => ?_)))))
  exact q _ _ _ F.keep
theorem c_add (G : Gr w p loose mg mb h) (hA : Fit A 1) (a b : Int) (t u : Tok)
    (q : ∀ t' h' tk', Sub h h' → Q (.int (a + b) t') (St s h' tk')) : wpAny (model prog w) A (call (.ref 58) [.int a t, .int b u]) Q E (St s h tk) := by
  refine enter (binds := [(("a" : Str), .int a t), (("b" : Str), .int b u)]) hA.lt G.X G.T.nolimit rfl rfl rfl (locs rfl) rfl rfl rfl (by decide) fun h₁ tk₁ F N => ?_
  refine wpAny_execs_cons (wpAny_Return_some (wpAny_BinOp (ld F rfl (ld F rfl (w_add fun _ _ => ?_)))))
  exact q _ _ _ F.keep
theorem c_floordiv (G : Gr w p loose mg mb h) (hA : Fit A 1) (a b : Int) (t u : Tok) (hb : b ≠ 0) (hb2 : b.natAbs < 1073741824)
    (q : ∀ t' h' tk', Sub h h' → Q (.int (a.fdiv b) t') (St s h' tk')) : wpAny (model prog w) A (call (.ref 65) [.int a t, .int b u]) Q E (St s h tk) := by
  refine enter (binds := [(("a" : Str), .int a t), (("b" : Str), .int b u)]) hA.lt G.X G.T.nolimit rfl rfl rfl (locs rfl) rfl rfl rfl (by decide) fun h₁ tk₁ F N => ?_
  refine wpAny_execs_cons (wpAny_Return_some (wpAny_BinOp (ld F rfl (ld F rfl (w_fdiv hb (PyProof.noPylong_small hb2) fun _ _ => ?_)))))
  exact q _ _ _ F.keep
end
end Mine
end
section -- C2
open PySem PySem.W PySem.Calls PyProof.Rows
namespace Mine
def cmt (x : Str) : Str := if (Txt.rstrip x).length = 0 then Str.ofString "#" else Str.ofString "# " ++ Txt.rstrip x
section
variable {prog : Program} {w : World} {A : Around} {E : Value → Shared → Prop} {s : Shared} {h : Heap} {tk : Nat} {p : Program} {loose : List Str} {mg mb : Str → Option Value} {Q : Value → Shared → Prop}
theorem c_comment (G : Gr w p loose mg mb h) (hA : Fit A 1) (x : Str) (t : Tok) (hx : x.length ≤ 100)
    (q : ∀ t' h' tk', Sub h h' → Q (.str (cmt x) t') (St s h' tk')) : wpAny (model prog w) A (call (.ref 51) [.str x t]) Q E (St s h tk) := by
  refine enter (binds := [(("line" : Str), .str x t)]) hA.lt G.X G.T.nolimit rfl rfl rfl (locs rfl) rfl rfl rfl (by decide) fun h₁ tk₁ F N => ?_
  have hle : (Txt.rstrip x).length ≤ 100 := Nat.le_trans (len_rstrip x) hx
  refine asg_cut (StrIs (Txt.rstrip x)) F N (fun F N => ?_) (fun v h₂ tk₂ hv F₂ N₂ => ?_) rfl rfl rfl
  · refine MethodCall_ (ld F rfl ?_)
    refine GM.rstrip ?_
    refine callWith_builtin rfl (PyProof.Rows.evalArgs_none ?_)
    refine PySem.SC.rstrip (fun t' k => ?_) (by rw [sizeLine_eq]; omega)
    exact ⟨_, _, rfl, F, ⟨[], N⟩, strIs rfl⟩
  obtain ⟨t', rfl⟩ := hv
  have qq : ∀ v h' tk', StrIs (cmt x) v → Sub h h' → Q v (St s h' tk') := fun v h' tk' ⟨t, e⟩ hS => e ▸ q t h' tk' hS
  refine if_cut (decide ((Txt.rstrip x).length ≠ 0)) F₂ N₂ (fun F N => ?_) fun h₃ tk₃ F₃ N₃ => ?_
  · refine wpAny_isTrue_value (ld F rfl ?_)
    refine PySem.P.truthy_str (by omega) ?_
    refine ⟨_, _, rfl, F, ⟨[], N⟩, ?_⟩
    by_cases h0 : (Txt.rstrip x).length = 0
    · rw [h0]; rfl
    · rw [decide_eq_true h0]; simpa using h0
  by_cases h0 : (Txt.rstrip x).length = 0
  · rw [if_neg (by simpa using h0)]
    refine ret_cut (StrIs (Str.ofString "#")) F₃ N₃ (fun F N => ?_) fun v h' tk' hv hS => ?_
    · exact w_str fun t k => ⟨_, _, rfl, F, ⟨[], N⟩, strIs rfl⟩
    · exact qq _ _ _ (by unfold cmt; rw [if_pos h0]; exact hv) hS
  · rw [if_pos (by simpa using h0)]
    refine ret_cut (StrIs (Str.ofString "# " ++ Txt.rstrip x)) F₃ N₃ (fun F N => ?_) fun v h' tk' hv hS => ?_
    · refine wpAny_BinOp (w_str fun t k => ld F rfl ?_)
      have l2 : (Str.ofString "# ").length = 2 := by decide +kernel
      refine w_adds (by rw [sizeLine_eq]; omega) fun t k => ?_
      exact ⟨_, _, rfl, F, ⟨[], N⟩, strIs rfl⟩
    · exact qq _ _ _ (by unfold cmt; rw [if_neg h0]; exact hv) hS
end
end Mine
end
section -- R0
open PySem PySem.W PySem.Calls PyProof.Rows
namespace Mine
theorem plainAttrs_pat : PlainAttrs "re.Pattern" :=
  ⟨⟨"object.__getattribute__", by rw [typeLookup_type, builtinLookup_eq_fast]; kernel_rfl, by decide +kernel⟩, by rw [typeLookup_type, builtinLookup_eq_fast]; kernel_rfl⟩
theorem slot_search : Slot "re.Pattern" "search" "re.Pattern.search" :=
  .of (owner := "re.Pattern") (n := "search") (by rw [typeLookup_type, builtinLookup_eq_fast]; kernel_rfl) (by decide +kernel) (by decide +kernel) (by decide +kernel)
    (by first | exact .inl (by decide +kernel) | exact .inr (by decide +kernel)) (by rw [isSubtype_type]; kernel_rfl)
theorem type_search : typeOf (.builtin "re.Pattern.search") = pure (.type "method_descriptor") := by show builtinType _ = _; rw [builtinType_eq_fast]; kernel_rfl
theorem entry_search : entryFor table "re.Pattern.search" = some Builtin.«re.Pattern.search» := entryFor_of_tree (by kernel_rfl)
theorem plainAttrs_match : PlainAttrs "re.Match" :=
  ⟨⟨"object.__getattribute__", by rw [typeLookup_type, builtinLookup_eq_fast]; kernel_rfl, by decide +kernel⟩, by rw [typeLookup_type, builtinLookup_eq_fast]; kernel_rfl⟩
theorem slot_group : Slot "re.Match" "group" "re.Match.group" :=
  .of (owner := "re.Match") (n := "group") (by rw [typeLookup_type, builtinLookup_eq_fast]; kernel_rfl) (by decide +kernel) (by decide +kernel) (by decide +kernel)
    (by first | exact .inl (by decide +kernel) | exact .inr (by decide +kernel)) (by rw [isSubtype_type]; kernel_rfl)
theorem type_group : typeOf (.builtin "re.Match.group") = pure (.type "method_descriptor") := by show builtinType _ = _; rw [builtinType_eq_fast]; kernel_rfl
theorem entry_group : entryFor table "re.Match.group" = some Builtin.«re.Match.group» := entryFor_of_tree (by kernel_rfl)
end Mine
end
section -- R1
open PySem PySem.W PySem.Calls PyProof.Rows PySem.Builtin PySem.Builtin.Re
namespace Mine
def tzcode : List Nat := [14, 4, 0, 1, 6, 6, 0, 23, 14, 0, 1, 17, 0, 13, 6, 16, 45, 16, 43, 0, 17, 1, 18, 17, 2, 13, 4, 8, 0, 0, 24, 9, 0, 1, 13, 4, 8, 0, 0, 1, 17, 3, 24, 6, 0, 1, 16, 58, 1, 23, 17, 0, 1, 17, 4, 13, 4, 8, 0, 0, 13, 4, 8, 0, 0, 17, 5, 18, 6, 5, 1]
def drv : Nat → Sre.M → Option Sre.M
  | 0, _ => none
  | k + 1, m => if (m.runFor reTurnSteps).outcome.isSome then some (m.runFor reTurnSteps) else drv k (m.runFor reTurnSteps)
def spansOf (m : Sre.M) : List Int := (m.start : Int) :: (m.handed : Int) :: (List.range 3).flatMap fun g =>
  match if ((2 * g + 1 : Nat) : Int) ≤ m.lastmark then (m.marks.getD (2 * g) none, m.marks.getD (2 * g + 1) none) else (none, none) with
    | (some b, some e) => [(b : Int), (e : Int)]
    | _ => [-1, -1]
def badSpan (m : Sre.M) : Bool :=
  (List.range 3).any (fun g => match m.marks.getD (2 * g) none, m.marks.getD (2 * g + 1) none with | some b, some e => ((2 * g + 1 : Nat) : Int) ≤ m.lastmark && e < b | _, _ => false)
def isM : Option Sre.Outcome → Option Bool
  | some .matched => some true
  | some .failed => some false
  | _ => none
def look (x : List Nat) : Option (Option (List Int)) :=
  match drv 100 (Sre.forSearch tzcode.toArray x.toArray 3 0 x.length false) with
  | none => none
  | some m => match isM m.outcome with
    | some true => if badSpan m then none else some (some (spansOf m))
    | some false => some none
    | none => none
section
variable {prog : Program} {w : World} {A : Around} {E : Value → Shared → Prop} {s : Shared} {h : Heap} {tk : Nat}
theorem w_drive : ∀ (k turns : Nat) (m m' : Sre.M) {Q : Sre.M → Shared → Prop}, drv k m = some m' → k ≤ turns → Q m' s → wpAny (model prog w) A (reDrive turns m) Q E s := by
  intro k
  induction k with
  | zero => intro turns m m' Q e; cases e
  | succ k ih =>
    intro turns m m' Q e hk q
    cases turns with
    | zero => omega
    | succ turns =>
      unfold reDrive
      unfold drv at e
      by_cases hc : (m.runFor reTurnSteps).outcome.isSome = true
      · rw [if_pos hc] at e ⊢
        cases e
        exact wpAny_pure q
      · rw [if_neg hc] at e ⊢
        exact wpAny_bind (wpAny_rule (ih turns _ m' e (by omega) q))
theorem w_rules (m : Sre.M) : ∀ (l : List Nat) {Q : PUnit → Shared → Prop}, Q ⟨⟩ s →
    wpAny (model prog w) A (forIn l PUnit.unit fun i (_ : PUnit) => (do if m.seen.has i = true then (do rule (Sre.names.getD i ""); pure (ForInStep.yield PUnit.unit)) else pure (ForInStep.yield PUnit.unit) : Sem (ForInStep PUnit))) Q E s := by
  intro l
  induction l with
  | nil => intro Q q; exact wpAny_pure q
  | cons a l ih =>
    intro Q q
    rw [List.forIn_cons]
    refine wpAny_bind ?_
    by_cases hc : m.seen.has a = true
    · rw [if_pos hc]; exact wpAny_bind (wpAny_rule (wpAny_pure (ih q)))
    · rw [if_neg hc]; exact wpAny_pure (ih q)
theorem w_toEnd {k : Nat} {m m' : Sre.M} {b : Bool} {Q : Option Sre.M → Shared → Prop} (e : drv k m = some m') (hk : k ≤ 2 ^ 64) (hm : isM m'.outcome = some b) (q : Q (if b then some m' else none) s) :
    wpAny (model prog w) A (reRunToEnd m) Q E s := by
  unfold reRunToEnd
  refine wpAny_bind (w_drive k _ m m' e hk ?_)
  refine wpAny_bind (w_rules m' _ ?_)
  cases ho : m'.outcome with
  | none => rw [ho] at hm; cases hm
  | some o =>
    rw [ho] at hm
    cases o with
    | matched => cases hm; exact wpAny_pure q
    | failed => cases hm; exact wpAny_pure q
    | stuck w => cases hm
end
theorem owner_pat : Manifest.owners.lookup (String.ofList ['n', 'r', 'e', 't', 't', 'a', 'P', '.', 'e', 'r'].reverse) = some Manifest.sig_re_Pattern := by kernel_rfl
theorem owner_match : Manifest.owners.lookup (String.ofList ['h', 'c', 't', 'a', 'M', '.', 'e', 'r'].reverse) = some Manifest.sig_re_Match := by kernel_rfl
theorem args_search (a b : Value) : argsOk "re.Pattern.search" ⟨[a, b], []⟩ := by
  unfold argsOk; rw [signature?_of (id := "re.Pattern.search") (n := ['h', 'c', 'r', 'a', 'e', 's']) (o := ['n', 'r', 'e', 't', 't', 'a', 'P', '.', 'e', 'r']) (by kernel_rfl) owner_pat]; kernel_rfl
theorem args_group (a b : Value) : argsOk "re.Match.group" ⟨[a, b], []⟩ := by
  unfold argsOk; rw [signature?_of (id := "re.Match.group") (n := ['p', 'u', 'o', 'r', 'g']) (o := ['h', 'c', 't', 'a', 'M', '.', 'e', 'r']) (by kernel_rfl) owner_match]; kernel_rfl
theorem named_search (v : Value) : reNamed "re.Pattern.search" "search" ["string", "pos", "endpos"] 1 [v] [] = pure [some v, none, none] := by kernel_rfl
def patV : Array Value := #[Value.str (Str.ofString "^([-+])?(\\d\\d?):?(\\d\\d)?$") 294, Value.int 256 368, Value.int 3 0, Value.none, Value.none, Value.ref 36, Value.int 0 0]
def patO : Obj := { cls := Value.type "re.Pattern", data := Data.fields patV }
def codeO : Obj := { cls := Value.type "tuple", data := Data.seq (tzcode.map fun (n : Nat) => Value.int n 0).toArray }
theorem pat_in (P : Params) : (hd.heap_39 P).lookup 37 = some patO := rfl
theorem code_in (P : Params) : (hd.heap_39 P).lookup 36 = some codeO := rfl
def matchO (x : Str) (t : Tok) (l : Int) (T : Addr) (n : Nat) : Obj := { cls := .type "re.Match", data := .fields #[.str x t, .ref 37, .int 0 0, .int n 0, .int l 0, .ref T] }
def tupO (sp : List Int) : Obj := { cls := .type "tuple", data := .seq (sp.map rawInt).toArray }
section
variable {prog : Program} {w : World} {A : Around} {E : Value → Shared → Prop} {s : Shared} {h : Heap} {tk : Nat} {p : Program} {loose : List Str} {mg mb : Str → Option Value}
theorem w_target {x : Str} {t : Tok} {Q : ReTarget → Shared → Prop} (X : (hd.heap_39 w.params).In h) (hx : x.length ≤ 100)
    (q : Q { pattern := .ref 37, string := .str x t, code := tzcode.toArray, text := x.cps, kind := 0, groups := 3, pos := 0, lim := x.cps.size } (St s h tk)) :
    wpAny (model prog w) A (reTarget "re.Pattern.search" "search" ⟨[.ref 37, .str x t], []⟩) Q E (St s h tk) := by
  unfold reTarget
  dsimp only
  rw [named_search]
  refine wpAny_bind (wpAny_pure ?_)
  dsimp only
  refine wpAny_bind (wpAny_pure ?_)
  refine wpAny_bind (wpAny_pure ?_)
  refine wpAny_bind (wpAny_fieldsOf (X _ _ (pat_in _)) rfl ?_)
  refine wpAny_bind (wpAny_of_eq (a := (x.cps, 0)) rfl ?_)
  rw [if_neg (show ¬ ((reRawNat (patV.getD 6 Value.none) == 0 && (x.cps, 0).snd == 1) = true) from Bool.false_ne_true), if_neg (show ¬ ((reRawNat (patV.getD 6 Value.none) == 1 && (x.cps, 0).snd == 0) = true) from Bool.false_ne_true)]
  refine wpAny_bind (wpAny_of_eq (a := ()) rfl ?_)
  have e5 : patV.getD 5 Value.none = .ref 36 := rfl
  rw [e5]
  unfold reRawItems
  refine wpAny_bind (wpAny_bind (wpAny_seqItems (X _ _ (code_in _)) rfl (wpAny_pure (wpAny_pure ?_))))
  have e1 : (((some (tzcode.map fun (n : Nat) => Value.int n 0).toArray).getD #[]).map reRawOf).map (fun x => x.toNat) = tzcode.toArray := by decide +kernel
  have e2 : reRawNat (patV.getD 2 Value.none) = 3 := rfl
  have e3 : min (2 ^ 63 - 1 : Int).toNat x.cps.size = x.cps.size := by
    have : x.cps.size ≤ 100 := hx
    have : (2 ^ 63 - 1 : Int).toNat = 9223372036854775807 := by decide
    omega
  have e4 : min (Int.toNat 0) x.cps.size = 0 := by simp
  rw [e1, e2]
  dsimp only
  rw [e3, e4]
  exact q
theorem ite_no' {c : Prop} [Decidable c] {X Y : Prop} (hc : ¬ c) (h : Y) : if c then X else Y := by rw [if_neg hc]; exact h
def spF (m : Sre.M) (g : Nat) : List Value :=
  match if ((2 * g + 1 : Nat) : Int) ≤ m.lastmark then (m.marks.getD (2 * g) none, m.marks.getD (2 * g + 1) none) else (none, none) with
    | (some b, some e) => [rawInt b, rawInt e]
    | _ => [rawInt (-1), rawInt (-1)]
def spI (m : Sre.M) (g : Nat) : List Int :=
  match if ((2 * g + 1 : Nat) : Int) ≤ m.lastmark then (m.marks.getD (2 * g) none, m.marks.getD (2 * g + 1) none) else (none, none) with
    | (some b, some e) => [(b : Int), (e : Int)]
    | _ => [-1, -1]
theorem spI_len (m : Sre.M) (g : Nat) : (spI m g).length = 2 := by unfold spI; split <;> rfl
theorem spans_len (m : Sre.M) : (spansOf m).length = 8 := by
  show ((m.start : Int) :: (m.handed : Int) :: (List.range 3).flatMap (spI m)).length = 8
  have e : List.range 3 = [0, 1, 2] := by decide
  rw [e, List.flatMap_cons, List.flatMap_cons, List.flatMap_cons, List.flatMap_nil]
  simp only [List.length_cons, List.length_append, spI_len, List.length_nil]
theorem w_newMatch {x : Str} {t : Tok} {m : Sre.M} {n : Nat} {Q : Value → Shared → Prop} (hb : badSpan m = false)
    (q : ∀ h' M T l, Sub h h' → h.get? M = none → h.get? T = none → h'.get? M = some (matchO x t l T n) → h'.get? T = some (tupO (spansOf m)) → Q (.ref M) (St s h' tk)) :
    wpAny (model prog w) A (reNewMatch (.ref 37) (.str x t) 3 0 n m) Q E (St s h tk) := by
  unfold reNewMatch
  have hb' : ((List.range 3).any (fun g => match m.marks.getD (2 * g) none, m.marks.getD (2 * g + 1) none with | some b, some e => ((2 * g + 1 : Nat) : Int) ≤ m.lastmark && e < b | _, _ => false)) = false := hb
  dsimp only
  refine wpAny_ite (ite_no' (fun e => Bool.false_ne_true (hb'.symm.trans e)) ?_)
  show wpAny (model prog w) A (do
      let T ← newTuple (rawInt ↑m.start :: rawInt ↑m.handed :: List.flatMap (spF m) (List.range 3))
      newFields "re.Match" [Value.str x t, Value.ref 37, rawInt ↑0, rawInt ↑n, rawInt m.lastindex, T]) Q E (St s h tk)
  have hsp : (rawInt ↑m.start :: rawInt ↑m.handed :: List.flatMap (spF m) (List.range 3)) = (spansOf m).map rawInt := by
    unfold spansOf
    rw [List.map_cons, List.map_cons, List.map_flatMap]
    congr 2
    congr 1
    funext g
    unfold spF
    split <;> rfl
  rw [hsp]
  refine wpAny_bind (wpAny_newObj_type ?_ ?_)
  · unfold newFields
    refine wpAny_newObj_type ?_ ?_
    · refine q _ _ _ _ ?_ (get_none_size (by rw [Heap.size_push]; exact Nat.le_succ _)) (get_none_size (Nat.le_refl _)) (Heap.get?_push_size _ rfl) (Heap.get?_push_of_some _ (Heap.get?_push_size _ rfl))
      exact fun b o e => Heap.get?_push_of_some _ (Heap.get?_push_of_some _ e)
    · size_fits
  · show ((spansOf m).map rawInt).toArray.size ≤ sizeLine
    rw [List.size_toArray, List.length_map, spans_len, sizeLine_eq]; decide
theorem w_search {x : Str} {t : Tok} {r : Option (List Int)} {Q : Value → Shared → Prop} (X : (hd.heap_39 w.params).In h) (hx : x.length ≤ 100) (hl : look x.cps.toList = some r)
    (q : match r with
      | none => ∀ tk', Q .none (St s h tk')
      | some sp => sp.length = 8 → ∀ h' M T l n tk', Sub h h' → h.get? M = none → h.get? T = none → h'.get? M = some (matchO x t l T n) → h'.get? T = some (tupO sp) → Q (.ref M) (St s h' tk')) :
    wpAny (model prog w) A (call (.builtin "re.Pattern.search") [.ref 37, .str x t]) Q E (St s h tk) := by
  refine wpAny_call_entry slot_search ⟨_, X _ _ (pat_in _), rfl⟩ entry_search ?_ (args_search _ _)
  unfold Builtin.«re.Pattern.search»
  refine wpAny_bind (w_target X hx ?_)
  unfold reAnswer
  dsimp only
  unfold look at hl
  have e0 : x.cps.toList.toArray = x.cps := by simp
  have e1 : x.cps.toList.length = x.cps.size := by simp
  rw [e0, e1] at hl
  cases hm : drv 100 (Sre.forSearch tzcode.toArray x.cps 3 0 x.cps.size false) with
  | none => rw [hm] at hl; cases hl
  | some m =>
    rw [hm] at hl
    dsimp only at hl
    cases ho : isM m.outcome with
    | none => rw [ho] at hl; cases hl
    | some b =>
      rw [ho] at hl
      refine wpAny_bind (w_toEnd hm (by decide) ho ?_)
      cases b with
      | false =>
        cases hl
        exact wpAny_pure ⟨_, rfl, q tk⟩
      | true =>
        dsimp only at hl
        by_cases hb : badSpan m = true
        · rw [if_pos hb] at hl; cases hl
        · rw [if_neg hb] at hl
          cases hl
          refine wpAny_bind (w_newMatch (by simpa using hb) fun h' M T l hS nM nT hM hT => ?_)
          exact wpAny_pure ⟨_, rfl, q (spans_len m) h' M T l _ tk hS nM nT hM hT⟩
end
end Mine
end
section -- R2
open PySem PySem.W PySem.Calls PyProof.Rows PySem.Builtin PySem.Builtin.Re
namespace Mine
def grp (x : Str) (sp : List Int) (g : Nat) : Option Str :=
  if sp.getD (2 * g) (-1) < 0 ∨ sp.getD (2 * g + 1) (-1) < 0 then none else some ⟨x.cps.extract (sp.getD (2 * g) (-1)).toNat (sp.getD (2 * g + 1) (-1)).toNat⟩
def OptStr (o : Option Str) (v : Value) : Prop := match o with | none => v = .none | some y => StrIs y v
theorem raws (sp : List Int) : ((sp.map rawInt).toArray).map reRawOf = sp.toArray := by
  rw [List.map_toArray, List.map_map]
  congr 1
  induction sp with
  | nil => rfl
  | cons a l ih => rw [List.map_cons, ih]; rfl
theorem getD_arr (l : List Int) (i : Nat) (d : Int) : l.toArray.getD i d = l.getD i d := by
  rw [List.getD_eq_getElem?_getD]
  simp
section
variable {prog : Program} {w : World} {A : Around} {E : Value → Shared → Prop} {s : Shared} {h : Heap} {tk : Nat}
theorem w_group {x : Str} {t u : Tok} {l : Int} {M T : Addr} {n : Nat} {sp : List Int} {g : Nat} {Q : Value → Shared → Prop} (hx : x.length ≤ 100) (hM : h.get? M = some (matchO x t l T n)) (hT : h.get? T = some (tupO sp)) (hl : sp.length = 8) (hg : g ≤ 3)
    (q : ∀ v tk', OptStr (grp x sp g) v → Q v (St s h tk')) :
    wpAny (model prog w) A (call (.builtin "re.Match.group") [.ref M, .int g u]) Q E (St s h tk) := by
  refine wpAny_call_entry slot_group ⟨_, hM, rfl⟩ entry_group ?_ (args_group _ _)
  unfold Builtin.«re.Match.group»
  refine wpAny_bind (wpAny_of_eq (a := ()) rfl ?_)
  dsimp only
  unfold reFound
  refine wpAny_bind (wpAny_bind (wpAny_fieldsOf hM rfl ?_))
  unfold reRawItems
  refine wpAny_bind (wpAny_bind (wpAny_seqItems hT rfl (wpAny_pure (wpAny_pure ?_))))
  rw [show (some (sp.map rawInt).toArray).getD #[] = (sp.map rawInt).toArray from rfl, raws]
  unfold reGroupNumber
  refine wpAny_bind (wpAny_bind (wpAny_of_eq (a := some (g : Int)) rfl ?_))
  rw [if_pos (by rfl)]
  refine wpAny_bind (wpAny_of_eq (a := (g : Int)) rfl ?_)
  have hn : ¬ ((decide ((g : Int) < 0) || decide (2 * (g : Int) ≥ (sp.toArray.size : Int))) = true) := by
    rw [List.size_toArray, hl]; simp; omega
  refine wpAny_ite (ite_no' hn (wpAny_pure ?_))
  unfold reGroupText
  dsimp only
  rw [Int.toNat_natCast, getD_arr, getD_arr]
  have q' := q
  unfold grp at q'
  by_cases hb : sp.getD (2 * g) (-1) < 0 ∨ sp.getD (2 * g + 1) (-1) < 0
  · have hb' : (decide (sp.getD (2 * g) (-1) < 0) || decide (sp.getD (2 * g + 1) (-1) < 0)) = true := by simpa using hb
    rw [if_pos hb']
    rw [if_pos hb] at q'
    exact wpAny_bind (wpAny_pure (wpAny_pure ⟨_, rfl, q' _ _ rfl⟩))
  · have hb' : ¬ ((decide (sp.getD (2 * g) (-1) < 0) || decide (sp.getD (2 * g + 1) (-1) < 0)) = true) := by simpa using hb
    rw [if_neg hb']
    rw [if_neg hb] at q'
    refine wpAny_bind (wpAny_bind (wpAny_of_eq (a := (x.cps, 0)) rfl ?_))
    unfold reSlice
    rw [if_pos (by rfl)]
    refine wpAny_mkStr ?_ ?_
    · exact wpAny_pure ⟨_, rfl, q' _ _ ⟨_, rfl⟩⟩
    · show (x.cps.extract _ _).size ≤ sizeLine
      rw [Array.size_extract, sizeLine_eq]
      have : x.cps.size ≤ 100 := hx
      omega
end
end Mine
end
section -- C3
open PySem PySem.W PySem.Calls PyProof.Rows
namespace Mine

local macro_rules | `(tactic| walk_at "eval Name") => `(tactic| ((with_reducible rename Gr _ _ _ _ _ _ => kG); (with_reducible rename Fr _ _ _ _ => kF); first
  | (refine' nmG kG kF ?e ?_ ?hg ?hk ?hx ?hd; (case hx => exact rfl); (case hg => exact rfl); (case hk => exact rfl); (case hd => decide); (case e => exact rfl))
  | ((with_reducible refine' nb_str kG kF ?_ ?hg ?hb ?hk ?hx); (case hx => exact rfl); (case hg => exact rfl); (case hb => exact rfl); (case hk => exact rfl))
  | ((with_reducible refine' nb_int kG kF ?_ ?hg ?hb ?hk ?hx); (case hx => exact rfl); (case hg => exact rfl); (case hb => exact rfl); (case hk => exact rfl))
  | ((with_reducible refine' nb_range kG kF ?_ ?hg ?hb ?hk ?hx); (case hx => exact rfl); (case hg => exact rfl); (case hb => exact rfl); (case hk => exact rfl))
  | ((with_reducible refine' nb_len kG kF ?_ ?hg ?hb ?hk ?hx); (case hx => exact rfl); (case hg => exact rfl); (case hb => exact rfl); (case hk => exact rfl))
  | ((with_reducible refine' nb_abs kG kF ?_ ?hg ?hb ?hk ?hx); (case hx => exact rfl); (case hg => exact rfl); (case hb => exact rfl); (case hk => exact rfl))
  | ((with_reducible refine' nb_sum kG kF ?_ ?hg ?hb ?hk ?hx); (case hx => exact rfl); (case hg => exact rfl); (case hb => exact rfl); (case hk => exact rfl))
  | ((with_reducible refine' nb_min kG kF ?_ ?hg ?hb ?hk ?hx); (case hx => exact rfl); (case hg => exact rfl); (case hb => exact rfl); (case hk => exact rfl))
  | ((with_reducible refine' nb_isinstance kG kF ?_ ?hg ?hb ?hk ?hx); (case hx => exact rfl); (case hg => exact rfl); (case hb => exact rfl); (case hk => exact rfl))
  | ((with_reducible refine' nb_tuple kG kF ?_ ?hg ?hb ?hk ?hx); (case hx => exact rfl); (case hg => exact rfl); (case hb => exact rfl); (case hk => exact rfl))))
local macro_rules | `(tactic| walk_at "eval Constant int") => `(tactic| (refine w_int ?_; intro _ _))
local macro_rules | `(tactic| walk_at "eval Constant str") => `(tactic| (refine w_str ?_; intro _ _))
local macro_rules | `(tactic| walk_at "binaryOp Add int int") => `(tactic| (refine w_add ?_; intro _ _))
local macro_rules | `(tactic| walk_at "binaryOp Sub int int") => `(tactic| (refine w_sub ?_; intro _ _))
local macro_rules | `(tactic| walk_at "binaryOp Mult int int") => `(tactic| (refine w_mul (by first | exact IntMulOk.of_left (by decide) | exact IntMulOk.of_right (by decide) | mul_fits) ?_; intro _ _))
local macro_rules | `(tactic| walk_at "binaryOp Mod int int") => `(tactic| (refine w_mod (by first | decide | omega) ?_; intro _ _))
local macro_rules | `(tactic| walk_at "binaryOp FloorDiv int int") => `(tactic| (refine w_div (by first | decide | omega) (PyProof.noPylong_small (by first | decide | omega)) ?_; intro _ _))
local macro_rules | `(tactic| walk_at "unaryOp USub int") => `(tactic| (refine w_neg ?_; intro _ _))
local macro_rules | `(tactic| walk_at "call builtin:abs") => `(tactic| (refine w_abs ?_; intro _ _))
local macro_rules | `(tactic| walk_at "storeName") => `(tactic| ((with_reducible rename Fr _ _ _ _ => kF); (with_reducible rename News _ _ _ _ => kN); (first | refine' w_st kF kN ?_ rfl rfl | refine' w_stC kF kN ?_ rfl rfl); (intro h' tk' F' N')))
def zoneNames : List Str := [Str.ofString "GMT", Str.ofString "UTC", Str.ofString "UT", Str.ofString "Z"]
theorem ns_zone (P : Params) (x : Str) : nsIn (hd.heap_39 P) 32 x = some (if zoneNames.contains x then some .none else none) := by
  unfold nsIn
  rw [show (hd.heap_39 P).lookup 32 = some ⟨.type "dict", none, .dict #[⟨PyData.keyHash P (Str.ofString "GMT"), .str (Str.ofString "GMT") 284, .none⟩, ⟨PyData.keyHash P (Str.ofString "UTC"), .str (Str.ofString "UTC") 285, .none⟩, ⟨PyData.keyHash P (Str.ofString "UT"), .str (Str.ofString "UT") 286, .none⟩, ⟨PyData.keyHash P (Str.ofString "Z"), .str (Str.ofString "Z") 287, .none⟩] 4, #[]⟩ from rfl]
  have hc : zoneNames.contains x = (Str.ofString "GMT" == x || (Str.ofString "UTC" == x || (Str.ofString "UT" == x || (Str.ofString "Z" == x || false)))) := by
    unfold zoneNames
    simp only [List.contains_cons, List.contains_nil, Bool.beq_comm (α := Str)]
  rw [hc]
  simp only [List.find?_cons, Value.isStr, List.find?_nil]
  cases (Str.ofString "GMT" == x) <;> cases (Str.ofString "UTC" == x) <;> cases (Str.ofString "UT" == x) <;> cases (Str.ofString "Z" == x) <;> rfl
section
variable {prog : Program} {w : World} {A : Around} {E : Value → Shared → Prop} {s : Shared} {h : Heap} {tk : Nat} {p : Program} {loose : List Str} {mg mb : Str → Option Value} {Q : Value → Shared → Prop}
theorem w_inZones {h₀ : Heap} {L : Addr} {m : Str → Option Value} {x : Str} {t : Tok} (G : Gr w p loose mg mb h₀) (F : Fr h₀ L h m)
    (q : ∀ tk', Q (.bool (zoneNames.contains x)) (St s h tk')) : wpAny (model prog w) A (compareOp .In (.str x t) (.ref 32)) Q E (St s h tk) := by
  refine topIn_K (s := St s h tk) F G.X rfl ?_ (ns_zone _ x) (by decide) ?_
  · repeat (first | exact True.intro | refine And.intro ⟨_, _, rfl, rfl⟩ ?_)
  · have := q (tk + 1)
    cases hc : zoneNames.contains x <;> rw [hc] at this <;> exact this
theorem noBool_match : typeLookup (.type "re.Match") "__bool__" = pure none := by rw [typeLookup_type, builtinLookup_eq_fast]; kernel_rfl
theorem noLen_match : typeLookup (.type "re.Match") "__len__" = pure none := by rw [typeLookup_type, builtinLookup_eq_fast]; kernel_rfl
theorem w_truthM {x : Str} {t : Tok} {l : Int} {M T : Addr} {n : Nat} {Q : Bool → Shared → Prop} (hM : h.get? M = some (matchO x t l T n)) (q : Q true (St s h tk)) : wpAny (model prog w) A (truthy (.ref M)) Q E (St s h tk) := by
  have hT : (St s h tk).TypeIs (.ref M) "re.Match" := ⟨_, hM, rfl⟩
  unfold truthy
  refine wpAny_bind (wpAny_callSpecial?_none (name := Str.ofString "__bool__") hT noBool_match ?_)
  refine wpAny_bind (wpAny_specialOf (name := Str.ofString "__len__") hT noLen_match ?_)
  exact wpAny_pure q
theorem w_getGroup {x : Str} {t : Tok} {l : Int} {M T : Addr} {n : Nat} {pl : Sem Bool} {Q : Value × List Value → Shared → Prop} (hM : h.get? M = some (matchO x t l T n)) (q : Q (.builtin "re.Match.group", [.ref M]) (St s h tk)) :
    wpAny (model prog w) A (getMethod (.ref M) (Str.ofString "group") pl) Q E (St s h tk) :=
  getMethod_builtin ⟨_, hM, rfl⟩ plainAttrs_match slot_group type_group (fun a e => by cases e; exact ⟨_, hM, rfl⟩) q
theorem w_getSearch {pl : Sem Bool} {Q : Value × List Value → Shared → Prop} (X : (hd.heap_39 w.params).In h) (q : Q (.builtin "re.Pattern.search", [.ref 37]) (St s h tk)) :
    wpAny (model prog w) A (getMethod (.ref 37) (Str.ofString "search") pl) Q E (St s h tk) :=
  getMethod_builtin ⟨_, X _ _ (pat_in _), rfl⟩ plainAttrs_pat slot_search type_search (fun a e => by cases e; exact ⟨_, X _ _ (pat_in _), rfl⟩) q
theorem w_intS {x : Str} {t : Tok} {n : Int} {Q : Value → Shared → Prop} (hn : PySem.intText? x = some n) (hl : x.length ≤ 640) (q : ∀ t' tk', Q (.int n t') (St s h tk')) : wpAny (model prog w) A (call (.type "int") [.str x t]) Q E (St s h tk) :=
  PySem.W.KIN.call_text hn hl (q _ _)

theorem c_offA (G : Gr w p loose mg mb h) (hA : Fit A 1) (x : Str) (t : Tok) (hx : zoneNames.contains x = true)
    (q : ∀ t' h' tk', Sub h h' → Q (.int 0 t') (St s h' tk')) : wpAny (model prog w) A (call (.ref 44) [.str x t]) Q E (St s h tk) := by
  refine enter (binds := [(("tz" : Str), .str x t)]) hA.lt G.X G.T.nolimit rfl rfl rfl (locs rfl) rfl rfl rfl (by decide) fun h₁ tk₁ F N => ?_
  refine asg_cut (fun v => v = .none) F N (fun F N => ?_) (fun v h₂ tk₂ hv F₂ N₂ => ?_) rfl rfl rfl
  · walk1
    exact ⟨_, _, rfl, F, ⟨[], N⟩, rfl⟩
  refine if_cut true F₂ N₂ (fun F N => ?_) fun h₃ tk₃ F₃ N₃ => ?_
  · refine wpAny_isTrue_Compare1 (ld F rfl ?_)
    refine nmG G F rfl (w_inZones G F fun tk' => wpAny_truthy_bool ⟨_, _, rfl, F, ⟨[], N⟩, hx⟩) rfl rfl rfl (by decide)
  rw [if_pos rfl]
  refine asg_cut (IntIs 0) F₃ N₃ (fun F N => ?_) (fun v h₄ tk₄ hv F₄ N₄ => ?_) rfl rfl rfl
  · walk1
    exact ⟨_, _, rfl, F, ⟨[], N⟩, intIs rfl⟩
  obtain ⟨t', rfl⟩ := hv
  refine wpAny_execs_nil ?_
  dsimp only
  refine ret_cut (IntIs 0) F₄ N₄ (fun F N => ?_) fun v h' tk' hv hS => ?_
  · exact ld F rfl ⟨_, _, rfl, F, ⟨[], N⟩, intIs rfl⟩
  · obtain ⟨t', rfl⟩ := hv
    exact q _ _ _ hS
theorem c_offB (G : Gr w p loose mg mb h) (hA : Fit A 1) (x : Str) (t : Tok) (hx : zoneNames.contains x = false) (hx2 : x.length ≤ 100) (hl : look x.cps.toList = some none)
    (q : ∀ h' tk', Sub h h' → Q .none (St s h' tk')) : wpAny (model prog w) A (call (.ref 44) [.str x t]) Q E (St s h tk) := by
  refine enter (binds := [(("tz" : Str), .str x t)]) hA.lt G.X G.T.nolimit rfl rfl rfl (locs rfl) rfl rfl rfl (by decide) fun h₁ tk₁ F N => ?_
  refine asg_cut (fun v => v = .none) F N (fun F N => ?_) (fun v h₂ tk₂ hv F₂ N₂ => ?_) rfl rfl rfl
  · walk1
    exact ⟨_, _, rfl, F, ⟨[], N⟩, rfl⟩
  subst hv
  refine if_cut false F₂ N₂ (fun F N => ?_) fun h₃ tk₃ F₃ N₃ => ?_
  · refine wpAny_isTrue_Compare1 (ld F rfl ?_)
    refine nmG G F rfl (w_inZones G F fun tk' => wpAny_truthy_bool ⟨_, _, rfl, F, ⟨[], N⟩, hx⟩) rfl rfl rfl (by decide)
  rw [if_neg (by decide)]
  refine asg_cut (fun v => v = .none) F₃ N₃ (fun F N => ?_) (fun v h₄ tk₄ hv F₄ N₄ => ?_) rfl rfl rfl
  · refine MethodCall_ ?_
    refine nmG G F rfl ?_ rfl rfl rfl (by decide)
    refine w_getSearch (G.X.keeps F.keep) ?_
    refine callWith_builtin rfl (evalArgs_plain (spliced_cons (ld F rfl (spliced_nil ?_))))
    refine w_search (G.X.keeps F.keep) hx2 hl ?_
    exact fun tk' => ⟨_, _, rfl, F, ⟨[], N⟩, rfl⟩
  subst hv
  refine if_cut false F₄ N₄ (fun F N => ?_) fun h₅ tk₅ F₅ N₅ => ?_
  · refine wpAny_isTrue_value (ld F rfl ?_)
    exact wpAny_pure ⟨_, _, rfl, F, ⟨[], N⟩, rfl⟩
  rw [if_neg (by decide)]
  refine wpAny_execs_nil ?_
  dsimp only
  refine wpAny_execs_nil ?_
  dsimp only
  refine ret_cut (fun v => v = .none) F₅ N₅ (fun F N => ?_) fun v h' tk' hv hS => ?_
  · exact ld F rfl ⟨_, _, rfl, F, ⟨[], N⟩, rfl⟩
  · subst hv
    exact q _ _ hS
def pm (x : Str) (sp : List Int) : Bool := (match grp x sp 1 with | some y => y.cps.toList == (Str.ofString "-").cps.toList | none => false)
theorem c_offC (G : Gr w p loose mg mb h) (hA : Fit A 1) (x : Str) (t : Tok) (hx : zoneNames.contains x = false) (hx2 : x.length ≤ 100) (sp : List Int) (hl : look x.cps.toList = some (some sp))
    (y2 : Str) (n2 n3 : Int) (h2 : grp x sp 2 = some y2) (i2 : PySem.intText? y2 = some n2) (l2 : y2.length ≤ 640)
    (h3 : (grp x sp 3 = none ∧ n3 = 0) ∨ ∃ y3, grp x sp 3 = some y3 ∧ y3.length ≠ 0 ∧ PySem.intText? y3 = some n3 ∧ y3.length ≤ 640)
    (q : ∀ t' h' tk', Sub h h' → Q (.int (if pm x sp then -(3600 * n2 + 60 * n3) else 3600 * n2 + 60 * n3) t') (St s h' tk')) : wpAny (model prog w) A (call (.ref 44) [.str x t]) Q E (St s h tk) := by
  refine enter (binds := [(("tz" : Str), .str x t)]) hA.lt G.X G.T.nolimit rfl rfl rfl (locs rfl) rfl rfl rfl (by decide) fun h₁ tk₁ F N => ?_
  refine asg_cut (fun v => v = .none) F N (fun F N => ?_) (fun v h₂ tk₂ hv F₂ N₂ => ?_) rfl rfl rfl
  · walk1
    exact ⟨_, _, rfl, F, ⟨[], N⟩, rfl⟩
  subst hv
  refine if_cut false F₂ N₂ (fun F N => ?_) fun h₃ tk₃ F₃ N₃ => ?_
  · refine wpAny_isTrue_Compare1 (ld F rfl ?_)
    refine nmG G F rfl (w_inZones G F fun tk' => wpAny_truthy_bool ⟨_, _, rfl, F, ⟨[], N⟩, hx⟩) rfl rfl rfl (by decide)
  rw [if_neg (by decide)]
  refine asg_cut2 (fun v own => ∃ M T l n, v = .ref M ∧ sp.length = 8 ∧ own = [(M, matchO x t l T n), (T, tupO sp)]) F₃ N₃ (fun F N => ?_) (fun v own h₄ tk₄ hv F₄ N₄ => ?_) rfl rfl rfl
  · refine MethodCall_ ?_
    refine nmG G F rfl ?_ rfl rfl rfl (by decide)
    refine w_getSearch (G.X.keeps F.keep) ?_
    refine callWith_builtin rfl (evalArgs_plain (spliced_cons (ld F rfl (spliced_nil ?_))))
    refine w_search (G.X.keeps F.keep) hx2 hl ?_
    intro hsl h' M T l n tk' hS nM nT hM hT
    exact ⟨_, _, [(M, matchO x t l T n), (T, tupO sp)], rfl, Fr.sub F hS, News.add F (News.add F (News.sub N hS) nT hT) nM hM, M, T, l, n, rfl, hsl, rfl⟩
  obtain ⟨M, T, l, n, rfl, hsl, rfl⟩ := hv
  have grpC : ∀ {h' : Heap} {tk' : Nat} {news : List (Addr × Obj)} {A : Around} {E : Value → Shared → Prop} {Q : Value → Shared → Prop} {g : Nat} {pos3 pos4 : Pos} {L : Addr} {env : Env} {pl : Sem Bool} {k : Nat}, News h L h' ((M, matchO x t l T n) :: (T, tupO sp) :: news) → g ≤ 3 →
      (∀ v tk', OptStr (grp x sp g) v → Q v (St s h' tk')) →
      wpAny (model prog w) A (getMethod (.ref M) (Str.ofString "group") pl) (fun fx s₂ => wpAny (model prog w) A (callWith pos4 fx.1 fx.2 (backTo pos4 (starEach [.Constant (.int (g : Int)) k pos3] env)) []) Q E s₂) E (St s h' tk') := by
    intro h' tk' news A E Q g pos3 pos4 L env pl k N hg qq
    have hM := N.get (.head _)
    have hT := N.get (.tail _ (.head _))
    refine w_getGroup hM ?_
    refine callWith_builtin rfl (evalArgs_plain (spliced_cons (w_int (k := k) (pos := pos3) fun u tk'' => spliced_nil ?_)))
    exact w_group hx2 hM hT hsl hg qq
  refine if_cut true F₄ N₄ (fun F N => ?_) fun h₅ tk₅ F₅ N₅ => ?_
  · refine wpAny_isTrue_value (ld F rfl ?_)
    exact w_truthM (N.get (.head _)) ⟨_, _, rfl, F, ⟨[], N⟩, rfl⟩
  rw [if_pos rfl]
  refine asg_cut (IntIs (3600 * n2)) F₅ N₅ (fun F N => ?_) (fun v h₆ tk₆ hv F₆ N₆ => ?_) rfl rfl rfl
  · refine wpAny_BinOp (w_int fun u tk' => ?_)
    refine Call_Name1 (nb_int G F ?_ rfl rfl rfl rfl)
    refine callWith_type1 ?_
    refine MethodCall_ (ld F rfl (grpC (g := 2) N (by decide) fun v tk'' hv => ?_))
    rw [h2] at hv
    obtain ⟨t2, rfl⟩ := hv
    refine w_intS i2 l2 fun t' tk' => ?_
    refine w_mul (IntMulOk.of_left (by decide)) fun t' tk' => ?_
    exact ⟨_, _, rfl, F, ⟨[], N⟩, intIs rfl⟩
  obtain ⟨t6, rfl⟩ := hv
  refine execs_cut (fun h' => ∃ m' to, Fr h h.objs.size h' m' ∧ News h h.objs.size h' ((M, matchO x t l T n) :: (T, tupO sp) :: []) ∧ m' (Str.ofString "offset") = some (.int (3600 * n2 + 60 * n3) to) ∧ m' (Str.ofString "m") = some (.ref M)) ?_ ?_
  · refine wpAny_If (wpAny_isTrue_value ?_)
    refine MethodCall_ (ld F₆ rfl (grpC (g := 3) N₆ (by decide) fun v tk'' hv => ?_))
    rcases h3 with ⟨e3, rfl⟩ | ⟨y3, e3, e4, i3, l3⟩
    · rw [e3] at hv
      have hv' : v = .none := hv
      subst hv'
      refine wpAny_pure ?_
      rw [if_neg (by decide)]
      exact wpAny_execs_nil ⟨rfl, _, _, rfl, _, t6, F₆, N₆, by rw [show 3600 * n2 + 60 * 0 = 3600 * n2 from by omega]; rfl, rfl⟩
    · rw [e3] at hv
      obtain ⟨t3, rfl⟩ := hv
      refine P.truthy_str (by omega) ?_
      rw [if_pos (by simp; omega)]
      refine asg_cut (s := s) (IntIs (3600 * n2 + 60 * n3)) F₆ N₆ (fun F N => ?_) (fun v h₇ tk₇ hv F₇ N₇ => ?_) rfl rfl rfl
      · refine wpAny_BinOp (ld F rfl ?_)
        refine wpAny_BinOp (w_int fun u tk' => ?_)
        refine Call_Name1 (nb_int G F ?_ rfl rfl rfl rfl)
        refine callWith_type1 ?_
        refine MethodCall_ (ld F rfl (grpC (g := 3) N (by decide) fun v tk'' hv => ?_))
        rw [e3] at hv
        obtain ⟨t2, rfl⟩ := hv
        refine w_intS i3 l3 fun t' tk' => ?_
        refine w_mul (IntMulOk.of_left (by decide)) fun t' tk' => ?_
        refine w_add fun t' tk' => ?_
        exact ⟨_, _, rfl, F, ⟨[], N⟩, intIs rfl⟩
      · obtain ⟨t7, rfl⟩ := hv
        exact wpAny_execs_nil ⟨rfl, _, _, rfl, _, t7, F₇, N₇, rfl, rfl⟩
  intro h₇ tk₇ ⟨m₇, t7, F₇, N₇, ho, hm⟩
  refine execs_cut (fun h' => ∃ m' to, Fr h h.objs.size h' m' ∧ News h h.objs.size h' ((M, matchO x t l T n) :: (T, tupO sp) :: []) ∧ m' (Str.ofString "offset") = some (.int (if pm x sp then -(3600 * n2 + 60 * n3) else 3600 * n2 + 60 * n3) to)) ?_ ?_
  · refine wpAny_If (wpAny_isTrue_Compare1 ?_)
    refine MethodCall_ (ld F₇ hm (grpC (g := 1) N₇ (by decide) fun v tk'' hv => ?_))
    refine w_str fun t9 tk9 => ?_
    cases e1 : grp x sp 1 with
    | none =>
      rw [e1] at hv
      have hv' : v = .none := hv
      subst hv'
      have hp : pm x sp = false := by unfold pm; rw [e1]
      rw [hp, if_neg (by decide)]
      refine EqNone.eq_none_str (wpAny_truthy_bool ?_)
      rw [if_neg (by decide)]
      exact wpAny_execs_nil ⟨rfl, _, _, rfl, _, t7, F₇, N₇, ho⟩
    | some y1 =>
      rw [e1] at hv
      obtain ⟨t1, rfl⟩ := hv
      have hp : pm x sp = (y1.cps.toList == (Str.ofString "-").cps.toList) := by unfold pm; rw [e1]
      refine P.eq_str (wpAny_truthy_bool ?_)
      rw [hp]
      cases hq : (y1.cps.toList == (Str.ofString "-").cps.toList) with
      | false =>
        rw [if_neg (by decide), if_neg (by decide)]
        exact wpAny_execs_nil ⟨rfl, _, _, rfl, _, t7, F₇, N₇, ho⟩
      | true =>
        rw [if_pos rfl, if_pos rfl]
        refine asg_cut (s := s) (IntIs (-(3600 * n2 + 60 * n3))) F₇ N₇ (fun F N => ?_) (fun v h₈ tk₈ hv F₈ N₈ => ?_) rfl rfl rfl
        · refine wpAny_UnaryOp (ld F ho ?_)
          refine w_neg fun t' tk' => ?_
          exact ⟨_, _, rfl, F, ⟨[], N⟩, intIs rfl⟩
        · obtain ⟨t8, rfl⟩ := hv
          exact wpAny_execs_nil ⟨rfl, _, _, rfl, _, t8, F₈, N₈, rfl⟩
  intro h₈ tk₈ ⟨m₈, t8, F₈, N₈, ho8⟩
  refine wpAny_execs_nil ?_
  dsimp only
  refine wpAny_execs_nil ?_
  dsimp only
  refine ret_cut (IntIs (if pm x sp then -(3600 * n2 + 60 * n3) else 3600 * n2 + 60 * n3)) F₈ N₈ (fun F N => ?_) fun v h' tk' hv hS => ?_
  · exact ld F ho8 ⟨_, _, rfl, F, ⟨[], N⟩, intIs rfl⟩
  · obtain ⟨t', rfl⟩ := hv
    exact q _ _ _ hS
end
end Mine
end
section -- C4
open PySem PySem.W PySem.Calls PyProof.Rows
namespace Mine

local macro_rules | `(tactic| walk_at "eval Name") => `(tactic| ((with_reducible rename Gr _ _ _ _ _ _ => kG); (with_reducible rename Fr _ _ _ _ => kF); first
  | (refine' nmG kG kF ?e ?_ ?hg ?hk ?hx ?hd; (case hx => exact rfl); (case hg => exact rfl); (case hk => exact rfl); (case hd => decide); (case e => exact rfl))
  | ((with_reducible refine' nb_str kG kF ?_ ?hg ?hb ?hk ?hx); (case hx => exact rfl); (case hg => exact rfl); (case hb => exact rfl); (case hk => exact rfl))
  | ((with_reducible refine' nb_int kG kF ?_ ?hg ?hb ?hk ?hx); (case hx => exact rfl); (case hg => exact rfl); (case hb => exact rfl); (case hk => exact rfl))
  | ((with_reducible refine' nb_range kG kF ?_ ?hg ?hb ?hk ?hx); (case hx => exact rfl); (case hg => exact rfl); (case hb => exact rfl); (case hk => exact rfl))
  | ((with_reducible refine' nb_len kG kF ?_ ?hg ?hb ?hk ?hx); (case hx => exact rfl); (case hg => exact rfl); (case hb => exact rfl); (case hk => exact rfl))
  | ((with_reducible refine' nb_abs kG kF ?_ ?hg ?hb ?hk ?hx); (case hx => exact rfl); (case hg => exact rfl); (case hb => exact rfl); (case hk => exact rfl))
  | ((with_reducible refine' nb_sum kG kF ?_ ?hg ?hb ?hk ?hx); (case hx => exact rfl); (case hg => exact rfl); (case hb => exact rfl); (case hk => exact rfl))
  | ((with_reducible refine' nb_min kG kF ?_ ?hg ?hb ?hk ?hx); (case hx => exact rfl); (case hg => exact rfl); (case hb => exact rfl); (case hk => exact rfl))
  | ((with_reducible refine' nb_isinstance kG kF ?_ ?hg ?hb ?hk ?hx); (case hx => exact rfl); (case hg => exact rfl); (case hb => exact rfl); (case hk => exact rfl))
  | ((with_reducible refine' nb_tuple kG kF ?_ ?hg ?hb ?hk ?hx); (case hx => exact rfl); (case hg => exact rfl); (case hb => exact rfl); (case hk => exact rfl))))
local macro_rules | `(tactic| walk_at "eval Constant int") => `(tactic| (refine w_int ?_; intro _ _))
local macro_rules | `(tactic| walk_at "eval Constant str") => `(tactic| (refine w_str ?_; intro _ _))
local macro_rules | `(tactic| walk_at "binaryOp Add int int") => `(tactic| (refine w_add ?_; intro _ _))
local macro_rules | `(tactic| walk_at "binaryOp Sub int int") => `(tactic| (refine w_sub ?_; intro _ _))
local macro_rules | `(tactic| walk_at "binaryOp Mult int int") => `(tactic| (refine w_mul (by first | exact IntMulOk.of_left (by decide) | exact IntMulOk.of_right (by decide) | mul_fits) ?_; intro _ _))
local macro_rules | `(tactic| walk_at "binaryOp Mod int int") => `(tactic| (refine w_mod (by first | decide | omega) ?_; intro _ _))
local macro_rules | `(tactic| walk_at "binaryOp FloorDiv int int") => `(tactic| (refine w_div (by first | decide | omega) (PyProof.noPylong_small (by first | decide | omega)) ?_; intro _ _))
local macro_rules | `(tactic| walk_at "unaryOp USub int") => `(tactic| (refine w_neg ?_; intro _ _))
local macro_rules | `(tactic| walk_at "call builtin:abs") => `(tactic| (refine w_abs ?_; intro _ _))
local macro_rules | `(tactic| walk_at "storeName") => `(tactic| ((with_reducible rename Fr _ _ _ _ => kF); (with_reducible rename News _ _ _ _ => kN); (first | refine' w_st kF kN ?_ rfl rfl | refine' w_stC kF kN ?_ rfl rfl); (intro h' tk' F' N')))
section
variable {prog : Program} {w : World} {A : Around} {E : Value → Shared → Prop} {s : Shared} {h : Heap} {tk : Nat} {p : Program} {loose : List Str} {mg mb : Str → Option Value} {Q : Value → Shared → Prop}
local macro_rules | `(tactic| walk_at "binaryOp Mod str int") => `(tactic| ((with_reducible rename Frag.In _ _ => kX); refine w_pct kX _ _ _ (by omega) (by omega) ?_; intro _ _))
local macro_rules | `(tactic| walk_at "binaryOp Add str str") => `(tactic| (refine w_adds (by (try simp only [Str.length_append]); rw [sizeLine_eq]; omega) ?_; intro _ _))
local macro_rules | `(tactic| walk_at "call type:str") => `(tactic| (refine w_strInt (small_log (by omega)) ?_; intro _ _))
def signS (o k : Int) : Str := Str.ofString (if o < 0 then "-" else if k % 2 = 0 then "+" else "")
def hourS (o k : Int) : Str := if k < 3 then pad ((if o < 0 then -o else o) / 2) else Str.ofString (toString ((if o < 0 then -o else o) / 2))
def zoneS (o k : Int) : Str :=
  if o = 0 ∧ k = 0 then Str.ofString "GMT" else
  if o % 2 = 0 ∧ k % 3 = 2 then signS o k ++ hourS o k
  else signS o k ++ hourS o k ++ Str.ofString (if k % 3 = 1 then ":" else "") ++ Str.ofString (if o % 2 = 1 then "30" else "00")
theorem signS_le (o k : Int) : (signS o k).length ≤ 1 := by
  unfold signS; split
  · decide +kernel
  · split <;> decide +kernel
set_option maxHeartbeats 1000000 in
theorem c_zone (G : Gr w p loose mg mb h) (hA : Fit A 1) (n z : Int) (t u : Tok) (hz : z = 6 ∨ z = 8 ∨ z = 10 ∨ z = 12)
    (q : ∀ t' h' tk', Sub h h' → Q (.str (zoneS (n % (3 * z) - z) ((n / (3 * z)) % 6)) t') (St s h' tk')) : wpAny (model prog w) A (call (.ref 105) [.int n t, .int z u]) Q E (St s h tk) := by
  refine enter (binds := [(("number" : Str), .int n t), (("size" : Str), .int z u)]) hA.lt G.X G.T.nolimit rfl rfl rfl (locs rfl) rfl rfl rfl (by decide) fun h₁ tk₁ F N => ?_
  have X := G.X
  have hz0 : z ≠ 0 := by omega
  have hz1 : 6 ≤ z := by omega
  have hz2 : z ≤ 12 := by omega
  iterate 26 (first | walk1 | (dsimp only; walk1))
  have ho1 : -12 ≤ n % (3 * z) - z := by rcases hz with rfl | rfl | rfl | rfl <;> omega
  have ho2 : n % (3 * z) - z ≤ 23 := by rcases hz with rfl | rfl | rfl | rfl <;> omega
  have hk1 : 0 ≤ (n / (3 * z)) % 6 := by omega
  have hk2 : (n / (3 * z)) % 6 < 6 := by omega
  have q' : ∀ y t' h' tk', y = zoneS (n % (3 * z) - z) ((n / (3 * z)) % 6) → Sub h h' → Q (.str y t') (St s h' tk') := fun y t' h' tk' e => e ▸ q t' h' tk'
  clear q
  generalize ho : n % (3 * z) - z = o at *
  generalize hk : (n / (3 * z)) % 6 = k at *
  clear ho hk
  with_reducible rename Fr _ _ _ _ => kF
  with_reducible rename News _ _ _ _ => kN
  dsimp only
  refine if_cut (decide (o = 0 ∧ k = 0)) kF kN (fun F N => ?_) fun h₂ tk₂ F₂ N₂ => ?_
  · by_cases hg : o = 0 ∧ k = 0
    · obtain ⟨rfl, rfl⟩ := hg
      repeat' (first | walk1 | (dsimp only; walk1))
      exact ⟨_, _, rfl, F, ⟨[], N⟩, rfl⟩
    · rw [decide_eq_false hg]
      repeat' (first | walk1 | (dsimp only; walk1))
      all_goals first | exact absurd (And.intro (by assumption) (by assumption)) hg | exact ⟨_, _, rfl, F, ⟨[], N⟩, rfl⟩
  by_cases hg : o = 0 ∧ k = 0
  · rw [decide_eq_true hg, if_pos rfl]
    refine ret_cut (StrIs (Str.ofString "GMT")) F₂ N₂ (fun F N => ?_) fun v h' tk' hv hS => ?_
    · walk1
      exact ⟨_, _, rfl, F, ⟨[], N⟩, strIs rfl⟩
    · obtain ⟨t', rfl⟩ := hv
      exact q' _ _ _ _ (by unfold zoneS; rw [if_pos hg]) hS
  rw [decide_eq_false hg, if_neg (by decide)]
  refine wpAny_execs_nil ?_
  dsimp only
  refine asg_cut (StrIs (signS o k)) F₂ N₂ (fun F N => ?_) (fun v h₃ tk₃ hv F₃ N₃ => ?_) rfl rfl rfl
  · repeat' (first | walk1 | (dsimp only; walk1))
    all_goals ((with_reducible rename Fr _ _ _ _ => kF); (with_reducible rename News _ _ _ _ => kN); first | refine ⟨_, _, rfl, kF, ⟨[], kN⟩, strIs ?_⟩ | refine ⟨_, _, rfl, kF, ⟨[_], kN⟩, strIs ?_⟩)
    all_goals (unfold signS; (repeat' split) <;> first | rfl | (exfalso; omega))
  obtain ⟨t3, rfl⟩ := hv
  refine asg_cut (IntIs ((if o < 0 then -o else o) / 2)) F₃ N₃ (fun F N => ?_) (fun v h₄ tk₄ hv F₄ N₄ => ?_) rfl rfl rfl
  · repeat' (first | walk1 | (dsimp only; walk1))
    (with_reducible rename Fr _ _ _ _ => kF); (with_reducible rename News _ _ _ _ => kN); exact ⟨_, _, rfl, kF, ⟨[], kN⟩, intIs rfl⟩
  obtain ⟨t4, rfl⟩ := hv
  refine asg_cut (StrIs (signS o k ++ hourS o k)) F₄ N₄ (fun F N => ?_) (fun v h₅ tk₅ hv F₅ N₅ => ?_) rfl rfl rfl
  · have hl : (signS o k).length ≤ 1 := signS_le o k
    have hh1 : 0 ≤ (if o < 0 then -o else o) / 2 := by split <;> omega
    have hh2 : (if o < 0 then -o else o) / 2 ≤ 11 := by split <;> omega
    have hp1 := pad_le hh1 hh2
    have hp2 := dec_le hh1 hh2
    generalize hhE : (if o < 0 then -o else o) / 2 = hh at *
    repeat' (first | walk1 | (dsimp only; walk1))
    all_goals ((with_reducible rename Fr _ _ _ _ => kF); (with_reducible rename News _ _ _ _ => kN); refine ⟨_, _, rfl, kF, ⟨[], kN⟩, strIs ?_⟩)
    all_goals (unfold hourS; subst hhE; (repeat' split) <;> first | rfl | (exfalso; omega) | skip)
  obtain ⟨t5, rfl⟩ := hv
  refine if_cut (decide (o % 2 = 0 ∧ k % 3 = 2)) F₅ N₅ (fun F N => ?_) fun h₆ tk₆ F₆ N₆ => ?_
  · repeat' (first | walk1 | (dsimp only; walk1))
    all_goals ((with_reducible rename Fr _ _ _ _ => kF); (with_reducible rename News _ _ _ _ => kN); refine ⟨_, _, rfl, kF, ⟨[], kN⟩, ?_⟩)
    all_goals simp_all
  have hl : (signS o k ++ hourS o k).length ≤ 3 := by
    have hh1 : 0 ≤ (if o < 0 then -o else o) / 2 := by split <;> omega
    have hh2 : (if o < 0 then -o else o) / 2 ≤ 11 := by split <;> omega
    have := pad_le hh1 hh2
    have := dec_le hh1 hh2
    have := signS_le o k
    rw [Str.length_append]; unfold hourS; split <;> omega
  have qq : ∀ v h' tk', StrIs (zoneS o k) v → Sub h h' → Q v (St s h' tk') := fun v h' tk' ⟨t, e⟩ hS => e ▸ q' _ t h' tk' rfl hS
  generalize hE : signS o k ++ hourS o k = se at *
  by_cases hc : o % 2 = 0 ∧ k % 3 = 2
  · rw [decide_eq_true hc, if_pos rfl]
    refine ret_cut (StrIs se) F₆ N₆ (fun F N => ?_) fun v h' tk' hv hS => ?_
    · walk1
      exact ⟨_, _, rfl, F, ⟨[], N⟩, strIs rfl⟩
    · refine qq _ _ _ ?_ hS
      unfold zoneS
      rw [if_neg hg, if_pos hc, hE]; exact hv
  rw [decide_eq_false hc, if_neg (by decide)]
  refine wpAny_execs_nil ?_
  dsimp only
  refine ret_cut (StrIs (se ++ Str.ofString (if k % 3 = 1 then ":" else "") ++ Str.ofString (if o % 2 = 1 then "30" else "00"))) F₆ N₆ (fun F N => ?_) fun v h' tk' hv hS => ?_
  · have l1 : (Str.ofString ":").length = 1 := by decide +kernel
    have l2 : (Str.ofString "").length = 0 := by decide +kernel
    have l3 : (Str.ofString "30").length = 2 := by decide +kernel
    have l4 : (Str.ofString "00").length = 2 := by decide +kernel
    repeat' (first | walk1 | (dsimp only; walk1))
    all_goals ((with_reducible rename Fr _ _ _ _ => kF); (with_reducible rename News _ _ _ _ => kN); refine ⟨_, _, rfl, kF, ⟨[], kN⟩, strIs ?_⟩)
    all_goals ((repeat' split) <;> first | rfl | (exfalso; omega) | skip)
  · refine qq _ _ _ ?_ hS
    unfold zoneS
    rw [if_neg hg, if_neg hc, hE]; exact hv
end
end Mine
end
section -- V1
open PySem PySem.W PySem.Calls PyProof.Rows
namespace Mine
/-- xv can be walked: n values, the i-th as P tells -/
structure Over (prog : Program) (w : World) (A : Around) (h₁ : Heap) (xv : Value) (n : Nat) (P : Nat → Value → Prop) (fx : List Addr) : Prop where
  go : ∀ {Q : Value → Shared → Prop} {E : Value → Shared → Prop} {s : Shared} {tk : Nat}, (∀ I h₂ fp S, Sub h₁ h₂ → h₁.get? I = none → Walks prog w A I fp [I] n P S → S 0 h₂ → (∀ b ∈ fp, b < h₂.objs.size) → (∀ b ∈ fp, b = I ∨ b ∈ fx) → (∀ i h, S i h → ∃ o, h.get? I = some o) → Q (.ref I) (St s h₂ tk)) →
    wpAny (model prog w) A (pyIter xv) Q E (St s h₁ tk)
section
variable {prog : Program} {w : World} {A : Around} {E : Value → Shared → Prop} {s : Shared} {h h₁ : Heap} {tk : Nat}
theorem sub_push (h : Heap) (o : Obj) : Sub h (h.push o) := fun _ _ e => Heap.get?_push_of_some _ e
theorem over_list (hh : A.handled = none) {ax : Addr} {items : Array Value} (hl : h₁.IsList ax items) : Over prog w A h₁ (.ref ax) items.size (fun i v => items[i]? = some v) [ax] := by
  refine ⟨fun {Q E s tk} k => ?_⟩
  have hax : ax < h₁.objs.size := by obtain ⟨_, e, _⟩ := hl; exact Heap.lt_size e
  refine wpAny_pyIter_list (s := St s h₁ tk) hl ?_
  refine k h₁.objs.size _ [h₁.objs.size, ax] _ (sub_push _ _) (get_none_size (Nat.le_refl _)) (Walks.list hh h₁.objs.size ax (Nat.ne_of_lt hax) items) ⟨⟨_, Heap.get?_push_size _ rfl, rfl, rfl⟩, hl.push _⟩ ?_ (fun b hb => by simpa using hb) (fun i h st => let ⟨o, ho, _⟩ := st.1; ⟨o, ho⟩)
  intro b hb
  rw [Heap.size_push]
  rcases List.mem_cons.mp hb with rfl | hb
  · exact Nat.lt_succ_self _
  · rcases List.mem_cons.mp hb with rfl | hb
    · exact Nat.lt_succ_of_lt hax
    · cases hb
theorem over_range (hh : A.handled = none) {r : Addr} {n : Nat} {t u v : Tok} (hr : IsRange h₁ r 0 n 1 t u v) (hn : n < 2 ^ 60) : Over prog w A h₁ (.ref r) n (fun i v => i < n ∧ ∃ t, v = .int i t) [] := by
  refine ⟨fun {Q E s tk} k => ?_⟩
  refine wpAny_pyIter_range (s := St s h₁ tk) hr (small_one (by omega) (by omega) (by omega) (by omega)) ?_
  have W := Walks.range (prog := prog) (w := w) (A := A) hh h₁.objs.size 0 1 n
  have W' : Walks prog w A h₁.objs.size [h₁.objs.size] [h₁.objs.size] n (fun i v => ∃ t, v = .int i t) (fun i h => IsRangeIter h h₁.objs.size (0 + (i : Nat) * 1) ((n : Int) - (i : Nat)) 1) := by
    refine ⟨W.sub, W.frame, fun i s Q E hi st q => W.item i s Q E hi st fun v h' tk hv => q v h' tk ?_, W.done, W.self⟩
    obtain ⟨t, e⟩ := hv
    exact ⟨t, by rw [e]; congr 1; omega⟩
  refine k h₁.objs.size _ _ _ (sub_push _ _) (get_none_size (Nat.le_refl _)) W'.bound ?_ ?_ (fun b hb => by simpa using hb) (fun i h st => ⟨_, st⟩)
  · have e : Builtin.Range.rangeSize 0 n 1 = (n : Int) := by rw [rangeSize_one]; split <;> omega
    show IsRangeIter _ _ _ _ _
    rw [e]
    have := Heap.get?_push_size (o := { cls := .type "range_iterator", data := .fields #[rawInt 0, rawInt n, rawInt 1] }) h₁ rfl
    simpa [IsRangeIter, rawInt] using this
  · intro b hb
    rw [Heap.size_push]
    rcases List.mem_cons.mp hb with rfl | hb
    · exact Nat.lt_succ_self _
    · cases hb

/-- the test and the element of a comprehension with one clause, over values as P tells -/
structure Body (prog : Program) (w : World) (A : Around) (env : Env) (scope : Scope) (cl : List (Str × Addr)) (x : Str) (ifs : List Expr) (elt : Expr) (h₁ : Heap) (P : Nat → Value → Prop) (p : Value → Bool) (F : Value → Value → Prop) : Prop where
  tests : ∀ C i v s' h₃ tk₃ m₃ E', h₁.get? C = none → P i v → h₃.Ns C m₃ → m₃ x = some v → Sub h₁ h₃ →
    wpAny (model prog w) A (forIn ifs true fun c r => if r = true then do let ok ← isTrue c (compEnvC scope cl C env) (eval c (compEnvC scope cl C env)); pure (ForInStep.yield ok) else pure (ForInStep.yield r))
      (fun ok s₄ => ok = p v ∧ Keeps (St s' h₃ tk₃) s₄) E' (St s' h₃ tk₃)
  elt : ∀ C i v s' h₃ tk₃ m₃ E', h₁.get? C = none → P i v → p v = true → h₃.Ns C m₃ → m₃ x = some v → Sub h₁ h₃ →
    wpAny (model prog w) A (eval elt (compEnvC scope cl C env)) (fun y s₄ => F v y ∧ Keeps (St s' h₃ tk₃) s₄) E' (St s' h₃ tk₃)
theorem no_tests {A : Around} {M : Model} {Q : Bool → Shared → Prop} {s : Shared} (q : Q true s) {f : Expr → Bool → Sem (ForInStep Bool)} : wpAny M A (forIn ([] : List Expr) true f) Q E s := wpAny_pure q
theorem lc {elt iter : Expr} {x : Str} {px : Pos} {ifs : List Expr} {scope : Scope} {cl : List (Str × Addr)} {pos : Pos} {env : Env} {Q : Value → Shared → Prop} (p : Value → Bool) (F : Value → Value → Prop)
    (hclos : closureFor scope env = pure cl) (hcell : ∀ y ∈ scope.names, y.2 ≠ .cell) (hkind : scope.kind = .function)
    (hnames : ∀ y ∈ scope.names, y.2 = .local → scope.names.lookup y.1 = some .local) (hx : scope.names.lookup x = some .local) (hs : ∀ x, foldedSetIterable iter env x = pure x)
    (k : wpAny (model prog w) A (eval iter env) (fun xv s₁ => ∃ h₁ tk₁ n P fx, s₁ = St s h₁ tk₁ ∧ Over prog w A h₁ xv n P fx ∧ n ≤ sizeLine ∧ Body prog w A env scope cl x ifs elt h₁ P p F ∧
      (∀ D h' tk' ys (vs : List Value), h₁.get? D = none → Sub h₁ h' → h'.PlainList D ys → vs.length = n → (∀ j v, vs[j]? = some v → P j v) → Paired F (vs.filter p) ys.toList → Q (.ref D) (St s h' tk'))) E (St s h tk)) :
    wpAny (model prog w) A (eval (.ListComp elt [⟨.Name x px, iter, ifs, 0⟩] scope pos) env) Q E (St s h tk) := by
  refine wpAny_ListComp_free p F hclos hcell hkind hnames hx (wpAny_mono k (fun xv s₁ q => ?_) fun _ _ e => e) hs
  obtain ⟨h₁, tk₁, n, P, fx, rfl, O, hn, B, fin⟩ := q
  refine O.go fun I h₂ fp S hS hI W hst hfp _ _ => ?_
  have up : ∀ {H : Heap}, (∀ b o, b ∉ [I] → h₂.get? b = some o → H.get? b = some o) → Sub h₁ H := fun hk b o e => hk b o (by
    intro hm
    rcases List.mem_cons.mp hm with rfl | hm
    · rw [hI] at e; cases e
    · cases hm) (hS b o e)
  have low : ∀ {C : Addr}, h₂.objs.size ≤ C → h₁.get? C = none := fun {C} hC => by
    cases e : h₁.get? C with
    | none => rfl
    | some o => exact absurd (Heap.lt_size (hS _ _ e)) (Nat.not_lt.mpr hC)
  refine ⟨I, fp, [I], n, P, S, rfl, W, hn, hst, hfp, ⟨?_, ?_⟩, ?_⟩
  · intro C i v s₃ m₃ E' hC hP hN hm hk _
    exact B.tests C i v s₃ s₃.heap s₃.toks m₃ E' (low hC) hP hN hm (up hk)
  · intro C i v s₃ m₃ E' hC hP hp hN hm hk _
    exact B.elt C i v s₃ s₃.heap s₃.toks m₃ E' (low hC) hP hp hN hm (up hk)
  · intro D h' tk' ys vs hD _ hpl hlen hP hF hk
    refine fin D h' tk' ys vs ?_ (up hk) hpl hlen hP hF
    cases e : h₁.get? D with
    | none => rfl
    | some o => have := hS _ _ e; rw [hD] at this; cases this
theorem asg_lc {elt iter : Expr} {x y : Str} {px py : Pos} {ifs : List Expr} {scope : Scope} {cl : List (Str × Addr)} {pos spos : Pos} {env : Env} {Q : Flow → Shared → Prop} {m : Str → Option Value} (p : Value → Bool) (F : Value → Value → Prop)
    (hsw : swapsWith (.ListComp elt [⟨.Name x px, iter, ifs, 0⟩] scope pos) (some (.Name y py)) spos.line env = pure true)
    (hclos : closureFor scope env = pure cl) (hcell : ∀ y ∈ scope.names, y.2 ≠ .cell) (hkind : scope.kind = .function)
    (hnames : ∀ y ∈ scope.names, y.2 = .local → scope.names.lookup y.1 = some .local) (hx : scope.names.lookup x = some .local) (hs : ∀ x, foldedSetIterable iter env x = pure x)
    (hy : env.kindOf y = some .local) (hp : (env.scope.kind == .class || (env.scope.kind == .module && env.locals != env.globals)) = false)
    (k : wpAny (model prog w) A (eval iter env) (fun xv s₁ => ∃ h₁ tk₁ n P fx, s₁ = St s h₁ tk₁ ∧ Over prog w A h₁ xv n P fx ∧ n ≤ sizeLine ∧ h₁.Ns env.locals m ∧ Body prog w A env scope cl x ifs elt h₁ P p F ∧
      (∀ D h' tk' ys (vs : List Value), h₁.get? D = none → h'.PlainList D ys → vs.length = n → (∀ j v, vs[j]? = some v → P j v) → Paired F (vs.filter p) ys.toList →
        h'.Ns env.locals (fun z => if z = y then some (.ref D) else m z) → (∀ b o, b ≠ env.locals → h₁.get? b = some o → h'.get? b = some o) → Q .next (St s h' tk'))) E (St s h tk)) :
    wpAny (model prog w) A (exec (.Assign [.Name y py] (.ListComp elt [⟨.Name x px, iter, ifs, 0⟩] scope pos) spos) env) Q E (St s h tk) := by
  refine wpAny_Assign_ListComp_free p F hsw hclos hcell hkind hnames hx hy hp (wpAny_mono k (fun xv s₁ q => ?_) fun _ _ e => e) hs
  obtain ⟨h₁, tk₁, n, P, fx, rfl, O, hn, hns, B, fin⟩ := q
  refine O.go fun I h₂ fp S hS hI W hst hfp _ _ => ?_
  have nI : ∀ {b : Addr} {o : Obj}, h₁.get? b = some o → b ∉ [I] := fun {b o} e hm => by
    rcases List.mem_cons.mp hm with rfl | hm
    · rw [hI] at e; cases e
    · cases hm
  have up : ∀ {H : Heap}, (∀ b o, b ∉ [I] → h₂.get? b = some o → H.get? b = some o) → Sub h₁ H := fun hk b o e => hk b o (nI e) (hS b o e)
  have low : ∀ {C : Addr}, h₂.objs.size ≤ C → h₁.get? C = none := fun {C} hC => by
    cases e : h₁.get? C with
    | none => rfl
    | some o => exact absurd (Heap.lt_size (hS _ _ e)) (Nat.not_lt.mpr hC)
  have hL : env.locals ∉ [I] := by obtain ⟨o, _, _, e, _⟩ := hns; exact nI e
  refine ⟨I, fp, [I], n, P, S, m, rfl, W, hn, hst, hfp, hL, hns.keeps hS, ⟨?_, ?_⟩, ?_⟩
  · intro C i v s₃ m₃ E' hC hP hN hm hk _
    exact B.tests C i v s₃ s₃.heap s₃.toks m₃ E' (low hC) hP hN hm (up hk)
  · intro C i v s₃ m₃ E' hC hP hp hN hm hk _
    exact B.elt C i v s₃ s₃.heap s₃.toks m₃ E' (low hC) hP hp hN hm (up hk)
  · intro D h' tk' ys vs hD _ hpl hlen hP hF hn' hk
    refine fin D h' tk' ys vs ?_ hpl hlen hP hF hn' (fun b o hb e => hk b o hb (nI e) (hS b o e))
    cases e : h₁.get? D with
    | none => rfl
    | some o => have := hS _ _ e; rw [hD] at this; cases this
theorem for_led {x : Str} {px pos : Pos} {iter : Expr} {body : List Stmt} {env : Env} {Q : Flow → Shared → Prop} (h₀ : Heap) (J : Nat → (Str → Option Value) → List (Addr × Obj) → Prop)
    (hx : env.kindOf x = some .local) (hp : (env.scope.kind == .class || (env.scope.kind == .module && env.locals != env.globals)) = false) (hs : ∀ x, foldedSetIterable iter env x = pure x)
    (k : wpAny (model prog w) A (eval iter env) (fun xv s₁ => ∃ h₁ tk₁ n P fx m var fixed, s₁ = St s h₁ tk₁ ∧ Over prog w A h₁ xv n P fx ∧ Fr h₀ env.locals h₁ m ∧ News h₀ env.locals h₁ (var ++ fixed) ∧
      (∀ b ∈ fx, b ≠ env.locals ∧ ((∃ o, h₀.get? b = some o) ∨ ∃ o, (b, o) ∈ fixed)) ∧ J 0 m var ∧
      (∀ i v m₁ var₁ h' tk' I oI, i < n → P i v → J i m₁ var₁ → Fr h₀ env.locals h' (fun y => if y = x then some v else m₁ y) → News h₀ env.locals h' ((I, oI) :: (var₁ ++ fixed)) → (∀ p ∈ var₁, p.1 ≠ I) →
        wpAny (model prog w) A (execs body env) (fun f s' => f = .next ∧ ∃ h'' tk'' m₂ var₂, s' = St s h'' tk'' ∧ Fr h₀ env.locals h'' m₂ ∧ News h₀ env.locals h'' ((I, oI) :: (var₂ ++ fixed)) ∧ (∀ p ∈ var₂, p.1 ≠ I) ∧ J (i + 1) m₂ var₂) (fun _ _ => False) (St s h' tk')) ∧
      (∀ h' tk' m' var', Fr h₀ env.locals h' m' → News h₀ env.locals h' (var' ++ fixed) → J n m' var' → Q .next (St s h' tk'))) (fun _ _ => False) (St s h tk)) :
    wpAny (model prog w) A (exec (.For (.Name x px) iter body [] pos) env) Q (fun _ _ => False) (St s h tk) := by
  refine wpAny_For (wpAny_mono k (fun xv s₁ q => ?_) fun _ _ e => e) hs
  obtain ⟨h₁, tk₁, n, P, fx, m, var, fixed, rfl, O, F, N, hfx, h0, step, hQ⟩ := q
  refine O.go fun I h₂ fp S hS hI W hst hfp hfI hob => ?_
  have F₂ := Fr.sub F hS
  have N₂ := News.sub N hS
  have hLI : env.locals ≠ I := by rintro rfl; obtain ⟨o, _, _, e, _⟩ := F.ns; rw [hI] at e; cases e
  have hnI : ∀ {l : List (Addr × Obj)}, News h₀ env.locals h₁ l → ∀ p ∈ l, p.1 ≠ I := fun N p hp e => by have := (N p hp).1; rw [e, hI] at this; cases this
  have h₀I : h₀.get? I = none := by
    cases e : h₀.get? I with
    | none => rfl
    | some o => have := F.keep _ _ e; rw [hI] at this; cases this
  have hfixI : ∀ p ∈ fixed, p.1 ≠ I := fun p hp => hnI N p (List.mem_append_right _ hp)
  have hLf : env.locals ∉ fp := fun hm => by
    rcases hfI _ hm with e | e
    · exact hLI e
    · exact (hfx _ e).1 rfl
  refine codeAny_forLoop (R := fun r s' => match r with | .ok f => Q f s' | .error e => cameBackBy (model prog w) A env (fun _ _ => False) e s')
    (fun k s' => ∃ h' tk' m' var' i, s' = St s h' tk' ∧ S i h' ∧ Fr h₀ env.locals h' m' ∧ News h₀ env.locals h' (var' ++ fixed) ∧ (∀ p ∈ var', p.1 ≠ I) ∧ J i m' var' ∧ i ≤ n ∧ k = n + 1 - i) ?_ (n + 1)
    ⟨h₂, tk₁, m, var, 0, rfl, hst, F₂, N₂, fun p hp => hnI N p (List.mem_append_left _ hp), h0, Nat.zero_le _, rfl⟩
  rintro k s' ⟨h', tk', m', var', i, rfl, hst', F', N', hv', hJ, hi, rfl⟩
  have next : ∀ hh : Heap, (∀ b o, b ∉ [I] → h'.get? b = some o → hh.get? b = some o) → Fr h₀ env.locals hh m' ∧ News h₀ env.locals hh (var' ++ fixed) := fun hh hk =>
    ⟨⟨F'.ns.at' fun o e => hk _ o (by simpa using hLI) e, fun b o e => hk b o (by
        intro hm
        have : b = I := by simpa using hm
        subst this
        rw [h₀I] at e; cases e) (F'.keep b o e), F'.above⟩, fun p hp => ⟨hk _ _ (by
          have : p.1 ≠ I := (List.mem_append.mp hp).elim (hv' p) (hfixI p)
          simpa using this) (N' p hp).1, (N' p hp).2⟩⟩
  by_cases hlt : i < n
  · refine W.item i _ _ _ hlt hst' fun v h₃ tk₃ hP hst₃ hk₃ => ?_
    obtain ⟨F₃, N₃⟩ := next h₃ hk₃
    refine wpAny_assign_Name (wpAny_storeName_local (s := St s h₃ tk₃) hx F₃.ns (fun h₄ hn₄ hs₄ => ?_) hp)
    have F₄ := F₃.set hn₄ hs₄
    have N₄ := N₃.set hs₄
    obtain ⟨oI, hoI⟩ := hob _ _ hst₃
    have hoI₄ : h₄.get? I = some oI := (hs₄.2 I (Ne.symm hLI)).trans hoI
    have N₅ : News h₀ env.locals h₄ ((I, oI) :: (var' ++ fixed)) := by
      intro p hp
      rcases List.mem_cons.mp hp with rfl | hp
      · exact ⟨hoI₄, Ne.symm hLI, h₀I⟩
      · exact N₄ p hp
    refine wpAny_mono (step i v m' var' h₄ (tk₃ + 1) I oI hlt hP hJ F₄ N₅ hv') (fun f s₃ q => ?_) fun _ _ e => e.elim
    obtain ⟨rfl, h₆, tk₆, m₆, var₆, rfl, F₆, N₆, hv₆, hJ₆⟩ := q
    refine ⟨n + 1 - (i + 1), by omega, h₆, tk₆, m₆, var₆, i + 1, rfl, ?_, F₆, fun p hp => N₆ p (List.mem_cons_of_mem _ hp), hv₆, hJ₆, hlt, rfl⟩
    refine W.frame _ _ _ hst₃ fun b hb o e => ?_
    have e₄ : h₄.get? b = some o := (hs₄.2 b fun q => hLf (q ▸ hb)).trans e
    rcases hfI b hb with rfl | hbx
    · rw [hoI₄] at e₄
      cases e₄
      exact (N₆ _ (.head _)).1
    · rcases (hfx b hbx).2 with ⟨o', e'⟩ | ⟨o', e'⟩
      · have := F₄.keep b o' e'
        rw [e₄] at this
        cases this
        exact F₆.keep b o e'
      · have := (N₅ _ (List.mem_cons_of_mem _ (List.mem_append_right _ e'))).1
        have e₄' : h₄.get? b = some o' := this
        rw [e₄] at e₄'
        cases e₄'
        exact (N₆ _ (List.mem_cons_of_mem _ (List.mem_append_right _ e'))).1
  · have hin : i = n := by omega
    subst hin
    refine W.done _ _ _ hst' fun h₃ tk₃ hk₃ => wpAny_execs_nil ?_
    obtain ⟨F₃, N₃⟩ := next h₃ hk₃
    exact hQ h₃ tk₃ m' var' F₃ N₃ hJ
end
end Mine
end
section -- K1
open PySem PySem.W PySem.Calls PyProof.Rows
namespace Mine
def tzVal (x : Str) : Option (Option Int) :=
  if 100 < x.length then none else if zoneNames.contains x then some (some 0) else match look x.cps.toList with
  | none => none
  | some none => some none
  | some (some sp) => (match grp x sp 2 with
    | none => none
    | some y2 => if 640 < y2.length then none else (match PySem.intText? y2 with
      | none => none
      | some n2 => (match grp x sp 3 with
        | none => some (some (if pm x sp then -(3600 * n2 + 60 * 0) else 3600 * n2 + 60 * 0))
        | some y3 => if 640 < y3.length then none else if y3.length = 0 then none else (match PySem.intText? y3 with
          | none => none
          | some n3 => some (some (if pm x sp then -(3600 * n2 + 60 * n3) else 3600 * n2 + 60 * n3))))))
def offs6 (j : Nat) : List Int := (List.range 6).map fun (i : Nat) => (j : Int) + i - 12
def okOff (k j : Nat) : Bool := (offs6 j).all fun o => tzVal (zoneS o k) == some (some (1800 * o))
theorem off_chk0_0 : okOff 0 0 = true := by decide +kernel
theorem off_chk0_6 : okOff 0 6 = true := by decide +kernel
theorem off_chk0_12 : okOff 0 12 = true := by decide +kernel
theorem off_chk0_18 : okOff 0 18 = true := by decide +kernel
theorem off_chk0_24 : okOff 0 24 = true := by decide +kernel
theorem off_chk0_30 : okOff 0 30 = true := by decide +kernel
theorem off_chk1_0 : okOff 1 0 = true := by decide +kernel
theorem off_chk1_6 : okOff 1 6 = true := by decide +kernel
theorem off_chk1_12 : okOff 1 12 = true := by decide +kernel
theorem off_chk1_18 : okOff 1 18 = true := by decide +kernel
theorem off_chk1_24 : okOff 1 24 = true := by decide +kernel
theorem off_chk1_30 : okOff 1 30 = true := by decide +kernel
theorem off_chk2_0 : okOff 2 0 = true := by decide +kernel
theorem off_chk2_6 : okOff 2 6 = true := by decide +kernel
theorem off_chk2_12 : okOff 2 12 = true := by decide +kernel
theorem off_chk2_18 : okOff 2 18 = true := by decide +kernel
theorem off_chk2_24 : okOff 2 24 = true := by decide +kernel
theorem off_chk2_30 : okOff 2 30 = true := by decide +kernel
theorem off_chk3_0 : okOff 3 0 = true := by decide +kernel
theorem off_chk3_6 : okOff 3 6 = true := by decide +kernel
theorem off_chk3_12 : okOff 3 12 = true := by decide +kernel
theorem off_chk3_18 : okOff 3 18 = true := by decide +kernel
theorem off_chk3_24 : okOff 3 24 = true := by decide +kernel
theorem off_chk3_30 : okOff 3 30 = true := by decide +kernel
theorem off_chk4_0 : okOff 4 0 = true := by decide +kernel
theorem off_chk4_6 : okOff 4 6 = true := by decide +kernel
theorem off_chk4_12 : okOff 4 12 = true := by decide +kernel
theorem off_chk4_18 : okOff 4 18 = true := by decide +kernel
theorem off_chk4_24 : okOff 4 24 = true := by decide +kernel
theorem off_chk4_30 : okOff 4 30 = true := by decide +kernel
theorem off_chk5_0 : okOff 5 0 = true := by decide +kernel
theorem off_chk5_6 : okOff 5 6 = true := by decide +kernel
theorem off_chk5_12 : okOff 5 12 = true := by decide +kernel
theorem off_chk5_18 : okOff 5 18 = true := by decide +kernel
theorem off_chk5_24 : okOff 5 24 = true := by decide +kernel
theorem off_chk5_30 : okOff 5 30 = true := by decide +kernel
theorem okOff_at {k j : Nat} {o : Int} (h : okOff k j = true) (h1 : (j : Int) - 12 ≤ o) (h2 : o ≤ (j : Int) - 7) : tzVal (zoneS o k) = some (some (1800 * o)) :=
  eq_of_beq (List.all_eq_true.mp h o (List.mem_map.mpr ⟨(o + 12 - j).toNat, List.mem_range.mpr (by omega), by omega⟩))
theorem off_all0 {o : Int} (h1 : -12 ≤ o) (h2 : o ≤ 23) : tzVal (zoneS o 0) = some (some (1800 * o)) := by
  have hj : o ≤ -7 ∨ (-6 ≤ o ∧ o ≤ -1) ∨ (0 ≤ o ∧ o ≤ 5) ∨ (6 ≤ o ∧ o ≤ 11) ∨ (12 ≤ o ∧ o ≤ 17) ∨ 18 ≤ o := by omega
  rcases hj with hj | ⟨hj, hi⟩ | ⟨hj, hi⟩ | ⟨hj, hi⟩ | ⟨hj, hi⟩ | hj
  · exact okOff_at off_chk0_0 (by omega) (by omega)
  · exact okOff_at off_chk0_6 (by omega) (by omega)
  · exact okOff_at off_chk0_12 (by omega) (by omega)
  · exact okOff_at off_chk0_18 (by omega) (by omega)
  · exact okOff_at off_chk0_24 (by omega) (by omega)
  · exact okOff_at off_chk0_30 (by omega) (by omega)
theorem off_all1 {o : Int} (h1 : -12 ≤ o) (h2 : o ≤ 23) : tzVal (zoneS o 1) = some (some (1800 * o)) := by
  have hj : o ≤ -7 ∨ (-6 ≤ o ∧ o ≤ -1) ∨ (0 ≤ o ∧ o ≤ 5) ∨ (6 ≤ o ∧ o ≤ 11) ∨ (12 ≤ o ∧ o ≤ 17) ∨ 18 ≤ o := by omega
  rcases hj with hj | ⟨hj, hi⟩ | ⟨hj, hi⟩ | ⟨hj, hi⟩ | ⟨hj, hi⟩ | hj
  · exact okOff_at off_chk1_0 (by omega) (by omega)
  · exact okOff_at off_chk1_6 (by omega) (by omega)
  · exact okOff_at off_chk1_12 (by omega) (by omega)
  · exact okOff_at off_chk1_18 (by omega) (by omega)
  · exact okOff_at off_chk1_24 (by omega) (by omega)
  · exact okOff_at off_chk1_30 (by omega) (by omega)
theorem off_all2 {o : Int} (h1 : -12 ≤ o) (h2 : o ≤ 23) : tzVal (zoneS o 2) = some (some (1800 * o)) := by
  have hj : o ≤ -7 ∨ (-6 ≤ o ∧ o ≤ -1) ∨ (0 ≤ o ∧ o ≤ 5) ∨ (6 ≤ o ∧ o ≤ 11) ∨ (12 ≤ o ∧ o ≤ 17) ∨ 18 ≤ o := by omega
  rcases hj with hj | ⟨hj, hi⟩ | ⟨hj, hi⟩ | ⟨hj, hi⟩ | ⟨hj, hi⟩ | hj
  · exact okOff_at off_chk2_0 (by omega) (by omega)
  · exact okOff_at off_chk2_6 (by omega) (by omega)
  · exact okOff_at off_chk2_12 (by omega) (by omega)
  · exact okOff_at off_chk2_18 (by omega) (by omega)
  · exact okOff_at off_chk2_24 (by omega) (by omega)
  · exact okOff_at off_chk2_30 (by omega) (by omega)
theorem off_all3 {o : Int} (h1 : -12 ≤ o) (h2 : o ≤ 23) : tzVal (zoneS o 3) = some (some (1800 * o)) := by
  have hj : o ≤ -7 ∨ (-6 ≤ o ∧ o ≤ -1) ∨ (0 ≤ o ∧ o ≤ 5) ∨ (6 ≤ o ∧ o ≤ 11) ∨ (12 ≤ o ∧ o ≤ 17) ∨ 18 ≤ o := by omega
  rcases hj with hj | ⟨hj, hi⟩ | ⟨hj, hi⟩ | ⟨hj, hi⟩ | ⟨hj, hi⟩ | hj
  · exact okOff_at off_chk3_0 (by omega) (by omega)
  · exact okOff_at off_chk3_6 (by omega) (by omega)
  · exact okOff_at off_chk3_12 (by omega) (by omega)
  · exact okOff_at off_chk3_18 (by omega) (by omega)
  · exact okOff_at off_chk3_24 (by omega) (by omega)
  · exact okOff_at off_chk3_30 (by omega) (by omega)
theorem off_all4 {o : Int} (h1 : -12 ≤ o) (h2 : o ≤ 23) : tzVal (zoneS o 4) = some (some (1800 * o)) := by
  have hj : o ≤ -7 ∨ (-6 ≤ o ∧ o ≤ -1) ∨ (0 ≤ o ∧ o ≤ 5) ∨ (6 ≤ o ∧ o ≤ 11) ∨ (12 ≤ o ∧ o ≤ 17) ∨ 18 ≤ o := by omega
  rcases hj with hj | ⟨hj, hi⟩ | ⟨hj, hi⟩ | ⟨hj, hi⟩ | ⟨hj, hi⟩ | hj
  · exact okOff_at off_chk4_0 (by omega) (by omega)
  · exact okOff_at off_chk4_6 (by omega) (by omega)
  · exact okOff_at off_chk4_12 (by omega) (by omega)
  · exact okOff_at off_chk4_18 (by omega) (by omega)
  · exact okOff_at off_chk4_24 (by omega) (by omega)
  · exact okOff_at off_chk4_30 (by omega) (by omega)
theorem off_all5 {o : Int} (h1 : -12 ≤ o) (h2 : o ≤ 23) : tzVal (zoneS o 5) = some (some (1800 * o)) := by
  have hj : o ≤ -7 ∨ (-6 ≤ o ∧ o ≤ -1) ∨ (0 ≤ o ∧ o ≤ 5) ∨ (6 ≤ o ∧ o ≤ 11) ∨ (12 ≤ o ∧ o ≤ 17) ∨ 18 ≤ o := by omega
  rcases hj with hj | ⟨hj, hi⟩ | ⟨hj, hi⟩ | ⟨hj, hi⟩ | ⟨hj, hi⟩ | hj
  · exact okOff_at off_chk5_0 (by omega) (by omega)
  · exact okOff_at off_chk5_6 (by omega) (by omega)
  · exact okOff_at off_chk5_12 (by omega) (by omega)
  · exact okOff_at off_chk5_18 (by omega) (by omega)
  · exact okOff_at off_chk5_24 (by omega) (by omega)
  · exact okOff_at off_chk5_30 (by omega) (by omega)
theorem off_chk {o k : Int} (h1 : -12 ≤ o) (h2 : o ≤ 23) (h3 : 0 ≤ k) (h4 : k < 6) : tzVal (zoneS o k) = some (some (1800 * o)) := by
  have hk : k = 0 ∨ k = 1 ∨ k = 2 ∨ k = 3 ∨ k = 4 ∨ k = 5 := by omega
  rcases hk with rfl | rfl | rfl | rfl | rfl | rfl
  · exact off_all0 h1 h2
  · exact off_all1 h1 h2
  · exact off_all2 h1 h2
  · exact off_all3 h1 h2
  · exact off_all4 h1 h2
  · exact off_all5 h1 h2
theorem off_none : tzVal (Str.ofString "") = some none := by decide +kernel
theorem off_est : tzVal (Str.ofString "EST") = some none := by decide +kernel
def OffVal (r : Option Int) (v : Value) : Prop := match r with | none => v = .none | some n => IntIs n v
section
variable {prog : Program} {w : World} {A : Around} {E : Value → Shared → Prop} {s : Shared} {h : Heap} {tk : Nat} {p : Program} {loose : List Str} {mg mb : Str → Option Value} {Q : Value → Shared → Prop}
theorem c_tz (G : Gr w p loose mg mb h) (hA : Fit A 1) (x : Str) (r : Option Int) (t : Tok) (hx : tzVal x = some r)
    (q : ∀ v h' tk', Sub h h' → OffVal r v → Q v (St s h' tk')) : wpAny (model prog w) A (call (.ref 44) [.str x t]) Q E (St s h tk) := by
  unfold tzVal at hx
  by_cases hx2 : 100 < x.length
  · rw [if_pos hx2] at hx; cases hx
  rw [if_neg hx2] at hx
  have hx2 : x.length ≤ 100 := Nat.not_lt.mp hx2
  by_cases hz : zoneNames.contains x = true
  · rw [if_pos hz] at hx
    cases hx
    exact c_offA G hA x t hz fun t' h' tk' hS => q _ _ _ hS ⟨t', rfl⟩
  rw [if_neg hz] at hx
  have hz' : zoneNames.contains x = false := by simpa using hz
  split at hx
  · cases hx
  · rename_i hl
    cases hx
    exact c_offB G hA x t hz' hx2 hl fun h' tk' hS => q _ _ _ hS rfl
  · rename_i sp hl
    split at hx
    · cases hx
    · rename_i y2 h2
      by_cases l2 : 640 < y2.length
      · rw [if_pos l2] at hx; cases hx
      rw [if_neg l2] at hx
      split at hx
      · cases hx
      · rename_i n2 i2
        split at hx
        · rename_i h3
          cases hx
          exact c_offC G hA x t hz' hx2 sp hl y2 n2 0 h2 i2 (Nat.not_lt.mp l2) (.inl ⟨h3, rfl⟩) fun t' h' tk' hS => q _ _ _ hS ⟨t', rfl⟩
        · rename_i y3 h3
          by_cases l3 : 640 < y3.length
          · rw [if_pos l3] at hx; cases hx
          rw [if_neg l3] at hx
          by_cases e3 : y3.length = 0
          · rw [if_pos e3] at hx; cases hx
          rw [if_neg e3] at hx
          split at hx
          · cases hx
          · rename_i n3 i3
            cases hx
            exact c_offC G hA x t hz' hx2 sp hl y2 n2 n3 h2 i2 (Nat.not_lt.mp l2) (.inr ⟨y3, h3, e3, i3, Nat.not_lt.mp l3⟩) fun t' h' tk' hS => q _ _ _ hS ⟨t', rfl⟩
end
end Mine
end
section -- K2
open PySem PySem.W PySem.Calls PyProof.Rows
namespace Mine
def cut (x : Str) : Str := Txt.slice (cmt x) (some 2) none
def lineS (o k : Int) (i : Nat) : Str := zoneS o k ++ Txt.mul (Str.ofString " ") i
def okCut (k : Int) (j : Nat) : Bool := (offs6 j).all fun o => [0, 1, 2, 3].all fun i => (cut (lineS o k i)).cps == (zoneS o k).cps && decide ((lineS o k i).length ≤ 20)
def okCuts (j : Nat) : Bool := [0, 1, 2, 3, 4, 5].all fun k => okCut k j
theorem cut_chk0 : okCuts 0 = true := by decide +kernel
theorem cut_chk6 : okCuts 6 = true := by decide +kernel
theorem cut_chk12 : okCuts 12 = true := by decide +kernel
theorem cut_chk18 : okCuts 18 = true := by decide +kernel
theorem cut_chk24 : okCuts 24 = true := by decide +kernel
theorem cut_chk30 : okCuts 30 = true := by decide +kernel
theorem cut_none : cut (Str.ofString "  ") = Str.ofString "" := by decide +kernel
theorem cut_est : cut (Str.ofString "EST\t") = Str.ofString "EST" := by decide +kernel
theorem okCut_at {j i : Nat} {o k : Int} (h : okCuts j = true) (h1 : (j : Int) - 12 ≤ o) (h2 : o ≤ (j : Int) - 7) (h3 : 0 ≤ k) (h4 : k < 6) (h5 : i < 4) : ((cut (lineS o k i)).cps == (zoneS o k).cps && decide ((lineS o k i).length ≤ 20)) = true := by
  have hm : o ∈ offs6 j := List.mem_map.mpr ⟨(o + 12 - j).toNat, List.mem_range.mpr (by omega), by omega⟩
  have hk : k ∈ [0, 1, 2, 3, 4, 5] := by
    have hk : k = 0 ∨ k = 1 ∨ k = 2 ∨ k = 3 ∨ k = 4 ∨ k = 5 := by omega
    rcases hk with rfl | rfl | rfl | rfl | rfl | rfl <;> decide
  have hi : i ∈ [0, 1, 2, 3] := by
    have hi : i = 0 ∨ i = 1 ∨ i = 2 ∨ i = 3 := by omega
    rcases hi with rfl | rfl | rfl | rfl <;> decide
  exact List.all_eq_true.mp (List.all_eq_true.mp (List.all_eq_true.mp h k hk) o hm) i hi
theorem cut_line {o k : Int} {i : Nat} (h1 : -12 ≤ o) (h2 : o ≤ 23) (h3 : 0 ≤ k) (h4 : k < 6) (h5 : i < 4) : cut (lineS o k i) = zoneS o k ∧ (lineS o k i).length ≤ 20 := by
  have e : ((cut (lineS o k i)).cps == (zoneS o k).cps && decide ((lineS o k i).length ≤ 20)) = true := by
    have hj : o ≤ -7 ∨ (-6 ≤ o ∧ o ≤ -1) ∨ (0 ≤ o ∧ o ≤ 5) ∨ (6 ≤ o ∧ o ≤ 11) ∨ (12 ≤ o ∧ o ≤ 17) ∨ 18 ≤ o := by omega
    rcases hj with hj | ⟨hj, hi⟩ | ⟨hj, hi⟩ | ⟨hj, hi⟩ | ⟨hj, hi⟩ | hj
    · exact okCut_at cut_chk0 (by omega) (by omega) h3 h4 h5
    · exact okCut_at cut_chk6 (by omega) (by omega) h3 h4 h5
    · exact okCut_at cut_chk12 (by omega) (by omega) h3 h4 h5
    · exact okCut_at cut_chk18 (by omega) (by omega) h3 h4 h5
    · exact okCut_at cut_chk24 (by omega) (by omega) h3 h4 h5
    · exact okCut_at cut_chk30 (by omega) (by omega) h3 h4 h5
  rw [Bool.and_eq_true, decide_eq_true_eq] at e
  obtain ⟨e1, e2⟩ := e
  refine ⟨?_, e2⟩
  have := eq_of_beq e1
  cases h : cut (lineS o k i); cases h' : zoneS o k
  rw [h, h'] at this
  exact congrArg Str.mk this
end Mine
end
section -- C5
open PySem PySem.W PySem.Calls PyProof.Rows
namespace Mine
def Ints (ns : List Int) (ys : List Value) : Prop := Paired IntIs ns ys
theorem paired_get {α β : Type} {F : α → β → Prop} : ∀ {l₁ : List α} {l₂ : List β} {i : Nat} {a : α}, Paired F l₁ l₂ → l₁[i]? = some a → ∃ b, l₂[i]? = some b ∧ F a b
  | _, _, 0, a, .cons h _, e => by cases e; exact ⟨_, rfl, h⟩
  | _, _, i + 1, a, .cons _ t, e => by simpa using paired_get t (by simpa using e)
  | _, _, _, _, .nil, e => by cases e
theorem paired_of {α β : Type} {F : α → β → Prop} : ∀ {l₁ : List α} {l₂ : List β}, l₁.length = l₂.length → (∀ (i : Nat) a b, l₁[i]? = some a → l₂[i]? = some b → F a b) → Paired F l₁ l₂
  | [], [], _, _ => .nil
  | a :: l₁, b :: l₂, hl, h => .cons (h 0 a b rfl rfl) (paired_of (by simpa using hl) fun i x y e1 e2 => h (i + 1) x y (by simpa using e1) (by simpa using e2))
  | [], _ :: _, hl, _ => by cases hl
  | _ :: _, [], hl, _ => by cases hl
section
variable {prog : Program} {w : World} {A : Around} {E : Value → Shared → Prop} {s : Shared} {h : Heap} {tk : Nat} {p : Program} {loose : List Str} {mg mb : Str → Option Value} {Q : Value → Shared → Prop}
set_option maxHeartbeats 1000000 in
theorem c_offsets (G : Gr w p loose mg mb h) (hA : Fit A 2) (a : Addr) (ys : Array Value) (ns : List Int) (z : Int) (u t : Tok) (x : Str) (hl : h.IsList a ys) (hys : Ints ns ys.toList) (hn : ns.length ≤ 4) (hz : z = 6 ∨ z = 8 ∨ z = 10 ∨ z = 12)
    (hx : x.length ≤ 100) (hx2 : tzVal (cut x) = some none)
    (q : ∀ D ds h' tk', h.get? D = none → Sub h h' → h'.PlainList D ds → Paired OffVal (ns.map (fun n => some (1800 * (n % (3 * z) - z))) ++ [none]) ds.toList → Q (.ref D) (St s h' tk')) :
    wpAny (model prog w) A (call (.ref 110) [.ref a, .int z u, .str x t]) Q E (St s h tk) := by
  refine enterC (binds := [(("numbers" : Str), .ref a), (("size" : Str), .int z u), (("other" : Str), .str x t)]) hA.lt G.X G.T.nolimit rfl rfl rfl rfl (by decide) rfl rfl rfl fun h₁ tk₁ cells F N Y => ?_
  obtain ⟨o1, o2, rfl, d1, d2⟩ := CellsAre.two (n := "size") (n' := "numbers") Y
  have hysz : ys.size = ns.length := by rw [← Array.length_toList]; exact hys.length.symm
  have d1 : o1.data = .cell (some (.int z u)) := d1
  have d2 : o2.data = .cell (some (.ref a)) := d2
  clear Y
  obtain ⟨m, F, ho⟩ : ∃ m, Fr h h.objs.size h₁ m ∧ m (Str.ofString "other") = some (.str x t) := ⟨_, F, rfl⟩
  have hsz : h₁.IsCell (h.objs.size + 1 + 1) (some (.int z u)) := ⟨o1, N.get (.head _), d1⟩
  have hnm : h₁.IsCell (h.objs.size + 1) (some (.ref a)) := ⟨o2, N.get (.tail _ (.head _)), d2⟩
  have hh : ∀ env, (A.deeper env).handled = none := fun _ => hA.hh
  have hn60 : ns.length < 2 ^ 60 := by omega
  have hnsl : ns.length ≤ sizeLine := by rw [sizeLine_eq]; omega
  have hz0 : 0 < 3 * z := by omega
  have zl : ∀ (n : Int) (i : Nat), i < 4 → cut (lineS (n % (3 * z) - z) (n / (3 * z) % 6) i) = zoneS (n % (3 * z) - z) (n / (3 * z) % 6) ∧ (lineS (n % (3 * z) - z) (n / (3 * z) % 6) i).length ≤ 20 := by
    intro n i hi
    refine cut_line ?_ ?_ (by omega) (by omega) hi
    · rcases hz with rfl | rfl | rfl | rfl <;> omega
    · rcases hz with rfl | rfl | rfl | rfl <;> omega
  have zv : ∀ (n : Int), tzVal (zoneS (n % (3 * z) - z) (n / (3 * z) % 6)) = some (some (1800 * (n % (3 * z) - z))) := by
    intro n
    refine off_chk ?_ ?_ (by omega) (by omega)
    · rcases hz with rfl | rfl | rfl | rfl <;> omega
    · rcases hz with rfl | rfl | rfl | rfl <;> omega
  refine wpAny_execs_cons ?_
  refine asg_lc (m := m) (fun _ => true) (fun v y => ∃ (i : Nat) (t : Tok) (n : Int), v = .int i t ∧ ns[i]? = some n ∧ StrIs (lineS (n % (3 * z) - z) (n / (3 * z) % 6) i) y) rfl rfl (by decide) rfl (by decide) rfl (fun _ => rfl) rfl rfl ?_
  refine Call_Name1 (nm_B (G.keeps F.keep) rfl rfl (by decide) ?_ rfl rfl rfl rfl)
  refine callWith_type1 ?_
  refine Call_Name1 (nm_B (G.keeps F.keep) rfl rfl (by decide) ?_ rfl rfl rfl rfl)
  refine callWith_builtin rfl (evalArgs_plain (spliced_cons (nm_cell rfl hnm (spliced_nil ?_) rfl rfl)))
  refine call_len_list (hl.at (fun o e => F.keep _ o e)) (by rw [hysz]; omega) ?_
  rw [hysz]
  refine call_range_1 ?_
  refine ⟨_, _, ns.length, _, _, rfl, over_range (hh _) (IsRange.new _ _ _ _ _ _ _) hn60, hnsl, F.ns.push _, ⟨?_, ?_⟩, ?_⟩
  · intro C i v s' h₃ tk₃ m₃ E' _ _ _ _ hS
    exact no_tests ⟨rfl, h₃, tk₃, rfl, fun _ _ e => e⟩
  · intro C i v s' h₃ tk₃ m₃ E' _ hP _ hNs hm hS
    obtain ⟨hi, ti, rfl⟩ := hP
    have hS1 : Sub h₁ h₃ := fun b o e => hS b o (Heap.get?_push_of_some _ e)
    have G3 : Gr w p loose mg mb h₃ := G.keeps (Sub.trans F.keep hS1)
    have hcz : h₃.IsCell (h.objs.size + 1 + 1) (some (.int z u)) := hsz.keeps hS1
    have hcn : h₃.IsCell (h.objs.size + 1) (some (.ref a)) := hnm.keeps hS1
    have hl3 : h₃.IsList a ys := hl.at (fun o e => hS1 _ _ (F.keep _ o e))
    refine wpAny_BinOp ?_
    refine callG G3 rfl rfl rfl rfl rfl rfl ?_ rfl rfl
    refine args_cons ?_
    refine wpAny_Subscript_Name slot_list_getitem.lookup ?_
    refine nm_cell rfl hcn ?_ rfl rfl
    refine nm_loc hNs hm ?_ rfl rfl
    refine ⟨hl3.typeIs, ?_⟩
    obtain ⟨n, hni⟩ : ∃ n, ns[i]? = some n := ⟨ns[i], by simp [hi]⟩
    obtain ⟨b, hb, t4, rfl⟩ := paired_get hys hni
    refine wpAny_getItem_list hl3 (by omega) (by omega) (x := .int n t4) (by rw [Int.toNat_natCast]; simpa using hb) ?_
    refine args_cons (nm_cell rfl hcz ?_ rfl rfl) rfl
    refine args_nil ⟨fun _ _ e => e, ?_⟩
    refine c_zone G3 hA.deeper n z _ _ hz fun t5 h5 tk5 hS5 => ?_
    refine wpAny_BinOp (w_str fun t6 tk6 => nm_loc (hNs.keeps hS5) hm ?_ rfl rfl)
    refine PySem.SB.mul (mulOk_of 1 16 (by decide +kernel) (by omega) (by omega) (by decide) (by decide)) fun t7 tk7 => ?_
    refine w_adds (s := s') (h := h5) ?_ fun t8 tk8 => ?_
    · rw [← Str.length_append, sizeLine_eq]
      exact Nat.le_trans (zl n i (by omega)).2 (by decide)
    · exact ⟨⟨i, ti, n, rfl, hni, strIs rfl⟩, h5, tk8, rfl, hS5⟩
  · intro D h' tk' zs vs hD hpl hlen hP hF hns' hk'
    dsimp only
    have hS' : Sub h h' := fun b o e => hk' b o (by
      intro hb
      have hb : b = h.objs.size := hb
      have := Heap.lt_size e
      exact absurd this (by rw [hb]; exact Nat.lt_irrefl _)) (Heap.get?_push_of_some _ (F.keep _ _ e))
    have G' := G.keeps hS'
    have hzs : zs.size = ns.length := by
      have := hF.length
      rw [List.filter_eq_self.mpr (fun _ _ => rfl), hlen, Array.length_toList] at this
      exact this.symm
    have hit : ∀ (i : Nat) v, (zs ++ [Value.str x t].toArray)[i]? = some v → ∃ x' t' r, v = .str x' t' ∧ x'.length ≤ 100 ∧ (ns.map (fun n => some (1800 * (n % (3 * z) - z))) ++ [none])[i]? = some r ∧ tzVal (cut x') = some r := by
      intro i v hv
      by_cases hi : i < zs.size
      · rw [Array.getElem?_append_left hi] at hv
        have hiv : i < vs.length := by rw [hlen, ← hzs]; exact hi
        have hvi : (vs.filter fun _ => true)[i]? = some vs[i] := by rw [List.filter_eq_self.mpr (fun _ _ => rfl)]; simp [hiv]
        obtain ⟨b, hb, i', t', n, e1, e2, t'', e3⟩ := paired_get hF hvi
        obtain ⟨_, t0, e0⟩ := hP i vs[i] (by simp [hiv])
        rw [e0] at e1
        have e4 : i' = i := by cases e1; rfl
        subst e4
        have hb' : zs[i']? = some b := by rw [← Array.getElem?_toList]; exact hb
        rw [hb'] at hv
        cases hv
        subst e3
        have hi4 : i' < 4 := by omega
        obtain ⟨c1, c2⟩ := zl n i' hi4
        refine ⟨_, t'', some (1800 * (n % (3 * z) - z)), rfl, by omega, ?_, by rw [c1]; exact zv n⟩
        rw [List.getElem?_append_left (by rw [List.length_map]; omega), List.getElem?_map, e2]; rfl
      · rw [Array.getElem?_append_right (by omega)] at hv
        have hi0 : i - zs.size = 0 := by
          cases hq : i - zs.size with
          | zero => rfl
          | succ k => rw [hq] at hv; simp at hv
        rw [hi0] at hv
        have hv' : some (Value.str x t) = some v := hv
        cases hv'
        refine ⟨x, t, none, rfl, hx, ?_, hx2⟩
        rw [List.getElem?_append_right (by rw [List.length_map]; omega), List.length_map, show i - ns.length = 0 by omega]; rfl
    obtain ⟨nz, hpl⟩ := hpl
    refine wpAny_execs_cons (wpAny_Return_some ?_)
    refine lc (fun _ => true) (fun v y => ∃ x t r, v = .str x t ∧ x.length ≤ 100 ∧ tzVal (cut x) = some r ∧ OffVal r y) rfl (by decide) rfl (by decide) rfl (fun _ => rfl) ?_
    refine wpAny_BinOp (nm_loc hns' rfl ?_ rfl rfl)
    refine wpAny_List (wpAny_items_cons (nm_loc (v := .str x t) hns' ho (wpAny_items_nil ⟨by rw [sizeLine_eq]; exact (show (1 : Nat) ≤ 16777216 by decide), ?_⟩) rfl rfl))
    refine PySem.P.add_list (s := St s _ tk') (Heap.get?_push_of_some _ hpl) (Heap.get?_push_size _ rfl) ?_ (by rw [hzs, sizeLine_eq]; simp; omega)
    refine ⟨_, _, (zs ++ [Value.str x t].toArray).size, _, _, rfl, over_list (hh _) ⟨_, Heap.get?_push_size _ rfl, rfl, _, rfl⟩, by rw [Array.size_append, hzs, sizeLine_eq]; simp; omega, ⟨?_, ?_⟩, ?_⟩
    · intro C i v s' h₃ tk₃ m₃ E' _ _ _ _ hS
      exact no_tests ⟨rfl, h₃, tk₃, rfl, fun _ _ e => e⟩
    · intro C i v s' h₃ tk₃ m₃ E' _ hP2 _ hNs hm hS
      obtain ⟨x', t', r, rfl, hx', _, hr⟩ := hit i v hP2
      have G3 : Gr w p loose mg mb h₃ := G'.keeps fun b o e => hS b o (Heap.get?_push_of_some _ (Heap.get?_push_of_some _ e))
      refine callG G3 rfl rfl rfl rfl rfl rfl ?_ rfl rfl
      refine args_cons ?_ rfl
      refine Subscript_ ?_
      refine callG G3 rfl rfl rfl rfl rfl rfl ?_ rfl rfl
      refine args_cons (nm_loc hNs hm ?_ rfl rfl) rfl
      refine args_nil ⟨fun _ _ e => e, ?_⟩
      refine c_comment G3 hA.deeper x' t' hx' fun t5 h5 tk5 hS5 => ?_
      refine wpAny_Slice (wpAny_evalPart_some (w_int fun t6 tk6 => wpAny_evalPart_none (wpAny_evalPart_none ?_)))
      have hc : (cmt x').length ≤ 102 := by
        unfold cmt
        split
        · decide +kernel
        · rw [Str.length_append]
          have l2 : (Str.ofString "# ").length = 2 := by decide +kernel
          have := len_rstrip x'
          omega
      refine tail_any (s := St s' _ tk6) (typeIs_str _ _ _) PySem.F.slot_str_getitem.lookup (wpAny_getItem_str_slice (l := some (2, t6)) (u := none) (st := none) ⟨_, Heap.get?_push_size _ rfl, rfl, rfl⟩ rfl
        (post_val_or_str ⟨Nat.le_trans (Txt.slice_le _ _ _) (Nat.le_trans hc (by rw [sizeLine_eq]; decide)), fun t7 k7 => ?_⟩)) (by with_unfolding_all rfl)
      refine args_nil ⟨fun b o e => Heap.get?_push_of_some _ (hS5 b o e), ?_⟩
      have G5 : Gr w p loose mg mb (h5.push { cls := .type "slice", data := .fields #[.int 2 t6, .none, .none] }) := G3.keeps fun b o e => Heap.get?_push_of_some _ (hS5 b o e)
      refine c_tz (s := s') G5 hA.deeper (cut x') r t7 hr fun y h6 tk6 hS6 hy => ?_
      exact ⟨⟨x', t', r, rfl, hx', hr, hy⟩, h6, tk6, rfl, fun b o e => hS6 _ _ (Heap.get?_push_of_some _ (hS5 b o e))⟩
    · intro D2 h2 tk2 ds vs2 hD2 hS2 hpl2 hlen2 hP2 hF2
      dsimp only
      rw [List.filter_eq_self.mpr (fun _ _ => rfl)] at hF2
      have hl2 : ds.toList.length = vs2.length := hF2.length.symm
      refine q D2 ds h2 tk2 ?_ ?_ hpl2 (paired_of ?_ ?_)
      · cases e : h.get? D2 with
        | none => rfl
        | some o =>
          have := Heap.get?_push_of_some { cls := .type "list", data := .seq (zs ++ [Value.str x t].toArray) } (Heap.get?_push_of_some { cls := .type "list", data := .seq [Value.str x t].toArray } (hS' _ _ e))
          rw [hD2] at this; cases this
      · exact fun b o e => hS2 b o (Heap.get?_push_of_some _ (Heap.get?_push_of_some _ (hS' _ _ e)))
      · rw [hl2, hlen2, Array.size_append, hzs, List.length_append, List.length_map]; rfl
      · intro i r y hr hy
        have hi : i < vs2.length := by
          rw [← hl2]
          exact (List.getElem?_eq_some_iff.mp hy).1
        obtain ⟨b, hb, x1, t1, r1, e1, _, e2, e3⟩ := paired_get (a := vs2[i]) hF2 (List.getElem?_eq_getElem hi)
        rw [hy] at hb; cases hb
        obtain ⟨x3, t3, r3, e4, _, e5, e6⟩ := hit i vs2[i] (hP2 i vs2[i] (List.getElem?_eq_getElem hi))
        rw [e1] at e4; cases e4
        rw [e2] at e6; cases e6
        rw [hr] at e5; cases e5
        exact e3
end
end Mine
end
section -- C6
open PySem PySem.W PySem.Calls PyProof.Rows
namespace Mine
def dd (acc : List Int) (p : Int) : List Int := if acc.contains p then acc else acc ++ [p]
def dedup (ps : List Int) : List Int := ps.foldl dd []
def plOf (z : Int) (off : List (Option Int)) : List Int := (off.filterMap id).map fun v => v / 1800 % z
theorem paired_len {α β : Type} {F : α → β → Prop} {l₁ : List α} {l₂ : List β} (x : Paired F l₁ l₂) : l₁.length = l₂.length := x.length
theorem any_ints {ns : List Int} {ys : List Value} (k : Int) (x : Ints ns ys) : (ys.any fun y => match y with | .int i _ => i == k | _ => false) = ns.contains k := by
  unfold Ints at x
  induction x with
  | nil => rfl
  | cons hF _ ih =>
    obtain ⟨t, rfl⟩ := hF
    simp only [List.any_cons, List.contains_cons, ih]
    rw [Bool.beq_comm (a := k)]
section
variable {prog : Program} {w : World} {A : Around} {E : Value → Shared → Prop} {s : Shared} {h : Heap} {tk : Nat} {p : Program} {loose : List Str} {mg mb : Str → Option Value} {Q : Value → Shared → Prop}
theorem c_contains (G : Gr w p loose mg mb h) (hA : Fit A 1) (a : Addr) (ys : Array Value) (ns : List Int) (k : Int) (t : Tok) (hl : h.IsList a ys) (hy : Ints ns ys.toList)
    (q : ∀ h' tk', Sub h h' → Q (.bool (ns.contains k)) (St s h' tk')) : wpAny (model prog w) A (call (.ref 79) [.ref a, .int k t]) Q E (St s h tk) := by
  refine enter (binds := [(("a" : Str), .ref a), (("b" : Str), .int k t)]) hA.lt G.X G.T.nolimit rfl rfl rfl (locs rfl) rfl rfl rfl (by decide) fun h₁ tk₁ F N => ?_
  refine wpAny_execs_cons (wpAny_Return_some (wpAny_Compare1 (ld F rfl (ld F rfl ?_))))
  refine SeqInW.in_listW (items := ys) (fun y => match y with | .int i _ => i == k | _ => false) (fun y hy' => ?_) (hl.at fun o e => F.keep _ o e) ?_
  · obtain ⟨i, hi, rfl⟩ := Array.mem_iff_getElem.mp hy'
    have hi' : i < ns.length := by rw [hy.length, Array.length_toList]; exact hi
    obtain ⟨b, hb, u, e⟩ := paired_get hy (List.getElem?_eq_getElem hi')
    have : ys[i] = b := by
      rw [Array.getElem?_toList, Array.getElem?_eq_getElem hi] at hb
      exact Option.some.inj hb
    rw [this, e]
    exact PySem.MeetsSeq.EqGives.int _ k u t
  · rw [← Array.any_toList, any_ints k hy]
    exact q _ _ F.keep
theorem dedup_snoc (ps : List Int) (p : Int) : dedup (ps ++ [p]) = dd (dedup ps) p := by unfold dedup; rw [List.foldl_append]; rfl
theorem plOf_snoc_some (z : Int) (off : List (Option Int)) (v : Int) : plOf z (off ++ [some v]) = plOf z off ++ [v / 1800 % z] := by unfold plOf; simp
theorem plOf_snoc_none (z : Int) (off : List (Option Int)) : plOf z (off ++ [none]) = plOf z off := by unfold plOf; simp
theorem dedup_len (ps : List Int) : (dedup ps).length ≤ ps.length := by
  have : ∀ (l acc : List Int), (l.foldl dd acc).length ≤ acc.length + l.length := by
    intro l
    induction l with
    | nil => intro acc; simp
    | cons x l ih =>
      intro acc
      rw [List.foldl_cons]
      have := ih (dd acc x)
      have : (dd acc x).length ≤ acc.length + 1 := by unfold dd; split <;> simp
      rw [List.length_cons]; omega
  have h0 := this ps []
  rw [List.length_nil, Nat.zero_add] at h0
  exact h0
theorem plOf_len (z : Int) (off : List (Option Int)) : (plOf z off).length ≤ off.length := by
  unfold plOf; rw [List.length_map]; exact List.length_filterMap_le _ _
def lstO (ys : Array Value) (n : Nat) : Obj := { cls := .type "list", data := .seq ys n }
set_option maxHeartbeats 1000000 in
theorem c_places (G : Gr w p loose mg mb h) (hA : Fit A 2) (a : Addr) (ds : Array Value) (off : List (Option Int)) (z : Int) (u : Tok) (hl : h.IsList a ds) (hd : Paired OffVal off ds.toList) (hn : off.length ≤ 10) (hz : 0 < z) (hz2 : z ≤ 12)
    (q : ∀ D ys h' tk', h.get? D = none → Sub h h' → h'.PlainList D ys → Ints (dedup (plOf z off)) ys.toList → Q (.ref D) (St s h' tk')) :
    wpAny (model prog w) A (call (.ref 117) [.ref a, .int z u]) Q E (St s h tk) := by
  refine enter (binds := [(("offsets" : Str), .ref a), (("size" : Str), .int z u)]) hA.lt G.X G.T.nolimit rfl rfl rfl (locs rfl) rfl rfl rfl (by decide) fun h₁ tk₁ F N => ?_
  refine asg_cut2 (fun v own => ∃ P, v = .ref P ∧ own = [(P, lstO #[] 0)]) F N (fun F N => ?_) (fun v own h₂ tk₂ hv F₂ N₂ => ?_) rfl rfl rfl
  · refine List_ (wpAny_items_nil (newList_N F N (fun h' F' N' => ?_) (by rw [sizeLine_eq]; decide)))
    exact ⟨_, _, [(_, lstO #[] 0)], rfl, F', N', _, rfl, rfl⟩
  obtain ⟨P, rfl, rfl⟩ := hv
  refine wpAny_execs_cons ?_
  refine for_led h (fun i m var => ∃ ys n, m (Str.ofString "places") = some (.ref P) ∧ m (Str.ofString "size") = some (.int z u) ∧ var = [(P, lstO ys n)] ∧ Ints (dedup (plOf z (off.take i))) ys.toList) rfl rfl (fun _ => rfl) ?_
  refine ld F₂ rfl ?_
  have hax : ∃ o, h.get? a = some o := let ⟨o, ho, _⟩ := hl; ⟨o, ho⟩
  have haL : a ≠ h.objs.size := by
    obtain ⟨o, ho⟩ := hax
    exact Nat.ne_of_lt (Heap.lt_size ho)
  refine ⟨h₂, tk₂, ds.size, _, _, _, [(P, lstO #[] 0)], [], rfl, over_list hA.hdl (hl.at fun o e => F₂.keep _ o e), F₂, N₂, ?_, ⟨#[], 0, rfl, rfl, rfl, .nil⟩, ?_, ?_⟩
  · intro b hb
    have : b = a := by simpa using hb
    subst this
    exact ⟨haL, .inl hax⟩
  · intro i v m₁ var₁ h' tk' I oI hi hv hJ F' N' hvI
    obtain ⟨ys, n, hm1, hm2, rfl, hy⟩ := hJ
    have hio : i < off.length := by rw [hd.length, Array.length_toList]; exact hi
    obtain ⟨b, hb, hob⟩ := paired_get hd (List.getElem?_eq_getElem hio)
    rw [Array.getElem?_toList, hv] at hb
    cases hb
    have htk : off.take (i + 1) = off.take i ++ [off[i]] := by rw [List.take_add_one, List.getElem?_eq_getElem hio]; rfl
    have hylen : ys.size ≤ 10 := by
      have := hy.length
      have := dedup_len (plOf z (off.take i))
      have := plOf_len z (off.take i)
      have := List.length_take_le i off
      have e1 : ys.toList.length = ys.size := Array.length_toList
      have : (off.take i).length ≤ 10 := by rw [List.length_take]; omega
      omega
    cases ho : off[i] with
    | none =>
      rw [ho] at hob htk
      have hv' : v = .none := hob
      subst hv'
      refine wpAny_execs_cons (wpAny_If (wpAny_isTrue_Compare1 (ld F' rfl ?_)))
      refine wpAny_Constant_none (isNot_none (wpAny_truthy_bool ?_))
      rw [if_neg (by decide)]
      refine wpAny_execs_nil (wpAny_execs_nil ⟨rfl, h', tk', _, [(P, lstO ys n)], rfl, F', N', hvI, ys, n, ?_, ?_, rfl, ?_⟩)
      · exact hm1
      · exact hm2
      · rw [htk, plOf_snoc_none]; exact hy
    | some x =>
      rw [ho] at hob htk
      obtain ⟨tx, rfl⟩ := hob
      have G' : Gr w p loose mg mb h' := G.keeps F'.keep
      refine wpAny_execs_cons (wpAny_If (wpAny_isTrue_Compare1 (ld F' rfl ?_)))
      refine wpAny_Constant_none (isNot_none (wpAny_truthy_bool ?_))
      rw [if_pos (by rfl)]
      refine asg_cut (s := s) (IntIs (x / 1800 % z)) F' N' (fun F N => ?_) (fun v h₃ tk₃ hv F₃ N₃ => ?_) rfl rfl rfl
      · refine callG G' rfl rfl rfl rfl rfl rfl (args_cons ?_ rfl) rfl rfl
        refine callG G' rfl rfl rfl rfl rfl rfl (args_cons (ld F rfl ?_) rfl) rfl rfl
        refine args_cons (w_int fun t1 k1 => args_nil ⟨fun _ _ e => e, ?_⟩) rfl
        refine c_floordiv G' hA.deeper x 1800 tx t1 (by decide) (by decide) fun t2 h4 k2 hS4 => ?_
        have F4 := Fr.sub F hS4
        refine args_cons (ld (v := .int z u) F4 hm2 (args_nil ⟨hS4, ?_⟩)) rfl
        refine c_mod (G'.keeps hS4) hA.deeper _ z t2 u hz fun t3 h5 k3 hS5 => ?_
        exact ⟨_, _, rfl, Fr.sub F4 hS5, ⟨[], News.sub (News.sub N hS4) hS5⟩, intIs (by rw [Int.fdiv_eq_ediv_of_nonneg _ (by decide)])⟩
      obtain ⟨tp, rfl⟩ := hv
      have htk' : plOf z (off.take (i + 1)) = plOf z (off.take i) ++ [x / 1800 % z] := by rw [htk, plOf_snoc_some]
      have hPn : ys.size = ys.size := rfl
      have hP3 := N₃ _ (.tail _ (.head _))
      have hlP : h₃.IsList P ys := ⟨_, hP3.1, rfl, n, rfl⟩
      have G3 : Gr w p loose mg mb h₃ := G.keeps F₃.keep
      refine wpAny_execs_cons (wpAny_If (wpAny_isTrue_Not (wpAny_isTrue_value ?_)))
      refine callG G3 rfl rfl rfl rfl rfl rfl (args_cons (ld (v := .ref P) F₃ hm1 ?_) rfl) rfl rfl
      refine args_cons (ld F₃ rfl (args_nil ⟨fun _ _ e => e, ?_⟩)) rfl
      refine c_contains G3 hA.deeper P ys _ (x / 1800 % z) tp hlP hy fun h6 k6 hS6 => ?_
      have F6 := Fr.sub F₃ hS6
      have N6 := News.sub N₃ hS6
      refine wpAny_truthy_bool ?_
      cases hc : (dedup (plOf z (off.take i))).contains (x / 1800 % z) with
      | true =>
        rw [if_neg (by decide)]
        refine wpAny_execs_nil (wpAny_execs_nil (wpAny_execs_nil ⟨rfl, h6, k6, _, [(P, lstO ys n)], rfl, F6, N6, hvI, ys, n, ?_, ?_, rfl, ?_⟩))
        · exact hm1
        · exact hm2
        · rw [htk', dedup_snoc]; unfold dd; rw [if_pos hc]; exact hy
      | false =>
        rw [if_pos (by rfl)]
        have hP6 := N6 _ (.tail _ (.head _))
        refine wpAny_execs_cons (wpAny_Expr ?_)
        refine MethodCall_ (ld (v := .ref P) F6 hm1 ?_)
        refine getMethod_builtin ⟨_, hP6.1, rfl⟩ PySem.F.plainAttrs_list PySem.F.slot_list_append PySem.F.type_list_append (fun a e => by cases e; exact ⟨_, hP6.1, rfl⟩) ?_
        refine callWith_builtin rfl (evalArgs_plain (spliced_cons (ld F6 rfl (spliced_nil ?_))))
        refine wpAny_list_append_plain (s := St s h6 k6) ⟨n, hP6.1⟩ (fun h7 hp7 hs7 => ?_) (by rw [sizeLine_eq]; omega)
        obtain ⟨n7, hp7⟩ := hp7
        have hPL : P ≠ h.objs.size := hP6.2.1
        have hIP : P ≠ I := hvI _ (.head _)
        have F7 : Fr h h.objs.size h7 _ := ⟨F6.ns.sameBut hs7 (Ne.symm hPL), fun b o e => (hs7.2 b (fun q => by rw [q, hP6.2.2] at e; cases e)).trans (F6.keep b o e), F6.above⟩
        have hI6 := N6 _ (.head _)
        have N7 : News h h.objs.size h7 ((I, oI) :: ([(P, lstO (ys.push (.int (x / 1800 % z) tp)) n7)] ++ [])) := by
          intro p hp
          rcases List.mem_cons.mp hp with rfl | hp
          · exact ⟨(hs7.2 I (Ne.symm hIP)).trans hI6.1, hI6.2⟩
          · rcases List.mem_cons.mp hp with rfl | hp
            · exact ⟨hp7, hP6.2⟩
            · cases hp
        refine wpAny_execs_nil (wpAny_execs_nil (wpAny_execs_nil ⟨rfl, h7, k6, _, [(P, lstO (ys.push (.int (x / 1800 % z) tp)) n7)], rfl, F7, N7, ?_, _, n7, ?_, ?_, rfl, ?_⟩))
        · intro p hp
          have : p = (P, lstO (ys.push (.int (x / 1800 % z) tp)) n7) := by simpa using hp
          subst this
          exact hIP
        · exact hm1
        · exact hm2
        · rw [htk', dedup_snoc]; unfold dd; rw [hc, if_neg (by decide), Array.toList_push]
          exact Paired.snoc hy ⟨tp, rfl⟩
  · intro h' tk' m' var' F' N' hJ
    obtain ⟨ys, n, hm1, hm2, rfl, hy⟩ := hJ
    dsimp only
    refine wpAny_execs_cons (wpAny_Return_some (ld F' hm1 ?_))
    have hP := N' _ (.head _)
    have et : off.take ds.size = off := List.take_of_length_le (by rw [hd.length, Array.length_toList]; exact Nat.le_refl _)
    rw [et] at hy
    exact q P ys h' tk' hP.2.2 F'.keep ⟨n, hP.1⟩ hy
end
end Mine
end
section -- V2
open PySem PySem.W PySem.Calls PyProof.Rows
namespace Mine
section
variable {prog : Program} {w : World} {A : Around} {s : Shared} {h₀ h : Heap} {tk : Nat} {env : Env}
theorem for_items {Q : Flow → Shared → Prop} {xk xv xd : Str} {pk pv pt pos apos cpos pd : Pos} {x1} {body : List Stmt} {d : Addr} {kvs : List (Int × Value)} {ep : Nat} {m : Str → Option Value}
    (hh : A.handled = none) (hxk : env.kindOf xk = some .local) (hxv : env.kindOf xv = some .local)
    (hp : (env.scope.kind == .class || (env.scope.kind == .module && env.locals != env.globals)) = false)
    (hdS : (d == sysModules) = false) (hd₀ : h₀.DictAt (intKind prog w) d kvs ep) (F : Fr h₀ env.locals h m)
    (hbase : attributeBase (.Name xd pd) "items" env (eval (.Name xd pd) env) = eval (.Name xd pd) env) (hline : (apos.endLine == cpos.line) = true)
    (hkx : env.scope.kind = .function) (hlx : env.kindOf xd = some .local) (hdx : m xd = some (.ref d)) (hdd : (xd == ("__debug__" : Str)) = false)
    (J : Addr → Nat → (Str → Option Value) → Heap → Prop)
    (h0 : ∀ it h', h.get? it = none → Sub h h' → J it 0 m h')
    (stab : ∀ it i m' h' h'', J it i m' h' → (∀ b o, b ≠ env.locals → b ≠ it → h'.get? b = some o → h''.get? b = some o) → J it i m' h'')
    (step : ∀ it i k v key m₁ h₁ tk₁ oI, kvs[i]? = some (k, v) → (intKind prog w).is k key = true → J it i m₁ h₁ → it ≠ env.locals → h₀.get? it = none → h₁.get? it = some oI →
      Fr h₀ env.locals h₁ (fun y => if y = xv then some v else if y = xk then some key else m₁ y) →
      wpAny (model prog w) A (execs body env) (fun f s₂ => f = .next ∧ ∃ h₂ tk₂ m₂, s₂ = St s h₂ tk₂ ∧ Fr h₀ env.locals h₂ m₂ ∧ h₂.get? it = some oI ∧ J it (i + 1) m₂ h₂) (fun _ _ => False) (St s h₁ tk₁))
    (hQ : ∀ it h' tk' m', Fr h₀ env.locals h' m' → J it kvs.length m' h' → Q .next (St s h' tk'))
    (hs : ∀ x, foldedSetIterable (.Call (.Attribute (.Name xd pd) "items" apos) [] [] cpos) env x = pure x) :
    wpAny (model prog w) A (exec (.For (.Tuple [.Name xk pk, .Name xv pv] x1 pt) (.Call (.Attribute (.Name xd pd) "items" apos) [] [] cpos) body [] pos) env) Q (fun _ _ => False) (St s h tk) := by
  have hm := hd₀.keep F.keep
  refine wpAny_For (wpAny_Call_items (s := St s h tk) hdS hm.dictOf hbase hline (fun Q' q => nm_loc F.ns hdx q hkx hlx hdd) ?_) hs
  have hlt : ∀ b o, h.get? b = some o → b < h.objs.size := fun b o e => Heap.lt_size e
  obtain ⟨oL, _, _, hoL, _⟩ := id F.ns
  refine wpAny_pyIter_items (knd := intKind prog w) (d := d) (kvs := kvs) (ep := ep) ⟨_, Heap.get?_push_size _ rfl, rfl, rfl⟩ (hm.push _) ?_
  have hsz : (h.push { cls := .type "dict_items", data := .fields #[.ref d] }).objs.size = h.objs.size + 1 := Heap.size_push ..
  generalize hH : ((h.push { cls := .type "dict_items", data := .fields #[.ref d] }).push _) = H0
  have hI0 : IsItemIter H0 (h.push { cls := .type "dict_items", data := .fields #[.ref d] }).objs.size d 0 kvs.length ep .none .none := by rw [← hH]; exact Heap.get?_push_size _ rfl
  have hS0 : Sub h H0 := by rw [← hH]; exact fun b o e => Heap.get?_push_of_some _ (Heap.get?_push_of_some _ e)
  clear hH
  generalize hit : (h.push { cls := .type "dict_items", data := .fields #[.ref d] }).objs.size = it at *
  have hitL : it ≠ env.locals := by rw [hsz]; exact Nat.ne_of_gt (Nat.lt_succ_of_lt (hlt _ _ hoL))
  have hdi : d ≠ it := by rw [hsz]; exact Nat.ne_of_lt (Nat.lt_succ_of_lt hm.lt_size)
  have hitn : h.get? it = none := get_none_size (by rw [hsz]; exact Nat.le_succ _)
  have hit0 : h₀.get? it = none := by
    cases e : h₀.get? it with
    | none => rfl
    | some o => have := F.keep _ _ e; rw [hitn] at this; cases this
  have hdL : d ≠ env.locals := by
    rintro rfl
    exact absurd hd₀.lt_size (Nat.not_lt.mpr F.above)
  have F0 := Fr.sub F hS0
  refine codeAny_forLoop_any (R := fun r s' => match r with | .ok f => Q f s' | .error e => cameBackBy (model prog w) A env (fun _ _ => False) e s')
    (fun n s' => ∃ h' tk' m' i ok ov, s' = St s h' tk' ∧ IsItemIter h' it d i kvs.length ep ok ov ∧ Fr h₀ env.locals h' m' ∧ J it i m' h' ∧ i ≤ kvs.length ∧ n = kvs.length + 1 - i) ?_ (kvs.length + 1)
    ⟨H0, _, m, 0, .none, .none, rfl, hI0, F0, h0 it H0 hitn hS0, Nat.zero_le _, rfl⟩
  rintro n s' ⟨H, tk', m', i, ok, ov, rfl, hit', F', hJ, hi, rfl⟩
  have hm' : H.DictAt (intKind prog w) d kvs ep := hd₀.keep F'.keep
  cases hv : kvs[i]? with
  | none =>
    have hsz : i = kvs.length := Nat.le_antisymm hi (by simpa using hv)
    refine wpAny_pyNext_items_end hh hit' hm' hv fun h₁ he₁ => wpAny_execs_nil ?_
    subst hsz
    have F₁ : Fr h₀ env.locals h₁ m' := ⟨F'.ns.extBut he₁ (Ne.symm hitL), fun b o e => he₁ b o (fun q => by rw [q, hit0] at e; cases e) (F'.keep b o e), F'.above⟩
    exact hQ it h₁ _ m' F₁ (stab _ _ _ _ _ hJ fun b o _ hb e => he₁ b o hb e)
  | some kv =>
    obtain ⟨k, v⟩ := kv
    have hlt : i < kvs.length := (List.getElem?_eq_some_iff.mp hv).1
    have hiH : it < H.objs.size := Heap.lt_size hit'
    have hLH : env.locals < H.objs.size := F'.ns.lt
    have hdH : d < H.objs.size := hm'.lt_size
    refine wpAny_pyNext_items_item hit' hm' hv fun key h₁ hkey heo ht₁ hz₁ hk₁ => ?_
    refine wpAny_letOwnedTupleGo_items heo fun h₂ he₂ hs₂ => ?_
    replace hs₂ : Heap.SameBut it h₁ h₂ := hs₂
    have ht₂ : h₂.IsTuple H.objs.size #[key, v] := ⟨_, (hs₂.2 _ (Nat.ne_of_gt hiH)).trans ht₁, rfl, _, rfl⟩
    have hz₂ : h₂.objs.size = H.objs.size + 1 := hs₂.1.trans hz₁
    refine wpAny_assign_Tuple hh ht₂ rfl rfl fun h₃ hx₃ => ?_
    replace hx₃ : Heap.ExtBut h₂.objs.size h₂ h₃ := hx₃
    have old₃ : ∀ b o, b < H.objs.size → h₂.get? b = some o → h₃.get? b = some o := fun b o hb x => hx₃ b o (by rw [hz₂]; exact Nat.ne_of_lt (Nat.lt_succ_of_lt hb)) x
    have up₃ : ∀ b o, b ≠ it → H.get? b = some o → h₃.get? b = some o := fun b o hb e => old₃ b o (Heap.lt_size e) (hs₂.extBut b o hb (hk₁ b o hb e))
    have hn₃ : h₃.Ns env.locals m' := F'.ns.at' fun o x => up₃ _ o (Ne.symm hitL) x
    show wpAny _ _ (do holding [v] (assign (.Name xk pk) env key); do holding [] (assign (.Name xv pv) env v); pure ()) _ _ _
    refine wpAny_bind (wpAny_holding (wpAny_assign_Name (wpAny_storeName_local hxk hn₃ (fun h₄ hn₄ hs₄ => ?_) hp)))
    replace hs₄ : Heap.SameBut env.locals h₃ h₄ := hs₄
    refine wpAny_bind (wpAny_holding (wpAny_assign_Name (wpAny_storeName_local hxv hn₄ (fun h₅ hn₅ hs₅ => wpAny_pure ?_) hp)))
    replace hs₅ : Heap.SameBut env.locals h₄ h₅ := hs₅
    have up₅ : ∀ b o, b ≠ env.locals → b < H.objs.size → h₂.get? b = some o → h₅.get? b = some o := fun b o hbL hb x => hs₅.extBut b o hbL (hs₄.extBut b o hbL (old₃ b o hb x))
    have upH : ∀ b o, b ≠ env.locals → b ≠ it → H.get? b = some o → h₅.get? b = some o := fun b o hbL hb e => hs₅.extBut b o hbL (hs₄.extBut b o hbL (up₃ b o hb e))
    have h₀L : ∀ b o, h₀.get? b = some o → b ≠ env.locals := fun b o e q => absurd (Heap.lt_size e) (by rw [q]; exact Nat.not_lt.mpr F'.above)
    have h₀I : ∀ b o, h₀.get? b = some o → b ≠ it := fun b o e q => by rw [q, hit0] at e; cases e
    have F₅ : Fr h₀ env.locals h₅ (fun y => if y = xv then some v else if y = xk then some key else m' y) := ⟨hn₅, fun b o e => upH b o (h₀L b o e) (h₀I b o e) (F'.keep b o e), F'.above⟩
    have hI₅ := up₅ it _ hitL hiH he₂
    refine wpAny_mono (step it i k v key m' h₅ _ _ hv hkey (stab _ _ _ _ _ hJ upH) hitL hit0 hI₅ F₅) (fun f s₃ q => ?_) fun _ _ x => x.elim
    obtain ⟨rfl, h₆, tk₆, m₆, rfl, F₆, hI₆, hJ₆⟩ := q
    exact ⟨kvs.length + 1 - (i + 1), by omega, h₆, tk₆, m₆, i + 1, key, v, rfl, hI₆, F₆, hJ₆, hlt, rfl⟩
end
end Mine
end
section -- C7
open PySem PySem.W PySem.Calls PyProof.Rows
namespace Mine
def TabR (e : Int × Int) (kv : Int × Value) : Prop := kv.1 = e.1 ∧ IntIs e.2 kv.2
def storeT (t : List (Int × Int)) (k v : Int) : List (Int × Int) :=
  if t.any (fun e => decide (e.1 = k)) then t.map (fun e => if e.1 = k then (e.1, v) else e) else t ++ [(k, v)]
def lookT (t : List (Int × Int)) (k : Int) : Option Int := (t.find? fun e => decide (e.1 = k)).map (·.2)
def bump (t : List (Int × Int)) (k c : Int) : List (Int × Int) := storeT t k ((lookT t k).getD 0 + c)
theorem paired_get' {α β : Type} {F : α → β → Prop} : ∀ {l₁ : List α} {l₂ : List β} {i : Nat} {b : β}, Paired F l₁ l₂ → l₂[i]? = some b → ∃ a, l₁[i]? = some a ∧ F a b
  | _, _, 0, b, .cons h _, e => by cases e; exact ⟨_, rfl, h⟩
  | _, _, i + 1, b, .cons _ t, e => by simpa using paired_get' t (by simpa using e)
  | _, _, _, _, .nil, e => by cases e
theorem tab_any {t : List (Int × Int)} {kvs : List (Int × Value)} (k : Int) (x : Paired TabR t kvs) : (kvs.any fun kv => decide (kv.1 = k)) = t.any fun e => decide (e.1 = k) := by
  induction x with
  | nil => rfl
  | cons hF _ ih => rw [List.any_cons, List.any_cons, ih, hF.1]
theorem tab_map {t : List (Int × Int)} {kvs : List (Int × Value)} (k v : Int) {x : Value} (hx : IntIs v x) (p : Paired TabR t kvs) :
    Paired TabR (t.map fun e => if e.1 = k then (e.1, v) else e) (kvs.map fun kv => if kv.1 = k then (kv.1, x) else kv) := by
  induction p with
  | nil => exact .nil
  | @cons a b _ _ hF _ ih =>
    refine .cons ?_ ih
    show TabR (if a.1 = k then (a.1, v) else a) (if b.1 = k then (b.1, x) else b)
    by_cases hk : a.1 = k
    · rw [if_pos hk, if_pos (hF.1.trans hk)]; exact ⟨hF.1, hx⟩
    · rw [if_neg hk, if_neg (fun e => hk (hF.1.symm.trans e))]; exact hF
theorem tab_store {t : List (Int × Int)} {kvs : List (Int × Value)} (k v : Int) {x : Value} (hx : IntIs v x) (p : Paired TabR t kvs) : Paired TabR (storeT t k v) (stored kvs k x) := by
  unfold storeT stored
  rw [tab_any k p]
  split
  · exact tab_map k v hx p
  · exact Paired.snoc p ⟨rfl, hx⟩
theorem tab_look {t : List (Int × Int)} {kvs : List (Int × Value)} (k : Int) (p : Paired TabR t kvs) : match lookT t k with | none => valueAt kvs k = none | some v => ∃ x, valueAt kvs k = some x ∧ IntIs v x := by
  unfold lookT valueAt
  induction p with
  | nil => rfl
  | @cons a b _ _ hF _ ih =>
    rw [List.find?_cons, List.find?_cons, hF.1]
    by_cases hk : a.1 = k
    · rw [decide_eq_true hk]; exact ⟨b.2, rfl, hF.2⟩
    · rw [decide_eq_false hk]; exact ih
theorem tab_keys {t : List (Int × Int)} {kvs : List (Int × Value)} (p : Paired TabR t kvs) : kvs.map (·.1) = t.map (·.1) := by
  induction p with
  | nil => rfl
  | cons hF _ ih => rw [List.map_cons, List.map_cons, ih, hF.1]
/-- the dict at d is the table t -/
def Tab (prog : Program) (w : World) (h : Heap) (d : Addr) (t : List (Int × Int)) : Prop := ∃ kvs, h.DictOf (intKind prog w) d kvs ∧ Paired TabR t kvs
section
variable {prog : Program} {w : World} {A : Around} {E : Value → Shared → Prop} {s : Shared} {h h' : Heap} {tk : Nat} {p : Program} {loose : List Str} {mg mb : Str → Option Value} {Q : Value → Shared → Prop}
theorem Tab.sub {d : Addr} {t : List (Int × Int)} (x : Tab prog w h d t) (k : Sub h h') : Tab prog w h' d t := by
  obtain ⟨kvs, ⟨o, es, ep, ho, r⟩, q⟩ := x
  exact ⟨kvs, ⟨o, es, ep, k _ _ ho, r⟩, q⟩
theorem Tab.nodup {d : Addr} {t : List (Int × Int)} (x : Tab prog w h d t) : (t.map (·.1)).Nodup := by
  obtain ⟨kvs, ⟨o, es, ep, ho, _, _, _, _, hn⟩, q⟩ := x
  rw [← tab_keys q]; exact hn
theorem Tab.lt {d : Addr} {t : List (Int × Int)} (x : Tab prog w h d t) : ∃ o, h.get? d = some o := by
  obtain ⟨kvs, ⟨o, es, ep, ho, _⟩, q⟩ := x
  exact ⟨o, ho⟩
theorem take_fresh {t : List (Int × Int)} {i : Nat} {e : Int × Int} (hn : (t.map (·.1)).Nodup) (he : t[i]? = some e) : storeT (t.take i) e.1 e.2 = t.take (i + 1) := by
  have h1 : (t.take i).any (fun x => decide (x.1 = e.1)) = false := by
    rw [List.any_eq_false]
    intro x hx hq
    have hq : x.1 = e.1 := by simpa using hq
    obtain ⟨j, hj, rfl⟩ := List.mem_iff_getElem.mp hx
    have hji : j < i := by rw [List.length_take] at hj; omega
    have hil : i < t.length := (List.getElem?_eq_some_iff.mp he).1
    rw [List.getElem_take] at hq
    have hn' := List.pairwise_iff_getElem.mp hn j i (by rw [List.length_map]; omega) (by rw [List.length_map]; omega) hji
    apply hn'
    rw [List.getElem_map, List.getElem_map]
    rw [List.getElem?_eq_getElem hil] at he
    cases he
    exact hq
  unfold storeT
  rw [h1, if_neg (by decide), List.take_add_one, he]
  rfl
theorem w_isi {a : Int} {t : Tok} {Q : Value → Shared → Prop} (q : ∀ tk', Q (.bool false) (St s h tk')) : wpAny (model prog w) A (call (.builtin "isinstance") [.int a t, .type "tuple"]) Q E (St s h tk) :=
  PySem.IsiPair.int_tuple (q _)
set_option maxHeartbeats 1000000 in
theorem c_addCallers (G : Gr w p loose mg mb h) (hA : Fit A 1) (d1 d2 : Addr) (t : List (Int × Int)) (k c : Int) (ht : Tab prog w h d1 t) (hs2 : Tab prog w h d2 [(k, c)]) (hn : t.length ≤ 20) (e1 : (d1 == sysModules) = false) (e2 : (d2 == sysModules) = false)
    (q : ∀ D h' tk', h.get? D = none → (D == sysModules) = false → Sub h h' → Tab prog w h' D (bump t k c) → Q (.ref D) (St s h' tk')) :
    wpAny (model prog w) A (call (.ref 86) [.ref d1, .ref d2]) Q E (St s h tk) := by
  refine enter (binds := [(("target" : Str), .ref d1), (("source" : Str), .ref d2)]) hA.lt G.X G.T.nolimit rfl rfl rfl (locs rfl) rfl rfl rfl (by decide) fun h₁ tk₁ F N => ?_
  have hnd := ht.nodup
  obtain ⟨kv1, ⟨o1, es1, ep1, r1⟩, p1⟩ := ht
  obtain ⟨kv2, ⟨o2, es2, ep2, r2⟩, p2⟩ := hs2
  have hl1 : kv1.length = t.length := p1.length.symm
  have hl2 : kv2.length = 1 := p2.length.symm
  have hLD : h.objs.size ≠ h₁.objs.size := by
    obtain ⟨oL, _, _, hL, _⟩ := F.ns
    exact Nat.ne_of_lt (Heap.lt_size hL)
  have hD0 : h.get? h₁.objs.size = none := by
    cases e : h.get? h₁.objs.size with
    | none => rfl
    | some o => have := F.keep _ _ e; rw [get_none_size (Nat.le_refl _)] at this; cases this
  have hDS : (h₁.objs.size == sysModules) = false := by
    cases hq : (h₁.objs.size == sysModules) with
    | false => rfl
    | true =>
      exfalso
      have e3 := eq_of_beq hq
      have := G.X 2 _ rfl
      have h2 := Heap.lt_size (F.keep _ _ this)
      rw [e3] at h2
      exact absurd h2 (by decide)
  refine wpAny_execs_cons (wpAny_Assign_Name (wpAny_Dict_empty ?_) rfl)
  have N0 : News h h.objs.size (h₁.push { cls := .type "dict", data := .dict #[] }) [(h₁.objs.size, { cls := .type "dict", data := .dict #[] })] :=
    News.add F (News.sub N (sub_push _ _)) (get_none_size (Nat.le_refl _)) (Heap.get?_push_size _ rfl)
  have F0 : Fr h h.objs.size (h₁.push { cls := .type "dict", data := .dict #[] }) _ := Fr.sub F (sub_push _ _)
  generalize hDe : h₁.objs.size = D at *
  refine w_st F0 N0 (fun h2 tk2 F2 N2 => ?_) rfl rfl
  have hT2 : h2.DictOf (intKind prog w) D [] := ⟨_, #[], 0, (N2 _ (.head _)).1, ⟨rfl, rfl, rfl⟩, rfl, fun e he => by simp at he, .nil, .nil⟩
  clear N2 N0 F0
  -- a store into the new dict
  have put : ∀ {h' : Heap} {tk' : Nat} {m : Str → Option Value} {kvs : List (Int × Value)} {kk : Int} {tkk : Tok} {x : Value} {A : Around} {E : Value → Shared → Prop} {Q : Unit → Shared → Prop},
      Fr h h.objs.size h' m → h'.DictOf (intKind prog w) D kvs → kvs.length ≤ 30 →
      (∀ h'' tk'', Fr h h.objs.size h'' m → h''.DictOf (intKind prog w) D (stored kvs kk x) → Heap.SameBut D h' h'' → Q () (St s h'' tk'')) →
      wpAny (model prog w) A (setItem (.ref D) (.int kk tkk) x) Q E (St s h' tk') := by
    intro h' tk' m kvs kk tkk x A E Q F' hT hl qq
    refine wpAny_setItem_pairs (s := St s h' tk') (intKind_is prog w kk tkk) hT (fun h'' hT' hs' => ?_) (by rw [sizeLine_eq]; omega)
    exact qq h'' _ ⟨F'.ns.sameBut hs' hLD, fun b o e => (hs'.2 b (fun q => by rw [q, hD0] at e; cases e)).trans (F'.keep b o e), F'.above⟩ hT' hs'
  refine wpAny_execs_cons (for_items (kvs := kv1) (ep := ep1) (m := fun y => if y = Str.ofString "new_callers" then some (.ref D) else List.lookup y [(Str.ofString "target", Value.ref d1), (Str.ofString "source", Value.ref d2)].reverse) hA.hdl rfl rfl rfl e1 ⟨o1, es1, r1⟩ F2 rfl rfl rfl rfl rfl (by decide)
    (fun it i m h' => m (Str.ofString "new_callers") = some (.ref D) ∧ m (Str.ofString "source") = some (.ref d2) ∧ D ≠ it ∧ ∃ kvs, h'.DictOf (intKind prog w) D kvs ∧ Paired TabR (t.take i) kvs) ?_ ?_ ?_ ?_ (fun _ => rfl))
  · intro it h' hit hS
    refine ⟨rfl, rfl, ?_, [], ?_, ?_⟩
    · rintro rfl
      obtain ⟨o, _, _, ho, _⟩ := hT2
      rw [hit] at ho; cases ho
    · obtain ⟨o, es, ep, ho, r⟩ := hT2
      exact ⟨o, es, ep, hS _ _ ho, r⟩
    · exact .nil
  · rintro it i m' h' h'' ⟨j1, j2, j3, kvs, ⟨o, es, ep, ho, r⟩, j5⟩ hk
    exact ⟨j1, j2, j3, kvs, ⟨o, es, ep, hk _ _ (Ne.symm hLD) j3 ho, r⟩, j5⟩
  · rintro it i kk v key m' h' tk' oI hkv hkey ⟨j1, j2, j3, kvs, j4, j5⟩ hitL hit0 hoI F'
    obtain ⟨tkk, rfl⟩ := Value.isInt_shape hkey
    refine wpAny_execs_cons (wpAny_Assign_Subscript (ld F' rfl ?_) rfl)
    refine ld (v := .ref D) F' j1 (ld F' rfl ?_)
    have hlk : kvs.length ≤ 30 := by
      have := j5.length
      rw [List.length_take] at this
      omega
    refine put F' j4 hlk fun h'' tk'' F'' hT'' hs'' => ?_
    obtain ⟨e, he, hTe⟩ := paired_get' p1 hkv
    obtain ⟨hk1, hv1⟩ := hTe
    have hk1 : kk = e.1 := hk1
    refine wpAny_execs_nil ⟨rfl, h'', tk'', _, rfl, F'', (hs''.2 it (Ne.symm j3)).trans hoI, j1, j2, j3, _, hT'', ?_⟩
    rw [← take_fresh hnd he, hk1]
    exact tab_store e.1 e.2 hv1 j5
  · rintro it h3 tk3 m3 F3 ⟨j1, j2, -, kvs3, hT3, hp3⟩
    rw [hl1, List.take_length] at hp3
    dsimp only
    refine wpAny_execs_cons (for_items (kvs := kv2) (ep := ep2) (m := m3) hA.hdl rfl rfl rfl e2 ⟨o2, es2, r2⟩ F3 rfl rfl rfl rfl j2 (by decide)
      (fun it i m h' => m (Str.ofString "new_callers") = some (.ref D) ∧ D ≠ it ∧ ∃ kvs, h'.DictOf (intKind prog w) D kvs ∧ Paired TabR (if i = 0 then t else bump t k c) kvs) ?_ ?_ ?_ ?_ (fun _ => rfl))
    · intro it h' hit hS
      refine ⟨j1, ?_, kvs3, ?_, hp3⟩
      · rintro rfl
        obtain ⟨o, _, _, ho, _⟩ := hT3
        rw [hit] at ho; cases ho
      · obtain ⟨o, es, ep, ho, r⟩ := hT3
        exact ⟨o, es, ep, hS _ _ ho, r⟩
    · rintro it i m' h' h'' ⟨j1, j3, kvs, ⟨o, es, ep, ho, r⟩, j5⟩ hk
      exact ⟨j1, j3, kvs, ⟨o, es, ep, hk _ _ (Ne.symm hLD) j3 ho, r⟩, j5⟩
    · rintro it i kk v key m' h' tk' oI hkv hkey ⟨j1, j3, kvs, j4, j5⟩ hitL hit0 hoI F'
      obtain ⟨tkk, rfl⟩ := Value.isInt_shape hkey
      obtain ⟨e, he, hk1, hv1⟩ := paired_get' p2 hkv
      have hi0 : i = 0 := by
        have := (List.getElem?_eq_some_iff.mp he).1
        simpa using this
      subst hi0
      cases he
      have hk1 : kk = k := hk1
      subst hk1
      obtain ⟨tv, rfl⟩ := hv1
      rw [if_pos rfl] at j5
      have hlk : kvs.length ≤ 30 := by
        have := j5.length
        omega
      have hlook := tab_look kk j5
      have G' : Gr w p loose mg mb h' := G.keeps F'.keep
      refine wpAny_execs_cons (wpAny_If (wpAny_isTrue_Compare1 (ld F' rfl (ld (v := .ref D) F' j1 ?_))))
      refine wpAny_in_of (s := St s h' _) (intKind_is prog w kk tkk) hDS j4.mapOf (wpAny_truthy_bool ?_)
      cases hv : lookT t kk with
      | none =>
        rw [hv] at hlook
        have hlook : valueAt kvs kk = none := hlook
        rw [hlook, if_neg (by decide)]
        refine wpAny_execs_cons (wpAny_Assign_Subscript (ld F' rfl ?_) rfl)
        refine ld (v := .ref D) F' j1 (ld F' rfl ?_)
        refine put F' j4 hlk fun h'' tk'' F'' hT'' hs'' => ?_
        refine wpAny_execs_nil (wpAny_execs_nil ⟨rfl, h'', tk'', _, rfl, F'', (hs''.2 it (Ne.symm j3)).trans hoI, j1, j3, _, hT'', ?_⟩)
        rw [if_neg (by decide)]
        unfold bump
        rw [hv]
        refine tab_store kk _ ⟨tv, ?_⟩ j5
        rw [show (none : Option Int).getD 0 + c = c from Int.zero_add c]
      | some v0 =>
        rw [hv] at hlook
        obtain ⟨x, hx, tx, rfl⟩ := hlook
        rw [hx, if_pos (by rfl)]
        refine wpAny_execs_cons (wpAny_If (wpAny_isTrue_value ?_))
        refine Call_Name2 (nm_B G' rfl rfl (by decide) ?_ rfl rfl rfl rfl)
        refine callWith_builtin rfl (evalArgs_plain (spliced_cons (ld F' rfl (spliced_cons (nm_B G' rfl rfl (by decide) (spliced_nil ?_) rfl rfl rfl rfl)))))
        refine w_isi fun tk5 => wpAny_truthy_bool ?_
        rw [if_neg (by decide)]
        refine wpAny_execs_cons (wpAny_AugAssign_Subscript ?_)
        refine ld (v := .ref D) F' j1 (ld F' rfl ?_)
        refine wpAny_getItem_of (s := St s h' _) (intKind_is prog w kk tkk) j4.mapOf hx ?_
        refine ld F' rfl (w_iadd fun t6 tk6 => ?_)
        refine put F' j4 hlk fun h'' tk'' F'' hT'' hs'' => ?_
        refine wpAny_execs_nil (wpAny_execs_nil (wpAny_execs_nil ⟨rfl, h'', tk'', _, rfl, F'', (hs''.2 it (Ne.symm j3)).trans hoI, j1, j3, _, hT'', ?_⟩))
        rw [if_neg (by decide)]
        unfold bump
        rw [hv]
        exact tab_store kk _ ⟨t6, rfl⟩ j5
    · rintro it h4 tk4 m4 F4 ⟨j1, -, kvs4, hT4, hp4⟩
      rw [hl2, if_neg (by decide)] at hp4
      dsimp only
      refine wpAny_execs_cons (wpAny_Return_some (ld F4 j1 ?_))
      exact q D h4 _ hD0 hDS F4.keep ⟨kvs4, hT4, hp4⟩
end
end Mine
end
section -- C8
open PySem PySem.W PySem.Calls PyProof.Rows
namespace Mine
section
variable {prog : Program} {w : World} {A : Around} {E : Value → Shared → Prop} {s : Shared} {h h₁ : Heap} {tk : Nat} {env : Env} {p : Program} {loose : List Str} {mg mb : Str → Option Value} {Q : Value → Shared → Prop}
theorem over_keys (hh : A.handled = none) {d : Addr} {kvs : List (Int × Value)} {ep : Nat} (hd : (d == sysModules) = false) (hm : h₁.DictAt (intKind prog w) d kvs ep) :
    Over prog w A h₁ (.ref d) kvs.length (fun i v => ∃ k x t, kvs[i]? = some (k, x) ∧ v = .int k t) [d] := by
  refine ⟨fun {Q E s tk} k => ?_⟩
  refine wpAny_pyIter_dict (knd := intKind prog w) (s := St s h₁ tk) hd hm ?_
  have hdlt := hm.lt_size
  have W := Walks.dictKeys (knd := intKind prog w) hh h₁.objs.size d (Nat.ne_of_lt hdlt) kvs ep
  have W' : Walks prog w A h₁.objs.size [h₁.objs.size, d] [h₁.objs.size] kvs.length (fun i v => ∃ k x t, kvs[i]? = some (k, x) ∧ v = .int k t) (fun i h => h.IsKeyIter h₁.objs.size d i kvs.length ep ∧ h.DictAt (intKind prog w) d kvs ep) := by
    refine ⟨W.sub, W.frame, fun i s Q E hi st q => W.item i s Q E hi st fun v h' tk hv => q v h' tk ?_, W.done, W.self⟩
    obtain ⟨k, x, e1, e2⟩ := hv
    obtain ⟨t, rfl⟩ := Value.isInt_shape e2
    exact ⟨k, x, t, e1, rfl⟩
  refine k h₁.objs.size _ _ _ (sub_push _ _) (get_none_size (Nat.le_refl _)) W' ⟨⟨_, Heap.get?_push_size _ rfl, rfl, rfl⟩, hm.push _⟩ ?_ (fun b hb => by simpa using hb) (fun i h st => let ⟨o, ho, _⟩ := st.1; ⟨o, ho⟩)
  intro b hb
  rw [Heap.size_push]
  rcases List.mem_cons.mp hb with rfl | hb
  · exact Nat.lt_succ_self _
  · rcases List.mem_cons.mp hb with rfl | hb
    · exact Nat.lt_succ_of_lt hdlt
    · cases hb
theorem over_values (hh : A.handled = none) {v d : Addr} {kvs : List (Int × Value)} {ep : Nat} (hv : h₁.IsValuesView v d) (hm : h₁.DictAt (intKind prog w) d kvs ep) :
    Over prog w A h₁ (.ref v) kvs.length (fun i x => ∃ k, kvs[i]? = some (k, x)) [d] := by
  refine ⟨fun {Q E s tk} k => ?_⟩
  refine wpAny_pyIter_values (knd := intKind prog w) (s := St s h₁ tk) hv hm ?_
  have hdlt := hm.lt_size
  refine k h₁.objs.size _ _ _ (sub_push _ _) (get_none_size (Nat.le_refl _)) (Walks.dictValues (knd := intKind prog w) hh h₁.objs.size d (Nat.ne_of_lt hdlt) kvs ep) ⟨⟨_, Heap.get?_push_size _ rfl, rfl, rfl⟩, hm.push _⟩ ?_ (fun b hb => by simpa using hb) (fun i h st => let ⟨o, ho, _⟩ := st.1; ⟨o, ho⟩)
  intro b hb
  rw [Heap.size_push]
  rcases List.mem_cons.mp hb with rfl | hb
  · exact Nat.lt_succ_self _
  · rcases List.mem_cons.mp hb with rfl | hb
    · exact Nat.lt_succ_of_lt hdlt
    · cases hb
theorem Call_values {o : Expr} {apos pos : Pos} {d : Addr} {kvs : List (Int × Value)} {Q : Value → Shared → Prop} (hdS : (d == sysModules) = false) (hm : h.DictOf (intKind prog w) d kvs)
    (hbase : attributeBase o "values" env (eval o env) = eval o env) (hline : (apos.endLine == pos.line) = true)
    (ho : ∀ Q', Q' (.ref d) (St s h tk) → wpAny (model prog w) A (eval o env) Q' E (St s h tk))
    (hQ : Q (.ref h.objs.size) (St s (h.push { cls := .type "dict_values", data := .fields #[.ref d] }) tk)) :
    wpAny (model prog w) A (eval (.Call (.Attribute o "values" apos) [] [] pos) env) Q E (St s h tk) := by
  have hT : (St s h tk).TypeIs (.ref d) "dict" := hm.typeIs (s := St s h tk)
  refine wpAny_Call_method (T := "dict") (id := "dict.values") hbase rfl hline PySem.F.plainAttrs_dict PySem.F.slot_dict_values PySem.F.type_dict_values (ho _ ⟨hT, hm.mapOf.noDict, ?_⟩)
  show wpAny _ _ (callWith pos (.builtin "dict.values") [.ref d] [] []) Q E _
  exact method_meetsIn PySem.F.slot_dict_values PySem.F.entry_dict_values rfl (PySem.evalArgs_none ⟨rfl, hT, PySem.F.args_dict_values_1 _, _, meets_dict_values (intKind prog w) d hdS, ⟨kvs, hm⟩, hQ⟩)
def sumT (t : List (Int × Int)) : Int := (t.map (·.2)).sum
theorem sumT_snoc (t : List (Int × Int)) (e : Int × Int) : sumT (t ++ [e]) = sumT t + e.2 := by unfold sumT; simp
theorem c_countCalls (G : Gr w p loose mg mb h) (hA : Fit A 1) (d : Addr) (t : List (Int × Int)) (ht : Tab prog w h d t) (e1 : (d == sysModules) = false)
    (q : ∀ t' h' tk', Sub h h' → Q (.int (sumT t) t') (St s h' tk')) : wpAny (model prog w) A (call (.ref 93) [.ref d]) Q E (St s h tk) := by
  refine enter (binds := [(("callers" : Str), .ref d)]) hA.lt G.X G.T.nolimit rfl rfl rfl (locs rfl) rfl rfl rfl (by decide) fun h₁ tk₁ F N => ?_
  obtain ⟨kvs, ⟨o, es, ep, r⟩, hp⟩ := ht
  refine asg_cut (IntIs 0) F N (fun F N => ?_) (fun v h₂ tk₂ hv F₂ N₂ => ?_) rfl rfl rfl
  · exact w_int fun t k => ⟨_, _, rfl, F, ⟨[], N⟩, intIs rfl⟩
  obtain ⟨t2, rfl⟩ := hv
  refine wpAny_execs_cons ?_
  refine for_led h (fun i m var => ∃ tn, m (Str.ofString "nc") = some (.int (sumT (t.take i)) tn) ∧ var = []) rfl rfl (fun _ => rfl) ?_
  have hm0 : h.DictAt (intKind prog w) d kvs ep := ⟨o, es, r⟩
  have hm2 := hm0.keep F₂.keep
  refine Call_values e1 hm2.dictOf rfl rfl (fun Q' q => ld F₂ rfl q) ?_
  have hdL : d ≠ h.objs.size := Nat.ne_of_lt hm0.lt_size
  have hlen : kvs.length = t.length := hp.length.symm
  refine ⟨_, _, _, _, _, _, [], [], rfl, over_values hA.hdl ⟨_, Heap.get?_push_size _ rfl, rfl, rfl⟩ (hm2.push _), F₂.push _, News.nil, ?_, ⟨t2, rfl, rfl⟩, ?_, ?_⟩
  · intro b hb
    have : b = d := by simpa using hb
    subst this
    exact ⟨hdL, .inl ⟨o, r.1⟩⟩
  · rintro i v m₁ var₁ h' tk' I oI hi ⟨k, hk⟩ ⟨tn, hm, rfl⟩ F' N' hvI
    obtain ⟨e, he, _, tv, rfl⟩ := paired_get' hp hk
    refine wpAny_execs_cons (wpAny_AugAssign_Name (ldn (v := .int (sumT (t.take i)) tn) F' hm (ld F' rfl (w_iadd fun t6 tk6 => ?_))))
    refine w_st F' N' (fun h'' tk'' F'' N'' => ?_) rfl rfl
    refine wpAny_execs_nil ⟨rfl, h'', tk'', _, [], rfl, F'', N'', fun _ hq => (List.not_mem_nil hq).elim, t6, ?_, rfl⟩
    rw [List.take_add_one, he]
    show (if _ then _ else _) = _
    rw [if_pos rfl, show (some e).toList = [e] from rfl, sumT_snoc]
  · rintro h' tk' m' var' F' N' ⟨tn, hm, rfl⟩
    dsimp only
    refine wpAny_execs_cons (wpAny_Return_some (ld F' hm ?_))
    rw [hlen, List.take_length]
    exact q _ _ _ F'.keep
end
end Mine
end
section -- S0
open PySem PySem.W PySem.Calls PyProof.Rows
set_option synthInstance.maxHeartbeats 400000
set_option synthInstance.maxSize 2000
namespace Mine
/-- a rising list of places below 8 -/
def rise : Nat → List Nat → Bool
  | _, [] => true
  | lo, a :: l => decide (lo ≤ a) && decide (a < 8) && rise (a + 1) l
def tbl (pl : List Nat) (f : Nat) (led : Bool) (m : Nat) : SetTable := ⟨7, pl.toArray, #[], f, led, m, true⟩
theorem slot_tbl (pl : List Nat) (f : Nat) (led : Bool) (m j : Nat) : (tbl pl f led m).slot j = (tbl pl 0 true 0).slot j := rfl
theorem adv_tbl (pl : List Nat) (f : Nat) (led : Bool) (m : Nat) (p : SetTable.Probe) : (tbl pl f led m).advance p = (tbl pl 0 true 0).advance p := rfl
theorem go_tbl (pl : List Nat) (f : Nat) (led : Bool) (m : Nat) (hashAt : Nat → Int) (h : Int) : ∀ (n : Nat) (p : SetTable.Probe),
    SetTable.probe.go (tbl pl f led m) hashAt h n p = SetTable.probe.go (tbl pl 0 true 0) hashAt h n p
  | 0, _ => rfl
  | n + 1, p => by
    unfold SetTable.probe.go
    rw [slot_tbl]
    simp only [adv_tbl pl f led m, go_tbl pl f led m hashAt h n]
theorem free_tbl (pl : List Nat) (f : Nat) (led : Bool) (m : Nat) (h : Int) : (tbl pl f led m).freeSlot h = (tbl pl 0 true 0).freeSlot h := by
  unfold SetTable.freeSlot SetTable.probe
  have e : (tbl pl f led m).probeStart h = (tbl pl 0 true 0).probeStart h := rfl
  rw [e]
  rw [show (tbl pl f led m).mask = (tbl pl 0 true 0).mask from rfl, go_tbl]
def chk (pl : List Nat) (k : Nat) : Bool :=
  match (tbl pl 0 true 0).freeSlot (k : Int) with
  | some (j, d) => !d && rise 0 (SetTable.insertAt pl.toArray (SetTable.below pl.toArray j) j).toList
  | none => false
theorem chk0 : ∀ k, k < 12 → chk [] k = true := by decide +kernel
theorem chk1 : ∀ a, a < 8 → ∀ k, k < 12 → chk [a] k = true := by decide +kernel
theorem chk2 : ∀ a, a < 8 → ∀ b, b < 8 → a + 1 ≤ b → ∀ k, k < 12 → chk [a, b] k = true := by decide +kernel
theorem chk3 : ∀ a, a < 8 → ∀ b, b < 8 → a + 1 ≤ b → ∀ c, c < 8 → b + 1 ≤ c → ∀ k, k < 12 → chk [a, b, c] k = true := by decide +kernel
theorem chk_all {pl : List Nat} (hr : rise 0 pl = true) (hl : pl.length ≤ 3) {k : Nat} (hk : k < 12) : chk pl k = true := by
  rcases pl with _ | ⟨a, _ | ⟨b, _ | ⟨c, _ | ⟨d, l⟩⟩⟩⟩
  · exact chk0 k hk
  · simp [rise] at hr; exact chk1 a hr k hk
  · simp [rise] at hr; exact chk2 a hr.1 b hr.2.2 hr.2.1 k hk
  · simp [rise] at hr; exact chk3 a hr.1 b hr.2.1.2 hr.2.1.1 c hr.2.2.2 hr.2.2.1 k hk
  · simp at hl
/-- where the walk finds the next place -/
def bel (pl : List Nat) : Bool := (List.range (pl.length + 1)).all fun i => SetTable.below pl.toArray (if i = 0 then 0 else (pl.getD (i - 1) 0) + 1) == i
theorem bel0 : bel [] = true := by decide +kernel
theorem bel1 : ∀ a, a < 8 → bel [a] = true := by decide +kernel
theorem bel2 : ∀ a, a < 8 → ∀ b, b < 8 → a + 1 ≤ b → bel [a, b] = true := by decide +kernel
theorem bel3 : ∀ a, a < 8 → ∀ b, b < 8 → a + 1 ≤ b → ∀ c, c < 8 → b + 1 ≤ c → bel [a, b, c] = true := by decide +kernel
theorem bel4 : ∀ a, a < 8 → ∀ b, b < 8 → a + 1 ≤ b → ∀ c, c < 8 → b + 1 ≤ c → ∀ d, d < 8 → c + 1 ≤ d → bel [a, b, c, d] = true := by decide +kernel
theorem bel_all {pl : List Nat} (hr : rise 0 pl = true) (hl : pl.length ≤ 4) : bel pl = true := by
  rcases pl with _ | ⟨a, _ | ⟨b, _ | ⟨c, _ | ⟨d, _ | ⟨e, l⟩⟩⟩⟩⟩
  · exact bel0
  · simp [rise] at hr; exact bel1 a hr
  · simp [rise] at hr; exact bel2 a hr.1 b hr.2.2 hr.2.1
  · simp [rise] at hr; exact bel3 a hr.1 b hr.2.1.2 hr.2.1.1 c hr.2.2.2 hr.2.2.1
  · simp [rise] at hr; exact bel4 a hr.1 b hr.2.1.2 hr.2.1.1 c hr.2.2.1.2 hr.2.2.1.1 d hr.2.2.2.2 hr.2.2.2.1
  · simp at hl
theorem below_at {pl : List Nat} (hr : rise 0 pl = true) (hl : pl.length ≤ 4) {i : Nat} (hi : i ≤ pl.length) :
    SetTable.below pl.toArray (if i = 0 then 0 else (pl.getD (i - 1) 0) + 1) = i := by
  have := List.all_eq_true.mp (bel_all hr hl) i (List.mem_range.mpr (by omega))
  exact eq_of_beq this
/-- what layNew answers on such a table -/
theorem layNew_tbl {pl : List Nat} (hr : rise 0 pl = true) (hl : pl.length ≤ 3) {k : Nat} (hk : k < 12) (f : Nat) (led : Bool) (m : Nat) (es : Array (Int × Value)) (hes : es.size = pl.length) (x : Value) :
    ∃ pl' p, layNew (tbl pl f led m) es (k : Int) x = (SetTable.insertAt es p ((k : Int), x), tbl pl' f led m, false, false) ∧ rise 0 pl' = true ∧ pl'.length = pl.length + 1 := by
  have c := chk_all hr hl hk
  unfold chk at c
  rw [← free_tbl pl f led m] at c
  cases hf : (tbl pl f led m).freeSlot (k : Int) with
  | none => rw [hf] at c; cases c
  | some jd =>
    obtain ⟨j, d⟩ := jd
    rw [hf] at c
    cases d with
    | true => cases c
    | false =>
      have c' : rise 0 (SetTable.insertAt pl.toArray (SetTable.below pl.toArray j) j).toList = true := c
      refine ⟨(SetTable.insertAt pl.toArray (SetTable.below pl.toArray j) j).toList, SetTable.below pl.toArray j, ?_, c', ?_⟩
      · unfold layNew
        rw [hf]
        dsimp only
        have hput : (tbl pl f led m).put j = (tbl (SetTable.insertAt pl.toArray (SetTable.below pl.toArray j) j).toList f led m, SetTable.below pl.toArray j) := by
          unfold SetTable.put tbl
          rfl
        rw [hput]
        dsimp only
        have hsz : (SetTable.insertAt pl.toArray (SetTable.below pl.toArray j) j).size = pl.length + 1 := by
          rw [← Array.length_toList, SetTable.toList_insertAt]; simp; omega
        have hez : (SetTable.insertAt es (SetTable.below pl.toArray j) ((k : Int), x)).size = pl.length + 1 := by
          rw [← Array.length_toList, SetTable.toList_insertAt]; simp; omega
        have hfit : (tbl (SetTable.insertAt pl.toArray (SetTable.below pl.toArray j) j).toList f led m).fits (SetTable.insertAt es (SetTable.below pl.toArray j) ((k : Int), x)).size = true := by
          rw [hez]
          unfold SetTable.fits SetTable.fill tbl
          simp [hsz]; omega
        unfold SetTable.orStandIn
        rw [hfit]
        rfl
      · rw [SetTable.toList_insertAt]; simp; omega
theorem tooFull_tbl {pl : List Nat} (hl : pl.length ≤ 4) (f : Nat) (led : Bool) (m : Nat) : (tbl pl f led m).tooFull = false := by
  unfold SetTable.tooFull SetTable.fill tbl
  simp; omega
theorem fits_tbl {pl : List Nat} (hl : pl.length ≤ 4) (f : Nat) (led : Bool) (m n : Nat) (hn : pl.length = n) : (tbl pl f led m).fits n = true := by
  unfold SetTable.fits SetTable.fill tbl
  simp [hn]; omega
end Mine
end
section -- S1
open PySem PySem.W PySem.Calls PyProof.Rows
namespace Mine
theorem slot_setiter_next : Slot "set_iterator" "__next__" "set_iterator.__next__" :=
  .of (owner := "set_iterator") (n := "__next__") (by rw [typeLookup_type, builtinLookup_eq_fast]; kernel_rfl) (by decide +kernel) (by decide +kernel) (by decide +kernel)
    (by first | exact .inl (by decide +kernel) | exact .inr (by decide +kernel)) (by rw [isSubtype_type]; kernel_rfl)
theorem slot_setiter_iter : Slot "set_iterator" "__iter__" "set_iterator.__iter__" :=
  .of (owner := "set_iterator") (n := "__iter__") (by rw [typeLookup_type, builtinLookup_eq_fast]; kernel_rfl) (by decide +kernel) (by decide +kernel) (by decide +kernel)
    (by first | exact .inl (by decide +kernel) | exact .inr (by decide +kernel)) (by rw [isSubtype_type]; kernel_rfl)
theorem entry_setiter_next : entryFor table "set_iterator.__next__" = some Builtin.«set_iterator.__next__» := entryFor_of_tree (by kernel_rfl)
theorem entry_setiter_iter : entryFor table "set_iterator.__iter__" = some Builtin.«dict_keyiterator.__iter__» :=
  entryFor_alias (id' := "dict_keyiterator.__iter__") (by kernel_rfl) rfl (by decide +kernel) (by kernel_rfl)
theorem entry_set_iter : entryFor table "set.__iter__" = some Builtin.«frozenset.__iter__» :=
  entryFor_alias (id' := "frozenset.__iter__") (by kernel_rfl) rfl (by decide +kernel) (by kernel_rfl)
theorem args_setiter_next (a : Value) : argsOk "set_iterator.__next__" ⟨[a], []⟩ := by unfold argsOk; kernel_rfl
theorem args_setiter_iter (a : Value) : argsOk "set_iterator.__iter__" ⟨[a], []⟩ := by unfold argsOk; kernel_rfl
theorem args_set_iter (a : Value) : argsOk "set.__iter__" ⟨[a], []⟩ := by unfold argsOk; kernel_rfl
end Mine
end
section -- S2
open PySem PySem.W PySem.Calls PyProof.Rows
namespace Mine
def txt (w : World) : Bool := w.params.followText "set-order"
/-- a set of a few small ints, its keys in the table's order -/
def SetW (w : World) (h : Heap) (a : Addr) (ks : List Int) : Prop :=
  ∃ o es ep pl f m, h.get? a = some o ∧ o.ExactSet ∧ o.data = .set es ep (tbl pl f (!txt w) m) ∧ rise 0 pl = true ∧ pl.length = es.size ∧ es.size ≤ 4 ∧
    es.toList.map (·.1) = ks ∧ (∀ e ∈ es.toList, ∃ t, e.2 = .int e.1 t) ∧ ks.Nodup ∧ ∀ k ∈ ks, 0 ≤ k ∧ k < 12
theorem hashInt_small : ∀ k : Nat, k < 12 → hashInt (k : Int) = k := by decide +kernel
theorem hashInt_12 {k : Int} (h0 : 0 ≤ k) (h1 : k < 12) : hashInt k = k := by
  have := hashInt_small k.toNat (by omega)
  rwa [Int.toNat_of_nonneg h0] at this
section
variable {prog : Program} {w : World} {A : Around} {E : Value → Shared → Prop} {s : Shared} {h h₁ : Heap} {tk : Nat} {env : Env}
theorem SetW.at {a : Addr} {ks : List Int} {h' : Heap} (x : SetW w h a ks) (e : ∀ o, h.get? a = some o → h'.get? a = some o) : SetW w h' a ks := by
  obtain ⟨o, es, ep, pl, f, m, ho, r⟩ := x; exact ⟨o, es, ep, pl, f, m, e _ ho, r⟩
theorem elems_of {es : Array (Int × Value)} (he : ∀ e ∈ es.toList, ∃ t, e.2 = .int e.1 t) (hk : ∀ k ∈ es.toList.map (·.1), 0 ≤ k ∧ k < 12) : ElemsOf (intKind prog w) es.toList := by
  intro e hm
  obtain ⟨t, ht⟩ := he e hm
  have b := hk e.1 (List.mem_map_of_mem hm)
  refine ⟨⟨e.1, by rw [ht]; exact intKind_is _ _ _ _, (hashInt_12 b.1 b.2).symm⟩, by rw [ht]; rfl⟩
theorem SetW.new (led : Bool) (hl : led = !txt w) : SetW w (h.push { cls := .type "set", dict := none, data := .set #[] 0 (.fresh 0 0 led) }) h.objs.size [] := by
  subst hl
  exact ⟨_, #[], 0, [], 0, 0, Heap.get?_push_size _ rfl, ⟨rfl, rfl, rfl⟩, rfl, rfl, rfl, by decide, rfl, fun e he => by simp at he, List.nodup_nil, fun k hk => by simp at hk⟩
theorem w_newSet {Q : Value → Shared → Prop} (q : SetW w (h.push { cls := .type "set", dict := none, data := .set #[] 0 (.fresh 0 0 (!txt w)) }) h.objs.size [] →
      Q (.ref h.objs.size) (St s (h.push { cls := .type "set", dict := none, data := .set #[] 0 (.fresh 0 0 (!txt w)) }) tk)) :
    wpAny (model prog w) A (newSet (.type "set")) Q E (St s h tk) := by
  unfold newSet setsByText
  refine wpAny_bind (wpAny_bind (wpAny_askSetting (wpAny_pure ?_)))
  dsimp only
  simp only [newObj]
  exact wpAny_bind (wpAny_alloc (wpAny_pure (q (SetW.new _ rfl))))
theorem set_add {a : Addr} {ks : List Int} {k : Int} {t : Tok} {Q : Value → Shared → Prop} (hW : SetW w h a ks) (h0 : 0 ≤ k) (h1 : k < 12) (hroom : k ∈ ks ∨ ks.length ≤ 3)
    (q : ∀ h' ks' tk', Heap.SameBut a h h' → SetW w h' a ks' → (∀ y, y ∈ ks' ↔ y ∈ ks ∨ y = k) → Q .none (St s h' tk')) :
    wpAny (model prog w) A (call (.builtin "set.add") [.ref a, .int k t]) Q E (St s h tk) := by
  obtain ⟨o, es, ep, pl, f, m, ho, hex, hd, hr, hpl, hsz, hks, he, hnd, hb⟩ := id hW
  have hel : ElemsOf (intKind prog w) es.toList := elems_of he (by rw [hks]; exact hb)
  have hfit : (tbl pl f (!txt w) m).fits es.size = true := fits_tbl (by omega) _ _ _ _ hpl
  have hT : (St s h tk).TypeIs (.ref a) "set" := ⟨o, ho, hex.1⟩
  have hkey : (intKind prog w).is k (.int k t) = true := intKind_is _ _ _ _
  have hhash : (intKind prog w).hash k = k := hashInt_12 h0 h1
  refine wpAny_call_entry F.slot_set_add hT F.entry_set_add ?_ (F.args_set_add_2 _ _)
  unfold Builtin.«set.add» Builtin.Frozenset.oneOther
  simp only [List.isEmpty_nil, bind_assoc]
  unfold Builtin.Frozenset.addrOf setAdd
  refine wpAny_bind (wpAny_pure ?_)
  try dsimp only
  refine wpAny_bind (wpAny_pure ?_)
  try dsimp only
  refine wpAny_bind ?_
  refine wpAny_holding ?_
  refine wpAny_bind ((intKind prog w).pyHash hkey ?_)
  unfold setAddHashed setAddHashedIn
  refine wpAny_holding (wpAny_bind (wpAny_setState_of (o := o) ho hd hfit ?_))
  dsimp only
  rw [byScan_of rfl (by unfold scanBound; omega) hel]
  simp only [↓reduceIte]
  unfold setAddByScan
  refine wpAny_bind ?_
  refine wpAny_bind (wpAny_rule ?_)
  refine wpAny_bind (wpAny_setScan_of (o := o) hkey ho hd hfit hel ?_)
  have hisk : ∀ e ∈ es.toList, ((intKind prog w).is k e.2 = true ↔ e.1 = k) := fun e hm => by
    obtain ⟨te, hte⟩ := he e hm
    rw [hte]
    show Value.isInt k (.int e.1 te) = true ↔ _
    simp [Value.isInt]
  cases hf : List.findIdx? (fun e => (intKind prog w).is k e.2) es.toList with
  | some j =>
    dsimp only
    obtain ⟨hj, hpj, _⟩ := List.findIdx?_eq_some_iff_getElem.mp hf
    have hmem : k ∈ ks := by
      rw [← hks]
      exact List.mem_map.mpr ⟨es.toList[j], List.getElem_mem hj, (hisk _ (List.getElem_mem hj)).mp hpj⟩
    refine wpAny_pure (wpAny_pure ?_)
    show wpAny _ _ (ret Value.none) _ _ _
    exact wpAny_pure ⟨_, rfl, q h ks _ (Heap.SameBut.refl a h) hW fun y => ⟨.inl, fun e => e.elim id fun e => e ▸ hmem⟩⟩
  | none =>
    dsimp only
    have hnot : k ∉ ks := fun hm => by
      rw [← hks] at hm
      obtain ⟨e, hm, e1⟩ := List.mem_map.mp hm
      have := List.findIdx?_eq_none_iff.mp hf e hm
      rw [(hisk e hm).mpr e1] at this; cases this
    have hlen : es.size = ks.length := by rw [← hks]; simp
    have h3 : es.size ≤ 3 := by rcases hroom with hm | hm; exact absurd hm hnot; omega
    obtain ⟨pl', p, hL, hr', hpl'⟩ := layNew_tbl hr (by omega) (k := k.toNat) (by omega) f (!txt w) m es hpl.symm (.int k t)
    rw [Int.toNat_of_nonneg h0] at hL
    rw [hhash, hL]
    dsimp only
    have e1 : (SetTable.insertAt es p ((k : Int), Value.int k t)).toList = es.toList.take p ++ (k, Value.int k t) :: es.toList.drop p := SetTable.toList_insertAt ..
    have hz : (SetTable.insertAt es p ((k : Int), Value.int k t)).size = es.size + 1 := by
      rw [← Array.length_toList, e1]; simp; omega
    show wpAny _ _ ((pure () : Sem Unit) >>= fun _ => _) _ _ _
    refine wpAny_bind (wpAny_pure ?_)
    show wpAny _ _ (hashByValue 8 (Value.int k t) >>= fun byValue => _) _ _ _
    rw [hashByValue_scannable 8 rfl]
    refine wpAny_bind (wpAny_pure ?_)
    show wpAny _ _ (storeSet a (SetTable.insertAt es p (k, Value.int k t)) (tbl pl' f (!txt w) m) >>= fun _ => if (!false && (tbl pl' f (!txt w) m).tooFull) = true then _ else pure (some true)) _ _ _
    refine wpAny_bind (wpAny_storeSet_of (o := o) ho hd ?_ (fits_of_scanBound (by unfold scanBound; omega)))
    rw [tooFull_tbl (by omega)]
    refine wpAny_pure ?_
    dsimp only
    refine wpAny_pure ?_
    show wpAny _ _ (ret Value.none) _ _ _
    refine wpAny_pure ⟨_, rfl, q _ (ks.take p ++ k :: ks.drop p) _ (Heap.SameBut.update ..) ?_ ?_⟩
    · have hg : (h.update a (Obj.putSet (SetTable.insertAt es p (k, Value.int k t)) (tbl pl' f (!txt w) m))).get? a = some { o with data := .set (SetTable.insertAt es p (k, Value.int k t)) (ep + 1) (tbl pl' f (!txt w) m) } := by
        have := Heap.get?_update_self (Obj.putSet (SetTable.insertAt es p (k, Value.int k t)) (tbl pl' f (!txt w) m)) ho (by rw [putSet_of _ _ hd]; rfl)
        rw [putSet_of _ _ hd] at this; exact this
      have pm : List.Perm (ks.take p ++ k :: ks.drop p) (k :: ks) := by
        have := (List.perm_middle (l₁ := ks.take p) (l₂ := ks.drop p) (a := k))
        rwa [List.take_append_drop] at this
      refine ⟨_, _, ep + 1, pl', f, m, hg, hex, rfl, hr', by rw [hz, hpl', hpl], by omega, ?_, ?_, ?_, ?_⟩
      · rw [e1, ← hks]; simp [List.map_take, List.map_drop]
      · intro e hm
        rw [e1] at hm
        rcases List.mem_append.mp hm with hm | hm
        · exact he e (List.mem_of_mem_take hm)
        · rcases List.mem_cons.mp hm with rfl | hm
          · exact ⟨t, rfl⟩
          · exact he e (List.mem_of_mem_drop hm)
      · exact pm.nodup_iff.mpr (List.nodup_cons.mpr ⟨hnot, hnd⟩)
      · intro y hy
        rcases List.mem_cons.mp (pm.mem_iff.mp hy) with rfl | hy
        · exact ⟨h0, h1⟩
        · exact hb y hy
    · intro y
      have pm : List.Perm (ks.take p ++ k :: ks.drop p) (k :: ks) := by
        have := (List.perm_middle (l₁ := ks.take p) (l₂ := ks.drop p) (a := k))
        rwa [List.take_append_drop] at this
      rw [pm.mem_iff, List.mem_cons]
      exact ⟨fun e => e.elim .inr .inl, fun e => e.elim .inr .inl⟩
end
end Mine
end
section -- S3
open PySem PySem.W PySem.Calls PyProof.Rows
namespace Mine
theorem erase_perm {α : Type} : ∀ (l : List α) (i : Nat) (hi : i < l.length), (l[i] :: l.eraseIdx i).Perm l
  | a :: l, 0, _ => List.Perm.refl _
  | a :: l, i + 1, hi => by
    have hi' : i < l.length := Nat.lt_of_succ_lt_succ hi
    have ih := erase_perm l i hi'
    show (l[i] :: a :: l.eraseIdx i).Perm (a :: l)
    exact (List.Perm.swap a l[i] _).trans (ih.cons a)
theorem pick_perm {α : Type} (next : Nat → Nat) : ∀ (n k : Nat) (left : List α) (out : Array α), left.length = n → (pickOrder.go next n k left out).toList.Perm (out.toList ++ left)
  | 0, k, left, out, hl => by
    have : left = [] := List.length_eq_zero_iff.mp hl
    subst this
    unfold pickOrder.go
    simp
  | n + 1, k, left, out, hl => by
    unfold pickOrder.go
    have hpos : next k % left.length < left.length := Nat.mod_lt _ (by omega)
    rw [List.getElem?_eq_getElem hpos]
    dsimp only
    have ih := pick_perm next n (k + 1) (left.eraseIdx (next k % left.length)) (out.push left[next k % left.length]) (by rw [List.length_eraseIdx, if_pos hpos]; omega)
    refine ih.trans ?_
    rw [Array.toList_push, List.append_assoc]
    refine List.Perm.append_left _ ?_
    exact erase_perm _ _ hpos
theorem pickOrder_perm {α : Type} (next : Nat → Nat) (xs : Array α) : (pickOrder next xs).toList.Perm xs.toList := by
  unfold pickOrder
  have := pick_perm next xs.size 0 xs.toList #[] (by simp)
  simpa using this
/-- the iterator of a set -/
def SetIt (h : Heap) (I a : Addr) (slot i n ep : Nat) : Prop :=
  ∃ o, h.get? I = some o ∧ o.cls = .type "set_iterator" ∧ o.data = .fields #[.int slot 0, .int i 0, .ref a, .int n 0, .int ep 0]
def slotAt (w : World) (pl : List Nat) (i : Nat) : Nat := if txt w then 0 else if i = 0 then 0 else pl.getD (i - 1) 0 + 1
def orderOf (w : World) (a ep : Nat) (es : Array (Int × Value)) : Array (Int × Value) := if txt w then pickOrder (w.params.setOrder a ep) es else es
theorem orderOf_perm (w : World) (a ep : Nat) (es : Array (Int × Value)) : (orderOf w a ep es).toList.Perm es.toList := by
  unfold orderOf
  split
  · exact pickOrder_perm _ _
  · exact List.Perm.refl _
section
variable {prog : Program} {w : World} {A : Around} {E : Value → Shared → Prop} {s : Shared} {h h₁ : Heap} {tk : Nat} {env : Env}
theorem SetIt.at {h' : Heap} {I a : Addr} {slot i n ep : Nat} (x : SetIt h I a slot i n ep) (e : ∀ o, h.get? I = some o → h'.get? I = some o) : SetIt h' I a slot i n ep := let ⟨o, ho, r⟩ := x; ⟨o, e _ ho, r⟩
theorem w_setsByText {Q : Bool → Shared → Prop} {s : Shared} (q : Q (txt w) s) : wpAny (model prog w) A setsByText Q E s := by
  unfold setsByText
  exact wpAny_bind (wpAny_askSetting (wpAny_pure q))
theorem iter_set {a : Addr} {o : Obj} {es : Array (Int × Value)} {ep f m : Nat} {pl : List Nat} {Q : Value → Shared → Prop} (ho : h.get? a = some o) (hex : o.ExactSet)
    (hd : o.data = .set es ep (tbl pl f (!txt w) m)) (hpl : pl.length = es.size) (hsz : es.size ≤ 4)
    (q : Q (.ref h.objs.size) (St s (h.push { cls := .type "set_iterator", data := .fields #[.int (0 : Nat) 0, .int (0 : Nat) 0, .ref a, .int es.size 0, .int ep 0] }) tk)) :
    wpAny (model prog w) A (pyIter (.ref a)) Q E (St s h tk) := by
  have hT : (St s h tk).TypeIs (.ref a) "set" := ⟨o, ho, hex.1⟩
  have hfit : (tbl pl f (!txt w) m).fits es.size = true := fits_tbl (by omega) _ _ _ _ hpl
  refine wpAny_pyIter_slot hT F.slot_set_iter (wpAny_call_entry F.slot_set_iter hT entry_set_iter ?_ (args_set_iter _))
  unfold Builtin.«frozenset.__iter__» Builtin.Frozenset.slot0 slotArgs
  simp only [List.isEmpty_nil, Bool.not_true, Bool.false_eq_true, ↓reduceIte, bind_assoc, List.length_nil, bne_self_eq_false]
  unfold Builtin.Frozenset.addrOf Builtin.Frozenset.sizeOf
  refine wpAny_bind (wpAny_pure ?_)
  try dsimp only
  refine wpAny_bind (wpAny_pure ?_)
  refine wpAny_bind (wpAny_bind (wpAny_setEntries_of (o := o) ho hd hfit (wpAny_pure ?_)))
  unfold setDrawn
  refine wpAny_bind (wpAny_bind (wpAny_setState_of (o := o) ho hd hfit ?_))
  dsimp only
  refine wpAny_bind (w_setsByText ?_)
  have e0 : (!txt w && (!(tbl pl f (!txt w) m).plain && decide (es.size > 1))) = false := by simp [tbl]
  refine wpAny_pure ?_
  show wpAny _ _ (if (!txt w && (!(tbl pl f (!txt w) m).plain && decide (es.size > 1))) = true then _ else _) _ _ _
  rw [if_neg (by rw [e0]; exact Bool.false_ne_true)]
  refine wpAny_bind (wpAny_pure ?_)
  refine wpAny_bind (wpAny_setEpoch_of (o := o) ho hd hfit ?_)
  refine wpAny_bind (wpAny_newObj_type (wpAny_pure ⟨_, rfl, "set_iterator", _, ⟨_, Heap.get?_push_size _ rfl, rfl⟩, slot_setiter_next.lookup, ?_⟩))
  exact q
theorem next_core {a : Addr} {o : Obj} {es : Array (Int × Value)} {ep f m i : Nat} {pl : List Nat} {Q : Option (Value × Nat) → Shared → Prop} (ho : h.get? a = some o)
    (hd : o.data = .set es ep (tbl pl f (!txt w) m)) (hr : rise 0 pl = true) (hpl : pl.length = es.size) (hsz : es.size ≤ 4) (hi : i ≤ es.size)
    (q : Q (((orderOf w a ep es)[i]?).map fun e => (e.2, slotAt w pl (i + 1))) (St s h tk)) :
    wpAny (model prog w) A (setNext a (slotAt w pl i) i ep) Q E (St s h tk) := by
  have hfit : (tbl pl f (!txt w) m).fits es.size = true := fits_tbl (by omega) _ _ _ _ hpl
  unfold setNext
  refine wpAny_bind (wpAny_setState_of (o := o) ho hd hfit ?_)
  dsimp only
  refine wpAny_bind (w_setsByText ?_)
  by_cases ht : txt w = true
  · rw [if_pos ht]
    rw [if_neg (by simp)]
    unfold setWalk
    refine wpAny_bind (wpAny_bind (wpAny_setState_of (o := o) ho hd hfit ?_))
    dsimp only
    refine wpAny_bind (w_setsByText ?_)
    rw [if_pos ht]
    refine wpAny_bind (wpAny_askSetting (wpAny_pure (wpAny_pure ?_)))
    unfold orderOf slotAt at q
    rw [if_pos ht, if_pos ht] at q
    unfold slotAt
    rw [if_pos ht]
    exact q
  · rw [if_neg ht]
    have hf : txt w = false := by simpa using ht
    show wpAny _ _ (if (!(tbl pl f (!txt w) m).plain && decide (es.size > 1)) = true then _ else _) _ _ _
    rw [if_neg (by simp [tbl])]
    refine wpAny_bind ?_
    show wpAny _ _ (if (!(tbl pl f (!txt w) m).led && !es.isEmpty) = true then _ else pure _) _ _ _
    rw [if_neg (by simp [tbl, hf])]
    refine wpAny_pure ?_
    unfold orderOf slotAt at q
    rw [if_neg ht, if_neg ht, if_neg (Nat.succ_ne_zero i)] at q
    have hb : SetTable.below (tbl pl f (!txt w) m).place (slotAt w pl i) = i := by
      unfold slotAt
      rw [if_neg ht]
      exact below_at hr (by omega) (by omega)
    rw [hb]
    refine wpAny_pure ?_
    have e2 : (tbl pl f (!txt w) m).place[i]? = pl[i]? := by simp [tbl]
    rw [e2]
    rcases Nat.lt_or_ge i es.size with hlt | hge
    · have hl : i < pl.length := by omega
      rw [Array.getElem?_eq_getElem hlt, List.getElem?_eq_getElem hl]
      rw [Array.getElem?_eq_getElem hlt] at q
      have : pl.getD (i + 1 - 1) 0 = pl[i] := by
        rw [Nat.add_sub_cancel, List.getD_eq_getElem?_getD, List.getElem?_eq_getElem hl]; rfl
      rw [this] at q
      exact q
    · rw [Array.getElem?_eq_none hge]
      rw [Array.getElem?_eq_none hge] at q
      exact q
theorem next_set {I a : Addr} {o : Obj} {es : Array (Int × Value)} {ep f m i : Nat} {pl : List Nat} {e : Int × Value} {Q : Option Value → Shared → Prop} (ho : h.get? a = some o)
    (hd : o.data = .set es ep (tbl pl f (!txt w) m)) (hr : rise 0 pl = true) (hpl : pl.length = es.size) (hsz : es.size ≤ 4) (hi : i ≤ es.size) (hit : SetIt h I a (slotAt w pl i) i es.size ep)
    (he : (orderOf w a ep es)[i]? = some e)
    (q : ∀ h', SetIt h' I a (slotAt w pl (i + 1)) (i + 1) es.size ep → Heap.ExtBut I h h' → Q (some e.2) (St s h' tk)) :
    wpAny (model prog w) A (pyNext (.ref I)) Q E (St s h tk) := by
  obtain ⟨oi, hoi, hci, hdi⟩ := id hit
  have hT : (St s h tk).TypeIs (.ref I) "set_iterator" := ⟨oi, hoi, hci⟩
  have hfit : (tbl pl f (!txt w) m).fits es.size = true := fits_tbl (by omega) _ _ _ _ hpl
  unfold pyNext
  refine wpAny_bind (wpAny_attempt (wpAny_callSpecial?_slot (name := Str.ofString "__next__") hT slot_setiter_next
    (wpAny_call_entry slot_setiter_next hT entry_setiter_next ?_ (args_setiter_next _))))
  unfold Builtin.«set_iterator.__next__» slotArgs
  simp only [List.isEmpty_nil, Bool.not_true, Bool.false_eq_true, ↓reduceIte, List.length_nil, bne_self_eq_false]
  refine wpAny_bind (wpAny_pure ?_)
  refine wpAny_bind (wpAny_fieldsOf (o := oi) hoi hdi ?_)
  dsimp only
  refine wpAny_bind (wpAny_setEntries_of (o := o) ho hd hfit ?_)
  rw [if_neg (by simp)]
  show wpAny _ _ (setNext a (slotAt w pl i) i ep >>= _) _ _ _
  refine wpAny_bind (next_core ho hd hr hpl hsz hi ?_)
  rw [he]
  show wpAny _ _ (setField (.ref I) 0 (rawInt (slotAt w pl (i + 1) : Nat)) >>= _) _ _ _
  refine wpAny_bind (wpAny_setField (o := oi) hoi hdi (by simp) ?_)
  have hg := Heap.get?_update_self (Obj.mapFields (·.setIfInBounds 0 (rawInt (slotAt w pl (i + 1) : Nat)))) hoi (Obj.isFreed_of_fields (Obj.data_mapFields hdi _))
  refine wpAny_bind (wpAny_setField hg (Obj.data_mapFields hdi _) (by simp) (wpAny_pure ⟨_, rfl, wpAny_pure ?_⟩))
  refine q _ ⟨_, Heap.get?_update_self _ hg (Obj.isFreed_of_fields (Obj.data_mapFields (Obj.data_mapFields hdi _) _)), (Obj.cls_mapFields ..).trans ((Obj.cls_mapFields ..).trans hci), ?_⟩ ?_
  · rw [Obj.data_mapFields (Obj.data_mapFields hdi _)]; simp [rawInt]
  · intro b o hb e
    exact (Heap.SameBut.update ..).extBut b o hb ((Heap.SameBut.update ..).extBut b o hb e)
theorem end_set {I a : Addr} {o : Obj} {es : Array (Int × Value)} {ep f m : Nat} {pl : List Nat} {Q : Option Value → Shared → Prop} (hh : A.handled = none) (ho : h.get? a = some o)
    (hd : o.data = .set es ep (tbl pl f (!txt w) m)) (hr : rise 0 pl = true) (hpl : pl.length = es.size) (hsz : es.size ≤ 4) (hit : SetIt h I a (slotAt w pl es.size) es.size es.size ep)
    (q : ∀ h', Heap.ExtBut I h h' → Q none (St s h' tk)) :
    wpAny (model prog w) A (pyNext (.ref I)) Q E (St s h tk) := by
  obtain ⟨oi, hoi, hci, hdi⟩ := id hit
  have hT : (St s h tk).TypeIs (.ref I) "set_iterator" := ⟨oi, hoi, hci⟩
  have hfit : (tbl pl f (!txt w) m).fits es.size = true := fits_tbl (by omega) _ _ _ _ hpl
  have he : (orderOf w a ep es)[es.size]? = none := by
    have := (orderOf_perm w a ep es).length_eq
    simp only [Array.length_toList] at this
    exact Array.getElem?_eq_none (by omega)
  unfold pyNext
  refine wpAny_bind (wpAny_attempt (wpAny_callSpecial?_slot (name := Str.ofString "__next__") hT slot_setiter_next
    (wpAny_call_entry slot_setiter_next hT entry_setiter_next ?_ (args_setiter_next _))))
  unfold Builtin.«set_iterator.__next__» slotArgs
  simp only [List.isEmpty_nil, Bool.not_true, Bool.false_eq_true, ↓reduceIte, List.length_nil, bne_self_eq_false]
  refine wpAny_bind (wpAny_pure ?_)
  refine wpAny_bind (wpAny_fieldsOf (o := oi) hoi hdi ?_)
  dsimp only
  refine wpAny_bind (wpAny_setEntries_of (o := o) ho hd hfit ?_)
  rw [if_neg (by simp)]
  show wpAny _ _ (setNext a (slotAt w pl es.size) es.size ep >>= _) _ _ _
  refine wpAny_bind (next_core ho hd hr hpl hsz (Nat.le_refl _) ?_)
  rw [he]
  show wpAny _ _ (setField (.ref I) 2 .none >>= _) _ _ _
  refine wpAny_bind (wpAny_setField (o := oi) hoi hdi (by simp) ?_)
  show wpAny _ _ (newExc (.type "StopIteration") [] >>= _) _ _ _
  refine wpAny_bind ?_
  simp only [newExc, newTuple]
  refine wpAny_bind (wpAny_newObj_type ?_ (by size_fits))
  refine wpAny_bind (m := firstArgMember _ _) (wpAny_of_eq (a := Value.none) (by first | rfl | (simp only [firstArgMember]; rfl)) ?_)
  refine wpAny_newObj_type ?_ (by size_fits)
  simp only [raiseNew]
  refine wpAny_bind (wpAny_handled ?_)
  rw [show A.in1.handled = none from hh]
  refine wpAny_bind (wpAny_pure (wpAny_throw ?_))
  refine wpAny_bind (wpAny_isInstance (T := "StopIteration") (b := true) ⟨_, Heap.get?_push_size _ rfl, rfl⟩ isSubtype_stop ?_)
  exact wpAny_pure (q _ (((Heap.SameBut.update ..).extBut.push _).push _))
theorem self_set {I a : Addr} {slot i n ep : Nat} {Q : Value → Shared → Prop} {s : Shared} (hit : SetIt s.heap I a slot i n ep) (q : Q (.ref I) s) : wpAny (model prog w) A (pyIter (.ref I)) Q E s := by
  obtain ⟨oi, hoi, hci, hdi⟩ := id hit
  have hT : s.TypeIs (.ref I) "set_iterator" := ⟨oi, hoi, hci⟩
  refine wpAny_pyIter_slot hT slot_setiter_iter (wpAny_call_entry slot_setiter_iter hT entry_setiter_iter ?_ (args_setiter_iter _))
  show wpAny _ _ (ret (.ref I)) _ _ s
  exact wpAny_pure ⟨_, rfl, "set_iterator", _, hT, slot_setiter_next.lookup, q⟩
/-- the walk over a set: its keys in some order -/
theorem over_set (hh : A.handled = none) {a : Addr} {ks : List Int} (hW : SetW w h₁ a ks) :
    ∃ ord : List Int, ord.Perm ks ∧ Over prog w A h₁ (.ref a) ord.length (fun i v => ∃ k t, ord[i]? = some k ∧ v = .int k t) [a] := by
  obtain ⟨o, es, ep, pl, f, m, ho, hex, hd, hr, hpl, hsz, hks, he, hnd, hb⟩ := hW
  have pm := orderOf_perm w a ep es
  have hosz : (orderOf w a ep es).size = es.size := by have := pm.length_eq; simpa using this
  refine ⟨(orderOf w a ep es).toList.map (·.1), by rw [← hks]; exact pm.map _, ⟨fun {Q E s tk} k => ?_⟩⟩
  have hlen : ((orderOf w a ep es).toList.map (·.1)).length = es.size := by simp [hosz]
  rw [hlen] at k
  refine iter_set (o := o) ho hex hd hpl hsz ?_
  have hlt : a < h₁.objs.size := Heap.lt_size ho
  have hne : a ≠ h₁.objs.size := Nat.ne_of_lt hlt
  refine k h₁.objs.size _ [h₁.objs.size, a] (fun i h => SetIt h h₁.objs.size a (slotAt w pl i) i es.size ep ∧ h.get? a = some o) (sub_push _ _) (get_none_size (Nat.le_refl _)) ?_ ⟨⟨_, Heap.get?_push_size _ rfl, rfl, ?_⟩, Heap.get?_push_of_some _ ho⟩ ?_ (fun b hb => by simpa using hb) (fun i h st => let ⟨o, ho, _⟩ := st.1; ⟨o, ho⟩)
  · refine ⟨fun b hb => by simp at hb; simp [hb], fun i h h' st hk => ⟨st.1.at fun o e => hk _ (by simp) o e, hk a (by simp) o st.2⟩, ?_, ?_, ?_⟩
    · intro i s Q E hi st q
      have hi' : i < (orderOf w a ep es).size := by omega
      refine next_set (s := s) (h := s.heap) (tk := s.toks) (e := (orderOf w a ep es)[i]) st.2 hd hr hpl hsz (by omega) st.1 (Array.getElem?_eq_getElem hi') fun h' hit' hk' => ?_
      have hm : (orderOf w a ep es)[i] ∈ es.toList := pm.mem_iff.mp (by simp)
      obtain ⟨t, ht⟩ := he _ hm
      refine q _ h' s.toks ⟨_, t, ?_, ht⟩ ⟨hit', hk' a o hne st.2⟩ fun b o hb e => hk' b o (fun h => hb (by simp [h])) e
      rw [List.getElem?_map, Array.getElem?_toList, Array.getElem?_eq_getElem hi']
      rfl
    · intro s Q E st q
      exact end_set (s := s) (h := s.heap) (tk := s.toks) hh st.2 hd hr hpl hsz st.1 fun h' hk' => q h' s.toks fun b o hb e => hk' b o (fun h => hb (by simp [h])) e
    · intro i s Q E st q
      exact self_set st.1 q
  · unfold slotAt; simp
  · intro b hb
    rw [Heap.size_push]
    rcases List.mem_cons.mp hb with rfl | hb
    · exact Nat.lt_succ_self _
    · rcases List.mem_cons.mp hb with rfl | hb
      · exact Nat.lt_succ_of_lt hlt
      · cases hb
end
end Mine
end
section -- S4
open PySem PySem.W PySem.Calls PyProof.Rows
namespace Mine
theorem nodup_le : ∀ {l l' : List Int}, l.Nodup → (∀ y ∈ l, y ∈ l') → l.length ≤ l'.length
  | [], _, _, _ => Nat.zero_le _
  | a :: l, l', hn, hm => by
    have ha : a ∈ l' := hm a List.mem_cons_self
    obtain ⟨h1, h2⟩ := List.nodup_cons.mp hn
    have ih := nodup_le (l := l) (l' := l'.erase a) h2 fun y hy => (List.mem_erase_of_ne (show y ≠ a from fun e => h1 (by rw [← e]; exact hy))).mpr (hm y (List.mem_cons_of_mem _ hy))
    rw [List.length_erase_of_mem ha] at ih
    have : 0 < l'.length := List.length_pos_of_mem ha
    rw [List.length_cons]; omega
theorem compTurn_set (elt target iter : Expr) (scope : Scope) (pos : Pos) (it acc : Value) (env : Env) :
    compTurn (.SetComp elt [⟨target, iter, [], 0⟩] scope pos) 0 it acc env = (do
      standAt iter.pos
      match ← pyNext it with
      | none => pure (.done .next)
      | some v =>
        letOwnedTupleGo target it v
        assign target env v
        (do let v ← eval elt env; standAt elt.pos; let _ ← call (.builtin "set.add") [acc, v])
        again (.compLoop (.SetComp elt [⟨target, iter, [], 0⟩] scope pos) 0 it acc env)) := by rfl
section
variable {prog : Program} {w : World} {A : Around} {E : Value → Shared → Prop} {R : Result → Shared → Prop} {s : Shared} {h : Heap} {tk : Nat} {env : Env}
theorem compLoop_set {elt target iter : Expr} {scope : Scope} {pos : Pos} {it acc : Value} {env : Env} (I : Nat → Shared → Prop)
    (turn : ∀ n s, I n s → wpAny (model prog w) A (pyNext it) (fun r s₁ => match r with
      | none => R (.ok .next) s₁
      | some v => wpAny (model prog w) A (assign target env v) (fun _ s₂ =>
          wpAny (model prog w) A (eval elt env) (fun x s₄ =>
              wpAny (model prog w) A (call (.builtin "set.add") [acc, x]) (fun _ s₅ => ∃ m, m < n ∧ I m s₅) (notedBy (model prog w) A env fun e s' => R (.error e) s') s₄) (notedBy (model prog w) A env fun e s' => R (.error e) s') s₂) (notedBy (model prog w) A env fun e s' => R (.error e) s') s₁) (notedBy (model prog w) A env fun e s' => R (.error e) s') s)
    (n : Nat) (h : I n s) (ht : ∀ v, letOwnedTupleGo target it v = pure () := by intro _; rfl) :
    codeAny (model prog w) A (.compLoop (.SetComp elt [⟨target, iter, [], 0⟩] scope pos) 0 it acc env) R s := by
  refine codeAny_loop rfl I (fun n s hI => ?_) n h
  show wpAny _ A ((compTurn (.SetComp elt [⟨target, iter, [], 0⟩] scope pos) 0 it acc env).onRaise (fun x => do noteFrame x env; theTreesLotGoes x)) _ _ s
  refine wpAny_noted ?_
  rw [compTurn_set]
  refine wpAny_bind (wpAny_standAt (wpAny_bind (wpAny_mono (turn n s hI) (fun r s₁ h₁ => ?_) fun _ _ h' => h')))
  cases r with
  | none => exact wpAny_pure h₁
  | some v =>
    refine wpAny_bind (wpAny_of_eq (ht v) ?_)
    refine wpAny_bind (wpAny_mono h₁ (fun _ s₂ h₂ => ?_) fun _ _ h' => h')
    exact wpAny_bind (wpAny_bind (wpAny_mono h₂ (fun x s₄ h₄ => wpAny_bind (wpAny_standAt (wpAny_bind (wpAny_mono h₄ (fun _ s₅ h₅ => wpAny_pure (wpAny_pure ⟨rfl, h₅⟩)) fun _ _ h' => h')))) fun _ _ h' => h'))
theorem compStart_set {elt target iter ifs rest scope pos it acc env}
    (h0 : codeAny (model prog w) A (.compLoop (.SetComp elt (⟨target, iter, ifs, 0⟩ :: rest) scope pos) 0 it acc env) R s)
    (h : wpAny (model prog w) A (pyIter it) (fun it' s' => codeAny (model prog w) A (.compLoop (.SetComp elt (⟨target, iter, ifs, 0⟩ :: rest) scope pos) 0 it' acc env) R s')
      (notedBy (model prog w) A env fun x s' => R (.error x) s') s) :
    codeAny (model prog w) A (.compStart (.SetComp elt (⟨target, iter, ifs, 0⟩ :: rest) scope pos) 0 it acc env) R s := by
  refine codeAny_of_tree ?_
  show wpAny _ _ ((compStart (.SetComp elt (⟨target, iter, ifs, 0⟩ :: rest) scope pos) 0 it acc env).onRaise (fun x => do noteFrame x env; standAt theWindowsPlace)) _ _ s
  refine wpAny_notedAt ?_
  unfold compStart
  show wpAny _ _ (ask >>= _) _ _ s
  refine wpAny_bind (wpAny_askSetting (wpAny_ite ?_))
  split
  · first
      | exact wpAny_bind (wpAny_pure (wpAny_pure (And.intro rfl h0)))
      | exact wpAny_pure (And.intro rfl h0)
  · first
      | exact wpAny_bind (wpAny_rule (wpAny_bind (wpAny_standAt (wpAny_bind (wpAny_mono h (fun it' s' h' => wpAny_pure (And.intro rfl h')) fun _ _ x => x)))))
      | (refine wpAny_bind (wpAny_rule ?_); show wpAny _ _ (standAt iter.pos >>= _) _ _ s; exact wpAny_bind (wpAny_standAt (wpAny_bind (wpAny_mono h (fun it' s' h' => wpAny_pure (And.intro rfl h')) fun _ _ x => x))))
/-- a set comprehension with one clause, its elements small ints g i -/
theorem sc {elt iter : Expr} {x : Str} {px : Pos} {scope : Scope} {cl : List (Str × Addr)} {pos : Pos} {env : Env} {Q : Value → Shared → Prop} (g : Nat → Int)
    (hclos : closureFor scope env = pure cl) (hcell : ∀ y ∈ scope.names, y.2 ≠ .cell) (hkind : scope.kind = .function)
    (hnames : ∀ y ∈ scope.names, y.2 = .local → scope.names.lookup y.1 = some .local) (hx : scope.names.lookup x = some .local) (hs : ∀ x, foldedSetIterable iter env x = pure x)
    (k : wpAny (model prog w) A (eval iter env) (fun xv s₁ => ∃ h₁ tk₁ n P fx, s₁ = St s h₁ tk₁ ∧ Over prog w A h₁ xv n P fx ∧ n ≤ 4 ∧ (∀ i, i < n → 0 ≤ g i ∧ g i < 12) ∧
      (∀ C i v h₃ tk₃ m₃ E', h₁.get? C = none → P i v → h₃.Ns C m₃ → m₃ x = some v → Sub h₁ h₃ →
        wpAny (model prog w) A (eval elt (compEnvC scope cl C env)) (fun y s₄ => (∃ t, y = .int (g i) t) ∧ Keeps (St s h₃ tk₃) s₄) E' (St s h₃ tk₃)) ∧
      (∀ D h' tk' ks, h₁.get? D = none → Sub h₁ h' → SetW w h' D ks → (∀ y, y ∈ ks ↔ ∃ i, i < n ∧ y = g i) → Q (.ref D) (St s h' tk'))) E (St s h tk)) :
    wpAny (model prog w) A (eval (.SetComp elt [⟨.Name x px, iter, [], 0⟩] scope pos) env) Q E (St s h tk) := by
  rw [arm_eval_SetComp]
  refine wpAny_comprehension_free (use := none) (g := ⟨.Name x px, iter, [], 0⟩) (gs := []) rfl hs hclos hkind hnames ?_
  show wpAny _ _ (eval iter env) _ _ _
  refine wpAny_mono k (fun xv s₁ q => ?_) fun _ _ e => e
  obtain ⟨h₁, tk₁, n, P, fx, rfl, O, hn, hg, B, fin⟩ := q
  refine O.go fun I h₂ fp S hS hI W hst hfp _ _ => ?_
  refine w_newSet fun hW0 => ?_
  generalize hH2 : h₂.push { cls := .type "set", dict := none, data := .set #[] 0 (.fresh 0 0 (!txt w)) } = H2 at hW0 ⊢
  refine wpAny_newFunctionEnv hcell (by intro y hy; simp at hy) (fun h₃ hns₁ hsb₁ => ?_) hkind
  dsimp only at hns₁ hsb₁ ⊢
  show codeAny _ _ _ _ _
  have hC : H2.objs.size = h₂.objs.size + 1 := by rw [← hH2, Heap.size_push]
  have hDC : h₂.objs.size ≠ H2.objs.size := by rw [hC]; exact Nat.ne_of_lt (Nat.lt_succ_self _)
  have below : ∀ b, b < h₂.objs.size → b ≠ H2.objs.size ∧ b ≠ h₂.objs.size := fun b hb => ⟨by rw [hC]; exact Nat.ne_of_lt (Nat.lt_succ_of_lt hb), Nat.ne_of_lt hb⟩
  have hDf : h₂.objs.size ∉ fp := fun hm => Nat.lt_irrefl _ (hfp _ hm)
  have hCf : H2.objs.size ∉ fp := fun hm => by have := hfp _ hm; rw [hC] at this; exact Nat.lt_irrefl _ (Nat.lt_of_succ_lt this)
  have old : ∀ b o, h₂.get? b = some o → h₃.get? b = some o := fun b o e => hsb₁.extBut b o (below b (Heap.lt_size e)).1 (Heap.get?_push_of_some _ (hH2 ▸ Heap.get?_push_of_some _ e))
  have hacc : SetW w h₃ h₂.objs.size [] := hW0.at fun o e => hsb₁.extBut _ _ hDC (Heap.get?_push_of_some _ e)
  have hst₁ : S 0 h₃ := W.frame _ _ _ hst fun b _ o e => old b o e
  have lt₁ : ∀ {b : Addr} {o : Obj}, h₁.get? b = some o → b ≠ I ∧ b ≠ H2.objs.size ∧ b ≠ h₂.objs.size := fun {b o} e => by
    have := below b (Heap.lt_size (hS _ _ e))
    exact ⟨fun e1 => (by subst e1; rw [hI] at e; cases e), this.1, this.2⟩
  have low : ∀ {C : Addr}, h₂.objs.size ≤ C → h₁.get? C = none := fun {C} hC => by
    cases e : h₁.get? C with
    | none => rfl
    | some o => exact absurd (Heap.lt_size (hS _ _ e)) (Nat.not_lt.mpr hC)
  have loop : ∀ s₃ : Shared, s₃ = St s h₃ tk₁ → codeAny (model prog w) A (.compLoop (.SetComp elt [⟨.Name x px, iter, [], 0⟩] scope pos) 0 (.ref I) (.ref h₂.objs.size) (compEnvC scope cl H2.objs.size env))
      (compPost (model prog w) A E none Q (.ref h₂.objs.size) H2.objs.size) s₃ := by
    rintro s₃ rfl
    refine compLoop_set (fun k s' => ∃ h' tk' m' ks i, s' = St s h' tk' ∧ i ≤ n ∧ k = n + 1 - i ∧ S i h' ∧ SetW w h' h₂.objs.size ks ∧ ks.length ≤ i ∧ (∀ y, y ∈ ks ↔ ∃ j, j < i ∧ y = g j) ∧ h'.Ns H2.objs.size m' ∧ Sub h₁ h') ?_ (n + 1)
      ⟨h₃, tk₁, _, [], 0, rfl, Nat.zero_le _, rfl, hst₁, hacc, Nat.le_refl _, fun y => ⟨fun e => (List.not_mem_nil e).elim, fun ⟨_, e, _⟩ => absurd e (Nat.not_lt_zero _)⟩, hns₁, fun b o e => old b o (hS b o e)⟩
    rintro k s' ⟨h', tk', m', ks, i, rfl, hi, rfl, hst', hW', hlen, hks, hn', up'⟩
    have hCw : H2.objs.size ∉ [I] := fun hm => hCf (W.sub _ hm)
    have hDw : h₂.objs.size ∉ [I] := fun hm => hDf (W.sub _ hm)
    by_cases hlt : i < n
    · refine W.item i _ _ _ hlt hst' fun v h₄ tk₄ hPv hst₄ hk₄ => ?_
      refine wpAny_assign_Name (wpAny_storeName_local (lookup_relabel_local hx) (hn'.at' fun o e => hk₄ _ o hCw e) (fun h₅ hn₅ hs₅ => ?_) (by simp [compEnvC, relabel, hkind]))
      have up₅ : Sub h₁ h₅ := fun b o e => hs₅.extBut b o (lt₁ e).2.1 (hk₄ b o (by simpa using (lt₁ e).1) (up' b o e))
      refine wpAny_mono (B H2.objs.size i v h₅ _ _ _ (low (by rw [hC]; exact Nat.le_succ _)) hPv hn₅ (by simp) up₅) (fun y s₄ q => ?_) fun _ _ e => e
      obtain ⟨⟨t, rfl⟩, h₆, tk₆, rfl, hk₆⟩ := q
      have hW₆ : SetW w h₆ h₂.objs.size ks := hW'.at fun o e => hk₆ _ o (hs₅.extBut _ o hDC (hk₄ _ o hDw e))
      have hst₆ : S (i + 1) h₆ := W.frame _ _ _ hst₄ fun b hb o e => hk₆ b o (hs₅.extBut b o (fun q => hCf (by have q' : b = H2.objs.size := q; rw [← q']; exact hb)) e)
      refine set_add (s := s) (h := h₆) (tk := tk₆) hW₆ (hg i hlt).1 (hg i hlt).2 (by
          have : ks.length ≤ 3 := by omega
          exact .inr this) fun h₇ ks₇ tk₇ hsb₇ hW₇ hm₇ => ?_
      have hk₇ := hsb₇.extBut
      have hnd : ks.Nodup := by obtain ⟨_, _, _, _, _, _, _, _, _, _, _, _, _, _, a, _⟩ := hW'; exact a
      have hnd₇ : ks₇.Nodup := by obtain ⟨_, _, _, _, _, _, _, _, _, _, _, _, _, _, a, _⟩ := hW₇; exact a
      have hl₇ : ks₇.length ≤ ks.length + 1 := by
        have : ks₇.length ≤ (g i :: ks).length := by
          refine nodup_le hnd₇ fun y hy => ?_
          rcases (hm₇ y).mp hy with e | e
          · exact List.mem_cons_of_mem _ e
          · exact e ▸ List.mem_cons_self
        simpa using this
      refine ⟨n + 1 - (i + 1), by omega, h₇, tk₇, _, ks₇, i + 1, rfl, hlt, rfl, W.frame _ _ _ hst₆ fun b hb o e => hk₇ b o (fun q => hDf (q ▸ hb)) e, hW₇, by omega, fun y => ?_, (hn₅.keeps hk₆).at' fun o e => hk₇ _ o (Ne.symm hDC) e,
        fun b o e => hk₇ b o (lt₁ e).2.2 (hk₆ b o (up₅ b o e))⟩
      rw [hm₇, hks]
      constructor
      · rintro (⟨j, hj, e⟩ | e)
        · exact ⟨j, by omega, e⟩
        · exact ⟨i, by omega, e⟩
      · rintro ⟨j, hj, e⟩
        rcases Nat.lt_or_ge j i with h | h
        · exact .inl ⟨j, h, e⟩
        · have : j = i := by omega
          subst this; exact .inr e
    · obtain rfl : i = n := Nat.le_antisymm hi (Nat.not_lt.mp hlt)
      refine W.done _ _ _ hst' fun h₄ tk₄ hk₄ => ?_
      refine ⟨m', hn'.at' fun o e => hk₄ _ o hCw e, fun h'' hs'' => ?_⟩
      exact fin _ h'' tk₄ ks (low (Nat.le_refl _)) (fun b o e => hs''.extBut b o (lt₁ e).2.1 (hk₄ b o (by simpa using (lt₁ e).1) (up' b o e))) (hW'.at fun o e => hs''.extBut _ o hDC (hk₄ _ o hDw e)) hks
  exact compStart_set (loop _ rfl) (W.self 0 _ _ _ hst₁ (loop _ rfl))
end
end Mine
end
section -- P0
open PySem PySem.W PySem.Calls PyProof.Rows
namespace Mine
theorem lookT_cons (e : Int × Int) (t : List (Int × Int)) (k : Int) : lookT (e :: t) k = if e.1 = k then some e.2 else lookT t k := by
  unfold lookT
  rw [List.find?_cons]
  by_cases h : e.1 = k
  · rw [if_pos h, decide_eq_true h]; rfl
  · rw [if_neg h, decide_eq_false h]
theorem lookT_none {t : List (Int × Int)} {k : Int} : lookT t k = none ↔ t.any (fun e => decide (e.1 = k)) = false := by
  induction t with
  | nil => exact ⟨fun _ => rfl, fun _ => rfl⟩
  | cons e t ih =>
    rw [lookT_cons, List.any_cons]
    by_cases h : e.1 = k
    · rw [if_pos h, decide_eq_true h]; simp
    · rw [if_neg h, decide_eq_false h, Bool.false_or]; exact ih
theorem lookT_map (t : List (Int × Int)) (k v k' : Int) : lookT (t.map fun e => if e.1 = k then (e.1, v) else e) k' = if k' = k then (if t.any (fun e => decide (e.1 = k)) then some v else none) else lookT t k' := by
  induction t with
  | nil => simp [lookT]
  | cons e t ih =>
    rw [List.map_cons, lookT_cons, ih, lookT_cons, List.any_cons]
    by_cases h : e.1 = k
    · rw [if_pos h]
      by_cases h' : k' = k
      · rw [if_pos h', if_pos (h.trans h'.symm), decide_eq_true h]; simp [h']
      · have he : ¬ e.1 = k' := fun q => h' (q.symm.trans h)
        simp [h', he]
    · rw [if_neg h, decide_eq_false h]
      by_cases h' : k' = k
      · subst h'
        simp only [if_neg h, Bool.false_or, if_true]
      · simp [h']
theorem lookT_snoc (t : List (Int × Int)) (k v k' : Int) : lookT (t ++ [(k, v)]) k' = (lookT t k').or (if k = k' then some v else none) := by
  induction t with
  | nil => rw [List.nil_append, lookT_cons]; rfl
  | cons e t ih =>
    rw [List.cons_append, lookT_cons, lookT_cons, ih]
    by_cases h : e.1 = k'
    · rw [if_pos h, if_pos h]; rfl
    · rw [if_neg h, if_neg h]
theorem look_store (t : List (Int × Int)) (k v k' : Int) : lookT (storeT t k v) k' = if k' = k then some v else lookT t k' := by
  unfold storeT
  cases ha : t.any (fun e => decide (e.1 = k)) with
  | true =>
    rw [if_pos rfl, lookT_map, ha]; rfl
  | false =>
    rw [if_neg (by decide), lookT_snoc]
    by_cases h : k' = k
    · subst h
      rw [lookT_none.mpr ha]; simp
    · rw [if_neg h, if_neg (fun q => h q.symm)]
      cases lookT t k' <;> rfl
theorem store_keys (t : List (Int × Int)) (k v : Int) : (storeT t k v).map (·.1) = if t.any (fun e => decide (e.1 = k)) then t.map (·.1) else t.map (·.1) ++ [k] := by
  unfold storeT
  split
  · rw [List.map_map]
    refine List.map_congr_left fun e _ => ?_
    show (if e.1 = k then (e.1, v) else e).1 = e.1
    split <;> rfl
  · rw [List.map_append]; rfl
/-- every key of ks was bumped by c, once for each time it stands there -/
structure TabC (c : Int) (ks : List Int) (t : List (Int × Int)) : Prop where
  look : ∀ k, lookT t k = if ks.count k = 0 then none else some (ks.count k * c)
  nodup : (t.map (·.1)).Nodup
  keys : ∀ k ∈ t.map (·.1), 0 ≤ k ∧ k < 12
theorem TabC.nil (c : Int) : TabC c [] [] := ⟨fun _ => rfl, List.nodup_nil, fun _ hk => (List.not_mem_nil hk).elim⟩
theorem TabC.perm {c : Int} {ks ks' : List Int} {t : List (Int × Int)} (x : TabC c ks t) (p : ks.Perm ks') : TabC c ks' t :=
  ⟨fun k => by rw [x.look k, p.count_eq], x.nodup, x.keys⟩
theorem TabC.bump {c : Int} {ks : List Int} {t : List (Int × Int)} (x : TabC c ks t) (k : Int) (h0 : 0 ≤ k) (h1 : k < 12) : TabC c (ks ++ [k]) (bump t k c) := by
  refine ⟨fun k' => ?_, ?_, ?_⟩
  · unfold Mine.bump
    rw [look_store, x.look k, x.look k', List.count_append]
    by_cases h : k' = k
    · subst h
      rw [if_pos rfl, show List.count k' [k'] = 1 from List.count_singleton_self]
      by_cases hz : ks.count k' = 0
      · simp [hz]
      · rw [if_neg hz, if_neg (Nat.succ_ne_zero _)]
        rw [Option.getD_some, show (((ks.count k' + 1 : Nat) : Int)) = (ks.count k' : Int) + 1 from by omega, Int.add_mul, Int.one_mul]
    · rw [if_neg h, show List.count k' [k] = 0 from by simp [Ne.symm h], Nat.add_zero]
  · unfold Mine.bump
    rw [store_keys]
    split
    · exact x.nodup
    · rename_i hn
      rw [List.nodup_append]
      refine ⟨x.nodup, by simp, ?_⟩
      intro a ha b hb
      rw [List.mem_singleton] at hb
      subst hb
      rintro rfl
      apply hn
      obtain ⟨e, he, rfl⟩ := List.mem_map.mp ha
      exact List.any_eq_true.mpr ⟨e, he, by simp⟩
  · unfold Mine.bump
    rw [store_keys]
    split
    · exact x.keys
    · intro k' hk
      rcases List.mem_append.mp hk with hk | hk
      · exact x.keys k' hk
      · rw [List.mem_singleton] at hk; subst hk; exact ⟨h0, h1⟩
theorem TabC.len {c : Int} {ks : List Int} {t : List (Int × Int)} (x : TabC c ks t) : t.length ≤ 12 := by
  have := nodup_le (l' := [0, 1, 2, 3, 4, 5, 6, 7, 8, 9, 10, 11]) x.nodup fun y hy => by
    have := x.keys y hy
    have : y = 0 ∨ y = 1 ∨ y = 2 ∨ y = 3 ∨ y = 4 ∨ y = 5 ∨ y = 6 ∨ y = 7 ∨ y = 8 ∨ y = 9 ∨ y = 10 ∨ y = 11 := by omega
    rcases this with rfl | rfl | rfl | rfl | rfl | rfl | rfl | rfl | rfl | rfl | rfl | rfl <;> decide
  rw [List.length_map] at this
  exact this
def sums (z : Int) (as bs : List Int) : List Int := as.flatMap fun a => bs.map fun b => (a + b) % z
theorem sums_snoc (z : Int) (as bs : List Int) (a : Int) : sums z (as ++ [a]) bs = sums z as bs ++ bs.map fun b => (a + b) % z := by
  unfold sums; rw [List.flatMap_append]; simp
theorem sums_perm {z : Int} {as as' bs : List Int} (p : as.Perm as') : (sums z as bs).Perm (sums z as' bs) := List.Perm.flatMap_right _ p
theorem dd_mem (acc : List Int) (p y : Int) : y ∈ dd acc p ↔ y ∈ acc ∨ y = p := by
  unfold dd
  split
  · rename_i hc
    have : p ∈ acc := by simpa using hc
    exact ⟨.inl, fun e => e.elim id fun e => e ▸ this⟩
  · simp
theorem dd_nodup {acc : List Int} (p : Int) (h : acc.Nodup) : (dd acc p).Nodup := by
  unfold dd
  split
  · exact h
  · rename_i hc
    rw [List.nodup_append]
    refine ⟨h, by simp, ?_⟩
    intro a ha b hb
    rw [List.mem_singleton] at hb
    subst hb
    rintro rfl
    exact hc (by simpa using ha)
theorem dedup_spec (ps : List Int) : (dedup ps).Nodup ∧ ∀ y, y ∈ dedup ps ↔ y ∈ ps := by
  have key : ∀ (ps acc : List Int), acc.Nodup → (ps.foldl dd acc).Nodup ∧ ∀ y, y ∈ ps.foldl dd acc ↔ y ∈ acc ∨ y ∈ ps := by
    intro ps
    induction ps with
    | nil => exact fun acc h => ⟨h, fun y => by simp⟩
    | cons p ps ih =>
      intro acc h
      obtain ⟨h1, h2⟩ := ih (dd acc p) (dd_nodup p h)
      refine ⟨h1, fun y => ?_⟩
      rw [List.foldl_cons, h2, dd_mem, List.mem_cons, or_assoc]
  obtain ⟨h1, h2⟩ := key ps [] List.nodup_nil
  exact ⟨h1, fun y => by unfold dedup; rw [h2]; simp⟩
theorem dedup_perm {ks ps : List Int} (h : ks.Nodup) (hm : ∀ y, y ∈ ks ↔ y ∈ ps) : ks.Perm (dedup ps) :=
  (List.perm_ext_iff_of_nodup h (dedup_spec ps).1).mpr fun y => by rw [hm, (dedup_spec ps).2]
end Mine
end
section -- V3
open PySem PySem.W PySem.Calls PyProof.Rows
namespace Mine
section
variable {prog : Program} {w : World} {A : Around} {E : Value → Shared → Prop} {s : Shared} {h h₁ : Heap} {tk : Nat}
theorem for_ledJ {x : Str} {px pos : Pos} {iter : Expr} {body : List Stmt} {env : Env} {Q : Flow → Shared → Prop} (h₀ : Heap)
    (hx : env.kindOf x = some .local) (hp : (env.scope.kind == .class || (env.scope.kind == .module && env.locals != env.globals)) = false) (hs : ∀ x, foldedSetIterable iter env x = pure x)
    (k : wpAny (model prog w) A (eval iter env) (fun xv s₁ => ∃ (J : Nat → (Str → Option Value) → List (Addr × Obj) → Prop), ∃ h₁ tk₁ n P fx m var fixed, s₁ = St s h₁ tk₁ ∧ Over prog w A h₁ xv n P fx ∧ Fr h₀ env.locals h₁ m ∧ News h₀ env.locals h₁ (var ++ fixed) ∧
      (∀ b ∈ fx, b ≠ env.locals ∧ ((∃ o, h₀.get? b = some o) ∨ ∃ o, (b, o) ∈ fixed)) ∧ J 0 m var ∧
      (∀ i v m₁ var₁ h' tk' I oI, i < n → P i v → J i m₁ var₁ → Fr h₀ env.locals h' (fun y => if y = x then some v else m₁ y) → News h₀ env.locals h' ((I, oI) :: (var₁ ++ fixed)) → (∀ p ∈ var₁, p.1 ≠ I) →
        wpAny (model prog w) A (execs body env) (fun f s' => f = .next ∧ ∃ h'' tk'' m₂ var₂, s' = St s h'' tk'' ∧ Fr h₀ env.locals h'' m₂ ∧ News h₀ env.locals h'' ((I, oI) :: (var₂ ++ fixed)) ∧ (∀ p ∈ var₂, p.1 ≠ I) ∧ J (i + 1) m₂ var₂) (fun _ _ => False) (St s h' tk')) ∧
      (∀ h' tk' m' var', Fr h₀ env.locals h' m' → News h₀ env.locals h' (var' ++ fixed) → J n m' var' → Q .next (St s h' tk'))) (fun _ _ => False) (St s h tk)) :
    wpAny (model prog w) A (exec (.For (.Name x px) iter body [] pos) env) Q (fun _ _ => False) (St s h tk) := by
  refine wpAny_For (wpAny_mono k (fun xv s₁ q => ?_) fun _ _ e => e) hs
  obtain ⟨J, h₁, tk₁, n, P, fx, m, var, fixed, rfl, O, F, N, hfx, h0, step, hQ⟩ := q
  refine O.go fun I h₂ fp S hS hI W hst hfp hfI hob => ?_
  have F₂ := Fr.sub F hS
  have N₂ := News.sub N hS
  have hLI : env.locals ≠ I := by rintro rfl; obtain ⟨o, _, _, e, _⟩ := F.ns; rw [hI] at e; cases e
  have hnI : ∀ {l : List (Addr × Obj)}, News h₀ env.locals h₁ l → ∀ p ∈ l, p.1 ≠ I := fun N p hp e => by have := (N p hp).1; rw [e, hI] at this; cases this
  have h₀I : h₀.get? I = none := by
    cases e : h₀.get? I with
    | none => rfl
    | some o => have := F.keep _ _ e; rw [hI] at this; cases this
  have hfixI : ∀ p ∈ fixed, p.1 ≠ I := fun p hp => hnI N p (List.mem_append_right _ hp)
  have hLf : env.locals ∉ fp := fun hm => by
    rcases hfI _ hm with e | e
    · exact hLI e
    · exact (hfx _ e).1 rfl
  refine codeAny_forLoop (R := fun r s' => match r with | .ok f => Q f s' | .error e => cameBackBy (model prog w) A env (fun _ _ => False) e s')
    (fun k s' => ∃ h' tk' m' var' i, s' = St s h' tk' ∧ S i h' ∧ Fr h₀ env.locals h' m' ∧ News h₀ env.locals h' (var' ++ fixed) ∧ (∀ p ∈ var', p.1 ≠ I) ∧ J i m' var' ∧ i ≤ n ∧ k = n + 1 - i) ?_ (n + 1)
    ⟨h₂, tk₁, m, var, 0, rfl, hst, F₂, N₂, fun p hp => hnI N p (List.mem_append_left _ hp), h0, Nat.zero_le _, rfl⟩
  rintro k s' ⟨h', tk', m', var', i, rfl, hst', F', N', hv', hJ, hi, rfl⟩
  have next : ∀ hh : Heap, (∀ b o, b ∉ [I] → h'.get? b = some o → hh.get? b = some o) → Fr h₀ env.locals hh m' ∧ News h₀ env.locals hh (var' ++ fixed) := fun hh hk =>
    ⟨⟨F'.ns.at' fun o e => hk _ o (by simpa using hLI) e, fun b o e => hk b o (by
        intro hm
        have : b = I := by simpa using hm
        subst this
        rw [h₀I] at e; cases e) (F'.keep b o e), F'.above⟩, fun p hp => ⟨hk _ _ (by
          have : p.1 ≠ I := (List.mem_append.mp hp).elim (hv' p) (hfixI p)
          simpa using this) (N' p hp).1, (N' p hp).2⟩⟩
  by_cases hlt : i < n
  · refine W.item i _ _ _ hlt hst' fun v h₃ tk₃ hP hst₃ hk₃ => ?_
    obtain ⟨F₃, N₃⟩ := next h₃ hk₃
    refine wpAny_assign_Name (wpAny_storeName_local (s := St s h₃ tk₃) hx F₃.ns (fun h₄ hn₄ hs₄ => ?_) hp)
    have F₄ := F₃.set hn₄ hs₄
    have N₄ := N₃.set hs₄
    obtain ⟨oI, hoI⟩ := hob _ _ hst₃
    have hoI₄ : h₄.get? I = some oI := (hs₄.2 I (Ne.symm hLI)).trans hoI
    have N₅ : News h₀ env.locals h₄ ((I, oI) :: (var' ++ fixed)) := by
      intro p hp
      rcases List.mem_cons.mp hp with rfl | hp
      · exact ⟨hoI₄, Ne.symm hLI, h₀I⟩
      · exact N₄ p hp
    refine wpAny_mono (step i v m' var' h₄ (tk₃ + 1) I oI hlt hP hJ F₄ N₅ hv') (fun f s₃ q => ?_) fun _ _ e => e.elim
    obtain ⟨rfl, h₆, tk₆, m₆, var₆, rfl, F₆, N₆, hv₆, hJ₆⟩ := q
    refine ⟨n + 1 - (i + 1), by omega, h₆, tk₆, m₆, var₆, i + 1, rfl, ?_, F₆, fun p hp => N₆ p (List.mem_cons_of_mem _ hp), hv₆, hJ₆, hlt, rfl⟩
    refine W.frame _ _ _ hst₃ fun b hb o e => ?_
    have e₄ : h₄.get? b = some o := (hs₄.2 b fun q => hLf (q ▸ hb)).trans e
    rcases hfI b hb with rfl | hbx
    · rw [hoI₄] at e₄
      cases e₄
      exact (N₆ _ (.head _)).1
    · rcases (hfx b hbx).2 with ⟨o', e'⟩ | ⟨o', e'⟩
      · have := F₄.keep b o' e'
        rw [e₄] at this
        cases this
        exact F₆.keep b o e'
      · have := (N₅ _ (List.mem_cons_of_mem _ (List.mem_append_right _ e'))).1
        have e₄' : h₄.get? b = some o' := this
        rw [e₄] at e₄'
        cases e₄'
        exact (N₆ _ (List.mem_cons_of_mem _ (List.mem_append_right _ e'))).1
  · have hin : i = n := by omega
    subst hin
    refine W.done _ _ _ hst' fun h₃ tk₃ hk₃ => wpAny_execs_nil ?_
    obtain ⟨F₃, N₃⟩ := next h₃ hk₃
    exact hQ h₃ tk₃ m' var' F₃ N₃ hJ
end
end Mine
end
section -- C9
open PySem PySem.W PySem.Calls PyProof.Rows
namespace Mine
def modL (z : Int) (ns : List Int) : List Int := ns.map (· % z)
section
variable {prog : Program} {w : World} {A : Around} {E : Value → Shared → Prop} {s : Shared} {h h₁ : Heap} {tk : Nat} {p : Program} {loose : List Str} {mg mb : Str → Option Value} {Q : Value → Shared → Prop}
def ODict (prog : Program) (w : World) (o : Obj) (kvs : List (Int × Value)) : Prop := ∀ (h : Heap) (a : Addr), h.get? a = some o → h.DictOf (intKind prog w) a kvs
theorem ODict.of {a : Addr} {kvs : List (Int × Value)} (x : h.DictOf (intKind prog w) a kvs) : ∃ o, h.get? a = some o ∧ ODict prog w o kvs := by
  obtain ⟨o, es, ep, ho, r⟩ := x
  exact ⟨o, ho, fun h a e => ⟨o, es, ep, e, r⟩⟩
/-- a store into a dict of the ledger -/
theorem put_led {L P : Addr} {o : Obj} {rest : List (Addr × Obj)} {m : Str → Option Value} {kvs : List (Int × Value)} {kk : Int} {tkk : Tok} {x : Value} {Q : Unit → Shared → Prop}
    (F : Fr h L h₁ m) (N : News h L h₁ ((P, o) :: rest)) (hr : ∀ p ∈ rest, p.1 ≠ P) (ho : ODict prog w o kvs) (hl : kvs.length ≤ 30)
    (q : ∀ h' tk' o', Fr h L h' m → News h L h' ((P, o') :: rest) → ODict prog w o' (stored kvs kk x) → Q () (St s h' tk')) :
    wpAny (model prog w) A (setItem (.ref P) (.int kk tkk) x) Q E (St s h₁ tk) := by
  have hP := N (P, o) List.mem_cons_self
  refine wpAny_setItem_pairs (s := St s h₁ tk) (intKind_is prog w kk tkk) (ho _ _ hP.1) (fun h'' hT' hs' => ?_) (by rw [sizeLine_eq]; omega)
  obtain ⟨o', ho', hO'⟩ := ODict.of hT'
  refine q h'' _ o' (F.change hs' hP.2.1 hP.2.2) (fun p hp => ?_) hO'
  rcases List.mem_cons.mp hp with rfl | hp
  · exact ⟨ho', hP.2⟩
  · exact ⟨hs'.extBut _ _ (hr p hp) (N p (List.mem_cons_of_mem _ hp)).1, (N p (List.mem_cons_of_mem _ hp)).2⟩
theorem get_dict {P : Addr} {kvs : List (Int × Value)} {k : Int} {t : Tok} {dflt : Value} {Q : Value → Shared → Prop} (hd : h.DictOf (intKind prog w) P kvs) (lo : (P == sysModules) = false)
    (q : ∀ tk', Q ((valueAt kvs k).getD dflt) (St s h tk')) : wpAny (model prog w) A (call (.builtin "dict.get") [.ref P, .int k t, dflt]) Q E (St s h tk) :=
  call_meetsIn PySem.F.slot_dict_get (hd.typeIs (s := St s h tk)) PySem.F.entry_dict_get (PySem.F.args_dict_get_3 _ _ _) (meets_dict_get_default (intKind prog w) P (intKind_is _ _ _ _) lo dflt) ⟨_, hd.mapOf, q _⟩
theorem lo_sys (G : Gr w p loose mg mb h) : (h.objs.size == sysModules) = false := by
  cases hq : (h.objs.size == sysModules) with
  | false => rfl
  | true =>
    exfalso
    have e3 := eq_of_beq hq
    have h2 := Heap.lt_size (G.X 2 _ rfl)
    rw [e3] at h2
    exact absurd h2 (by decide)
theorem int_of {ns : List Int} {its : Array Value} {i : Nat} {v : Value} (hi : Ints ns its.toList) (hv : its[i]? = some v) : ∃ n t, ns[i]? = some n ∧ v = .int n t := by
  rw [← Array.getElem?_toList] at hv
  obtain ⟨n, hn, t, rfl⟩ := paired_get' hi hv
  exact ⟨n, t, hn, rfl⟩
set_option maxHeartbeats 1000000 in
theorem c_plain (G : Gr w p loose mg mb h) (hA : Fit A 2) (a1 a2 : Addr) (y1 y2 : Array Value) (n1 n2 : List Int) (z c : Int) (u t : Tok) (hl1 : h.IsList a1 y1) (hi1 : Ints n1 y1.toList) (hl2 : h.IsList a2 y2) (hi2 : Ints n2 y2.toList)
    (hn1 : n1.length ≤ 4) (hn2 : n2.length ≤ 4) (hz : 0 < z) (hz2 : z ≤ 12)
    (q : ∀ D t h' tk', h.get? D = none → (D == sysModules) = false → Sub h h' → Tab prog w h' D t → TabC c (sums z (dedup (modL z n1)) (dedup (modL z n2))) t → Q (.ref D) (St s h' tk')) :
    wpAny (model prog w) A (call (.ref 122) [.ref a1, .ref a2, .int z u, .int c t]) Q E (St s h tk) := by
  refine enterC (binds := [(("early" : Str), .ref a1), (("late" : Str), .ref a2), (("size" : Str), .int z u), (("share" : Str), .int c t)]) hA.lt G.X G.T.nolimit rfl rfl rfl rfl (by decide) rfl rfl rfl fun h₁ tk₁ cells F N Y => ?_
  obtain ⟨oc, rfl, dc⟩ := CellsAre.one (n := "size") Y
  have dc : oc.data = .cell (some (.int z u)) := dc
  clear Y
  obtain ⟨m, F, he, hla, hsh⟩ : ∃ m, Fr h h.objs.size h₁ m ∧ m (Str.ofString "early") = some (.ref a1) ∧ m (Str.ofString "late") = some (.ref a2) ∧ m (Str.ofString "share") = some (.int c t) := ⟨_, F, rfl, rfl, rfl⟩
  refine wpAny_execs_cons (wpAny_Assign_Name (wpAny_Dict_empty ?_) rfl)
  have hcP : h.objs.size + 1 ≠ h₁.objs.size := Nat.ne_of_lt (Heap.lt_size (N.get (.head _)))
  have N0 : News h h.objs.size (h₁.push { cls := .type "dict", data := .dict #[] }) [(h₁.objs.size, { cls := .type "dict", data := .dict #[] }), (h.objs.size + 1, oc)] :=
    News.add F (News.sub N (sub_push _ _)) (get_none_size (Nat.le_refl _)) (Heap.get?_push_size _ rfl)
  have F0 : Fr h h.objs.size (h₁.push { cls := .type "dict", data := .dict #[] }) m := Fr.sub F (sub_push _ _)
  have hPs : (h₁.objs.size == sysModules) = false := lo_sys (G.keeps F.keep)
  have hP0 : h.get? h₁.objs.size = none := by
    cases e : h.get? h₁.objs.size with
    | none => rfl
    | some o => have := F.keep _ _ e; rw [get_none_size (Nat.le_refl _)] at this; cases this
  generalize hPe : h₁.objs.size = P at *
  refine w_stC F0 N0 (fun h2 tk2 F2 N2 => ?_) rfl rfl
  clear N0 F0
  have hO0 : ODict prog w { cls := .type "dict", data := .dict #[] } [] := fun h a e => ⟨_, #[], 0, e, ⟨rfl, rfl, rfl⟩, rfl, fun e he => by simp at he, .nil, .nil⟩
  -- the outer walk
  have haL : ∀ {b : Addr} {its : Array Value}, h.IsList b its → b ≠ h.objs.size := fun ⟨o, ho, _⟩ => Nat.ne_of_lt (Heap.lt_size ho)
  have hm2 : ∀ {i : Nat} {ns : List Int} {v : Value} {its : Array Value}, Ints ns its.toList → its[i]? = some v → ∃ t, v = .int (ns.getD i 0) t := fun {i ns v its} hi hv => by
    obtain ⟨n, t, hn, rfl⟩ := int_of hi hv
    exact ⟨t, by rw [List.getD_eq_getElem?_getD, hn]; rfl⟩
  have hmem : ∀ {ns : List Int} (y : Int), (∃ i, i < ns.length ∧ y = (ns.getD i 0) % z) ↔ y ∈ modL z ns := fun {ns} y => by
    unfold modL
    rw [List.mem_map]
    constructor
    · rintro ⟨i, hi, rfl⟩
      exact ⟨ns[i], List.getElem_mem hi, by rw [List.getD_eq_getElem?_getD, List.getElem?_eq_getElem hi]; rfl⟩
    · rintro ⟨n, hn, rfl⟩
      obtain ⟨i, hi, rfl⟩ := List.mem_iff_getElem.mp hn
      exact ⟨i, hi, by rw [List.getD_eq_getElem?_getD, List.getElem?_eq_getElem hi]; rfl⟩
  have hlen : ∀ {ns : List Int} {its : Array Value}, Ints ns its.toList → its.size = ns.length := fun {ns its} hi => by rw [← Array.length_toList]; exact hi.length.symm
  refine wpAny_execs_cons ?_
  refine for_ledJ h rfl rfl (fun _ => rfl) ?_
  refine sc (fun i => (n1.getD i 0) % z) rfl (by decide) rfl (by decide) rfl (fun _ => rfl) ?_
  refine nm_loc F2.ns (v := .ref a1) he ?_ rfl rfl
  refine ⟨h2, _, y1.size, _, _, rfl, over_list hA.hdl (hl1.at fun o e => F2.keep _ o e), by rw [hlen hi1]; exact hn1, fun i _ => ⟨Int.emod_nonneg _ (by omega), Int.lt_of_lt_of_le (Int.emod_lt_of_pos _ hz) hz2⟩, ?_, ?_⟩
  · intro C i v h₃ tk₃ m₃ E' _ hP hNs hm hS
    obtain ⟨tv, rfl⟩ := hm2 hi1 hP
    refine wpAny_BinOp (nm_loc hNs hm ?_ rfl rfl)
    refine nm_cell rfl (c := h.objs.size + 1) (v := .int z u) ⟨oc, hS _ _ (N2.get (.tail _ (.head _))), dc⟩ ?_ rfl rfl
    exact w_mod hz fun t6 k6 => ⟨⟨t6, rfl⟩, h₃, k6, rfl, fun _ _ e => e⟩
  intro D1 h3 tk3 ks1 hD1 hS3 hW1 hks1
  rw [hlen hi1] at hks1
  have hnd1 : ks1.Nodup := by obtain ⟨_, _, _, _, _, _, _, _, _, _, _, _, _, _, a, _⟩ := hW1; exact a
  have hk12 : ∀ k ∈ ks1, 0 ≤ k ∧ k < 12 := by obtain ⟨_, _, _, _, _, _, _, _, _, _, _, _, _, _, _, a⟩ := hW1; exact a
  have hp1 : ks1.Perm (dedup (modL z n1)) := dedup_perm hnd1 fun y => (hks1 y).trans (hmem y)
  obtain ⟨od1, hod1⟩ : ∃ o, h3.get? D1 = some o := by obtain ⟨o, _, _, _, _, _, ho, _⟩ := hW1; exact ⟨o, ho⟩
  obtain ⟨ord, hord, O1⟩ := over_set (prog := prog) (A := A.deeper (envOfC _ _ h.objs.size _ _)) hA.hdl hW1
  have F3 := Fr.sub F2 hS3
  have N3 := News.add F2 (News.sub N2 hS3) hD1 hod1
  refine ⟨fun i m var => m (Str.ofString "plain") = some (.ref P) ∧ m (Str.ofString "late") = some (.ref a2) ∧ m (Str.ofString "share") = some (.int c t) ∧ ∃ o kvs tt, var = [(P, o)] ∧ ODict prog w o kvs ∧ Paired TabR tt kvs ∧
    TabC c (sums z (ord.take i) (dedup (modL z n2))) tt, h3, tk3, _, _, _, _, [(P, _)], [(D1, od1), (h.objs.size + 1, oc)], rfl, O1, F3, fun p hp => ?_, ?_, ⟨rfl, hla, hsh, _, [], [], rfl, hO0, .nil, TabC.nil c⟩, ?_, ?_⟩
  · rcases List.mem_cons.mp hp with rfl | hp
    · exact N3 _ (.tail _ (.head _))
    · rcases List.mem_cons.mp hp with rfl | hp
      · exact N3 _ (.head _)
      · exact N3 _ (.tail _ (.tail _ hp))
  · intro b hb
    have : b = D1 := by simpa using hb
    subst this
    exact ⟨(N3 _ (.head _)).2.1, .inr ⟨od1, .head _⟩⟩
  · rintro i v m₁ var₁ h4 tk4 I oI hi ⟨a, ta, hordi, rfl⟩ ⟨j1, j2, j3, o, kvs, tt, rfl, jO, jT, jC⟩ F4 N4 hvI
    have hD1P : D1 ≠ P := fun e => by rw [e, (N2 _ (.head _)).1] at hD1; cases hD1
    have hPI : P ≠ I := hvI _ (.head _)
    refine wpAny_execs_cons ?_
    refine for_ledJ h rfl rfl (fun _ => rfl) ?_
    refine sc (fun i => (n2.getD i 0) % z) rfl (by decide) rfl (by decide) rfl (fun _ => rfl) ?_
    refine nm_loc F4.ns (v := .ref a2) j2 ?_ rfl rfl
    refine ⟨h4, _, y2.size, _, _, rfl, over_list hA.hdl (hl2.at fun o e => F4.keep _ o e), by rw [hlen hi2]; exact hn2, fun i _ => ⟨Int.emod_nonneg _ (by omega), Int.lt_of_lt_of_le (Int.emod_lt_of_pos _ hz) hz2⟩, ?_, ?_⟩
    · intro C i v h₃ tk₃ m₃ E' _ hP hNs hm hS
      obtain ⟨tv, rfl⟩ := hm2 hi2 hP
      refine wpAny_BinOp (nm_loc hNs hm ?_ rfl rfl)
      refine nm_cell rfl (c := h.objs.size + 1) (v := .int z u) ⟨oc, hS _ _ (N4.get (.tail _ (.tail _ (.tail _ (.head _))))), dc⟩ ?_ rfl rfl
      exact w_mod hz fun t6 k6 => ⟨⟨t6, rfl⟩, h₃, k6, rfl, fun _ _ e => e⟩
    intro D2 h5 tk5 ks2 hD2 hS5 hW2 hks2
    rw [hlen hi2] at hks2
    have hnd2 : ks2.Nodup := by obtain ⟨_, _, _, _, _, _, _, _, _, _, _, _, _, _, a, _⟩ := hW2; exact a
    have hp2 : ks2.Perm (dedup (modL z n2)) := dedup_perm hnd2 fun y => (hks2 y).trans (hmem y)
    obtain ⟨od2, hod2⟩ : ∃ o, h5.get? D2 = some o := by obtain ⟨o, _, _, _, _, _, ho, _⟩ := hW2; exact ⟨o, ho⟩
    obtain ⟨ord2, hord2, O2⟩ := over_set (prog := prog) (A := A.deeper (envOfC _ _ h.objs.size _ _)) hA.hdl hW2
    have F5 := Fr.sub F4 hS5
    have N5 := News.add F4 (News.sub N4 hS5) hD2 hod2
    refine ⟨fun j m var => m (Str.ofString "plain") = some (.ref P) ∧ m (Str.ofString "late") = some (.ref a2) ∧ m (Str.ofString "share") = some (.int c t) ∧ m (Str.ofString "a") = some (.int a ta) ∧ ∃ o kvs tt, var = [(P, o)] ∧ ODict prog w o kvs ∧ Paired TabR tt kvs ∧
      TabC c (sums z (ord.take i) (dedup (modL z n2)) ++ (ord2.take j).map fun b => (a + b) % z) tt, h5, tk5, _, _, _, _, [(P, o)], [(D2, od2), (I, oI), (D1, od1), (h.objs.size + 1, oc)], rfl, O2, F5, fun p hp => ?_, ?_, ⟨j1, j2, j3, rfl, _, kvs, tt, rfl, jO, jT, by simpa using jC⟩, ?_, ?_⟩
    · rcases List.mem_cons.mp hp with rfl | hp
      · exact N5 _ (.tail _ (.tail _ (.head _)))
      · rcases List.mem_cons.mp hp with rfl | hp
        · exact N5 _ (.head _)
        · rcases List.mem_cons.mp hp with rfl | hp
          · exact N5 _ (.tail _ (.head _))
          · exact N5 _ (.tail _ (.tail _ (.tail _ hp)))
    · intro b hb
      have : b = D2 := by simpa using hb
      subst this
      exact ⟨(N5 _ (.head _)).2.1, .inr ⟨od2, .head _⟩⟩
    · rintro j v m₂ var₂ h6 tk6 I2 oI2 hj ⟨b, tb, hordj, rfl⟩ ⟨j1, j2, j3, j4, o, kvs, tt, rfl, jO, jT, jC⟩ F6 N6 hvI2
      have hD2P : D2 ≠ P := fun e => by rw [e, (N4 _ (.tail _ (.head _))).1] at hD2; cases hD2
      have hPI2 : P ≠ I2 := hvI2 _ (.head _)
      have N6' : News h h.objs.size h6 ((P, o) :: [(I2, oI2), (D2, od2), (I, oI), (D1, od1), (h.objs.size + 1, oc)]) := fun p hp => by
        rcases List.mem_cons.mp hp with rfl | hp
        · exact N6 _ (.tail _ (.head _))
        · rcases List.mem_cons.mp hp with rfl | hp
          · exact N6 _ (.head _)
          · exact N6 _ (.tail _ (.tail _ hp))
      have hdis : ∀ p ∈ [(I2, oI2), (D2, od2), (I, oI), (D1, od1), (h.objs.size + 1, oc)], p.1 ≠ P := by
        intro p hp
        simp only [List.mem_cons, List.not_mem_nil, or_false] at hp
        rcases hp with rfl | rfl | rfl | rfl | rfl
        · exact Ne.symm hPI2
        · exact hD2P
        · exact Ne.symm hPI
        · exact hD1P
        · exact hcP
      have hcell : h6.IsCell (h.objs.size + 1) (some (.int z u)) := ⟨oc, N6'.get (.tail _ (.tail _ (.tail _ (.tail _ (.tail _ (.head _)))))), dc⟩
      have hdo : h6.DictOf (intKind prog w) P kvs := jO _ _ (N6' _ (.head _)).1
      have htl : kvs.length ≤ 12 := by rw [← jT.length]; exact jC.len
      refine wpAny_execs_cons (wpAny_Assign_Subscript ?_ rfl)
      have evk : ∀ {Q : Value → Shared → Prop} {tk : Nat} {E : Value → Shared → Prop} {p1 p2 p3 p4 p5 : Pos} {sc : Scope} {nm : Str} {f : Addr} {cd : Value} {A : Around}, (envOfC nm sc h.objs.size f cd).kindOf (Str.ofString "a") = some .local → (envOfC nm sc h.objs.size f cd).kindOf (Str.ofString "b") = some .local →
          (envOfC nm sc h.objs.size f cd).kindOf (Str.ofString "size") = some .cell → (envOfC nm sc h.objs.size f cd).cells.lookup (Str.ofString "size") = some (h.objs.size + 1) → sc.kind = .function →
          (∀ t tk', Q (.int ((a + b) % z) t) (St s h6 tk')) →
          wpAny (model prog w) A (eval (.BinOp (.BinOp (.Name (Str.ofString "a") p1) .Add (.Name (Str.ofString "b") p2) p3) .Mod (.Name (Str.ofString "size") p4) p5) (envOfC nm sc h.objs.size f cd)) Q E (St s h6 tk) := by
        intro Q tk E p1 p2 p3 p4 p5 sc nm f cd A ka kb kz cz kf q
        refine wpAny_BinOp (wpAny_BinOp (nm_loc F6.ns (v := .int a ta) j4 (nm_loc F6.ns rfl ?_ kf kb) kf ka))
        refine w_add fun t1 k1 => nm_cell cz hcell ?_ kf kz
        exact w_mod hz fun t2 k2 => q t2 k2
      refine wpAny_BinOp ?_
      refine MethodCall_ (nm_loc F6.ns (v := .ref P) j1 ?_ rfl rfl)
      refine getMethod_builtin hdo.typeIs PySem.F.plainAttrs_dict PySem.F.slot_dict_get PySem.F.type_dict_get hdo.mapOf.noDict ?_
      refine callWith_builtin rfl (evalArgs_plain (spliced_cons (evk rfl rfl rfl rfl rfl fun t1 k1 => ?_)))
      refine spliced_cons ?_
      refine w_int (k := 0) (pos := ⟨83, 61, 83, 62⟩) fun t2 k2 => ?_
      refine spliced_nil ?_
      refine get_dict hdo hPs fun k3 => ?_
      refine nm_loc F6.ns (v := .int c t) j3 ?_ rfl rfl
      have hlook := tab_look ((a + b) % z) jT
      have key : ∀ (x : Value), IntIs ((lookT tt ((a + b) % z)).getD 0 + c) x → Paired TabR (bump tt ((a + b) % z) c) (stored kvs ((a + b) % z) x) := fun x hx => tab_store _ _ hx jT
      have hval : ∃ tv, (valueAt kvs ((a + b) % z)).getD (.int 0 t2) = .int ((lookT tt ((a + b) % z)).getD 0) tv := by
        cases hv : lookT tt ((a + b) % z) with
        | none => rw [hv] at hlook; have hlook : valueAt kvs ((a + b) % z) = none := hlook; exact ⟨t2, by rw [hlook]; rfl⟩
        | some v0 => rw [hv] at hlook; obtain ⟨x, hx, tx, rfl⟩ := hlook; exact ⟨tx, by rw [hx]; rfl⟩
      obtain ⟨tv, htv⟩ := hval
      rw [htv]
      refine w_add fun t4 k4 => ?_
      refine nm_loc F6.ns (v := .ref P) j1 ?_ rfl rfl
      refine evk rfl rfl rfl rfl rfl fun t5 k5 => ?_
      refine put_led (o := o) (rest := [(I2, oI2), (D2, od2), (I, oI), (D1, od1), (h.objs.size + 1, oc)]) F6 N6' hdis jO (by omega) fun h7 k7 o7 F7 N7 hO7 => ?_
      refine wpAny_execs_nil ⟨rfl, h7, k7, _, [(P, o7)], rfl, F7, fun p hp => ?_, fun p hp => ?_, j1, j2, j3, j4, o7, _, _, rfl, hO7, key _ ⟨t4, rfl⟩, ?_⟩
      · rcases List.mem_cons.mp hp with rfl | hp
        · exact N7 _ (.tail _ (.head _))
        · rcases List.mem_cons.mp hp with rfl | hp
          · exact N7 _ (.head _)
          · exact N7 _ (.tail _ (.tail _ hp))
      · rcases List.mem_cons.mp hp with rfl | hp
        · exact hPI2
        · cases hp
      · have hpos : 0 ≤ (a + b) % z := Int.emod_nonneg _ (by omega)
        have hlt : (a + b) % z < z := Int.emod_lt_of_pos _ hz
        have := jC.bump ((a + b) % z) hpos (by omega)
        rw [List.take_add_one, hordj, List.map_append, ← List.append_assoc]
        exact this
    · rintro h6 tk6 m6 var6 F6 N6 ⟨j1, j2, j3, j4, o, kvs, tt, rfl, jO, jT, jC⟩
      dsimp only
      have N6' : News h h.objs.size h6 ((I, oI) :: (P, o) :: [(D1, od1), (h.objs.size + 1, oc)]) := fun p hp => by
        rcases List.mem_cons.mp hp with rfl | hp
        · exact N6 _ (.tail _ (.tail _ (.head _)))
        · rcases List.mem_cons.mp hp with rfl | hp
          · exact N6 _ (.head _)
          · exact N6 _ (.tail _ (.tail _ (.tail _ hp)))
      refine wpAny_execs_nil ⟨rfl, h6, tk6, _, [(P, o)], rfl, F6, N6', fun p hp => ?_, j1, j2, j3, o, kvs, tt, rfl, jO, jT, ?_⟩
      · rcases List.mem_cons.mp hp with rfl | hp
        · exact hPI
        · cases hp
      · rw [List.take_length] at jC
        rw [List.take_add_one, hordi]
        refine jC.perm ?_
        show List.Perm _ (sums z (ord.take i ++ [a]) _)
        rw [sums_snoc]
        exact List.Perm.append_left _ ((hord2.trans hp2).map _)
  · rintro h6 tk6 m6 var6 F6 N6 ⟨j1, j2, j3, o, kvs, tt, rfl, jO, jT, jC⟩
    dsimp only
    rw [List.take_length] at jC
    refine wpAny_execs_cons (wpAny_Return_some (nm_loc F6.ns (v := .ref P) j1 ?_ rfl rfl))
    exact q P tt h6 _ hP0 hPs F6.keep ⟨kvs, jO _ _ (N6 _ (.head _)).1, jT⟩ (jC.perm (sums_perm (hord.trans hp1)))
end
end Mine
end
section -- S5
open PySem PySem.W PySem.Calls PyProof.Rows
namespace Mine
theorem compTurn_set2 (elt t1 i1 t2 i2 : Expr) (scope : Scope) (pos : Pos) (it acc : Value) (env : Env) :
    compTurn (.SetComp elt [⟨t1, i1, [], 0⟩, ⟨t2, i2, [], 0⟩] scope pos) 0 it acc env = (do
      standAt i1.pos
      match ← pyNext it with
      | none => pure (.done .next)
      | some v =>
        letOwnedTupleGo t1 it v
        assign t1 env v
        let x ← eval i2 env
        standAt i2.pos
        let x ← foldedSetIterable i2 env x
        let _ ← runOwn (.compStart (.SetComp elt [⟨t1, i1, [], 0⟩, ⟨t2, i2, [], 0⟩] scope pos) 1 (← holding [x] (pyIter x)) acc env) env
        again (.compLoop (.SetComp elt [⟨t1, i1, [], 0⟩, ⟨t2, i2, [], 0⟩] scope pos) 0 it acc env)) := by rfl
theorem compTurn_set3 (elt t1 i1 t2 i2 : Expr) (scope : Scope) (pos : Pos) (it acc : Value) (env : Env) :
    compTurn (.SetComp elt [⟨t1, i1, [], 0⟩, ⟨t2, i2, [], 0⟩] scope pos) 1 it acc env = (do
      standAt i2.pos
      match ← pyNext it with
      | none => pure (.done .next)
      | some v =>
        letOwnedTupleGo t2 it v
        assign t2 env v
        (do let v ← eval elt env; standAt elt.pos; let _ ← call (.builtin "set.add") [acc, v])
        again (.compLoop (.SetComp elt [⟨t1, i1, [], 0⟩, ⟨t2, i2, [], 0⟩] scope pos) 1 it acc env)) := by rfl
section
variable {prog : Program} {w : World} {A : Around} {E : Value → Shared → Prop} {R : Result → Shared → Prop} {s : Shared} {h : Heap} {tk : Nat} {env : Env}
theorem compLoop_in {elt t1 i1 t2 i2 : Expr} {scope : Scope} {pos : Pos} {it acc : Value} {env : Env} (I : Nat → Shared → Prop)
    (turn : ∀ n s, I n s → wpAny (model prog w) A (pyNext it) (fun r s₁ => match r with
      | none => R (.ok .next) s₁
      | some v => wpAny (model prog w) A (assign t2 env v) (fun _ s₂ =>
          wpAny (model prog w) A (eval elt env) (fun x s₄ =>
              wpAny (model prog w) A (call (.builtin "set.add") [acc, x]) (fun _ s₅ => ∃ m, m < n ∧ I m s₅) (notedBy (model prog w) A env fun e s' => R (.error e) s') s₄) (notedBy (model prog w) A env fun e s' => R (.error e) s') s₂) (notedBy (model prog w) A env fun e s' => R (.error e) s') s₁) (notedBy (model prog w) A env fun e s' => R (.error e) s') s)
    (n : Nat) (h : I n s) (ht : ∀ v, letOwnedTupleGo t2 it v = pure () := by intro _; rfl) :
    codeAny (model prog w) A (.compLoop (.SetComp elt [⟨t1, i1, [], 0⟩, ⟨t2, i2, [], 0⟩] scope pos) 1 it acc env) R s := by
  refine codeAny_loop rfl I (fun n s hI => ?_) n h
  show wpAny _ A ((compTurn (.SetComp elt [⟨t1, i1, [], 0⟩, ⟨t2, i2, [], 0⟩] scope pos) 1 it acc env).onRaise (fun x => do noteFrame x env; theTreesLotGoes x)) _ _ s
  refine wpAny_noted ?_
  rw [compTurn_set3]
  refine wpAny_bind (wpAny_standAt (wpAny_bind (wpAny_mono (turn n s hI) (fun r s₁ h₁ => ?_) fun _ _ h' => h')))
  cases r with
  | none => exact wpAny_pure h₁
  | some v =>
    refine wpAny_bind (wpAny_of_eq (ht v) ?_)
    refine wpAny_bind (wpAny_mono h₁ (fun _ s₂ h₂ => ?_) fun _ _ h' => h')
    exact wpAny_bind (wpAny_bind (wpAny_mono h₂ (fun x s₄ h₄ => wpAny_bind (wpAny_standAt (wpAny_bind (wpAny_mono h₄ (fun _ s₅ h₅ => wpAny_pure (wpAny_pure ⟨rfl, h₅⟩)) fun _ _ h' => h')))) fun _ _ h' => h'))
theorem compLoop_out {elt t1 i1 t2 i2 : Expr} {scope : Scope} {pos : Pos} {it acc : Value} {env : Env} (I : Nat → Shared → Prop)
    (turn : ∀ n s, I n s → wpAny (model prog w) A (pyNext it) (fun r s₁ => match r with
      | none => R (.ok .next) s₁
      | some v => wpAny (model prog w) A (assign t1 env v) (fun _ s₂ =>
          wpAny (model prog w) A (eval i2 env) (fun x s₃ => wpAny (model prog w) A (pyIter x) (fun it2 s₄ =>
              codeAny (model prog w) A (.compStart (.SetComp elt [⟨t1, i1, [], 0⟩, ⟨t2, i2, [], 0⟩] scope pos) 1 it2 acc env) (fun r s₅ => match r with | .ok _ => ∃ m, m < n ∧ I m s₅ | .error _ => False) s₄)
            (notedBy (model prog w) A env fun e s' => R (.error e) s') s₃) (notedBy (model prog w) A env fun e s' => R (.error e) s') s₂) (notedBy (model prog w) A env fun e s' => R (.error e) s') s₁) (notedBy (model prog w) A env fun e s' => R (.error e) s') s)
    (n : Nat) (h : I n s) (hs : ∀ x, foldedSetIterable i2 env x = pure x) (ht : ∀ v, letOwnedTupleGo t1 it v = pure () := by intro _; rfl) :
    codeAny (model prog w) A (.compLoop (.SetComp elt [⟨t1, i1, [], 0⟩, ⟨t2, i2, [], 0⟩] scope pos) 0 it acc env) R s := by
  refine codeAny_loop rfl I (fun n s hI => ?_) n h
  show wpAny _ A ((compTurn (.SetComp elt [⟨t1, i1, [], 0⟩, ⟨t2, i2, [], 0⟩] scope pos) 0 it acc env).onRaise (fun x => do noteFrame x env; theTreesLotGoes x)) _ _ s
  refine wpAny_noted ?_
  rw [compTurn_set2]
  refine wpAny_bind (wpAny_standAt (wpAny_bind (wpAny_mono (turn n s hI) (fun r s₁ h₁ => ?_) fun _ _ h' => h')))
  cases r with
  | none => exact wpAny_pure h₁
  | some v =>
    refine wpAny_bind (wpAny_of_eq (ht v) ?_)
    refine wpAny_bind (wpAny_mono h₁ (fun _ s₂ h₂ => ?_) fun _ _ h' => h')
    refine wpAny_bind (wpAny_mono h₂ (fun x s₃ h₃ => wpAny_bind (wpAny_standAt (wpAny_bind (wpAny_of_eq (hs x) (wpAny_bind (wpAny_holding (wpAny_mono h₃ (fun it2 s₄ h₄ => ?_) fun _ _ h' => h'))))))) fun _ _ h' => h')
    refine wpAny_bind (wpAny_runOwn ?_)
    rw [Around.mark_none]
    refine codeAny_mono h₄ fun r s₅ h₅ => ?_
    cases r with
    | ok f => exact wpAny_pure ⟨rfl, h₅⟩
    | error e => exact h₅.elim
theorem compStart_in {elt t1 i1 t2 i2 : Expr} {scope : Scope} {pos : Pos} {it acc : Value} {env : Env}
    (h0 : codeAny (model prog w) A (.compLoop (.SetComp elt [⟨t1, i1, [], 0⟩, ⟨t2, i2, [], 0⟩] scope pos) 1 it acc env) R s)
    (h : wpAny (model prog w) A (pyIter it) (fun it' s' => codeAny (model prog w) A (.compLoop (.SetComp elt [⟨t1, i1, [], 0⟩, ⟨t2, i2, [], 0⟩] scope pos) 1 it' acc env) R s')
      (notedBy (model prog w) A env fun x s' => R (.error x) s') s) :
    codeAny (model prog w) A (.compStart (.SetComp elt [⟨t1, i1, [], 0⟩, ⟨t2, i2, [], 0⟩] scope pos) 1 it acc env) R s := by
  refine codeAny_of_tree ?_
  show wpAny _ _ ((compStart (.SetComp elt [⟨t1, i1, [], 0⟩, ⟨t2, i2, [], 0⟩] scope pos) 1 it acc env).onRaise (fun x => do noteFrame x env; standAt theWindowsPlace)) _ _ s
  refine wpAny_notedAt ?_
  unfold compStart
  show wpAny _ _ (ask >>= _) _ _ s
  refine wpAny_bind (wpAny_askSetting (wpAny_ite ?_))
  split
  · first
      | exact wpAny_bind (wpAny_pure (wpAny_pure (And.intro rfl h0)))
      | exact wpAny_pure (And.intro rfl h0)
  · first
      | exact wpAny_bind (wpAny_rule (wpAny_bind (wpAny_standAt (wpAny_bind (wpAny_mono h (fun it' s' h' => wpAny_pure (And.intro rfl h')) fun _ _ x => x)))))
      | (refine wpAny_bind (wpAny_rule ?_); show wpAny _ _ (standAt i2.pos >>= _) _ _ s; exact wpAny_bind (wpAny_standAt (wpAny_bind (wpAny_mono h (fun it' s' h' => wpAny_pure (And.intro rfl h')) fun _ _ x => x))))
end
end Mine
end
section -- S6
open PySem PySem.W PySem.Calls PyProof.Rows
namespace Mine
/-- a set whose size is that of the list ks -/
def SetN (prog : Program) (w : World) (h : Heap) (a : Addr) (ks : List Int) : Prop := ∃ S n, h.SetOf (intKind prog w) a S n ∧ (∀ k, S k = true ↔ k ∈ ks) ∧ ks.Nodup ∧ ks.length = n
section
variable {prog : Program} {w : World} {A : Around} {E : Value → Shared → Prop} {R : Result → Shared → Prop} {s : Shared} {h : Heap} {tk : Nat} {env : Env}
theorem SetN.at {a : Addr} {ks : List Int} {h' : Heap} (x : SetN prog w h a ks) (e : ∀ o, h.get? a = some o → h'.get? a = some o) : SetN prog w h' a ks := by
  obtain ⟨S, n, ⟨o, es, ep, t, ho, r⟩, x⟩ := x; exact ⟨S, n, ⟨o, es, ep, t, e _ ho, r⟩, x⟩
theorem set_addN {a : Addr} {ks : List Int} {k : Int} {t : Tok} {Q : Value → Shared → Prop} (hW : SetN prog w h a ks) (hl : ks.length ≤ 100)
    (q : ∀ h' ks' tk', Heap.SameBut a h h' → SetN prog w h' a ks' → (∀ y, y ∈ ks' ↔ y ∈ ks ∨ y = k) → Q .none (St s h' tk')) :
    wpAny (model prog w) A (call (.builtin "set.add") [.ref a, .int k t]) Q E (St s h tk) := by
  obtain ⟨S, n, hS, hm, hnd, hn⟩ := hW
  refine call_set_add (s := St s h tk) (knd := intKind prog w) (k := k) (intKind_is _ _ _ _) rfl hS (by unfold scanBound; omega) fun h' hsb hS' => ?_
  cases hk : S k with
  | true =>
    have hmem := (hm k).mp hk
    rw [hk] at hS'
    refine q h' ks _ hsb ⟨_, _, hS', fun y => ?_, hnd, hn⟩ fun y => ⟨.inl, fun e => e.elim id fun e => e ▸ hmem⟩
    rw [Bool.or_eq_true, decide_eq_true_eq, hm]
    exact ⟨fun e => e.elim id fun e => e ▸ hmem, .inl⟩
  | false =>
    have hnot : k ∉ ks := fun e => by rw [(hm k).mpr e] at hk; cases hk
    rw [hk] at hS'
    refine q h' (k :: ks) _ hsb ⟨_, _, hS', fun y => ?_, List.nodup_cons.mpr ⟨hnot, hnd⟩, by rw [List.length_cons, hn]; rfl⟩ fun y => by rw [List.mem_cons]; exact ⟨fun e => e.elim .inr .inl, fun e => e.elim .inr .inl⟩
    rw [Bool.or_eq_true, decide_eq_true_eq, hm, List.mem_cons]
    exact ⟨fun e => e.elim .inr .inl, fun e => e.elim .inr .inl⟩
/-- a set comprehension with two clauses -/
theorem sc2 {elt iter1 iter2 : Expr} {x1 x2 : Str} {px1 px2 : Pos} {scope : Scope} {cl : List (Str × Addr)} {pos : Pos} {env : Env} {Q : Value → Shared → Prop} (g : Nat → Nat → Int)
    (hclos : closureFor scope env = pure cl) (hcell : ∀ y ∈ scope.names, y.2 ≠ .cell) (hkind : scope.kind = .function)
    (hnames : ∀ y ∈ scope.names, y.2 = .local → scope.names.lookup y.1 = some .local) (hx1 : scope.names.lookup x1 = some .local) (hx2 : scope.names.lookup x2 = some .local) (h12 : x1 ≠ x2)
    (hs : ∀ x, foldedSetIterable iter1 env x = pure x) (hs2 : ∀ env x, foldedSetIterable iter2 env x = pure x)
    (k : wpAny (model prog w) A (eval iter1 env) (fun xv s₁ => ∃ h₁ tk₁ n1 P fx a2 its2, s₁ = St s h₁ tk₁ ∧ Over prog w A h₁ xv n1 P fx ∧ n1 ≤ 4 ∧ (∀ b ∈ fx, ∃ o, h₁.get? b = some o) ∧ h₁.IsList a2 its2 ∧ its2.size ≤ 12 ∧ A.handled = none ∧
      (∀ C h₃ tk₃ m₃ E' (Q' : Value → Shared → Prop), h₁.get? C = none → h₃.Ns C m₃ → Sub h₁ h₃ → Q' (.ref a2) (St s h₃ tk₃) → wpAny (model prog w) A (eval iter2 (compEnvC scope cl C env)) Q' E' (St s h₃ tk₃)) ∧
      (∀ C i j v1 v2 h₃ tk₃ m₃ E', h₁.get? C = none → P i v1 → its2[j]? = some v2 → h₃.Ns C m₃ → m₃ x1 = some v1 → m₃ x2 = some v2 → Sub h₁ h₃ →
        wpAny (model prog w) A (eval elt (compEnvC scope cl C env)) (fun y s₄ => (∃ t, y = .int (g i j) t) ∧ Keeps (St s h₃ tk₃) s₄) E' (St s h₃ tk₃)) ∧
      (∀ D h' tk' ks, h₁.get? D = none → Sub h₁ h' → SetN prog w h' D ks → (∀ y, y ∈ ks ↔ ∃ i j, i < n1 ∧ j < its2.size ∧ y = g i j) → Q (.ref D) (St s h' tk'))) E (St s h tk)) :
    wpAny (model prog w) A (eval (.SetComp elt [⟨.Name x1 px1, iter1, [], 0⟩, ⟨.Name x2 px2, iter2, [], 0⟩] scope pos) env) Q E (St s h tk) := by
  rw [arm_eval_SetComp]
  refine wpAny_comprehension_free (use := none) (g := ⟨.Name x1 px1, iter1, [], 0⟩) (gs := [⟨.Name x2 px2, iter2, [], 0⟩]) rfl hs hclos hkind hnames ?_
  show wpAny _ _ (eval iter1 env) _ _ _
  refine wpAny_mono k (fun xv s₁ q => ?_) fun _ _ e => e
  obtain ⟨h₁, tk₁, n1, P, fx, a2, its2, rfl, O, hn, hfxo, hl2, hz2, hh, B2, B, fin⟩ := q
  refine O.go fun I h₂ fp S hS hI W hst hfp hfx hIo => ?_
  refine wpAny_newSet_of (knd := intKind prog w) fun led hW0 => ?_
  show wpAny _ _ _ _ _ (St s (h₂.push { cls := .type "set", dict := none, data := .set #[] 0 (.fresh 0 0 led) }) tk₁)
  have hW0 : SetN prog w (h₂.push { cls := .type "set", dict := none, data := .set #[] 0 (.fresh 0 0 led) }) h₂.objs.size [] := ⟨_, _, hW0, fun k => by simp, List.nodup_nil, rfl⟩
  show wpAny _ _ (newFunctionEnv _ _ _ _ _ _ _ _) (fun cenv s₄ => codeAny _ _ (.compStart _ 0 (.ref I) (.ref h₂.objs.size) _) (compPost (model prog w) A E none Q (.ref h₂.objs.size) _) s₄) _ _
  generalize hH2 : h₂.push { cls := .type "set", dict := none, data := .set #[] 0 (.fresh 0 0 led) } = H2 at hW0 ⊢
  refine wpAny_newFunctionEnv hcell (by intro y hy; simp at hy) (fun h₃ hns₁ hsb₁ => ?_) hkind
  dsimp only at hns₁ hsb₁ ⊢
  have hC : H2.objs.size = h₂.objs.size + 1 := by rw [← hH2, Heap.size_push]
  have hDC : h₂.objs.size ≠ H2.objs.size := by rw [hC]; exact Nat.ne_of_lt (Nat.lt_succ_self _)
  have below : ∀ b, b < h₂.objs.size → b ≠ H2.objs.size ∧ b ≠ h₂.objs.size := fun b hb => ⟨by rw [hC]; exact Nat.ne_of_lt (Nat.lt_succ_of_lt hb), Nat.ne_of_lt hb⟩
  have hDf : h₂.objs.size ∉ fp := fun hm => Nat.lt_irrefl _ (hfp _ hm)
  have hCf : H2.objs.size ∉ fp := fun hm => by have := hfp _ hm; rw [hC] at this; exact Nat.lt_irrefl _ (Nat.lt_of_succ_lt this)
  have old : ∀ b o, h₂.get? b = some o → h₃.get? b = some o := fun b o e => hsb₁.extBut b o (below b (Heap.lt_size e)).1 (Heap.get?_push_of_some _ (hH2 ▸ Heap.get?_push_of_some _ e))
  have hacc : SetN prog w h₃ h₂.objs.size [] := hW0.at fun o e => hsb₁.extBut _ _ hDC (Heap.get?_push_of_some _ e)
  have hst₁ : S 0 h₃ := W.frame _ _ _ hst fun b _ o e => old b o e
  have lt₁ : ∀ {b : Addr} {o : Obj}, h₁.get? b = some o → b ≠ I ∧ b ≠ H2.objs.size ∧ b ≠ h₂.objs.size := fun {b o} e => by
    have := below b (Heap.lt_size (hS _ _ e))
    exact ⟨fun e1 => (by subst e1; rw [hI] at e; cases e), this.1, this.2⟩
  have low : ∀ {C : Addr}, h₂.objs.size ≤ C → h₁.get? C = none := fun {C} hC => by
    cases e : h₁.get? C with
    | none => rfl
    | some o => exact absurd (Heap.lt_size (hS _ _ e)) (Nat.not_lt.mpr hC)
  have hCw : H2.objs.size ∉ [I] := fun hm => hCf (W.sub _ hm)
  have hDw : h₂.objs.size ∉ [I] := fun hm => hDf (W.sub _ hm)
  have hIlt : ∀ b ∈ fp, b < h₂.objs.size := hfp
  have loop : ∀ s₃ : Shared, s₃ = St s h₃ tk₁ → codeAny (model prog w) A (.compLoop (.SetComp elt [⟨.Name x1 px1, iter1, [], 0⟩, ⟨.Name x2 px2, iter2, [], 0⟩] scope pos) 0 (.ref I) (.ref h₂.objs.size) (compEnvC scope cl H2.objs.size env))
      (compPost (model prog w) A E none Q (.ref h₂.objs.size) H2.objs.size) s₃ := by
    rintro s₃ rfl
    refine compLoop_out (fun k s' => ∃ h' tk' m' ks i, s' = St s h' tk' ∧ i ≤ n1 ∧ k = n1 + 1 - i ∧ S i h' ∧ SetN prog w h' h₂.objs.size ks ∧ ks.length ≤ i * 12 ∧ (∀ y, y ∈ ks ↔ ∃ a b, a < i ∧ b < its2.size ∧ y = g a b) ∧ h'.Ns H2.objs.size m' ∧ Sub h₁ h') ?_ (n1 + 1)
      ⟨h₃, tk₁, _, [], 0, rfl, Nat.zero_le _, rfl, hst₁, hacc, Nat.le_refl _, fun y => ⟨fun e => (List.not_mem_nil e).elim, fun ⟨_, _, e, _⟩ => absurd e (Nat.not_lt_zero _)⟩, hns₁, fun b o e => old b o (hS b o e)⟩ (hs2 _)
    rintro k s' ⟨h', tk', m', ks, i, rfl, hi, rfl, hst', hW', hlen, hks, hn', up'⟩
    by_cases hlt : i < n1
    · refine W.item i _ _ _ hlt hst' fun v h₄ tk₄ hPv hst₄ hk₄ => ?_
      refine wpAny_assign_Name (wpAny_storeName_local (lookup_relabel_local hx1) (hn'.at' fun o e => hk₄ _ o hCw e) (fun h₅ hn₅ hs₅ => ?_) (by simp [compEnvC, relabel, hkind]))
      have up₅ : Sub h₁ h₅ := fun b o e => hs₅.extBut b o (lt₁ e).2.1 (hk₄ b o (by simpa using (lt₁ e).1) (up' b o e))
      have hC1 : h₁.get? H2.objs.size = none := low (by rw [hC]; exact Nat.le_succ _)
      have hst₅ : S (i + 1) h₅ := W.frame _ _ _ hst₄ fun b hb o e => hs₅.extBut b o (fun q => hCf (by have q' : b = H2.objs.size := q; rw [← q']; exact hb)) e
      have hW₅ : SetN prog w h₅ h₂.objs.size ks := hW'.at fun o e => hs₅.extBut _ o hDC (hk₄ _ o hDw e)
      refine B2 _ h₅ _ _ _ _ hC1 hn₅ up₅ ?_
      refine (over_list hh (hl2.at fun o e => up₅ _ o e)).go fun I2 h₆ fp2 S2 hS6 hI2 W2 hst2 hfp2 hfx2 _ => ?_
      have exC : ∃ o, h₅.get? H2.objs.size = some o := by obtain ⟨o, _, _, e, _⟩ := hn₅; exact ⟨o, e⟩
      have exD : ∃ o, h₅.get? h₂.objs.size = some o := by obtain ⟨_, _, ⟨o, _, _, _, e, _⟩, _⟩ := hW₅; exact ⟨o, e⟩
      have neI : ∀ {b : Addr}, (∃ o, h₅.get? b = some o) → b ≠ I2 := fun ⟨o, e⟩ e1 => by rw [e1, hI2] at e; cases e
      have exA : ∃ o, h₁.get? a2 = some o := by obtain ⟨o, e, _⟩ := hl2; exact ⟨o, e⟩
      have hC2 : H2.objs.size ∉ fp2 := fun hm => by
        rcases hfx2 _ hm with e | e
        · exact neI exC e
        · obtain ⟨o, ho⟩ := exA
          exact (lt₁ ho).2.1 (List.mem_singleton.mp e).symm
      have hD2 : h₂.objs.size ∉ fp2 := fun hm => by
        rcases hfx2 _ hm with e | e
        · exact neI exD e
        · obtain ⟨o, ho⟩ := exA
          exact (lt₁ ho).2.2 (List.mem_singleton.mp e).symm
      have hI2f : I2 ∉ fp := fun hm => by
        rcases hfx _ hm with e | e
        · exact neI (hIo _ _ hst₅) e.symm
        · obtain ⟨o, ho⟩ := hfxo _ e
          exact neI ⟨o, up₅ _ _ ho⟩ rfl
      have hnd0 : ∀ {h : Heap} {ks : List Int}, SetN prog w h h₂.objs.size ks → ks.Nodup := fun ⟨_, _, _, _, a, _⟩ => a
      have loop2 : ∀ s₃ : Shared, (∃ k, s₃ = St s h₆ k) → codeAny (model prog w) A (.compLoop (.SetComp elt [⟨.Name x1 px1, iter1, [], 0⟩, ⟨.Name x2 px2, iter2, [], 0⟩] scope pos) 1 (.ref I2) (.ref h₂.objs.size) (compEnvC scope cl H2.objs.size env))
          (fun r s₅ => match r with | .ok _ => ∃ m, m < n1 + 1 - i ∧ ∃ h' tk' m' ks i, s₅ = St s h' tk' ∧ i ≤ n1 ∧ m = n1 + 1 - i ∧ S i h' ∧ SetN prog w h' h₂.objs.size ks ∧ ks.length ≤ i * 12 ∧ (∀ y, y ∈ ks ↔ ∃ a b, a < i ∧ b < its2.size ∧ y = g a b) ∧ h'.Ns H2.objs.size m' ∧ Sub h₁ h' | .error _ => False) s₃ := by
        rintro s₃ ⟨k0, rfl⟩
        refine compLoop_in (fun k s' => ∃ h' tk' m' kk j, s' = St s h' tk' ∧ j ≤ its2.size ∧ k = its2.size + 1 - j ∧ S2 j h' ∧ SetN prog w h' h₂.objs.size kk ∧ kk.length ≤ i * 12 + j ∧ (∀ y, y ∈ kk ↔ y ∈ ks ∨ ∃ b, b < j ∧ y = g i b) ∧ h'.Ns H2.objs.size m' ∧ m' x1 = some v ∧ Sub h₁ h' ∧ S (i + 1) h') ?_ (its2.size + 1)
          ⟨h₆, k0, _, ks, 0, rfl, Nat.zero_le _, rfl, hst2, hW₅.at fun o e => hS6 _ o e, by omega, fun y => ⟨.inl, fun e => e.elim id fun ⟨_, e, _⟩ => absurd e (Nat.not_lt_zero _)⟩, hn₅.at' fun o e => hS6 _ o e, by simp, fun b o e => hS6 _ o (up₅ b o e), W.frame _ _ _ hst₅ fun b _ o e => hS6 b o e⟩
        rintro k s' ⟨h7, tk7, m7, kk, j, rfl, hj, rfl, hst7, hW7, hlen7, hkk, hn7, hx7, up7, hS7⟩
        have hCw2 : H2.objs.size ∉ [I2] := fun hm => hC2 (W2.sub _ hm)
        have hDw2 : h₂.objs.size ∉ [I2] := fun hm => hD2 (W2.sub _ hm)
        have frI : ∀ {h8 : Heap}, (∀ b o, b ∉ [I2] → h7.get? b = some o → h8.get? b = some o) → Sub h₁ h8 ∧ S (i + 1) h8 := fun {h8} hk => ⟨fun b o e => hk b o (by simpa using neI ⟨o, up₅ b o e⟩) (up7 b o e), W.frame _ _ _ hS7 fun b hb o e => hk b o (by
            have : b ≠ I2 := fun q => hI2f (q ▸ hb)
            simpa using this) e⟩
        by_cases hlt2 : j < its2.size
        · refine W2.item j _ _ _ hlt2 hst7 fun v2 h8 tk8 hPv2 hst8 hk8 => ?_
          obtain ⟨up8, hS8⟩ := frI hk8
          refine wpAny_assign_Name (wpAny_storeName_local (lookup_relabel_local hx2) (hn7.at' fun o e => hk8 _ o hCw2 e) (fun h9 hn9 hs9 => ?_) (by simp [compEnvC, relabel, hkind]))
          have up9 : Sub h₁ h9 := fun b o e => hs9.extBut b o (lt₁ e).2.1 (up8 b o e)
          have hS9 : S (i + 1) h9 := W.frame _ _ _ hS8 fun b hb o e => hs9.extBut b o (fun q => hCf (by have q' : b = H2.objs.size := q; rw [← q']; exact hb)) e
          have hst9 : S2 (j + 1) h9 := W2.frame _ _ _ hst8 fun b hb o e => hs9.extBut b o (fun q => hC2 (by have q' : b = H2.objs.size := q; rw [← q']; exact hb)) e
          have hW9 : SetN prog w h9 h₂.objs.size kk := hW7.at fun o e => hs9.extBut _ o hDC (hk8 _ o hDw2 e)
          refine wpAny_mono (B H2.objs.size i j v v2 h9 _ _ _ hC1 hPv hPv2 hn9 (by simp [h12, hx7]) (by simp) up9) (fun y s₄ q => ?_) fun _ _ e => e
          obtain ⟨⟨t, rfl⟩, hA, tkA, rfl, hkA⟩ := q
          refine set_addN (s := s) (h := hA) (tk := tkA) (hW9.at fun o e => hkA _ o e) (by
            have : i * 12 ≤ 48 := by omega
            omega) fun hB kB tkB hsB hWB hmB => ?_
          have hkB := hsB.extBut
          have hlB : kB.length ≤ kk.length + 1 := by
            have : kB.length ≤ (g i j :: kk).length := by
              refine nodup_le (hnd0 hWB) fun y hy => ?_
              rcases (hmB y).mp hy with e | e
              · exact List.mem_cons_of_mem _ e
              · exact e ▸ List.mem_cons_self
            simpa using this
          refine ⟨its2.size + 1 - (j + 1), by omega, hB, tkB, _, kB, j + 1, rfl, hlt2, rfl, W2.frame _ _ _ hst9 fun b hb o e => hkB b o (fun q => hD2 (q ▸ hb)) (hkA b o e), hWB, by omega, fun y => ?_, (hn9.keeps hkA).at' fun o e => hkB _ o (Ne.symm hDC) e, by simp [h12, hx7],
            fun b o e => hkB b o (lt₁ e).2.2 (hkA b o (up9 b o e)), W.frame _ _ _ hS9 fun b hb o e => hkB b o (fun q => hDf (q ▸ hb)) (hkA b o e)⟩
          rw [hmB, hkk]
          constructor
          · rintro ((e | ⟨b, hb, e⟩) | e)
            · exact .inl e
            · exact .inr ⟨b, by omega, e⟩
            · exact .inr ⟨j, by omega, e⟩
          · rintro (e | ⟨b, hb, e⟩)
            · exact .inl (.inl e)
            · rcases Nat.lt_or_ge b j with h | h
              · exact .inl (.inr ⟨b, h, e⟩)
              · have : b = j := by omega
                subst this; exact .inr e
        · obtain rfl : j = its2.size := Nat.le_antisymm hj (Nat.not_lt.mp hlt2)
          refine W2.done _ _ _ hst7 fun h8 tk8 hk8 => ?_
          obtain ⟨up8, hS8⟩ := frI hk8
          refine ⟨n1 + 1 - (i + 1), by omega, h8, tk8, m7, kk, i + 1, rfl, hlt, rfl, hS8, hW7.at fun o e => hk8 _ o hDw2 e, by omega, fun y => ?_, hn7.at' fun o e => hk8 _ o hCw2 e, up8⟩
          rw [hkk, hks]
          constructor
          · rintro (⟨a, b, ha, hb, e⟩ | ⟨b, hb, e⟩)
            · exact ⟨a, b, by omega, hb, e⟩
            · exact ⟨i, b, by omega, hb, e⟩
          · rintro ⟨a, b, ha, hb, e⟩
            rcases Nat.lt_or_ge a i with h | h
            · exact .inl ⟨a, b, h, hb, e⟩
            · have : a = i := by omega
              subst this; exact .inr ⟨b, hb, e⟩
      exact compStart_in (loop2 _ ⟨_, rfl⟩) (W2.self 0 _ _ _ hst2 (loop2 _ ⟨_, rfl⟩))
    · obtain rfl : i = n1 := Nat.le_antisymm hi (Nat.not_lt.mp hlt)
      refine W.done _ _ _ hst' fun h₄ tk₄ hk₄ => ?_
      refine ⟨m', hn'.at' fun o e => hk₄ _ o hCw e, fun h'' hs'' => ?_⟩
      exact fin _ h'' tk₄ ks (low (Nat.le_refl _)) (fun b o e => hs''.extBut b o (lt₁ e).2.1 (hk₄ b o (by simpa using (lt₁ e).1) (up' b o e))) (hW'.at fun o e => hs''.extBut _ o hDC (hk₄ _ o hDw e)) hks
  exact compStart_set (loop _ rfl) (W.self 0 _ _ _ hst₁ (loop _ rfl))
end
end Mine
end
section -- C10
open PySem PySem.W PySem.Calls PyProof.Rows
namespace Mine
theorem getD_int {ns : List Int} {i : Nat} (hi : i < ns.length) : ns.getD i 0 = ns[i] := by rw [List.getD_eq_getElem?_getD, List.getElem?_eq_getElem hi]; rfl
theorem mem_sums (z : Int) (as bs : List Int) (y : Int) : y ∈ sums z as bs ↔ ∃ i j, i < as.length ∧ j < bs.length ∧ y = (as.getD i 0 + bs.getD j 0) % z := by
  unfold sums
  rw [List.mem_flatMap]
  constructor
  · rintro ⟨a, ha, hy⟩
    obtain ⟨b, hb, rfl⟩ := List.mem_map.mp hy
    obtain ⟨i, hi, rfl⟩ := List.mem_iff_getElem.mp ha
    obtain ⟨j, hj, rfl⟩ := List.mem_iff_getElem.mp hb
    exact ⟨i, j, hi, hj, by rw [getD_int hi, getD_int hj]⟩
  · rintro ⟨i, j, hi, hj, rfl⟩
    exact ⟨as[i], List.getElem_mem hi, List.mem_map.mpr ⟨bs[j], List.getElem_mem hj, by rw [getD_int hi, getD_int hj]⟩⟩
section
variable {prog : Program} {w : World} {A : Around} {E : Value → Shared → Prop} {s : Shared} {h h₁ : Heap} {tk : Nat} {p : Program} {loose : List Str} {mg mb : Str → Option Value} {Q : Value → Shared → Prop}
set_option maxHeartbeats 1000000 in
theorem c_moved (G : Gr w p loose mg mb h) (hA : Fit A 2) (a1 a2 : Addr) (y1 y2 : Array Value) (n1 n2 : List Int) (z : Int) (u : Tok) (hl1 : h.IsList a1 y1) (hi1 : Ints n1 y1.toList) (hl2 : h.IsList a2 y2) (hi2 : Ints n2 y2.toList)
    (hn1 : n1.length ≤ 4) (hn2 : n2.length ≤ 12) (hz : 0 < z)
    (q : ∀ t h' tk', Sub h h' → Q (.int ((dedup (sums z n1 n2)).length : Nat) t) (St s h' tk')) :
    wpAny (model prog w) A (call (.ref 127) [.ref a1, .ref a2, .int z u]) Q E (St s h tk) := by
  refine enterC (binds := [(("places" : Str), .ref a1), (("moves" : Str), .ref a2), (("size" : Str), .int z u)]) hA.lt G.X G.T.nolimit rfl rfl rfl rfl (by decide) rfl rfl rfl fun h₁ tk₁ cells F N Y => ?_
  obtain ⟨o1, o2, rfl, d1, d2⟩ := CellsAre.two (n := "size") (n' := "moves") Y
  have d1 : o1.data = .cell (some (.int z u)) := d1
  have d2 : o2.data = .cell (some (.ref a2)) := d2
  clear Y
  have hsz : h₁.IsCell (h.objs.size + 1 + 1) (some (.int z u)) := ⟨o1, N.get (.head _), d1⟩
  have hmv : h₁.IsCell (h.objs.size + 1) (some (.ref a2)) := ⟨o2, N.get (.tail _ (.head _)), d2⟩
  have hlen : ∀ {ns : List Int} {its : Array Value}, Ints ns its.toList → its.size = ns.length := fun {ns its} hi => by rw [← Array.length_toList]; exact hi.length.symm
  have hm2 : ∀ {i : Nat} {ns : List Int} {v : Value} {its : Array Value}, Ints ns its.toList → its[i]? = some v → ∃ t, v = .int (ns.getD i 0) t := fun {i ns v its} hi hv => by
    obtain ⟨n, t, hn, rfl⟩ := int_of hi hv
    exact ⟨t, by rw [List.getD_eq_getElem?_getD, hn]; rfl⟩
  refine wpAny_execs_cons (wpAny_Return_some ?_)
  refine Call_Name1 (nm_B (G.keeps F.keep) rfl rfl (by decide) ?_ rfl rfl rfl rfl)
  refine callWith_builtin rfl (evalArgs_plain (spliced_cons ?_))
  refine sc2 (fun i j => (n1.getD i 0 + n2.getD j 0) % z) rfl (by decide) rfl (by decide) rfl rfl (by decide) (fun _ => rfl) (fun _ _ => rfl) ?_
  refine nm_loc F.ns (v := .ref a1) rfl ?_ rfl rfl
  refine ⟨h₁, tk₁, y1.size, _, _, a2, y2, rfl, over_list hA.hdl (hl1.at fun o e => F.keep _ o e), by rw [hlen hi1]; exact hn1, ?_, hl2.at fun o e => F.keep _ o e, by rw [hlen hi2]; exact hn2, hA.hdl, ?_, ?_, ?_⟩
  · intro b hb
    have : b = a1 := by simpa using hb
    subst this
    obtain ⟨o, ho, _⟩ := hl1
    exact ⟨o, F.keep _ _ ho⟩
  · intro C h₃ tk₃ m₃ E' Q' _ _ hS q
    exact nm_cell rfl (hmv.keeps hS) q rfl rfl
  · intro C i j v1 v2 h₃ tk₃ m₃ E' _ hP hP2 hNs e1 e2 hS
    obtain ⟨t1, rfl⟩ := hm2 hi1 hP
    obtain ⟨t2, rfl⟩ := hm2 hi2 hP2
    refine wpAny_BinOp (wpAny_BinOp (nm_loc hNs e1 (nm_loc hNs e2 ?_ rfl rfl) rfl rfl))
    refine w_add fun t3 k3 => nm_cell rfl (hsz.keeps hS) ?_ rfl rfl
    exact w_mod hz fun t4 k4 => ⟨⟨t4, rfl⟩, h₃, k4, rfl, fun _ _ e => e⟩
  · intro D h' tk' ks hD hS hW hks
    rw [hlen hi1, hlen hi2] at hks
    obtain ⟨S, n, ⟨o, es, ep, tb, ho, hex, hd, _, _, hb, hf, hn⟩, _, hnd, hkn⟩ := hW
    have hp : ks.Perm (dedup (sums z n1 n2)) := dedup_perm hnd fun y => by rw [hks, mem_sums]
    have he : es.size = (dedup (sums z n1 n2)).length := by rw [hn, ← hkn]; exact hp.length_eq
    refine spliced_nil ?_
    refine call_len_set (s := St s h' tk') (o := o) ho hex hd hf (by unfold scanBound at hb; omega) ?_
    rw [he]
    exact q _ h' _ fun b o e => hS b o (F.keep b o e)
end
end Mine
end
section -- C11
open PySem PySem.W PySem.Calls PyProof.Rows
namespace Mine
theorem ints_are {ns : List Int} {ys : List Value} (x : Ints ns ys) : IntsAre ys ns := by
  unfold Ints at x
  induction x with
  | nil => exact .nil
  | cons hF _ ih => obtain ⟨t, rfl⟩ := hF; exact .cons _ t ih
theorem are_ints {ns : List Int} {ys : List Value} (x : IntsAre ys ns) : Ints ns ys := by
  unfold Ints
  induction x with
  | nil => exact .nil
  | cons n t _ ih => exact .cons ⟨t, rfl⟩ ih
theorem some_ints {α : Type} {F : α → Value → Prop} (hF : ∀ a y, F a y → ∃ n t, y = .int n t) : ∀ {l : List α} {ys : List Value}, Paired F l ys → ∃ ns, Ints ns ys
  | _, _, .nil => ⟨[], .nil⟩
  | _, _, .cons h x => by
    obtain ⟨ns, hn⟩ := some_ints hF x
    obtain ⟨n, t, rfl⟩ := hF _ _ h
    exact ⟨n :: ns, .cons ⟨t, rfl⟩ hn⟩
section
variable {prog : Program} {w : World} {A : Around} {E : Value → Shared → Prop} {s : Shared} {h h₁ : Heap} {tk : Nat} {p : Program} {loose : List Str} {mg mb : Str → Option Value} {Q : Value → Shared → Prop}
theorem w_sum {l : Addr} {its : Array Value} {ns : List Int} (hh : A.handled = none) (hl : h.IsList l its) (hi : Ints ns its.toList) (q : ∀ h' t tk', Sub h h' → Q (.int ns.sum t) (St s h' tk')) :
    wpAny (model prog w) A (call (.builtin "sum") [.ref l]) Q E (St s h tk) := by
  obtain ⟨xs, ex⟩ := (ints_are hi).allInts.items
  have ex : its = intItems xs := by simpa using ex
  subst ex
  have e := (ints_are hi).numsOf
  rw [nums_intItems] at e
  refine PySem.sum_intListG (s := St s h tk) hh (by simpa using hl) fun h' k t' hk => ?_
  rw [preSum_eq, List.take_of_length_le (by simp), e]
  exact q h' t' k hk
theorem w_pow6 {t u : Tok} (q : ∀ t tk', Q (.int 1000000 t) (St s h tk')) : wpAny (model prog w) A (binaryOp .Pow (.int 10 t) (.int 6 u)) Q E (St s h tk) := by
  refine PySem.AutoIntOps.pow_4 (by decide) (by decide) (by decide) (by decide) (by decide +kernel) ?_
  exact q _ _
theorem w_slice {value slice : Expr} {l : Addr} {items : Array Value} {vl vu vk : Value} {lo hi st : Option Int} {ops : List Value} (hl : h.IsList l items) (pl : IsPart vl lo) (pu : IsPart vu hi) (pk : IsPart vk st) (h0 : st ≠ some 0)
    (q : Q (.ref (h.objs.size + 1)) (St s ((h.push { cls := .type "slice", data := .fields #[vl, vu, vk] }).push { cls := .type "list", data := .seq (slicePick items lo hi st) }) tk))
    (hsz : items.size ≤ sizeLine)
    (hs : subscripted slice false (.ref l) (.ref h.objs.size) = operate ops (getItem (.ref l) (.ref h.objs.size)) := by with_unfolding_all rfl)
    (ht : ∀ r, letTemporaryGo value (.ref l) r = pure () := by intro _; with_unfolding_all rfl) :
    wpAny (model prog w) A (subscriptTail value slice (.ref l) (.ref h.objs.size)) Q E (St s (h.push { cls := .type "slice", data := .fields #[vl, vu, vk] }) tk) := by
  refine subscriptTail_ops (Heap.IsList.typeIs (s := St s (h.push { cls := .type "slice", data := .fields #[vl, vu, vk] }) tk) (hl.push _)) list_getitem_lookup
    (wpAny_getItem_list_slice (hl.push _) (Heap.IsSliceOf.new ..) pl pu pk h0 ?_ hsz) hs ht
  show Q (.ref (h.push _).objs.size) _
  rw [Heap.size_push]
  exact q
set_option maxHeartbeats 1000000 in
theorem c_numbers (G : Gr w p loose mg mb h) (hA : Fit A 2) (a : Addr) (ys : Array Value) (ns : List Int) (hl : h.IsList a ys) (hi : Ints ns ys.toList) (hsz : ys.size ≤ sizeLine)
    (q : ∀ D zs ms h' tk', h.get? D = none → Sub h h' → h'.PlainList D zs → ms.length = 7 → Ints ms zs.toList → Q (.ref D) (St s h' tk')) :
    wpAny (model prog w) A (call (.ref 98) [.ref a]) Q E (St s h tk) := by
  refine enterC (binds := [(("script" : Str), .ref a)]) hA.lt G.X G.T.nolimit rfl rfl rfl rfl (by decide) rfl rfl rfl fun h₁ tk₁ cells F N Y => ?_
  obtain ⟨o1, o2, rfl, d1, d2⟩ := CellsAre.two (n := "base") (n' := "script") Y
  have d1 : o1.data = .cell none := d1
  have d2 : o2.data = .cell (some (.ref a)) := d2
  clear Y
  have hbc : h₁.IsCell (h.objs.size + 1 + 1) none := ⟨o1, N.get (.head _), d1⟩
  have hsc : h₁.IsCell (h.objs.size + 1) (some (.ref a)) := ⟨o2, N.get (.tail _ (.head _)), d2⟩
  have hlo : ∀ {b : Addr} {o : Obj}, h.get? b = some o → b < h.objs.size := fun e => Heap.lt_size e
  refine wpAny_execs_cons (wpAny_Assign_Name ?_ rfl)
  refine wpAny_List (wpAny_items_cons (w_int fun u0 k0 => wpAny_items_cons (w_int fun u1 k1 => wpAny_items_cons (w_int fun u2 k2 => wpAny_items_cons (w_int fun u3 k3 => wpAny_items_cons (w_int fun u4 k4 => wpAny_items_cons (w_int fun u5 k5 => wpAny_items_cons (w_int fun u6 k6 => wpAny_items_nil ⟨(by rw [sizeLine_eq]; exact (show (7 : Nat) ≤ 16777216 by decide)), ?_⟩))))))))
  refine wpAny_storeName_cell (c := h.objs.size + 1 + 1) (v₀ := none) rfl rfl rfl (hbc.keeps (sub_push _ _)) fun h2 hc2 hs2 => ?_
  have hB0 : h₁.objs.size ≠ h.objs.size + 1 + 1 := (Nat.ne_of_lt hbc.lt).symm
  have keep2 : ∀ b o, b ≠ h.objs.size + 1 + 1 → h₁.get? b = some o → h2.get? b = some o := fun b o hb e => hs2.extBut b o hb (sub_push _ _ _ _ e)
  have hlB : h2.IsList h₁.objs.size #[.int 0 u0, .int 3 u1, .int 33 u2, .int 4 u3, .int 56 u4, .int 82 u5, .int 112 u6] := ⟨_, hs2.extBut _ _ hB0 (Heap.get?_push_size _ rfl), rfl, _, rfl⟩
  have hsc2 : h2.IsCell (h.objs.size + 1) (some (.ref a)) := by
    obtain ⟨o, ho, hd⟩ := hsc
    exact ⟨o, keep2 _ _ (Nat.ne_of_lt (Nat.lt_succ_self _)) ho, hd⟩
  have up2 : Sub h h2 := fun b o e => keep2 b o (Nat.ne_of_lt (Nat.lt_succ_of_lt (Nat.lt_succ_of_lt (hlo e)))) (F.keep b o e)
  have hl2 : h2.IsList a ys := hl.at fun o e => up2 _ o e
  have hh : ∀ env, (A.deeper env).handled = none := fun _ => hA.hh
  refine wpAny_execs_cons (wpAny_Return_some ?_)
  refine lc (fun _ => true) (fun v y => ∃ n t, y = .int n t) rfl (by decide) rfl (by decide) rfl (fun _ => rfl) ?_
  refine Call_Name1 (nm_B (G.keeps up2) rfl rfl (by decide) ?_ rfl rfl rfl rfl)
  refine callWith_type1 ?_
  refine w_int fun t1 k1 => ?_
  refine call_range_1 ?_
  refine ⟨_, _, 7, _, _, rfl, over_range (hh _) (IsRange.new _ _ _ _ _ _ _) (by decide), by rw [sizeLine_eq]; decide, ⟨?_, ?_⟩, ?_⟩
  · intro C i v s' h₃ tk₃ m₃ E' _ _ _ _ hS
    exact no_tests ⟨rfl, h₃, tk₃, rfl, fun _ _ e => e⟩
  · intro C i v s' h₃ tk₃ m₃ E' _ hP _ hNs hm hS
    obtain ⟨hi7, ti, rfl⟩ := hP
    have hS2 : Sub h2 h₃ := fun b o e => hS b o (Heap.get?_push_of_some _ e)
    have G3 : Gr w p loose mg mb h₃ := G.keeps (Sub.trans up2 hS2)
    have hc3 := hc2.keeps hS2
    have hs3 := hsc2.keeps hS2
    have hlB3 : h₃.IsList h₁.objs.size _ := hlB.at fun o e => hS2 _ o e
    have hl3 : h₃.IsList a ys := hl2.at fun o e => hS2 _ o e
    obtain ⟨nb, tb, hnb⟩ : ∃ n t, (#[.int 0 u0, .int 3 u1, .int 33 u2, .int 4 u3, .int 56 u4, .int 82 u5, .int 112 u6] : Array Value)[i]? = some (.int n t) := by
      have : i = 0 ∨ i = 1 ∨ i = 2 ∨ i = 3 ∨ i = 4 ∨ i = 5 ∨ i = 6 := by omega
      rcases this with rfl | rfl | rfl | rfl | rfl | rfl | rfl <;> exact ⟨_, _, rfl⟩
    refine wpAny_BinOp ?_
    refine wpAny_Subscript_Name slot_list_getitem.lookup ?_
    refine nm_cell rfl hc3 ?_ rfl rfl
    refine nm_loc hNs hm ?_ rfl rfl
    refine ⟨hlB3.typeIs, ?_⟩
    refine wpAny_getItem_list hlB3 (by omega) (by omega) (x := .int nb tb) (by rw [Int.toNat_natCast]; exact hnb) ?_
    refine Call_Name1 (nm_B G3 rfl rfl (by decide) ?_ rfl rfl rfl rfl)
    refine callWith_builtin rfl (evalArgs_plain (spliced_cons ?_))
    refine lc (fun _ => true) (fun v y => ∃ n t, y = .int n t) rfl (by decide) rfl (by decide) rfl (fun _ => rfl) ?_
    refine Subscript_ ?_
    refine nm_cell rfl hs3 ?_ rfl rfl
    refine wpAny_Slice (wpAny_evalPart_some (nm_loc hNs hm (wpAny_evalPart_some (w_int fun t6 k6 => wpAny_evalPart_some (w_int fun t7 k7 => ?_))) rfl rfl))
    refine w_slice hl3 (.int _ _) (.int _ _) (.int _ _) (by decide) ?_ hsz
    have hsl : (slicePick ys (some (i : Int)) (some 63) (some 7)).size ≤ sizeLine := Nat.le_trans (slicePick_size_le ys _ _ _) hsz
    have hpk : IntsAre (slicePick ys (some (i : Int)) (some 63) (some 7)).toList (pickNums ns (some (i : Int)) (some 63) (some 7)) := by
      have := (ints_are hi).pick (some (i : Int)) (some 63) (some 7)
      simpa using this
    have hl4 : ((h₃.push { cls := .type "slice", data := .fields #[.int i ti, .int 63 t6, .int 7 t7] }).push { cls := .type "list", data := .seq (slicePick ys (some (i : Int)) (some 63) (some 7)) }).IsList (h₃.objs.size + 1) (slicePick ys (some (i : Int)) (some 63) (some 7)) :=
      ⟨_, by have := Heap.get?_push_size (o := ({ cls := .type "list", data := .seq (slicePick ys (some (i : Int)) (some 63) (some 7)) } : Obj)) (h₃.push { cls := .type "slice", data := .fields #[.int i ti, .int 63 t6, .int 7 t7] }) rfl; rw [Heap.size_push] at this; exact this, rfl, _, rfl⟩
    have up4 : ∀ b o, h₃.get? b = some o → ((h₃.push { cls := .type "slice", data := .fields #[.int i ti, .int 63 t6, .int 7 t7] }).push { cls := .type "list", data := .seq (slicePick ys (some (i : Int)) (some 63) (some 7)) }).get? b = some o := fun b o e => Heap.get?_push_of_some _ (Heap.get?_push_of_some _ e)
    refine ⟨_, _, _, _, _, rfl, over_list (hh _) hl4, hsl, ⟨?_, ?_⟩, ?_⟩
    · intro C i v s' h₃ tk₃ m₃ E' _ _ _ _ hS
      exact no_tests ⟨rfl, h₃, tk₃, rfl, fun _ _ e => e⟩
    · intro C2 j v2 s2 h5 tk5 m5 E5 _ hP5 _ hNs5 hm5 hS5
      obtain ⟨n5, t5, hn5, rfl⟩ := int_of (are_ints hpk) hP5
      refine wpAny_BinOp (nm_loc hNs5 hm5 ?_ rfl rfl)
      refine wpAny_BinOp (w_int fun t8 k8 => w_int fun t9 k9 => w_pow6 fun t10 k10 => ?_)
      exact w_mod (by decide) fun t11 k11 => ⟨⟨_, t11, rfl⟩, h5, k11, rfl, fun _ _ e => e⟩
    · intro D5 h5 tk5 zs vs hD5 hS5 hpl5 _ _ hF5
      obtain ⟨ms, hms⟩ := some_ints (fun _ _ e => e) hF5
      refine spliced_nil ?_
      refine w_sum (hh _) hpl5.isList hms fun h6 t12 k12 hS6 => ?_
      exact w_add fun t13 k13 => ⟨⟨_, t13, rfl⟩, h6, k13, rfl, fun b o e => hS6 _ _ (hS5 _ _ (up4 b o e))⟩
  · intro D h' tk' zs vs hD hS hpl hlen hP hF
    dsimp only
    have hlz : zs.toList.length = 7 := by rw [← hF.length, List.filter_eq_self.mpr (fun _ _ => rfl), hlen]
    obtain ⟨ms, hms⟩ := some_ints (fun _ _ e => e) hF
    refine q D zs ms h' tk' ?_ (fun b o e => hS b o (Heap.get?_push_of_some _ (up2 b o e))) hpl ?_ hms
    · cases e : h.get? D with
      | none => rfl
      | some o =>
        have h9 := hD.symm.trans (Heap.get?_push_of_some _ (up2 _ _ e))
        cases h9
    · rw [← hlz]; exact hms.length
end
end Mine
end
section -- V4
open PySem PySem.W PySem.Calls PyProof.Rows
namespace Mine
/-- frame and ledger, all addresses apart -/
structure Led (h₀ : Heap) (L : Addr) (h : Heap) (m : Str → Option Value) (news : List (Addr × Obj)) : Prop where
  fr : Fr h₀ L h m
  nw : News h₀ L h news
  nd : (news.map (·.1)).Nodup
section
variable {prog : Program} {w : World} {A : Around} {E : Value → Shared → Prop} {s : Shared} {h h' h₀ : Heap} {tk : Nat} {L : Addr} {m : Str → Option Value} {news : List (Addr × Obj)} {env : Env}
theorem Led.sub (x : Led h₀ L h m news) (k : Sub h h') : Led h₀ L h' m news := ⟨Fr.sub x.fr k, News.sub x.nw k, x.nd⟩
theorem Led.add {M : Addr} {o : Obj} (x : Led h₀ L h m news) (k : Sub h h') (hM : h.get? M = none) (e : h'.get? M = some o) : Led h₀ L h' m ((M, o) :: news) :=
  ⟨Fr.sub x.fr k, News.add x.fr (News.sub x.nw k) hM e, by
    rw [List.map_cons]
    refine List.nodup_cons.mpr ⟨fun hm => ?_, x.nd⟩
    obtain ⟨p, hp, e2⟩ := List.mem_map.mp hm
    have := (x.nw p hp).1
    have e2 : p.1 = M := e2
    rw [e2, hM] at this; cases this⟩
theorem Led.get (x : Led h₀ L h m news) {p : Addr × Obj} (hp : p ∈ news) : h.get? p.1 = some p.2 := (x.nw p hp).1
theorem Led.right {own : List (Addr × Obj)} (x : Led h₀ L h m (own ++ news)) : Led h₀ L h m news := ⟨x.fr, x.nw.right, by
  have := x.nd; rw [List.map_append, List.nodup_append] at this; exact this.2.1⟩
/-- a local is stored -/
theorem stL {x : Str} {v : Value} {M : Model} {Q : Unit → Shared → Prop} (l : Led h₀ env.locals h m news)
    (q : ∀ h' tk', Led h₀ env.locals h' (fun y => if y = x then some v else m y) news → Q () (St s h' tk'))
    (hl : env.kindOf x = some .local) (hp : (env.scope.kind == .class || (env.scope.kind == .module && env.locals != env.globals)) = false) : wpAny M A (storeName env x v) Q E (St s h tk) := by
  refine wpAny_storeName_local hl l.fr.ns (fun h₂ hn₂ hs₂ => ?_) hp
  have hL₀ : h₀.get? env.locals = none := Heap.get?_none_of_le l.fr.above
  exact q h₂ _ ⟨⟨hn₂, fun b o e => hs₂.extBut b o (fun q => by rw [q, hL₀] at e; cases e) (l.fr.keep b o e), l.fr.above⟩, fun p hp => ⟨hs₂.extBut _ _ (l.nw p hp).2.1 (l.nw p hp).1, (l.nw p hp).2⟩, l.nd⟩
/-- a cell of the ledger is stored -/
theorem stK {pre post : List (Addr × Obj)} {c : Addr} {oc : Obj} {v₀ : Option Value} {x : Str} {v : Value} {M : Model} {Q : Unit → Shared → Prop} (l : Led h₀ L h m (pre ++ (c, oc) :: post)) (hd : oc.data = .cell v₀)
    (q : ∀ h' o', o'.data = .cell (some v) → Led h₀ L h' m (pre ++ (c, o') :: post) → Q () (St s h' tk))
    (hc : env.cells.lookup x = some c) (hk : env.scope.kind = .function) (hl : env.kindOf x = some .cell) : wpAny M A (storeName env x v) Q E (St s h tk) := by
  have hm : (c, oc) ∈ pre ++ (c, oc) :: post := List.mem_append_right _ List.mem_cons_self
  have hx := l.nw _ hm
  refine wpAny_storeName_cell (s := St s h tk) hk hl hc ⟨oc, hx.1, hd⟩ fun h2 ⟨o', ho', hd'⟩ hs2 => ?_
  have hnd := l.nd
  rw [List.map_append, List.map_cons, List.nodup_append] at hnd
  obtain ⟨_, n2, n3⟩ := hnd
  have n2 := List.nodup_cons.mp n2
  refine q h2 o' hd' ⟨l.fr.change hs2 hx.2.1 hx.2.2, fun p hp => ?_, by have := l.nd; rw [List.map_append, List.map_cons] at this ⊢; exact this⟩
  have other : p ∈ pre ++ (c, oc) :: post → p.1 ≠ c → h2.get? p.1 = some p.2 ∧ p.1 ≠ L ∧ h₀.get? p.1 = none := fun hp hne => ⟨hs2.extBut _ _ hne (l.nw p hp).1, (l.nw p hp).2⟩
  rcases List.mem_append.mp hp with hp | hp
  · exact other (List.mem_append_left _ hp) fun e => n3 p.1 (List.mem_map_of_mem hp) c List.mem_cons_self e
  · rcases List.mem_cons.mp hp with rfl | hp
    · exact ⟨ho', hx.2⟩
    · exact other (List.mem_append_right _ (List.mem_cons_of_mem _ hp)) fun e => n2.1 (List.mem_map.mpr ⟨p, hp, e⟩)
/-- what an evaluation leaves -/
def EvL (h₀ : Heap) (L : Addr) (m : Str → Option Value) (news : List (Addr × Obj)) (s : Shared) (V : Value → List (Addr × Obj) → Prop) (v : Value) (s' : Shared) : Prop :=
  ∃ h' tk' own, s' = St s h' tk' ∧ Led h₀ L h' m (own ++ news) ∧ V v own
theorem asgL {x : Str} {px pos : Pos} {value : Expr} {rest : List Stmt} {Q : Flow → Shared → Prop} (V : Value → List (Addr × Obj) → Prop) (_l : Led h₀ env.locals h m news)
    (h1 : wpAny (model prog w) A (eval value env) (EvL h₀ env.locals m news s V) E (St s h tk))
    (h2 : ∀ v own h' tk', V v own → Led h₀ env.locals h' (fun y => if y = x then some v else m y) (own ++ news) → wpAny (model prog w) A (execs rest env) Q E (St s h' tk'))
    (hs : swapsWith value (some (.Name x px)) pos.line env = pure false) (hl : env.kindOf x = some .local) (hp : (env.scope.kind == .class || (env.scope.kind == .module && env.locals != env.globals)) = false) :
    wpAny (model prog w) A (execs (.Assign [.Name x px] value pos :: rest) env) Q E (St s h tk) := by
  refine wpAny_execs_cons (wpAny_Assign_Name (wpAny_mono h1 (fun v s' q => ?_) fun _ _ e => e) hs)
  obtain ⟨h', tk', own, rfl, l', hv⟩ := q
  exact stL l' (fun h'' tk'' l'' => h2 v own h'' tk'' hv l'') hl hp
theorem asgK {pre post : List (Addr × Obj)} {c : Addr} {oc : Obj} {v₀ : Option Value} {x : Str} {px pos : Pos} {value : Expr} {rest : List Stmt} {Q : Flow → Shared → Prop} (V : Value → List (Addr × Obj) → Prop) (_l : Led h₀ L h m (pre ++ (c, oc) :: post))
    (h1 : wpAny (model prog w) A (eval value env) (EvL h₀ L m (pre ++ (c, oc) :: post) s V) E (St s h tk))
    (h2 : ∀ v own o' h' tk', V v own → o'.data = .cell (some v) → Led h₀ L h' m (own ++ (pre ++ (c, o') :: post)) → wpAny (model prog w) A (execs rest env) Q E (St s h' tk'))
    (hd : oc.data = .cell v₀) (hs : swapsWith value (some (.Name x px)) pos.line env = pure false) (hc : env.cells.lookup x = some c) (hk : env.scope.kind = .function) (hl : env.kindOf x = some .cell) :
    wpAny (model prog w) A (execs (.Assign [.Name x px] value pos :: rest) env) Q E (St s h tk) := by
  refine wpAny_execs_cons (wpAny_Assign_Name (wpAny_mono h1 (fun v s' q => ?_) fun _ _ e => e) hs)
  obtain ⟨h', tk', own, rfl, l', hv⟩ := q
  rw [← List.append_assoc] at l'
  exact stK l' hd (fun h'' o' hd' l'' => by rw [List.append_assoc] at l''; exact h2 v own o' h'' tk' hv hd' l'') hc hk hl
theorem ifL {test : Expr} {body orelse : List Stmt} {pos : Pos} {rest : List Stmt} {Q : Flow → Shared → Prop} (c : Bool) (_l : Led h₀ L h m news)
    (h1 : wpAny (model prog w) A (isTrue test env (eval test env)) (fun b s' => b = c ∧ ∃ h' tk', s' = St s h' tk' ∧ Led h₀ L h' m news) E (St s h tk))
    (h2 : ∀ h' tk', Led h₀ L h' m news → wpAny (model prog w) A (execs (if c then body else orelse) env) (fun f s' => match f with | .next => wpAny (model prog w) A (execs rest env) Q E s' | f => Q f s') E (St s h' tk')) :
    wpAny (model prog w) A (execs (.If test body orelse pos :: rest) env) Q E (St s h tk) := by
  refine wpAny_execs_cons (wpAny_If (wpAny_mono h1 (fun b s' q => ?_) fun _ _ e => e))
  obtain ⟨rfl, h', tk', rfl, l'⟩ := q
  have := h2 h' tk' l'
  cases b <;> exact this
end
end Mine
end
section -- L0
open PySem PySem.W PySem.Calls PyProof.Rows
namespace Mine
section
variable {prog : Program} {w : World} {A : Around} {E : Value → Shared → Prop} {s : Shared} {h h₁ : Heap} {tk : Nat} {Q : Value → Shared → Prop}
theorem ne_offs {a b : Addr} {xs ys : Array Value} {rs : List (Option Int)} (ha : h.IsList a xs) (hb : h.IsList b ys) (hx : Paired OffVal rs xs.toList) (hy : Paired OffVal rs ys.toList) (hu : A.units < cLine) (q : Q (.bool false) (St s h tk)) :
    wpAny (model prog w) A (compareOp .NotEq (.ref a) (.ref b)) Q E (St s h tk) := by
  have e1 : xs.size = ys.size := by
    have := hx.length
    have := hy.length
    simp only [Array.length_toList] at *
    omega
  have R := SeqAt.RcNeAt.lists (A := A) (s := St s h tk) (e := fun _ => true) ha hb e1 hu fun j h1 h2 => by
    have hj : j < rs.length := by have := hx.length; simp only [Array.length_toList] at this; omega
    obtain ⟨v, hv, ov⟩ := paired_get hx (List.getElem?_eq_getElem hj)
    obtain ⟨v', hv', ov'⟩ := paired_get hy (List.getElem?_eq_getElem hj)
    rw [Array.getElem?_toList, Array.getElem?_eq_getElem h1] at hv
    rw [Array.getElem?_toList, Array.getElem?_eq_getElem h2] at hv'
    cases hv; cases hv'
    cases hr : rs[j] with
    | none =>
      rw [hr] at ov ov'
      have ov : xs[j] = .none := ov
      have ov' : ys[j] = .none := ov'
      rw [ov, ov']
      exact SeqAt.EqAt.same _
    | some n =>
      rw [hr] at ov ov'
      obtain ⟨t, e⟩ := ov
      obtain ⟨t', e'⟩ := ov'
      rw [e, e']
      have := SeqAt.EqAt.int_int (A := A.in1) (s := St s h tk) n t n t'
      rwa [beq_self_eq_true] at this
  exact R prog w E Q (by rw [show ((List.range xs.size).all fun _ => true) = true from List.all_eq_true.mpr fun _ _ => rfl]; exact q)
theorem offs_of {ns : List Int} {ee g1 : Array Value} {vs : List Value} {z : Int} (hee : Ints ns ee.toList) (hvl : vs.length = ee.size) (hvP : ∀ (j : Nat) v, vs[j]? = some v → ee[j]? = some v)
    (hF : Paired (fun v y => ∃ n, IntIs n v ∧ IntIs (1800 * (n % (3 * z) - z)) y) (vs.filter fun _ => true) g1.toList) : Paired OffVal (ns.map (fun n => some (1800 * (n % (3 * z) - z))) ++ [none]) (g1 ++ [Value.none].toArray).toList := by
  rw [List.filter_eq_self.mpr (fun _ _ => rfl)] at hF
  have e1 := hF.length
  have e2 : ns.length = ee.size := by rw [← Array.length_toList]; exact hee.length
  rw [Array.toList_append]
  refine Paired.snoc (paired_of (by rw [List.length_map, e2, ← hvl, e1]) fun i a y ha hy => ?_) rfl
  rw [List.getElem?_map] at ha
  cases hn : ns[i]? with
  | none => rw [hn] at ha; cases ha
  | some n =>
    rw [hn] at ha; cases ha
    obtain ⟨v, hv, n', ⟨t, e⟩, hy'⟩ := paired_get' hF hy
    have h3 := hvP i v hv
    obtain ⟨v2, hv2, t2, e4⟩ := paired_get hee hn
    rw [Array.getElem?_toList, h3] at hv2
    cases hv2
    rw [e] at e4; cases e4
    exact hy'
theorem Led.ne {h₀ : Heap} {L : Addr} {m : Str → Option Value} {pre post : List (Addr × Obj)} {p : Addr × Obj} (x : Led h₀ L h m (pre ++ p :: post)) : ∀ q ∈ pre ++ post, q.1 ≠ p.1 := by
  have hnd := x.nd
  rw [List.map_append, List.map_cons, List.nodup_append] at hnd
  obtain ⟨_, n2, n3⟩ := hnd
  have n2 := List.nodup_cons.mp n2
  intro q hq e
  rcases List.mem_append.mp hq with hq | hq
  · exact n3 q.1 (List.mem_map_of_mem hq) p.1 List.mem_cons_self e
  · exact n2.1 (List.mem_map.mpr ⟨q, hq, e⟩)
theorem Led.split {h₀ : Heap} {L T c : Addr} {oT oc : Obj} {m : Str → Option Value} {pre post : List (Addr × Obj)} (l : Led h₀ L h m ((T, oT) :: (pre ++ (c, oc) :: post))) :
    (∀ p ∈ pre ++ post, p.1 ≠ c ∧ p.1 ≠ T) ∧ T ≠ c ∧ News h₀ L h ((c, oc) :: (T, oT) :: (pre ++ post)) := by
  have neT := Led.ne (pre := []) l
  have neC := Led.ne (pre := (T, oT) :: pre) (post := post) (p := (c, oc)) l
  refine ⟨fun p hp => ?_, neC (T, oT) (.head _), fun p hp => l.nw p ?_⟩
  · rcases List.mem_append.mp hp with hp | hp
    · exact ⟨neC p (List.mem_append_left _ (List.mem_cons_of_mem _ hp)), neT p (List.mem_append_right [] (List.mem_append_left _ hp))⟩
    · exact ⟨neC p (List.mem_append_right _ hp), neT p (List.mem_append_right [] (List.mem_append_right _ (List.mem_cons_of_mem _ hp)))⟩
  · rcases List.mem_cons.mp hp with rfl | hp
    · exact List.mem_cons_of_mem _ (List.mem_append_right _ List.mem_cons_self)
    · rcases List.mem_cons.mp hp with rfl | hp
      · exact List.mem_cons_self
      · rcases List.mem_append.mp hp with hp | hp
        · exact List.mem_cons_of_mem _ (List.mem_append_left _ hp)
        · exact List.mem_cons_of_mem _ (List.mem_append_right _ (List.mem_cons_of_mem _ hp))
theorem cell_led {h₀ : Heap} {L c : Addr} {oc : Obj} {rest : List (Addr × Obj)} {m : Str → Option Value} {v₀ : Option Value} {x : Str} {v : Value} {env : Env} {M : Model} {Q : Unit → Shared → Prop} (F : Fr h₀ L h m) (N : News h₀ L h ((c, oc) :: rest)) (hr : ∀ p ∈ rest, p.1 ≠ c) (hd : oc.data = .cell v₀)
    (q : ∀ h' o', o'.data = .cell (some v) → Fr h₀ L h' m → News h₀ L h' ((c, o') :: rest) → Q () (St s h' tk))
    (hc : env.cells.lookup x = some c) (hk : env.scope.kind = .function) (hl : env.kindOf x = some .cell) : wpAny M A (storeName env x v) Q E (St s h tk) := by
  have hx := N (c, oc) List.mem_cons_self
  refine wpAny_storeName_cell (s := St s h tk) hk hl hc ⟨oc, hx.1, hd⟩ fun h2 ⟨o', ho', hd'⟩ hs2 => ?_
  refine q h2 o' hd' (F.change hs2 hx.2.1 hx.2.2) fun p hp => ?_
  rcases List.mem_cons.mp hp with rfl | hp
  · exact ⟨ho', hx.2⟩
  · exact ⟨hs2.extBut _ _ (hr p hp) (N p (List.mem_cons_of_mem _ hp)).1, (N p (List.mem_cons_of_mem _ hp)).2⟩
theorem pl_mod {z : Int} (hz : z = 6 ∨ z = 8 ∨ z = 10 ∨ z = 12) (ns : List Int) : plOf z (ns.map (fun n => some (1800 * (n % (3 * z) - z))) ++ [none]) = modL z ns := by
  unfold plOf modL
  rw [List.filterMap_append]
  induction ns with
  | nil => rfl
  | cons n ns ih =>
    rw [List.map_cons, List.filterMap_cons_some (f := id) (b := 1800 * (n % (3 * z) - z)) rfl, List.cons_append, List.map_cons, ih, List.map_cons]
    congr 1
    rw [Int.mul_ediv_cancel_left _ (by decide)]
    rcases hz with rfl | rfl | rfl | rfl <;> omega
theorem w_dict1 {kx vx : Expr} {pos : Pos} {env : Env} {k c : Int} (lo : (h.objs.size == sysModules) = false)
    (q1 : ∀ (h' : Heap) (tk' : Nat) (Q' : Value → Shared → Prop), Sub h h' → (∀ t h'' tk'', Sub h' h'' → Q' (.int k t) (St s h'' tk'')) → wpAny (model prog w) A (eval kx env) Q' E (St s h' tk'))
    (q2 : ∀ (h' : Heap) (tk' : Nat) (Q' : Value → Shared → Prop), Sub h h' → (∀ t tk'', Q' (.int c t) (St s h' tk'')) → wpAny (model prog w) A (eval vx env) Q' E (St s h' tk'))
    (q : ∀ D h' tk', h.get? D = none → (D == sysModules) = false → Sub h h' → Tab prog w h' D [(k, c)] → Q (.ref D) (St s h' tk')) :
    wpAny (model prog w) A (eval (.Dict [some kx] [vx] pos) env) Q E (St s h tk) := by
  refine wpAny_Dict_walk (s := St s h tk) (knd := intKind prog w) rfl rfl (by simp) (by simp) (pairTrees_cons_walk ?_)
  refine q1 _ _ _ (sub_push _ _) fun t h3 tk3 hS3 => ?_
  refine q2 _ _ _ (Sub.trans (sub_push _ _) hS3) fun t2 tk4 => ?_
  refine pairTrees_nil_walk ⟨[(k, .int c t2)], ⟨intKind_is _ _ _ _, rfl, trivial⟩, ?_, ?_⟩
  · exact ⟨_, #[], 0, hS3 _ _ (Heap.get?_push_size _ rfl), ⟨rfl, rfl, rfl⟩, rfl, fun e he => by simp at he, .nil, .nil⟩
  · intro h4 hd hs4
    refine q _ h4 _ (get_none_size (Nat.le_refl _)) lo (fun b o e => hs4.extBut b o (Nat.ne_of_lt (Heap.lt_size e)) (hS3 _ _ (sub_push _ _ _ _ e))) ⟨_, hd, .cons ⟨rfl, t2, rfl⟩ .nil⟩
theorem arg_min (val : Nat → Int) : ∀ k, argBest (fun i j => decide (val i < val j)) k ≤ k ∧ ∀ j, j ≤ k → val (argBest (fun i j => decide (val i < val j)) k) ≤ val j
  | 0 => ⟨Nat.le_refl _, fun j hj => by have : j = 0 := by omega
                                        subst this; exact Int.le_refl _⟩
  | k + 1 => by
    obtain ⟨h1, h2⟩ := arg_min val k
    unfold argBest
    by_cases hb : val (k + 1) < val (argBest (fun i j => decide (val i < val j)) k)
    · rw [if_pos (by simpa using hb)]
      refine ⟨Nat.le_refl _, fun j hj => ?_⟩
      rcases Nat.lt_or_ge j (k + 1) with h | h
      · have := h2 j (by omega); omega
      · have : j = k + 1 := by omega
        subst this; exact Int.le_refl _
    · rw [if_neg (by simpa using hb)]
      refine ⟨by omega, fun j hj => ?_⟩
      rcases Nat.lt_or_ge j (k + 1) with h | h
      · exact h2 j (by omega)
      · have : j = k + 1 := by omega
        subst this; omega
theorem w_min {l : Addr} {its : Array Value} {ns : List Int} (hh : A.handled = none) (hl : h.IsList l its) (hi : Ints ns its.toList) (hne : ns ≠ []) (q : ∀ x h' t tk', x ∈ ns → (∀ y ∈ ns, x ≤ y) → Sub h h' → Q (.int x t) (St s h' tk')) :
    wpAny (model prog w) A (call (.builtin "min") [.ref l]) Q E (St s h tk) := by
  obtain ⟨xs, ex⟩ := (ints_are hi).allInts.items
  have ex : its = intItems xs := by simpa using ex
  subst ex
  have e := (ints_are hi).numsOf
  rw [nums_intItems] at e
  have hlen : ns.length = xs.size := by
    have := hi.length
    rw [Array.length_toList] at this
    simpa [intItems] using this
  have hpos : 0 < xs.size := by rw [← hlen]; exact List.length_pos_iff.mpr hne
  have hat : ∀ i (hi' : i < ns.length), numAt xs i = ns[i] := fun i hi' => by
    obtain ⟨v, hv, t, e1⟩ := paired_get hi (List.getElem?_eq_getElem hi')
    rw [Array.getElem?_toList] at hv
    obtain ⟨t', e2⟩ := intItems_at hv
    rw [e1] at e2; exact (Value.int.inj e2).1.symm
  refine PySem.min_intList (s := St s h tk) hh hl hpos fun v h' k hv hk => ?_
  obtain ⟨h1, h2⟩ := arg_min (numAt xs) (xs.size - 1)
  generalize argBest (fun i j => decide (numAt xs i < numAt xs j)) (xs.size - 1) = b at *
  have hb : b < ns.length := by omega
  obtain ⟨t, rfl⟩ := intItems_at hv
  rw [hat b hb]
  refine q _ h' t k (List.getElem_mem hb) (fun y hy => ?_) hk
  obtain ⟨j, hj, rfl⟩ := List.mem_iff_getElem.mp hy
  have := h2 j (by omega)
  rwa [hat b hb, hat j hj] at this
theorem key_look {t : List (Int × Int)} {k : Int} : k ∈ t.map (·.1) ↔ lookT t k ≠ none := by
  rw [Ne, lookT_none, List.mem_map, Bool.not_eq_false, List.any_eq_true]
  exact ⟨fun ⟨e, he, h⟩ => ⟨e, he, by simpa using h⟩, fun ⟨e, he, h⟩ => ⟨e, he, by simpa using h⟩⟩
theorem ne_tabs {a b : Addr} {ka kb : List (Int × Value)} {t1 t2 : List (Int × Int)} {c : Int} {ks : List Int} (la : (a == sysModules) = false) (lb : (b == sysModules) = false) (da : h.DictOf (intKind prog w) a ka) (db : h.DictOf (intKind prog w) b kb)
    (pa : Paired TabR t1 ka) (pb : Paired TabR t2 kb) (c1 : TabC c ks t1) (c2 : TabC c ks t2) (hu : A.units < cLine) (q : Q (.bool false) (St s h tk)) :
    wpAny (model prog w) A (compareOp .NotEq (.ref a) (.ref b)) Q E (St s h tk) := by
  have hlook : ∀ k, lookT t1 k = lookT t2 k := fun k => by rw [c1.look, c2.look]
  have hlen : ka.length = kb.length := by
    have e1 := pa.length
    have e2 := pb.length
    have p : (t1.map (·.1)).Perm (t2.map (·.1)) := (List.perm_ext_iff_of_nodup c1.nodup c2.nodup).mpr fun k => by rw [key_look, key_look, hlook]
    have := p.length_eq
    simp only [List.length_map] at this
    omega
  refine keq_ne (s := St s h tk) (r := true) la lb da db hu (fun hxx => ?_) (by rw [hlen]; simpa using q)
  have sub : ∀ e ∈ t1, lookT t2 e.1 = some e.2 := fun e he => by
    rw [← hlook]
    have hn := c1.nodup
    clear hlook c1 pa
    induction t1 with
    | nil => cases he
    | cons x t ih =>
      rw [lookT_cons]
      rw [List.map_cons, List.nodup_cons] at hn
      rcases List.mem_cons.mp he with rfl | he
      · rw [if_pos rfl]
      · rw [if_neg (fun q => hn.1 (by rw [q]; exact List.mem_map_of_mem he))]
        exact ih he hn.2
  clear hxx hlook c1 hlen da
  induction pa with
  | nil => exact .nil
  | @cons e kv l1 l2 hF _ ih =>
    obtain ⟨k, v⟩ := kv
    obtain ⟨hk, t, hv⟩ := hF
    have hk : k = e.1 := hk
    have hv : v = .int e.2 t := hv
    subst hk hv
    have hl := tab_look e.1 pb
    rw [sub e List.mem_cons_self] at hl
    obtain ⟨x, hx, tx, rfl⟩ := hl
    have he := SeqAt.EqAt.int_int (A := A.in1) (s := St s h tk) e.2 t e.2 tx
    rw [beq_self_eq_true] at he
    exact KeqHits.hit (e := true) (b := true) hx he (ih fun e he => sub e (List.mem_cons_of_mem _ he))
end
end Mine
end
section -- P5
open PySem PySem.W PySem.Calls PyProof.Rows
namespace Mine
theorem sum_looks {c : Int} : ∀ (t : List (Int × Int)) (ks : List Int), (∀ e ∈ t, e.2 = ks.count e.1 * c) → (t.map (·.1)).Nodup → (∀ k ∈ ks, k ∈ t.map (·.1)) → (t.map (·.2)).sum = ks.length * c
  | [], ks, _, _, hm => by
    have : ks = [] := List.eq_nil_iff_forall_not_mem.mpr fun k hk => by simpa using hm k hk
    subst this; simp
  | e :: t, ks, hv, hn, hm => by
    rw [List.map_cons, List.nodup_cons] at hn
    have ih := sum_looks (c := c) t (ks.filter (fun k => decide (k ≠ e.1))) (fun x hx => by
        have hne : x.1 ≠ e.1 := fun q => hn.1 (by rw [← q]; exact List.mem_map_of_mem hx)
        rw [hv x (List.mem_cons_of_mem _ hx), List.count_filter (by simpa using hne)]) hn.2 fun k hk => by
        obtain ⟨h1, h2⟩ := List.mem_filter.mp hk
        have := hm k h1
        rw [List.map_cons, List.mem_cons] at this
        exact this.resolve_left (by simpa using h2)
    rw [List.map_cons, List.sum_cons, ih, hv e List.mem_cons_self]
    have hl : ks.count e.1 + (ks.filter (fun k => decide (k ≠ e.1))).length = ks.length := by
      clear ih hv hm
      induction ks with
      | nil => rfl
      | cons k ks ih2 =>
        rw [List.count_cons, List.filter_cons, List.length_cons]
        by_cases hk : k = e.1
        · simp [hk] at ih2 ⊢; omega
        · simp [hk] at ih2 ⊢; omega
    rw [← Int.add_mul, ← hl]; congr 1
theorem look_mem {t : List (Int × Int)} {e : Int × Int} (hn : (t.map (·.1)).Nodup) (he : e ∈ t) : lookT t e.1 = some e.2 := by
  induction t with
  | nil => cases he
  | cons y t ih =>
    rw [lookT_cons]
    rw [List.map_cons, List.nodup_cons] at hn
    rcases List.mem_cons.mp he with rfl | he
    · rw [if_pos rfl]
    · rw [if_neg (fun q => hn.1 (by rw [q]; exact List.mem_map_of_mem he))]
      exact ih hn.2 he
theorem TabC.sum {c : Int} {ks : List Int} {t : List (Int × Int)} (x : TabC c ks t) : (t.map (·.2)).sum = ks.length * c := by
  refine sum_looks t ks (fun e he => ?_) x.nodup fun k hk => ?_
  · have h1 : lookT t e.1 = some e.2 := by
      have hn := x.nodup
      clear x
      induction t with
      | nil => cases he
      | cons y t ih =>
        rw [lookT_cons]
        rw [List.map_cons, List.nodup_cons] at hn
        rcases List.mem_cons.mp he with rfl | he
        · rw [if_pos rfl]
        · rw [if_neg (fun q => hn.1 (by rw [q]; exact List.mem_map_of_mem he))]
          exact ih he hn.2
    rw [x.look] at h1
    split at h1
    · cases h1
    · exact (Option.some.inj h1).symm
  · have h1 : lookT t k ≠ none := by
      rw [x.look, if_neg]
      · simp
      · intro q; exact absurd hk (List.count_eq_zero.mp q)
    rw [Ne, lookT_none, Bool.not_eq_false, List.any_eq_true] at h1
    obtain ⟨e, he, hq⟩ := h1
    exact List.mem_map.mpr ⟨e, he, by simpa using hq⟩
theorem sums_len (z : Int) (as bs : List Int) : (sums z as bs).length = as.length * bs.length := by
  unfold sums
  induction as with
  | nil => simp
  | cons a as ih => rw [List.flatMap_cons, List.length_append, ih, List.length_map, List.length_cons, Nat.succ_mul, Nat.add_comm]
/-- a move that keeps the table's keys -/
def keepsT (t : List (Int × Int)) (z : Int) (v : Value) : Bool := match v with | .int x _ => t.all fun e => t.any fun e' => decide (e'.1 = (e.1 + x) % z) | _ => false
def outT (t : List (Int × Int)) (z x : Int) (v : Value) : Bool := match v with | .int k _ => !(t.any fun e' => decide (e'.1 = (k + x) % z)) | _ => false
theorem still_ok {t : List (Int × Int)} {kvs : List (Int × Value)} {vs zs : List Value} {x z : Int} {ti : Tok} {ns : List Int} {F : Value → Value → Prop} (jT : Paired TabR t kvs) (hl : vs.length = kvs.length)
    (hP : ∀ (j : Nat) v, vs[j]? = some v → ∃ k y tk, kvs[j]? = some (k, y) ∧ v = .int k tk) (hF : Paired F (vs.filter (outT t z x)) zs) (hns : Ints ns zs) : decide (ns = []) = keepsT t z (.int x ti) := by
  have h1 : ns = [] ↔ vs.filter (outT t z x) = [] := by
    have e1 := hF.length
    have e2 := hns.length
    rw [← List.length_eq_zero_iff, ← List.length_eq_zero_iff]
    omega
  have h2 : vs.filter (outT t z x) = [] ↔ ∀ e ∈ t, (t.any fun e' => decide (e'.1 = (e.1 + x) % z)) = true := by
    rw [List.filter_eq_nil_iff]
    constructor
    · intro h e he
      obtain ⟨j, hj, rfl⟩ := List.mem_iff_getElem.mp he
      obtain ⟨kv, hkv, hk, _⟩ := paired_get jT (List.getElem?_eq_getElem hj)
      have hjv : j < vs.length := by rw [hl]; exact (List.getElem?_eq_some_iff.mp hkv).1
      obtain ⟨k, y, tk, hk2, hv⟩ := hP j vs[j] (List.getElem?_eq_getElem hjv)
      rw [hkv] at hk2
      have hkk : kv.1 = k := by cases hk2; rfl
      have := h vs[j] (List.getElem_mem hjv)
      rw [hv] at this
      have this : ¬ (!(t.any fun e' => decide (e'.1 = (k + x) % z))) = true := this
      rw [← hk, hkk]
      simpa using this
    · intro h v hv
      obtain ⟨j, hj, rfl⟩ := List.mem_iff_getElem.mp hv
      obtain ⟨k, y, tk, hk2, e⟩ := hP j vs[j] (List.getElem?_eq_getElem hj)
      obtain ⟨a, ha, hk, _⟩ := paired_get' jT hk2
      have hk : k = a.1 := hk
      rw [e]
      show ¬ (!(t.any fun e' => decide (e'.1 = (k + x) % z))) = true
      rw [hk, h a (List.mem_of_getElem? ha)]
      decide
  rw [Bool.eq_iff_iff, decide_eq_true_eq, h1, h2]
  show _ ↔ (t.all fun e => t.any fun e' => decide (e'.1 = (e.1 + x) % z)) = true
  rw [List.all_eq_true]
theorem isSome_any {t : List (Int × Int)} {kvs : List (Int × Value)} (jT : Paired TabR t kvs) (k : Int) : (valueAt kvs k).isSome = t.any fun e => decide (e.1 = k) := by
  have hl := tab_look k jT
  cases hv : lookT t k with
  | none => rw [hv] at hl; have hl : valueAt kvs k = none := hl; rw [hl, lookT_none.mp hv]; rfl
  | some v =>
    rw [hv] at hl
    obtain ⟨x, hx, _⟩ := hl
    rw [hx]
    cases ha : t.any fun e => decide (e.1 = k) with
    | true => rfl
    | false => rw [lookT_none.mpr ha] at hv; cases hv
def movesT (t : List (Int × Int)) (z : Int) : List Int := ((List.range z.toNat).map fun (i : Nat) => (i : Int)).filter fun x => keepsT t z (.int x 0)
theorem paired_filter {α β : Type} {R : α → β → Prop} {p : β → Bool} {q : α → Bool} (h : ∀ a b, R a b → p b = q a) : ∀ {l : List α} {m : List β}, Paired R l m → Paired R (l.filter q) (m.filter p)
  | _, _, .nil => .nil
  | _, _, .cons (a := a) (b := b) hr x => by
    rw [List.filter_cons, List.filter_cons, h a b hr]
    cases q a with
    | true => exact .cons hr (paired_filter h x)
    | false => exact paired_filter h x
theorem paired_comp {α β γ : Type} {R : α → β → Prop} {S : β → γ → Prop} {T : α → γ → Prop} (h : ∀ a b c, R a b → S b c → T a c) : ∀ {l : List α} {m : List β} {n : List γ}, Paired R l m → Paired S m n → Paired T l n
  | _, _, _, .nil, .nil => .nil
  | _, _, _, .cons r x, .cons s y => .cons (h _ _ _ r s) (paired_comp h x y)
theorem moves_ok {t : List (Int × Int)} {z : Int} {vs zs : List Value} (hl : vs.length = z.toNat) (hP : ∀ (j : Nat) v, vs[j]? = some v → j < z.toNat ∧ ∃ t, v = .int j t)
    (hF : Paired (fun v y => ∃ x t, v = .int x t ∧ IntIs x y) (vs.filter (keepsT t z)) zs) : Ints (movesT t z) zs := by
  have h1 : Paired (fun (x : Int) v => ∃ t, v = Value.int x t) ((List.range z.toNat).map fun (i : Nat) => (i : Int)) vs := paired_of (by simp [hl]) fun i a b ha hb => by
    obtain ⟨hi, t, e⟩ := hP i b hb
    rw [List.getElem?_map, List.getElem?_range hi] at ha
    have : a = (i : Int) := by simpa using ha.symm
    exact ⟨t, by rw [e, this]⟩
  have h2 := paired_filter (p := keepsT t z) (q := fun x => keepsT t z (.int x 0)) (fun a b ⟨t', e⟩ => by rw [e]; rfl) h1
  exact paired_comp (fun a b c ⟨t1, e1⟩ ⟨x, t2, e2, hx⟩ => by rw [e1] at e2; cases e2; exact hx) h2 hF
/-- what the last lines of law ask of the table -/
structure PL (t : List (Int × Int)) (z c bd both : Int) : Prop where
  lo : bd ≤ t.length
  eq : (t.length : Int) < both → (t.length : Int) = bd
  ne : t ≠ []
  mn : ∀ x : Int, (∃ e ∈ t, x = e.2.fdiv c) → (∀ e ∈ t, x ≤ e.2.fdiv c) → both - x ≤ t.length
end Mine
end
section -- S7
open PySem PySem.W PySem.Calls PyProof.Rows
namespace Mine
section
variable {prog : Program} {w : World} {A : Around} {E : Value → Shared → Prop} {s : Shared} {h : Heap} {tk : Nat} {env : Env}
theorem newEnv_cell {M : Model} {scope : Scope} {globals : Addr} {cl : List (Str × Addr)} {qual : Str} {x : Str} {Q : Env → Shared → Prop} (hcf : ∀ n, cellsFrom n scope.names cl = (x, n) :: cl) (hpc : ∀ h, pushCells h scope.names = h.push { cls := .type "cell", data := .cell none })
    (q : Q { scope, locals := h.objs.size, globals, cells := (x, h.objs.size + 1) :: cl, qual, func := none, code := env.code, frame := env.frame, builtins := env.builtins }
      (St s ((h.push { cls := .type "dict", data := .dict #[] }).push { cls := .type "cell", data := .cell none }) tk)) :
    wpAny M A (newFunctionEnv scope globals cl [] qual none .none (some env)) Q E (St s h tk) := by
  simp only [newFunctionEnv, Option.isSome_some, if_true]
  refine wpAny_bind (wpAny_alloc ?_)
  refine wpAny_bind (wpAny_layCells _ (fun name kind cells => by cases hkc : kind == NameKind.cell <;> simp [hkc]) _ _ _ _ ?_)
  show wpAny _ _ _ _ _ (St s (pushCells (h.push _) scope.names) tk)
  rw [hpc, hcf, show ({ (St s h tk) with heap := (St s h tk).heap.push { cls := .type "dict", data := .dict #[] } } : Shared).heap.objs.size = h.objs.size + 1 from Heap.size_push ..]
  rw [List.forIn_nil]
  exact wpAny_bind (wpAny_pure (wpAny_pure q))
theorem lcK {elt iter : Expr} {x : Str} {px : Pos} {ifs : List Expr} {scope : Scope} {cl : List (Str × Addr)} {pos : Pos} {Q : Value → Shared → Prop} (p : Value → Bool) (F : Value → Value → Prop)
    (hclos : closureFor scope env = pure cl) (hkind : scope.kind = .function)
    (hnames : ∀ y ∈ scope.names, y.2 = .local → scope.names.lookup y.1 = some .local) (hx : (relabel scope env).names.lookup x = some .cell) (hs : ∀ x, foldedSetIterable iter env x = pure x)
    (hcf : ∀ n, cellsFrom n scope.names cl = (x, n) :: cl) (hpc : ∀ h, pushCells h scope.names = h.push { cls := .type "cell", data := .cell none }) {use : Option (Value → Sem Unit)}
    (k : wpAny (model prog w) A (eval iter env) (fun xv s₁ => ∃ h₁ tk₁ n P fx, s₁ = St s h₁ tk₁ ∧ Over prog w A h₁ xv n P fx ∧ n ≤ sizeLine ∧
      (∀ C X i v h₃ tk₃ E', h₁.get? C = none → P i v → h₃.IsCell X (some v) → Sub h₁ h₃ →
        wpAny (model prog w) A (forIn ifs true fun c r => if r = true then do let ok ← isTrue c (compEnvC scope ((x, X) :: cl) C env) (eval c (compEnvC scope ((x, X) :: cl) C env)); pure (ForInStep.yield ok) else pure (ForInStep.yield r))
          (fun ok s₄ => ok = p v ∧ Keeps (St s h₃ tk₃) s₄) E' (St s h₃ tk₃)) ∧
      (∀ C X i v h₃ tk₃ E', h₁.get? C = none → P i v → p v = true → h₃.IsCell X (some v) → Sub h₁ h₃ →
        wpAny (model prog w) A (eval elt (compEnvC scope ((x, X) :: cl) C env)) (fun y s₄ => F v y ∧ Keeps (St s h₃ tk₃) s₄) E' (St s h₃ tk₃)) ∧
      (∀ D C m' h' tk' ys (vs : List Value), h₁.get? D = none → h₁.get? C = none → D ≠ C → Sub h₁ h' → h'.Ns C m' → h'.PlainList D ys → vs.length = n → (∀ j v, vs[j]? = some v → P j v) → Paired F (vs.filter p) ys.toList →
        compPost (model prog w) A E use Q (.ref D) C (.ok .next) (St s h' tk'))) E (St s h tk)) :
    wpAny (model prog w) A (comprehension (.ListComp elt [⟨.Name x px, iter, ifs, 0⟩] scope pos) scope env (firstIterPos [⟨.Name x px, iter, ifs, 0⟩] pos) (newList []) false (eval iter env) use) Q E (St s h tk) := by
  refine wpAny_comprehension_free (use := use) (g := ⟨.Name x px, iter, ifs, 0⟩) (gs := []) rfl hs hclos hkind hnames ?_
  refine wpAny_mono k (fun xv s₁ q => ?_) fun _ _ e => e
  obtain ⟨h₁, tk₁, n, P, fx, rfl, O, hn, B1, B2, fin⟩ := q
  refine O.go fun I h₂ fp S hS hI W hst hfp _ _ => ?_
  refine wpAny_newObj_type ?_
  show wpAny _ _ _ _ _ (St s (h₂.push _) tk₁)
  generalize hH2 : h₂.push { cls := .type "list", dict := none, data := .seq ([] : List Value).toArray } = H2
  refine newEnv_cell hcf hpc ?_
  have hC : H2.objs.size = h₂.objs.size + 1 := by rw [← hH2, Heap.size_push]
  generalize hH4 : (H2.push { cls := .type "dict", data := .dict #[] }).push { cls := .type "cell", data := .cell none } = H4
  have old : ∀ b o, h₂.get? b = some o → H4.get? b = some o := fun b o e => by
    rw [← hH4, ← hH2]
    exact Heap.get?_push_of_some _ (Heap.get?_push_of_some _ (Heap.get?_push_of_some _ e))
  have hacc : H4.PlainList h₂.objs.size #[] := by
    rw [← hH4, ← hH2]
    exact ⟨0, Heap.get?_push_of_some _ (Heap.get?_push_of_some _ (Heap.get?_push_size _ rfl))⟩
  have hns : H4.Ns H2.objs.size (fun _ => none) := by
    rw [← hH4]
    exact (Heap.Ns.new H2 (.type "dict")).keeps fun _ _ e => Heap.get?_push_of_some _ e
  have hX : H4.IsCell (H2.objs.size + 1) none := by
    rw [← hH4]
    have := Heap.get?_push_size (o := ({ cls := .type "cell", data := .cell none } : Obj)) (H2.push { cls := .type "dict", data := .dict #[] }) rfl
    rw [Heap.size_push] at this
    exact ⟨_, this, rfl⟩
  have below : ∀ b, b < h₂.objs.size → b ≠ H2.objs.size ∧ b ≠ h₂.objs.size ∧ b ≠ H2.objs.size + 1 := fun b hb => ⟨by rw [hC]; omega, Nat.ne_of_lt hb, by rw [hC]; omega⟩
  have hDC : h₂.objs.size ≠ H2.objs.size := by rw [hC]; exact Nat.ne_of_lt (Nat.lt_succ_self _)
  have hDX : h₂.objs.size ≠ H2.objs.size + 1 := by rw [hC]; omega
  have hCX : H2.objs.size ≠ H2.objs.size + 1 := Nat.ne_of_lt (Nat.lt_succ_self _)
  have hDf : h₂.objs.size ∉ fp := fun hm => Nat.lt_irrefl _ (hfp _ hm)
  have hCf : H2.objs.size ∉ fp := fun hm => by have := hfp _ hm; rw [hC] at this; exact Nat.lt_irrefl _ (Nat.lt_of_succ_lt this)
  have hXf : H2.objs.size + 1 ∉ fp := fun hm => by have := hfp _ hm; rw [hC] at this; exact Nat.lt_irrefl _ (Nat.lt_of_succ_lt (Nat.lt_of_succ_lt this))
  have lt₁ : ∀ {b : Addr} {o : Obj}, h₁.get? b = some o → b ≠ I ∧ b ≠ H2.objs.size ∧ b ≠ h₂.objs.size ∧ b ≠ H2.objs.size + 1 := fun {b o} e => by
    have := below b (Heap.lt_size (hS _ _ e))
    exact ⟨fun e1 => (by subst e1; rw [hI] at e; cases e), this⟩
  have low : ∀ {C : Addr}, h₂.objs.size ≤ C → h₁.get? C = none := fun {C} hC => by
    cases e : h₁.get? C with
    | none => rfl
    | some o => exact absurd (Heap.lt_size (hS _ _ e)) (Nat.not_lt.mpr hC)
  have hC1 : h₁.get? H2.objs.size = none := low (by rw [hC]; exact Nat.le_succ _)
  have hDw : h₂.objs.size ∉ [I] := fun hm => hDf (W.sub _ hm)
  have hCw : H2.objs.size ∉ [I] := fun hm => hCf (W.sub _ hm)
  have hXw : H2.objs.size + 1 ∉ [I] := fun hm => hXf (W.sub _ hm)
  have hst₁ : S 0 H4 := W.frame _ _ _ hst fun b _ o e => old b o e
  have loop : ∀ s₃ : Shared, s₃ = St s H4 tk₁ → codeAny (model prog w) A (.compLoop (.ListComp elt [⟨.Name x px, iter, ifs, 0⟩] scope pos) 0 (.ref I) (.ref h₂.objs.size) (compEnvC scope ((x, H2.objs.size + 1) :: cl) H2.objs.size env))
      (compPost (model prog w) A E use Q (.ref h₂.objs.size) H2.objs.size) s₃ := by
    rintro s₃ rfl
    refine codeAny_compLoop_tests (fun k s' => ∃ h' tk' ys, ∃ vs : List Value, ∃ vo, s' = St s h' tk' ∧ vs.length ≤ n ∧ k = n + 1 - vs.length ∧ S vs.length h' ∧ h'.PlainList h₂.objs.size ys ∧ h'.Ns H2.objs.size (fun _ => none) ∧ h'.IsCell (H2.objs.size + 1) vo ∧
        (∀ j v, vs[j]? = some v → P j v) ∧ Paired F (vs.filter p) ys.toList ∧ Sub h₁ h') ?_ (n + 1)
      ⟨H4, tk₁, #[], [], none, rfl, Nat.zero_le _, rfl, hst₁, hacc, hns, hX, by simp, by simpa using Paired.nil, fun b o e => old b o (hS b o e)⟩
    rintro k s' ⟨h', tk', ys, vs, vo, rfl, hi, rfl, hst', hacc', hn', hX', hP, hF, up'⟩
    by_cases hlt : vs.length < n
    · refine W.item _ _ _ _ hlt hst' fun v h₄ tk₄ hPv hst₄ hk₄ => ?_
      refine wpAny_assign_Name (wpAny_storeName_cell (c := H2.objs.size + 1) (v₀ := vo) (by simp [compEnvC, relabel, hkind]) hx (by simp [compEnvC]) (by
          obtain ⟨o, ho, hd⟩ := hX'
          exact ⟨o, hk₄ _ _ hXw ho, hd⟩) fun h₅ hX₅ hs₅ => ?_)
      have up₅ : Sub h₁ h₅ := fun b o e => hs₅.extBut b o (lt₁ e).2.2.2 (hk₄ b o (by simpa using (lt₁ e).1) (up' b o e))
      have hst₅ : S (vs.length + 1) h₅ := W.frame _ _ _ hst₄ fun b hb o e => hs₅.extBut b o (fun q => hXf (by rw [← q]; exact hb)) e
      have hacc₅ : h₅.PlainList h₂.objs.size ys := hacc'.at fun o e => hs₅.extBut _ o hDX (hk₄ _ o hDw e)
      have hn₅ : h₅.Ns H2.objs.size (fun _ => none) := hn'.at' fun o e => hs₅.extBut _ o hCX (hk₄ _ o hCw e)
      have hP' : ∀ j u, (vs ++ [v])[j]? = some u → P j u := fun j u hj => by
        rcases Nat.lt_trichotomy j vs.length with h | h | h
        · exact hP j u (by rwa [List.getElem?_append_left h] at hj)
        · subst h; simp at hj; subst hj; exact hPv
        · have hnone : (vs ++ [v])[j]? = none := List.getElem?_eq_none (by rw [List.length_append, List.length_singleton]; omega)
          rw [hnone] at hj; cases hj
      refine wpAny_mono (B1 _ _ _ v h₅ _ _ hC1 hPv hX₅ up₅) (fun ok s₃ q => ?_) fun _ _ e => e
      obtain ⟨rfl, h₆, tk₆, rfl, hk₆⟩ := q
      have up₆ : Sub h₁ h₆ := fun b o e => hk₆ b o (up₅ b o e)
      have hX₆ : h₆.IsCell (H2.objs.size + 1) (some v) := hX₅.keeps hk₆
      have hst₆ : S (vs.length + 1) h₆ := W.frame _ _ _ hst₅ fun b _ o e => hk₆ b o e
      cases hpv : p v with
      | false =>
        simp only [Bool.false_eq_true, if_false]
        refine ⟨n + 1 - (vs.length + 1), by omega, h₆, tk₆, ys, vs ++ [v], some v, rfl, (by rw [List.length_append, List.length_singleton]; exact hlt), (by rw [List.length_append, List.length_singleton]), by simpa using hst₆, hacc₅.at fun o e => hk₆ _ o e, hn₅.keeps hk₆, hX₆, hP', ?_, up₆⟩
        rw [List.filter_append]; simpa [hpv] using hF
      | true =>
        simp only [if_true]
        refine wpAny_mono (B2 _ _ _ v h₆ _ _ hC1 hPv hpv hX₆ up₆) (fun y s₄ q => ?_) fun _ _ e => e
        obtain ⟨hFy, h₇, tk₇, rfl, hk₇⟩ := q
        have hys : ys.size ≤ sizeLine := by
          have e1 := hF.length
          have e2 : (vs.filter p).length ≤ vs.length := List.length_filter_le _ _
          have e4 : ys.toList.length = ys.size := by simp
          omega
        refine wpAny_list_append_plain (s := St s h₇ tk₇) (hsz := hys) (hacc₅.at fun o e => hk₇ _ o (hk₆ _ o e)) fun h₈ hl₈ hs₈ => ?_
        have hk₈ := hs₈.extBut
        refine ⟨n + 1 - (vs.length + 1), by omega, h₈, tk₇, ys.push y, vs ++ [v], some v, rfl, (by rw [List.length_append, List.length_singleton]; exact hlt), (by rw [List.length_append, List.length_singleton]), ?_, hl₈, ((hn₅.keeps hk₆).keeps hk₇).at' fun o e => hk₈ _ o (Ne.symm hDC) e, ?_, hP', ?_, fun b o e => hk₈ b o (lt₁ e).2.2.1 (hk₇ b o (up₆ b o e))⟩
        · have := W.frame _ _ h₈ hst₆ fun b hb o e => hk₈ b o (fun h => hDf (h ▸ hb)) (hk₇ b o e)
          simpa using this
        · obtain ⟨o, ho, hd⟩ := hX₆.keeps hk₇
          exact ⟨o, hk₈ _ _ (Ne.symm hDX) ho, hd⟩
        · rw [List.filter_append]; simpa [hpv] using Paired.snoc hF hFy
    · have hin : vs.length = n := by omega
      refine W.done _ _ _ (hin ▸ hst') fun h₄ tk₄ hk₄ => ?_
      exact fin _ _ _ h₄ tk₄ ys vs (low (Nat.le_refl _)) hC1 hDC (fun b o e => hk₄ b o (by simpa using (lt₁ e).1) (up' b o e)) (hn'.at' fun o e => hk₄ _ o hCw e) (hacc'.at fun o e => hk₄ _ o hDw e) hin hP hF
  exact codeAny_compStart_list (loop _ rfl) (W.self 0 _ _ _ hst₁ (loop _ rfl))
end
end Mine
end
section -- S8
open PySem PySem.W PySem.Calls PyProof.Rows
namespace Mine
section
variable {prog : Program} {w : World} {A : Around} {E : Value → Shared → Prop} {s : Shared} {h : Heap} {tk : Nat} {env : Env}
/-- `y = [... for x in iter ...]` where x stands in a cell -/
theorem asg_lcK {elt iter : Expr} {x y : Str} {px py : Pos} {ifs : List Expr} {scope : Scope} {cl : List (Str × Addr)} {pos spos : Pos} {Q : Flow → Shared → Prop} {m : Str → Option Value} (p : Value → Bool) (F : Value → Value → Prop)
    (hsw : swapsWith (.ListComp elt [⟨.Name x px, iter, ifs, 0⟩] scope pos) (some (.Name y py)) spos.line env = pure true)
    (hclos : closureFor scope env = pure cl) (hkind : scope.kind = .function)
    (hnames : ∀ y ∈ scope.names, y.2 = .local → scope.names.lookup y.1 = some .local) (hx : (relabel scope env).names.lookup x = some .cell) (hs : ∀ x, foldedSetIterable iter env x = pure x)
    (hcf : ∀ n, cellsFrom n scope.names cl = (x, n) :: cl) (hpc : ∀ h, pushCells h scope.names = h.push { cls := .type "cell", data := .cell none })
    (hy : env.kindOf y = some .local) (hp : (env.scope.kind == .class || (env.scope.kind == .module && env.locals != env.globals)) = false)
    (k : wpAny (model prog w) A (eval iter env) (fun xv s₁ => ∃ h₁ tk₁ n P fx, s₁ = St s h₁ tk₁ ∧ Over prog w A h₁ xv n P fx ∧ n ≤ sizeLine ∧ h₁.Ns env.locals m ∧
      (∀ C X i v h₃ tk₃ E', h₁.get? C = none → P i v → h₃.IsCell X (some v) → Sub h₁ h₃ →
        wpAny (model prog w) A (forIn ifs true fun c r => if r = true then do let ok ← isTrue c (compEnvC scope ((x, X) :: cl) C env) (eval c (compEnvC scope ((x, X) :: cl) C env)); pure (ForInStep.yield ok) else pure (ForInStep.yield r))
          (fun ok s₄ => ok = p v ∧ Keeps (St s h₃ tk₃) s₄) E' (St s h₃ tk₃)) ∧
      (∀ C X i v h₃ tk₃ E', h₁.get? C = none → P i v → p v = true → h₃.IsCell X (some v) → Sub h₁ h₃ →
        wpAny (model prog w) A (eval elt (compEnvC scope ((x, X) :: cl) C env)) (fun y s₄ => F v y ∧ Keeps (St s h₃ tk₃) s₄) E' (St s h₃ tk₃)) ∧
      (∀ D h' tk' ys (vs : List Value), h₁.get? D = none → h'.PlainList D ys → vs.length = n → (∀ j v, vs[j]? = some v → P j v) → Paired F (vs.filter p) ys.toList →
        h'.Ns env.locals (fun z => if z = y then some (.ref D) else m z) → (∀ b o, b ≠ env.locals → h₁.get? b = some o → h'.get? b = some o) → Q .next (St s h' tk'))) E (St s h tk)) :
    wpAny (model prog w) A (exec (.Assign [.Name y py] (.ListComp elt [⟨.Name x px, iter, ifs, 0⟩] scope pos) spos) env) Q E (St s h tk) := by
  rw [exec_Assign_Name_used _ _ _ _ hsw]
  refine wpAny_bind (wpAny_standAt (wpAny_bind ?_))
  show wpAny _ A (do let _ ← comprehension (.ListComp elt [⟨.Name x px, iter, ifs, 0⟩] scope pos) scope env _ (newList []) false (eval iter env) (some (assign (.Name y py) env))) _ _ (St s h tk)
  refine wpAny_bind (wpAny_mono (lcK (use := some (assign (.Name y py) env)) (Q := fun _ s' => Q .next s') p F hclos hkind hnames hx hs hcf hpc
    (wpAny_mono k (fun xv s₁ q => ?_) fun _ _ e => e)) (fun _ s' hq => wpAny_pure (wpAny_pure hq)) fun _ _ e => e)
  obtain ⟨h₁, tk₁, n, P, fx, rfl, O, hn, hns, B1, B2, fin⟩ := q
  refine ⟨h₁, tk₁, n, P, fx, rfl, O, hn, B1, B2, ?_⟩
  intro D C m' h' tk' ys vs hD hC hDC hS hnC hpl hlen hP hF
  have hLC : env.locals ≠ C := by rintro rfl; obtain ⟨o, _, _, ho, _⟩ := hns; rw [hC] at ho; cases ho
  have hLD : env.locals ≠ D := by rintro rfl; obtain ⟨o, _, _, ho, _⟩ := hns; rw [hD] at ho; cases ho
  show wpAny _ A (assign (.Name y py) env (.ref D)) _ _ _
  refine wpAny_assign_Name (wpAny_storeName_local (s := St s h' tk') hy (hns.at' fun o e => hS _ o e) (fun h₂ hn₂ hs₂ => ?_) hp)
  refine ⟨m', hnC.sameBut hs₂ (Ne.symm hLC), fun h₃ hs₃ => ?_⟩
  exact fin D h₃ _ ys vs hD ((hpl.extBut hs₂.extBut (Ne.symm hLD)).extBut hs₃.extBut hDC) hlen hP hF (hn₂.sameBut hs₃ hLC) fun b o hbL e =>
    hs₃.extBut b o (by rintro rfl; rw [hC] at e; cases e) (hs₂.extBut b o hbL (hS b o e))
end
end Mine
end
section -- L1
open PySem PySem.W PySem.Calls PyProof.Rows
namespace Mine
noncomputable def lawFn (w : World) : Option (Str × List Stmt × Scope) := ((hd.heap_39 w.params).lookup 132).bind fun o => match o.data with | .func fd => (match fd.body with | .stmts b => some (fd.name, b, fd.scope) | _ => none) | _ => none
section
variable {prog : Program} {w : World} {A : Around} {E : Value → Shared → Prop} {s : Shared} {h h₁ : Heap} {tk : Nat} {p : Program} {loose : List Str} {mg mb : Str → Option Value} {Q : Value → Shared → Prop}
theorem w_item {value slice : Expr} {b : Addr} {its : Array Value} {ns : List Int} {k : Int} {i : Nat} {n : Int} {u : Tok} {ops : List Value} (hl : h.IsList b its) (hi : Ints ns its.toList) (hn : ns[i]? = some n) (hk : k = i) (hb : i < 100) (q : ∀ t, Q (.int n t) (St s h tk))
    (hs : subscripted slice false (.ref b) (.int k u) = operate ops (getItem (.ref b) (.int k u)) := by with_unfolding_all rfl) :
    wpAny (model prog w) A (subscriptTail value slice (.ref b) (.int k u)) Q E (St s h tk) := by
  subst hk
  obtain ⟨v, hv, t, rfl⟩ := paired_get hi hn
  rw [Array.getElem?_toList] at hv
  have hlt : i < its.size := (Array.getElem?_eq_some_iff.mp hv).1
  refine tail_any (hl.typeIs (s := St s h tk)) list_getitem_lookup (wpAny_getItem_list (s := St s h tk) hl (by omega) (by omega) (x := .int n t) (by rw [Int.toNat_natCast]; exact hv) ?_) hs
  exact q t
theorem w_num {env : Env} {x : Str} {m : Str → Option Value} {D : Addr} {its : Array Value} {ns : List Int} {i : Nat} {n : Int} {p1 p2 p3 : Pos} {k : Nat} (hN : h.Ns env.locals m) (hv : m x = some (.ref D)) (hl : h.IsList D its) (hi : Ints ns its.toList) (hn : ns[i]? = some n) (hb : i < 100)
    (hk : env.scope.kind = .function) (hx : env.kindOf x = some .local) (q : ∀ t tk', Q (.int n t) (St s h tk')) (hd : (x == ("__debug__" : Str)) = false := by decide) :
    wpAny (model prog w) A (eval (.Subscript (.Name x p1) (.Constant (.int i) k p2) p3) env) Q E (St s h tk) := by
  refine Subscript_ (nm_loc hN hv (w_int fun t1 k1 => ?_) hk hx hd)
  exact w_item hl hi hn rfl hb fun t => q t _
/-- the size that the first number picks -/
def zOf (n : Int) : Int := if n % 4 = 0 then 8 else if n % 4 = 1 then 12 else if n % 4 = 2 then 6 else 10
set_option maxHeartbeats 1000000 in
theorem law_body {nm : Str} {body : List Stmt} {scope : Scope} (hfd : lawFn w = some (nm, body, scope)) {f : Addr} {cd : Value} (G : Gr w p loose mg mb h) (hA : Fit A 10) (a : Addr) (ys : Array Value) (ns : List Int) (hl : h.IsList a ys) (hi : Ints ns ys.toList) (hsz : ys.size ≤ sizeLine)
    {m : Str → Option Value} (hm : m (Str.ofString "script") = some (.ref a)) {o1 o2 o3 : Obj} (d1 : o1.data = .cell none) (d2 : o2.data = .cell none) (d3 : o3.data = .cell none)
    (l : Led h h.objs.size h₁ m [(h.objs.size + 1 + 1 + 1, o3), (h.objs.size + 1 + 1, o2), (h.objs.size + 1, o1)])
    (plain : ∀ (z c d0 d1 d2 d3 d4 d5 : Int) (t : List (Int × Int)), (z = 6 ∨ z = 8 ∨ z = 10 ∨ z = 12) → c % 2 = 1 → TabC c (sums z (dedup (modL z [d0, d1, d0 + d2, d1 + d2])) (dedup (modL z [d3, d4, d5]))) t →
      PL t z c ((((dedup (sums z (dedup (modL z [d0, d1, d0 + d2, d1 + d2])) (movesT t z))).length : Nat) : Int) + (((dedup (sums z (dedup (modL z [d3, d4, d5])) (movesT t z))).length : Nat) : Int) - (((movesT t z).length : Nat) : Int))
        ((((dedup (modL z [d0, d1, d0 + d2, d1 + d2])).length : Nat) : Int) + (((dedup (modL z [d3, d4, d5])).length : Nat) : Int)))
    (q : ∀ h' tk' m', Fr h h.objs.size h' m' → Q (.bool true) (St s h' tk')) :
    wpAny (model prog w) A (execs body (envOfC nm scope h.objs.size f cd)) (fun fl s' => Q (match fl with | .ret v => v | _ => .none) s') (fun _ _ => False) (St s h₁ tk) := by
  have hfd := Option.some.inj hfd
  have e1 := congrArg (·.1) hfd
  have e2 := congrArg (·.2.1) hfd
  have e3 := congrArg (·.2.2) hfd
  dsimp only at e1 e2 e3
  subst e1 e2 e3
  clear hfd
  -- numbers
  refine asgL (fun v own => ∃ D zs ms k, v = .ref D ∧ own = [(D, lstO zs k)] ∧ ms.length = 7 ∧ Ints ms zs.toList) l ?_ (fun v own h2 tk2 hv l2 => ?_) rfl rfl rfl
  · refine callG (G.keeps l.fr.keep) rfl rfl rfl rfl rfl rfl ?_ rfl rfl
    refine args_cons (nm_loc l.fr.ns (v := .ref a) hm ?_ rfl rfl) rfl
    refine args_nil ⟨fun _ _ e => e, ?_⟩
    refine c_numbers (G.keeps l.fr.keep) (Fit.mono hA (by decide)) a ys ns (hl.at fun o e => l.fr.keep _ o e) hi hsz fun D zs ms h' tk' hD hS hpl hml hms => ?_
    obtain ⟨k, hpl⟩ := hpl
    exact ⟨_, _, [_], rfl, l.add hS hD hpl, D, zs, ms, k, rfl, rfl, hml, hms⟩
  obtain ⟨D, zs, ms, kD, rfl, rfl, hml, hms⟩ := hv
  obtain ⟨n0, n1, n2, n3, n4, n5, n6, rfl⟩ : ∃ n0 n1 n2 n3 n4 n5 n6, ms = [n0, n1, n2, n3, n4, n5, n6] := by
    match ms, hml with
    | [n0, n1, n2, n3, n4, n5, n6], _ => exact ⟨_, _, _, _, _, _, _, rfl⟩
  have hlD : ∀ {h' : Heap} {m'} {news}, Led h h.objs.size h' m' news → (D, lstO zs kD) ∈ news → h'.IsList D zs := fun l hm => ⟨_, l.get hm, rfl, _, rfl⟩
  -- size
  refine asgK (pre := [(D, lstO zs kD), (h.objs.size + 1 + 1 + 1, o3), (h.objs.size + 1 + 1, o2)]) (post := []) (fun v own => own = [] ∧ ∃ t, v = .int (zOf n0) t) l2 ?_ (fun v own o1' h3 tk3 hv d1' l3 => ?_) d1 rfl rfl rfl rfl
  · refine Subscript_ ?_
    refine wpAny_List (wpAny_items_cons (w_int fun u0 k0 => wpAny_items_cons (w_int fun u1 k1 => wpAny_items_cons (w_int fun u2 k2 => wpAny_items_cons (w_int fun u3 k3 => wpAny_items_nil ⟨(by rw [sizeLine_eq]; exact (show (4 : Nat) ≤ 16777216 by decide)), ?_⟩)))))
    have l2' := l2.sub (sub_push h2 { cls := .type "list", data := .seq [Value.int 8 u0, .int 12 u1, .int 6 u2, .int 10 u3].toArray })
    refine wpAny_BinOp ?_
    refine Subscript_ (nm_loc l2'.fr.ns rfl (w_int fun t1 k1 => ?_) rfl rfl)
    refine w_item (i := 0) (hlD l2' (.head _)) hms rfl rfl (by decide) fun t2 => ?_
    refine w_int fun t3 k3 => w_mod (by decide) fun t4 k4 => ?_
    have hz4 : (([8, 12, 6, 10] : List Int))[(n0 % 4).toNat]? = some (zOf n0) := by
      unfold zOf
      have : n0 % 4 = 0 ∨ n0 % 4 = 1 ∨ n0 % 4 = 2 ∨ n0 % 4 = 3 := by omega
      rcases this with e | e | e | e <;> rw [e] <;> rfl
    refine w_item (i := (n0 % 4).toNat) (ns := [8, 12, 6, 10]) (its := #[.int 8 u0, .int 12 u1, .int 6 u2, .int 10 u3]) ⟨_, Heap.get?_push_size _ rfl, rfl, _, rfl⟩ (.cons ⟨_, rfl⟩ (.cons ⟨_, rfl⟩ (.cons ⟨_, rfl⟩ (.cons ⟨_, rfl⟩ .nil)))) hz4 (by omega) (by omega) fun t5 => ?_
    exact ⟨_, _, [], rfl, l2', rfl, t5, rfl⟩
  obtain ⟨rfl, u, rfl⟩ := hv
  have hz : zOf n0 = 6 ∨ zOf n0 = 8 ∨ zOf n0 = 10 ∨ zOf n0 = 12 := by
    unfold zOf
    split
    · exact .inr (.inl rfl)
    · split
      · exact .inr (.inr (.inr rfl))
      · split
        · exact .inl rfl
        · exact .inr (.inr (.inl rfl))
  generalize hze : zOf n0 = z at *
  -- share
  refine asgK (pre := [(D, lstO zs kD), (h.objs.size + 1 + 1 + 1, o3)]) (post := [(h.objs.size + 1, o1')]) (fun v own => own = [] ∧ ∃ c t, v = .int c t ∧ c % 2 = 1 ∧ c.natAbs ≤ 1000000) l3 ?_ (fun v own o2' h4 tk4 hv d2' l4 => ?_) d2 rfl rfl rfl rfl
  · have G3 := G.keeps l3.fr.keep
    refine wpAny_BinOp (wpAny_BinOp (wpAny_BinOp (w_int fun t1 k1 => wpAny_BinOp ?_)))
    refine Call_Name1 (nm_B G3 rfl rfl (by decide) ?_ rfl rfl rfl rfl)
    refine callWith_builtin rfl (evalArgs_plain (spliced_cons ?_))
    refine Subscript_ (nm_loc l3.fr.ns (v := .ref a) hm ?_ rfl rfl)
    refine wpAny_Slice (wpAny_evalPart_none (wpAny_evalPart_some (w_int fun t2 k2 => wpAny_evalPart_none ?_)))
    refine w_slice (hl.at fun o e => l3.fr.keep _ o e) .none (.int _ _) .none (by decide) ?_ hsz
    have hpk : IntsAre (slicePick ys none (some 63) none).toList (pickNums ns none (some 63) none) := by
      have := (ints_are hi).pick none (some 63) none
      simpa using this
    refine spliced_nil ?_
    refine w_sum (its := slicePick ys none (some 63) none) hA.hh ⟨_, by have := Heap.get?_push_size (o := ({ cls := .type "list", data := .seq (slicePick ys none (some 63) none) } : Obj)) (h3.push { cls := .type "slice", data := .fields #[.none, .int 63 t2, .none] }) rfl; rw [Heap.size_push] at this; exact this, rfl, _, rfl⟩ (are_ints hpk) fun h5 t5 k5 hS5 => ?_
    have l5 := l3.sub (h' := h5) fun b o e => hS5 _ _ (Heap.get?_push_of_some _ (Heap.get?_push_of_some _ e))
    generalize (pickNums ns none (some 63) none).sum = S at *
    refine wpAny_BinOp (w_int fun t6 k6 => w_int fun t7 k7 => w_pow6 fun t8 k8 => ?_)
    refine w_mod (by decide) fun t9 k9 => ?_
    refine w_mul (IntMulOk.of_left (by decide)) fun t10 k10 => ?_
    refine w_int fun t11 k11 => w_add fun t12 k12 => ?_
    refine wpAny_BinOp (w_int fun t13 k13 => w_int fun t14 k14 => w_pow6 fun t15 k15 => ?_)
    refine w_sub fun t16 k16 => ?_
    exact ⟨h5, _, [], rfl, l5, rfl, _, t16, rfl, by omega, by omega⟩
  obtain ⟨rfl, c, u2, rfl, hc2, hcb⟩ := hv
  -- early
  refine asgL (fun v own => ∃ E1 ee k, v = .ref E1 ∧ own = [(E1, lstO ee k)] ∧ Ints [n1, n2, n1 + n3, n2 + n3] ee.toList) l4 ?_ (fun v own h5 tk5 hv l5 => ?_) rfl rfl rfl
  · have hlD4 : h4.IsList D zs := hlD l4 (.head _)
    refine wpAny_List (wpAny_items_cons (w_num (i := 1) l4.fr.ns rfl hlD4 hms rfl (by decide) rfl rfl fun t1 k1 => ?_))
    refine wpAny_items_cons (w_num (i := 2) l4.fr.ns rfl hlD4 hms rfl (by decide) rfl rfl fun t2 k2 => ?_)
    refine wpAny_items_cons (wpAny_BinOp (w_num (i := 1) l4.fr.ns rfl hlD4 hms rfl (by decide) rfl rfl fun t3 k3 => w_num (i := 3) l4.fr.ns rfl hlD4 hms rfl (by decide) rfl rfl fun t4 k4 => w_add fun t5 k5 => ?_))
    refine wpAny_items_cons (wpAny_BinOp (w_num (i := 2) l4.fr.ns rfl hlD4 hms rfl (by decide) rfl rfl fun t6 k6 => w_num (i := 3) l4.fr.ns rfl hlD4 hms rfl (by decide) rfl rfl fun t7 k7 => w_add fun t8 k8 => ?_))
    refine wpAny_items_nil ⟨(by rw [sizeLine_eq]; exact (show (4 : Nat) ≤ 16777216 by decide)), ?_⟩
    exact ⟨_, _, [(_, lstO #[.int n1 t1, .int n2 t2, .int (n1 + n3) t5, .int (n2 + n3) t8] 0)], rfl, l4.add (sub_push _ _) (get_none_size (Nat.le_refl _)) (Heap.get?_push_size _ rfl), _, _, _, rfl, rfl, .cons ⟨_, rfl⟩ (.cons ⟨_, rfl⟩ (.cons ⟨_, rfl⟩ (.cons ⟨_, rfl⟩ .nil)))⟩
  obtain ⟨E1, ee, kE, rfl, rfl, hee⟩ := hv
  -- late
  refine asgL (fun v own => ∃ E2 el k, v = .ref E2 ∧ own = [(E2, lstO el k)] ∧ Ints [n4, n5, n6] el.toList) l5 ?_ (fun v own h6 tk6 hv l6 => ?_) rfl rfl rfl
  · refine Subscript_ (nm_loc l5.fr.ns rfl ?_ rfl rfl)
    refine wpAny_Slice (wpAny_evalPart_some (w_int fun t2 k2 => wpAny_evalPart_none (wpAny_evalPart_none ?_)))
    refine w_slice (hlD l5 (.tail _ (.head _))) (.int _ _) .none .none (by decide) ?_ (by have : zs.size = 7 := by (rw [← Array.length_toList]; exact hms.length.symm)
                                                                                          rw [this, sizeLine_eq]; decide)
    have hpk : IntsAre (slicePick zs (some 4) none none).toList [n4, n5, n6] := by
      have := slice_ints_fromW (ints_are hms) (x := 4) (by decide)
      simpa using this
    have hz1 := Heap.get?_push_size (o := ({ cls := .type "list", data := .seq (slicePick zs (some 4) none none) } : Obj)) (h5.push { cls := .type "slice", data := .fields #[.int 4 t2, .none, .none] }) rfl
    rw [Heap.size_push] at hz1
    exact ⟨_, _, [(_, lstO (slicePick zs (some 4) none none) 0)], rfl, l5.add (fun _ _ e => Heap.get?_push_of_some _ (Heap.get?_push_of_some _ e)) (get_none_size (Nat.le_succ _)) hz1, _, _, _, rfl, rfl, are_ints hpk⟩
  obtain ⟨E2, el, kL, rfl, rfl, hel⟩ := hv
  have hcz : ∀ {h' : Heap} {m'} {news}, Led h h.objs.size h' m' news → (h.objs.size + 1, o1') ∈ news → h'.IsCell (h.objs.size + 1) (some (.int z u)) := fun l hm => ⟨_, l.get hm, d1'⟩
  have hcs : ∀ {h' : Heap} {m'} {news}, Led h h.objs.size h' m' news → (h.objs.size + 1 + 1, o2') ∈ news → h'.IsCell (h.objs.size + 1 + 1) (some (.int c u2)) := fun l hm => ⟨_, l.get hm, d2'⟩
  have hlL : ∀ {h' : Heap} {m'} {news} {b : Addr} {its : Array Value} {k : Nat}, Led h h.objs.size h' m' news → (b, lstO its k) ∈ news → h'.IsList b its := fun l hm => ⟨_, l.get hm, rfl, _, rfl⟩
  -- first
  refine asgL (fun v own => ∃ D1 f1 k, v = .ref D1 ∧ own = [(D1, lstO f1 k)] ∧ Paired OffVal ([n1, n2, n1 + n3, n2 + n3].map (fun n => some (1800 * (n % (3 * z) - z))) ++ [none]) f1.toList) l6 ?_ (fun v own h7 tk7 hv l7 => ?_) rfl rfl rfl
  · have G6 := G.keeps l6.fr.keep
    refine callG G6 rfl rfl rfl rfl rfl rfl ?_ rfl rfl
    refine args_cons (nm_loc l6.fr.ns rfl ?_ rfl rfl) rfl
    refine args_cons (nm_cell rfl (hcz l6 (by simp)) ?_ rfl rfl) rfl
    refine args_cons (w_str fun t1 k1 => ?_) rfl
    refine args_nil ⟨fun _ _ e => e, ?_⟩
    refine c_offsets G6 (Fit.mono hA (by decide)) E1 ee [n1, n2, n1 + n3, n2 + n3] z u t1 (Str.ofString "  ") (hlL l6 (.tail _ (.head _))) hee (by simp) hz (by decide +kernel) (by rw [cut_none, off_none]) fun D1 ds h' tk' hD hS hpl hds => ?_
    obtain ⟨k, hpl⟩ := hpl
    exact ⟨_, _, [_], rfl, l6.add hS hD hpl, D1, ds, k, rfl, rfl, hds⟩
  obtain ⟨D1, f1, kF, rfl, rfl, hf1⟩ := hv
  -- second
  refine asgL (fun v own => ∃ D2 f2 k, v = .ref D2 ∧ own = [(D2, lstO f2 k)] ∧ Paired OffVal ([n4, n5, n6].map (fun n => some (1800 * (n % (3 * z) - z))) ++ [none]) f2.toList) l7 ?_ (fun v own h8 tk8 hv l8 => ?_) rfl rfl rfl
  · have G7 := G.keeps l7.fr.keep
    refine callG G7 rfl rfl rfl rfl rfl rfl ?_ rfl rfl
    refine args_cons (nm_loc l7.fr.ns rfl ?_ rfl rfl) rfl
    refine args_cons (nm_cell rfl (hcz l7 (by simp)) ?_ rfl rfl) rfl
    refine args_cons (w_str fun t1 k1 => ?_) rfl
    refine args_nil ⟨fun _ _ e => e, ?_⟩
    refine c_offsets G7 (Fit.mono hA (by decide)) E2 el [n4, n5, n6] z u t1 (Str.ofString "EST\t") (hlL l7 (.tail _ (.head _))) hel (by simp) hz (by decide +kernel) (by rw [cut_est, off_est]) fun D1 ds h' tk' hD hS hpl hds => ?_
    obtain ⟨k, hpl⟩ := hpl
    exact ⟨_, _, [_], rfl, l7.add hS hD hpl, D1, ds, k, rfl, rfl, hds⟩
  obtain ⟨D2, f2, kS, rfl, rfl, hf2⟩ := hv
  -- first != ...
  refine ifL false l8 ?_ fun h9 tk9 l9 => ?_
  · refine wpAny_isTrue_Compare1 (nm_loc l8.fr.ns rfl ?_ rfl rfl)
    refine wpAny_BinOp ?_
    refine lc (fun _ => true) (fun v y => ∃ n, IntIs n v ∧ IntIs (1800 * (n % (3 * z) - z)) y) rfl (by decide) rfl (by decide) rfl (fun _ => rfl) ?_
    refine nm_loc l8.fr.ns rfl ?_ rfl rfl
    refine ⟨_, _, _, _, _, rfl, over_list hA.hh (hlL l8 (.tail _ (.tail _ (.tail _ (.head _))))), ?_, ⟨?_, ?_⟩, ?_⟩
    · have : ee.size = 4 := by rw [← Array.length_toList]; exact hee.length.symm
      rw [this, sizeLine_eq]; decide
    · intro C i v s' h₃ tk₃ m₃ E' _ _ _ _ hS
      exact no_tests ⟨rfl, h₃, tk₃, rfl, fun _ _ e => e⟩
    · intro C i v s' h₃ tk₃ m₃ E' _ hP _ hNs hm hS
      obtain ⟨n, t, _, rfl⟩ := int_of hee hP
      have hc3 := (hcz l8 (by simp)).keeps hS
      refine wpAny_BinOp (w_int fun t1 k1 => wpAny_BinOp (wpAny_BinOp (nm_loc hNs hm (wpAny_BinOp (w_int fun t2 k2 => nm_cell rfl hc3 ?_ rfl rfl)) rfl rfl)))
      refine w_mul (IntMulOk.of_left (by decide)) fun t3 k3 => w_mod (by omega) fun t4 k4 => nm_cell rfl hc3 ?_ rfl rfl
      exact w_sub fun t5 k5 => w_mul (IntMulOk.of_left (by decide)) fun t6 k6 => ⟨⟨n, ⟨t, rfl⟩, ⟨t6, rfl⟩⟩, h₃, k6, rfl, fun _ _ e => e⟩
    · intro D3 h10 tk10 g1 vs hD3 hS10 ⟨k10, hpl10⟩ hvl hvP hF
      have hg := offs_of hee hvl hvP hF
      have hgz : g1.size = 4 := by
        have := hg.length
        simp at this
        exact this
      refine wpAny_List (wpAny_items_cons (wpAny_Constant_none (wpAny_items_nil ⟨(by rw [sizeLine_eq]; exact (show (1 : Nat) ≤ 16777216 by decide)), ?_⟩)))
      refine PySem.P.add_list (s := St s _ tk10) (Heap.get?_push_of_some _ hpl10) (Heap.get?_push_size _ rfl) ?_ (by rw [hgz, sizeLine_eq]; decide)
      have l10 := (l8.sub hS10).sub (fun b o e => Heap.get?_push_of_some { cls := .type "list", data := .seq (g1 ++ [Value.none].toArray) } (Heap.get?_push_of_some { cls := .type "list", data := .seq [Value.none].toArray } e))
      refine ne_offs (hlL l10 (.tail _ (.head _))) ⟨_, Heap.get?_push_size _ rfl, rfl, _, rfl⟩ hf1 hg hA.ult ?_
      exact wpAny_truthy_bool ⟨rfl, _, _, rfl, l10⟩
  rw [if_neg (by decide)]
  refine wpAny_execs_nil ?_
  dsimp only
  -- second != ...
  refine ifL false l9 ?_ fun h10 tk10 l10 => ?_
  · refine wpAny_isTrue_Compare1 (nm_loc l9.fr.ns rfl ?_ rfl rfl)
    refine wpAny_BinOp ?_
    refine lc (fun _ => true) (fun v y => ∃ n, IntIs n v ∧ IntIs (1800 * (n % (3 * z) - z)) y) rfl (by decide) rfl (by decide) rfl (fun _ => rfl) ?_
    refine nm_loc l9.fr.ns rfl ?_ rfl rfl
    refine ⟨_, _, _, _, _, rfl, over_list hA.hh (hlL l9 (.tail _ (.tail _ (.head _)))), ?_, ⟨?_, ?_⟩, ?_⟩
    · have : el.size = 3 := by rw [← Array.length_toList]; exact hel.length.symm
      rw [this, sizeLine_eq]; decide
    · intro C i v s' h₃ tk₃ m₃ E' _ _ _ _ hS
      exact no_tests ⟨rfl, h₃, tk₃, rfl, fun _ _ e => e⟩
    · intro C i v s' h₃ tk₃ m₃ E' _ hP _ hNs hm hS
      obtain ⟨n, t, _, rfl⟩ := int_of hel hP
      have hc3 := (hcz l9 (by simp)).keeps hS
      refine wpAny_BinOp (w_int fun t1 k1 => wpAny_BinOp (wpAny_BinOp (nm_loc hNs hm (wpAny_BinOp (w_int fun t2 k2 => nm_cell rfl hc3 ?_ rfl rfl)) rfl rfl)))
      refine w_mul (IntMulOk.of_left (by decide)) fun t3 k3 => w_mod (by omega) fun t4 k4 => nm_cell rfl hc3 ?_ rfl rfl
      exact w_sub fun t5 k5 => w_mul (IntMulOk.of_left (by decide)) fun t6 k6 => ⟨⟨n, ⟨t, rfl⟩, ⟨t6, rfl⟩⟩, h₃, k6, rfl, fun _ _ e => e⟩
    · intro D3 h12 tk12 g1 vs hD3 hS10 ⟨k12, hpl12⟩ hvl hvP hF
      have hg := offs_of hel hvl hvP hF
      have hgz : g1.size = 3 := by
        have := hg.length
        simp at this
        exact this
      refine wpAny_List (wpAny_items_cons (wpAny_Constant_none (wpAny_items_nil ⟨(by rw [sizeLine_eq]; exact (show (1 : Nat) ≤ 16777216 by decide)), ?_⟩)))
      refine PySem.P.add_list (s := St s _ tk12) (Heap.get?_push_of_some _ hpl12) (Heap.get?_push_size _ rfl) ?_ (by rw [hgz, sizeLine_eq]; decide)
      have l12 := (l9.sub hS10).sub (fun b o e => Heap.get?_push_of_some { cls := .type "list", data := .seq (g1 ++ [Value.none].toArray) } (Heap.get?_push_of_some { cls := .type "list", data := .seq [Value.none].toArray } e))
      refine ne_offs (hlL l12 (.head _)) ⟨_, Heap.get?_push_size _ rfl, rfl, _, rfl⟩ hf2 hg hA.ult ?_
      exact wpAny_truthy_bool ⟨rfl, _, _, rfl, l12⟩
  rw [if_neg (by decide)]
  refine wpAny_execs_nil ?_
  dsimp only
  -- ones
  have hz0 : 0 < z := by omega
  have hz12 : z ≤ 12 := by omega
  refine asgL (fun v own => ∃ D3 g3 k, v = .ref D3 ∧ own = [(D3, lstO g3 k)] ∧ Ints (dedup (plOf z ([n1, n2, n1 + n3, n2 + n3].map (fun n => some (1800 * (n % (3 * z) - z))) ++ [none]))) g3.toList) l10 ?_ (fun v own h11 tk11 hv l11 => ?_) rfl rfl rfl
  · have G10 := G.keeps l10.fr.keep
    refine callG G10 rfl rfl rfl rfl rfl rfl ?_ rfl rfl
    refine args_cons (nm_loc l10.fr.ns rfl ?_ rfl rfl) rfl
    refine args_cons (nm_cell rfl (hcz l10 (by simp)) ?_ rfl rfl) rfl
    refine args_nil ⟨fun _ _ e => e, ?_⟩
    refine c_places G10 (Fit.mono hA (by decide)) D1 f1 _ z u (hlL l10 (.tail _ (.head _))) hf1 (by simp) hz0 hz12 fun D3 ds h' tk' hD hS hpl hds => ?_
    obtain ⟨k, hpl⟩ := hpl
    exact ⟨_, _, [_], rfl, l10.add hS hD hpl, D3, ds, k, rfl, rfl, hds⟩
  obtain ⟨D3, g3, k3, rfl, rfl, hg3⟩ := hv
  -- others
  refine asgL (fun v own => ∃ D4 g4 k, v = .ref D4 ∧ own = [(D4, lstO g4 k)] ∧ Ints (dedup (plOf z ([n4, n5, n6].map (fun n => some (1800 * (n % (3 * z) - z))) ++ [none]))) g4.toList) l11 ?_ (fun v own h12 tk12 hv l12 => ?_) rfl rfl rfl
  · have G11 := G.keeps l11.fr.keep
    refine callG G11 rfl rfl rfl rfl rfl rfl ?_ rfl rfl
    refine args_cons (nm_loc l11.fr.ns rfl ?_ rfl rfl) rfl
    refine args_cons (nm_cell rfl (hcz l11 (by simp)) ?_ rfl rfl) rfl
    refine args_nil ⟨fun _ _ e => e, ?_⟩
    refine c_places G11 (Fit.mono hA (by decide)) D2 f2 _ z u (hlL l11 (.tail _ (.head _))) hf2 (by simp) hz0 hz12 fun D3 ds h' tk' hD hS hpl hds => ?_
    obtain ⟨k, hpl⟩ := hpl
    exact ⟨_, _, [_], rfl, l11.add hS hD hpl, D3, ds, k, rfl, rfl, hds⟩
  obtain ⟨D4, g4, k4, rfl, rfl, hg4⟩ := hv
  rw [pl_mod hz] at hg3 hg4
  generalize hA0 : dedup (modL z [n1, n2, n1 + n3, n2 + n3]) = A0 at hg3
  generalize hB0 : dedup (modL z [n4, n5, n6]) = B0 at hg4
  -- table = {}
  refine asgK (pre := [(D4, lstO g4 k4), (D3, lstO g3 k3), (D2, lstO f2 kS), (D1, lstO f1 kF), (E2, lstO el kL), (E1, lstO ee kE), (D, lstO zs kD)]) (post := [(h.objs.size + 1 + 1, o2'), (h.objs.size + 1, o1')])
    (fun v own => ∃ T oT, v = .ref T ∧ own = [(T, oT)] ∧ ODict prog w oT [] ∧ (T == sysModules) = false) l12 ?_ (fun v own o3' h13 tk13 hv d3' l13 => ?_) d3 rfl rfl rfl rfl
  · refine wpAny_Dict_empty ?_
    refine ⟨_, _, [(_, _)], rfl, l12.add (sub_push _ _) (get_none_size (Nat.le_refl _)) (Heap.get?_push_size _ rfl), _, _, rfl, rfl, fun h a e => ⟨_, #[], 0, e, ⟨rfl, rfl, rfl⟩, rfl, fun e he => by simp at he, .nil, .nil⟩, lo_sys (G.keeps l12.fr.keep)⟩
  obtain ⟨T0, oT0, rfl, rfl, hO0, hT0s⟩ := hv
  obtain ⟨neF, neCT, N13⟩ := Led.split (pre := [(D4, lstO g4 k4), (D3, lstO g3 k3), (D2, lstO f2 kS), (D1, lstO f1 kF), (E2, lstO el kL), (E1, lstO ee kE), (D, lstO zs kD)]) (post := [(h.objs.size + 1 + 1, o2'), (h.objs.size + 1, o1')]) l13
  have F13 := l13.fr
  obtain ⟨F0, hF0⟩ : ∃ F0, F0 = [(D4, lstO g4 k4), (D3, lstO g3 k3), (D2, lstO f2 kS), (D1, lstO f1 kF), (E2, lstO el kL), (E1, lstO ee kE), (D, lstO zs kD)] ++ [(h.objs.size + 1 + 1, o2'), (h.objs.size + 1, o1')] := ⟨_, rfl⟩
  rw [← hF0] at neF N13
  have i4 : (D4, lstO g4 k4) ∈ F0 := by rw [hF0]; simp
  have i3 : (D3, lstO g3 k3) ∈ F0 := by rw [hF0]; simp
  have iE2 : (E2, lstO el kL) ∈ F0 := by rw [hF0]; simp
  have iE1 : (E1, lstO ee kE) ∈ F0 := by rw [hF0]; simp
  have ic2 : (h.objs.size + 1 + 1, o2') ∈ F0 := by rw [hF0]; simp
  have ic1 : (h.objs.size + 1, o1') ∈ F0 := by rw [hF0]; simp
  clear hF0 l13 l12 l11 l10 l9 l8 l7 l6 l5 l4 l3 l2
  refine wpAny_execs_cons ?_
  refine for_ledJ h rfl rfl (fun _ => rfl) ?_
  refine nm_loc F13.ns rfl ?_ rfl rfl
  have hF1 : ∀ {m : Str → Option Value} {h' : Heap}, Fr h h.objs.size h' m → True := fun _ => trivial
  refine ⟨fun i m var => m (Str.ofString "early") = some (.ref E1) ∧ m (Str.ofString "late") = some (.ref E2) ∧ m (Str.ofString "ones") = some (.ref D3) ∧ m (Str.ofString "others") = some (.ref D4) ∧
      ∃ oc T oT kvs t, var = [(h.objs.size + 1 + 1 + 1, oc), (T, oT)] ∧ oc.data = .cell (some (.ref T)) ∧ ODict prog w oT kvs ∧ Paired TabR t kvs ∧ (T == sysModules) = false ∧ (∀ p ∈ F0, p.1 ≠ T) ∧ T ≠ h.objs.size + 1 + 1 + 1 ∧ TabC c (sums z (A0.take i) B0) t,
    h13, _, g3.size, _, _, _, [(h.objs.size + 1 + 1 + 1, o3'), (T0, oT0)], F0, rfl, over_list hA.hh ⟨_, (N13 _ (.tail _ (.tail _ i3))).1, rfl, _, rfl⟩, F13, N13, ?_, ⟨rfl, rfl, rfl, rfl, o3', T0, oT0, [], [], rfl, d3', hO0, .nil, hT0s, fun p hp => (neF p hp).2, neCT, TabC.nil c⟩, ?_, ?_⟩
  · intro b hb
    have : b = D3 := by simpa using hb
    subst this
    exact ⟨(N13 _ (.tail _ (.tail _ i3))).2.1, .inr ⟨_, i3⟩⟩
  · rintro i v m₁ var₁ h14 tk14 I oI hi1 hv ⟨j1, j2, j3, j4, oc, T, oT, kvs, t, rfl, jc, jO, jT, jS, jF, jCT, jC⟩ F14 N14 hvI
    obtain ⟨av, ta, hav, rfl⟩ := int_of hg3 hv
    refine wpAny_execs_cons ?_
    refine for_ledJ h rfl rfl (fun _ => rfl) ?_
    refine nm_loc F14.ns (v := .ref D4) j4 ?_ rfl rfl
    have hTI : T ≠ I := hvI (T, oT) (.tail _ (.head _))
    have hcI : h.objs.size + 1 + 1 + 1 ≠ I := hvI (_, oc) (.head _)
    have toIn : ∀ {h' : Heap} {x : Addr × Obj} {var : List (Addr × Obj)}, News h h.objs.size h' (x :: (var ++ F0)) → News h h.objs.size h' (var ++ (x :: F0)) := fun N p hp => N p (by
      rcases List.mem_append.mp hp with hp | hp
      · exact List.mem_cons_of_mem _ (List.mem_append_left _ hp)
      · rcases List.mem_cons.mp hp with rfl | hp
        · exact List.mem_cons_self
        · exact List.mem_cons_of_mem _ (List.mem_append_right _ hp))
    have toOut : ∀ {h' : Heap} {x : Addr × Obj} {var : List (Addr × Obj)}, News h h.objs.size h' (var ++ (x :: F0)) → News h h.objs.size h' (x :: (var ++ F0)) := fun N p hp => N p (by
      rcases List.mem_cons.mp hp with rfl | hp
      · exact List.mem_append_right _ List.mem_cons_self
      · rcases List.mem_append.mp hp with hp | hp
        · exact List.mem_append_left _ hp
        · exact List.mem_append_right _ (List.mem_cons_of_mem _ hp))
    refine ⟨fun j m var => m (Str.ofString "early") = some (.ref E1) ∧ m (Str.ofString "late") = some (.ref E2) ∧ m (Str.ofString "ones") = some (.ref D3) ∧ m (Str.ofString "others") = some (.ref D4) ∧ m (Str.ofString "a") = some (.int av ta) ∧
        ∃ oc T oT kvs t, var = [(h.objs.size + 1 + 1 + 1, oc), (T, oT)] ∧ oc.data = .cell (some (.ref T)) ∧ ODict prog w oT kvs ∧ Paired TabR t kvs ∧ (T == sysModules) = false ∧ (∀ p ∈ F0, p.1 ≠ T) ∧ T ≠ h.objs.size + 1 + 1 + 1 ∧ T ≠ I ∧
          TabC c (sums z (A0.take i) B0 ++ (B0.take j).map fun b => (av + b) % z) t,
      h14, _, g4.size, _, _, _, [(h.objs.size + 1 + 1 + 1, oc), (T, oT)], (I, oI) :: F0, rfl, over_list hA.hh ⟨_, (N14 _ (List.mem_cons_of_mem _ (List.mem_append_right _ i4))).1, rfl, _, rfl⟩, F14, toIn N14, ?_, ⟨j1, j2, j3, j4, rfl, oc, T, oT, kvs, t, rfl, jc, jO, jT, jS, jF, jCT, hTI, by simpa using jC⟩, ?_, ?_⟩
    · intro b hb
      have : b = D4 := by simpa using hb
      subst this
      exact ⟨(N14 _ (List.mem_cons_of_mem _ (List.mem_append_right _ i4))).2.1, .inr ⟨_, List.mem_cons_of_mem _ i4⟩⟩
    · rintro j v m₂ var₂ h15 tk15 I2 oI2 hj1 hv2 ⟨j1, j2, j3, j4, j5, oc, T, oT, kvs, t, rfl, jc, jO, jT, jS, jF, jCT, hTI, jC⟩ F15 N15 hvI2
      obtain ⟨bv, tb, hbv, rfl⟩ := int_of hg4 hv2
      have hTI2 : T ≠ I2 := hvI2 (T, oT) (.tail _ (.head _))
      have hcI2 : h.objs.size + 1 + 1 + 1 ≠ I2 := hvI2 (_, oc) (.head _)
      have inF : ∀ {p : Addr × Obj}, p ∈ F0 → h15.get? p.1 = some p.2 := fun hp => (N15 _ (List.mem_cons_of_mem _ (List.mem_append_right _ (List.mem_cons_of_mem _ hp)))).1
      have hct : h15.IsCell (h.objs.size + 1 + 1 + 1) (some (.ref T)) := ⟨oc, (N15 _ (.tail _ (.head _))).1, jc⟩
      have hcz15 : h15.IsCell (h.objs.size + 1) (some (.int z u)) := ⟨_, inF ic1, d1'⟩
      have hcs15 : h15.IsCell (h.objs.size + 1 + 1) (some (.int c u2)) := ⟨_, inF ic2, d2'⟩
      have hTab : Tab prog w h15 T t := ⟨kvs, jO _ _ (N15 _ (.tail _ (.tail _ (.head _)))).1, jT⟩
      have G15 := G.keeps F15.keep
      refine wpAny_execs_cons (wpAny_Assign_Name ?_ rfl)
      refine callG G15 rfl rfl rfl rfl rfl rfl ?_ rfl rfl
      refine args_cons (nm_cell rfl hct ?_ rfl rfl) rfl
      refine args_cons (w_dict1 (k := (av + bv) % z) (c := c) (lo_sys G15) ?_ ?_ ?_) rfl
      · intro h' tk' Q' hS' q'
        have G16 := G15.keeps hS'
        have F16 := Fr.sub F15 hS'
        refine callG G16 rfl rfl rfl rfl rfl rfl ?_ rfl rfl
        refine args_cons ?_ rfl
        refine callG G16 rfl rfl rfl rfl rfl rfl ?_ rfl rfl
        refine args_cons (nm_loc F16.ns (v := .int av ta) j5 ?_ rfl rfl) rfl
        refine args_cons (nm_loc F16.ns rfl ?_ rfl rfl) rfl
        refine args_nil ⟨fun _ _ e => e, ?_⟩
        refine c_add G16 (Fit.mono hA (by decide)) av bv ta tb fun t3 h17 tk17 hS17 => ?_
        refine args_cons (nm_cell rfl (hcz15.keeps (Sub.trans hS' hS17)) ?_ rfl rfl) rfl
        refine args_nil ⟨hS17, ?_⟩
        refine c_mod (G16.keeps hS17) (Fit.mono hA (by decide)) (av + bv) z t3 u hz0 fun t4 h18 tk18 hS18 => ?_
        exact q' t4 h18 tk18 (Sub.trans hS17 hS18)
      · intro h' tk' Q' hS' q'
        exact nm_cell rfl (hcs15.keeps hS') (q' _ _) rfl rfl
      · intro D5 h16 tk16 hD5 hs5 hS16 hT5
        refine args_nil ⟨hS16, ?_⟩
        refine c_addCallers (G15.keeps hS16) (Fit.mono hA (by decide)) T D5 t ((av + bv) % z) c (hTab.sub hS16) hT5 (Nat.le_trans jC.len (by decide)) jS hs5 fun T2 h17 tk17 hT2 hs2 hS17 hTab2 => ?_
        have hSS := Sub.trans hS16 hS17
        obtain ⟨kvs2, hdo2, hp2⟩ := hTab2
        obtain ⟨oT2, hoT2, hO2⟩ := ODict.of hdo2
        have fresh : ∀ {b : Addr} {o : Obj}, h15.get? b = some o → b ≠ T2 := fun e e1 => by rw [e1] at e; have := hS16 _ _ e; rw [hT2] at this; cases this
        have hT2n : h15.get? T2 = none := by
          cases e : h15.get? T2 with
          | none => rfl
          | some o => exact absurd rfl (fresh e)
        have N17 := News.add F15 (News.sub N15 hSS) hT2n hoT2
        have N17' : News h h.objs.size h17 ((h.objs.size + 1 + 1 + 1, oc) :: ((T2, oT2) :: (I2, oI2) :: (I, oI) :: F0)) := fun p hp => by
          rcases List.mem_cons.mp hp with rfl | hp
          · exact N17 _ (.tail _ (.tail _ (.head _)))
          · rcases List.mem_cons.mp hp with rfl | hp
            · exact N17 _ (.head _)
            · rcases List.mem_cons.mp hp with rfl | hp
              · exact N17 _ (.tail _ (.head _))
              · exact N17 _ (.tail _ (.tail _ (.tail _ (.tail _ hp))))
        have hT2c : T2 ≠ h.objs.size + 1 + 1 + 1 := fun e => fresh (N15 _ (.tail _ (.head _))).1 e.symm
        have hT2I2 : T2 ≠ I2 := fun e => fresh (N15 _ (.head _)).1 e.symm
        have hT2I : T2 ≠ I := fun e => fresh (N15 _ (List.mem_cons_of_mem _ (List.mem_append_right _ List.mem_cons_self))).1 e.symm
        refine cell_led (Fr.sub F15 hSS) N17' ?_ jc (fun h18 o18 hd18 F18 N18 => ?_) rfl rfl rfl
        · intro p hp
          rcases List.mem_cons.mp hp with rfl | hp
          · exact hT2c
          · rcases List.mem_cons.mp hp with rfl | hp
            · exact Ne.symm hcI2
            · rcases List.mem_cons.mp hp with rfl | hp
              · exact Ne.symm hcI
              · exact (neF p hp).1
        refine wpAny_execs_nil ⟨rfl, h18, _, _, [(h.objs.size + 1 + 1 + 1, o18), (T2, oT2)], rfl, F18, fun p hp => ?_, fun p hp => ?_, j1, j2, j3, j4, j5, o18, T2, oT2, kvs2, _, rfl, hd18, hO2, hp2, hs2, fun p hp => fresh (inF hp), hT2c, hT2I, ?_⟩
        · rcases List.mem_cons.mp hp with rfl | hp
          · exact N18 _ (.tail _ (.tail _ (.head _)))
          · rcases List.mem_cons.mp hp with rfl | hp
            · exact N18 _ (.head _)
            · rcases List.mem_cons.mp hp with rfl | hp
              · exact N18 _ (.tail _ (.head _))
              · exact N18 _ (.tail _ (.tail _ (.tail _ hp)))
        · rcases List.mem_cons.mp hp with rfl | hp
          · exact hcI2
          · rcases List.mem_cons.mp hp with rfl | hp
            · exact hT2I2
            · cases hp
        · have hpos : 0 ≤ (av + bv) % z := Int.emod_nonneg _ (by omega)
          have hlt : (av + bv) % z < z := Int.emod_lt_of_pos _ hz0
          have := jC.bump ((av + bv) % z) hpos (by omega)
          rw [List.take_add_one, hbv, List.map_append, ← List.append_assoc]
          exact this
    · rintro h15 tk15 m15 var15 F15 N15 ⟨j1, j2, j3, j4, j5, oc, T, oT, kvs, t, rfl, jc, jO, jT, jS, jF, jCT, hTI, jC⟩
      dsimp only
      have hg4z : g4.size = B0.length := by rw [← Array.length_toList]; exact hg4.length.symm
      refine wpAny_execs_nil ⟨rfl, h15, _, _, [(h.objs.size + 1 + 1 + 1, oc), (T, oT)], rfl, F15, toOut N15, fun p hp => ?_, j1, j2, j3, j4, oc, T, oT, kvs, t, rfl, jc, jO, jT, jS, jF, jCT, ?_⟩
      · rcases List.mem_cons.mp hp with rfl | hp
        · exact hcI
        · rcases List.mem_cons.mp hp with rfl | hp
          · exact hTI
          · cases hp
      · rw [hg4z, List.take_length] at jC
        rw [List.take_add_one, hav]
        show TabC c (sums z (A0.take i ++ [av]) B0) t
        rw [sums_snoc]
        exact jC
  · rintro h14 tk14 m14 var14 F14 N14 ⟨j1, j2, j3, j4, oc, T, oT, kvs, t, rfl, jc, jO, jT, jS, jF, jCT, jC⟩
    dsimp only
    have hg3z : g3.size = A0.length := by rw [← Array.length_toList]; exact hg3.length.symm
    rw [hg3z, List.take_length] at jC
    have hg4z : g4.size = B0.length := by rw [← Array.length_toList]; exact hg4.length.symm
    have hA4 : A0.length ≤ 4 := by rw [← hA0]; exact dedup_len (modL z [n1, n2, n1 + n3, n2 + n3])
    have hB3 : B0.length ≤ 3 := by rw [← hB0]; exact dedup_len (modL z [n4, n5, n6])
    have up14 : ∀ {h' : Heap} {b : Addr} {its : Array Value} {k : Nat}, Sub h14 h' → (b, lstO its k) ∈ F0 → h'.IsList b its := fun hS hm => ⟨_, hS _ _ (N14 _ (.tail _ (.tail _ hm))).1, rfl, _, rfl⟩
    have ct14 : ∀ {h' : Heap}, Sub h14 h' → h'.IsCell (h.objs.size + 1 + 1 + 1) (some (.ref T)) := fun hS => ⟨oc, hS _ _ (N14 _ (.head _)).1, jc⟩
    have cz14 : ∀ {h' : Heap}, Sub h14 h' → h'.IsCell (h.objs.size + 1) (some (.int z u)) := fun hS => ⟨_, hS _ _ (N14 _ (.tail _ (.tail _ ic1))).1, d1'⟩
    have cs14 : ∀ {h' : Heap}, Sub h14 h' → h'.IsCell (h.objs.size + 1 + 1) (some (.int c u2)) := fun hS => ⟨_, hS _ _ (N14 _ (.tail _ (.tail _ ic2))).1, d2'⟩
    have tb14 : ∀ {h' : Heap}, Sub h14 h' → h'.DictOf (intKind prog w) T kvs := fun hS => jO _ _ (hS _ _ (N14 _ (.tail _ (.head _))).1)
    have mulLen : ∀ {x : Int} {n : Nat}, n ≤ 4 → IntMulOk x (n : Int) := fun {x n} hn => IntMulOk.of_right (by
      have : n = 0 ∨ n = 1 ∨ n = 2 ∨ n = 3 ∨ n = 4 := by omega
      rcases this with rfl | rfl | rfl | rfl | rfl <;> decide)
    -- table != plain
    refine wpAny_execs_cons (wpAny_If (wpAny_isTrue_Compare1 ?_))
    have G14 := G.keeps F14.keep
    refine nm_cell rfl (ct14 (Sub.refl _)) ?_ rfl rfl
    refine callG G14 rfl rfl rfl rfl rfl rfl ?_ rfl rfl
    refine args_cons (nm_loc F14.ns j1 ?_ rfl rfl) rfl
    refine args_cons (nm_loc F14.ns j2 ?_ rfl rfl) rfl
    refine args_cons (nm_cell rfl (cz14 (Sub.refl _)) ?_ rfl rfl) rfl
    refine args_cons (nm_cell rfl (cs14 (Sub.refl _)) ?_ rfl rfl) rfl
    refine args_nil ⟨fun _ _ e => e, ?_⟩
    refine c_plain G14 (Fit.mono hA (by decide)) E1 E2 ee el [n1, n2, n1 + n3, n2 + n3] [n4, n5, n6] z c u u2 (up14 (Sub.refl _) iE1) hee (up14 (Sub.refl _) iE2) hel (by simp) (by simp) hz0 hz12 fun P tp h15 tk15 hP hPs hS15 hTp hCp => ?_
    rw [hA0, hB0] at hCp
    obtain ⟨kvp, hdp, hpp⟩ := hTp
    refine ne_tabs jS hPs (tb14 hS15) hdp jT hpp jC hCp hA.ult ?_
    refine wpAny_truthy_bool ?_
    rw [if_neg (by decide)]
    refine wpAny_execs_nil ?_
    dsimp only
    -- count_calls(table) != ...
    have F15 := Fr.sub F14 hS15
    have G15 := G.keeps F15.keep
    refine wpAny_execs_cons (wpAny_If (wpAny_isTrue_Compare1 ?_))
    refine callG G15 rfl rfl rfl rfl rfl rfl ?_ rfl rfl
    refine args_cons (nm_cell rfl (ct14 hS15) ?_ rfl rfl) rfl
    refine args_nil ⟨fun _ _ e => e, ?_⟩
    refine c_countCalls G15 (Fit.mono hA (by decide)) T t ⟨kvs, tb14 hS15, jT⟩ jS fun t5 h16 tk16 hS16' => ?_
    have hS16 := Sub.trans hS15 hS16'
    have F16 := Fr.sub F14 hS16
    have G16 := G.keeps F16.keep
    refine wpAny_BinOp (wpAny_BinOp (nm_cell rfl (cs14 hS16) ?_ rfl rfl))
    refine Call_Name1 (nm_B G16 rfl rfl (by decide) ?_ rfl rfl rfl rfl)
    refine callWith_builtin rfl (evalArgs_plain (spliced_cons (nm_loc F16.ns j3 (spliced_nil ?_) rfl rfl)))
    refine call_len_list (up14 hS16 i3) (by rw [hg3z]; omega) ?_
    rw [hg3z]
    refine w_mul (mulLen hA4) fun t6 tk6 => ?_
    refine Call_Name1 (nm_B G16 rfl rfl (by decide) ?_ rfl rfl rfl rfl)
    refine callWith_builtin rfl (evalArgs_plain (spliced_cons (nm_loc F16.ns j4 (spliced_nil ?_) rfl rfl)))
    refine call_len_list (up14 hS16 i4) (by rw [hg4z]; omega) ?_
    rw [hg4z]
    refine w_mul (mulLen (Nat.le_succ_of_le hB3)) fun t7 tk7 => ?_
    have hsum : sumT t = c * (A0.length : Int) * (B0.length : Int) := by
      show (t.map (·.2)).sum = _
      rw [jC.sum, sums_len, Int.natCast_mul, Int.mul_comm, Int.mul_assoc]
    refine ne_int ?_
    rw [hsum, bne_self_eq_false]
    refine wpAny_truthy_bool ?_
    rw [if_neg (by decide)]
    refine wpAny_execs_nil ?_
    dsimp only
    -- still
    have hzn : ((z.toNat : Nat) : Int) = z := Int.toNat_of_nonneg (by omega)
    refine wpAny_execs_cons ?_
    refine asg_lcK (m := m14) (keepsT t z) (fun v y => ∃ x t, v = .int x t ∧ IntIs x y) rfl rfl rfl (by decide) rfl (fun _ => rfl) (fun _ => rfl) (fun _ => rfl) rfl rfl ?_
    refine Call_Name1 (nm_B G16 rfl rfl (by decide) ?_ rfl rfl rfl rfl)
    refine callWith_type1 ?_
    refine nm_cell rfl (cz14 hS16) ?_ rfl rfl
    refine call_range_1 ?_
    refine ⟨_, _, z.toNat, _, _, rfl, over_range hA.hh (by rw [hzn]; exact IsRange.new _ _ _ _ _ _ _) (by omega), by rw [sizeLine_eq]; omega, F16.ns.push _, ?_, ?_, ?_⟩
    · intro C X i v h17 tk17 E' hC hv hX hS17
      obtain ⟨hi17, ti, rfl⟩ := hv
      have hS17' : Sub h14 h17 := fun b o e => hS17 b o (Heap.get?_push_of_some _ (hS16 b o e))
      refine wpAny_tests_one (wpAny_isTrue_Compare1 ?_)
      refine lc (outT t z i) (fun v y => ∃ k t, v = .int k t ∧ y = v) rfl (by decide) rfl (by decide) rfl (fun _ => rfl) ?_
      refine nm_cell rfl (ct14 hS17') ?_ rfl rfl
      obtain ⟨oD, esD, epD, rD⟩ := tb14 hS17'
      have hkl : kvs.length ≤ 12 := by rw [← jT.length]; exact jC.len
      refine ⟨_, _, _, _, _, rfl, over_keys hA.hh jS ⟨oD, esD, rD⟩, by rw [sizeLine_eq]; omega, ⟨?_, ?_⟩, ?_⟩
      · intro C2 j v2 s2 h18 tk18 m18 E18 hC2 hv2 hNs18 hm18 hS18
        obtain ⟨k, xv, t8, hkx, rfl⟩ := hv2
        have hS18' := Sub.trans hS17' hS18
        refine wpAny_tests_one (wpAny_isTrue_Compare1 ?_)
        refine wpAny_BinOp (wpAny_BinOp (nm_loc hNs18 hm18 (nm_cell rfl (hX.keeps hS18) ?_ rfl rfl) rfl rfl))
        refine w_add fun t9 tk9 => nm_cell rfl (cz14 hS18') ?_ rfl rfl
        refine w_mod hz0 fun t10 tk10 => nm_cell rfl (ct14 hS18') ?_ rfl rfl
        refine wpAny_notIn_of (s := St s2 h18 tk10) (intKind_is prog w _ t10) jS (tb14 hS18').mapOf (wpAny_truthy_bool ⟨?_, h18, _, rfl, fun _ _ e => e⟩)
        rw [isSome_any jT]; rfl
      · intro C2 j v2 s2 h18 tk18 m18 E18 hC2 hv2 hp2 hNs18 hm18 hS18
        obtain ⟨k, xv, t8, hkx, rfl⟩ := hv2
        exact nm_loc hNs18 hm18 ⟨⟨k, t8, rfl, rfl⟩, h18, _, rfl, fun _ _ e => e⟩ rfl rfl
      · intro D5 h18 tk18 zs5 vs5 hD5 hS18 hpl5 hvl5 hvP5 hF5
        obtain ⟨ns5, hns5⟩ := some_ints (fun v y ⟨k, t, e, e2⟩ => ⟨k, t, by rw [e2, e]⟩) hF5
        refine wpAny_List (wpAny_items_nil ⟨(by rw [sizeLine_eq]; exact (show (0 : Nat) ≤ 16777216 by decide)), ?_⟩)
        refine ke_eq_ints (s := St _ _ _) (xs := zs5.toList) (ys := []) (hpl5.isList.push _) ⟨_, Heap.get?_push_size _ rfl, rfl, _, rfl⟩ (ints_are hns5) .nil (by have := hA.hu; omega) ?_
        refine wpAny_truthy_bool ⟨?_, _, _, rfl, fun b o e => Heap.get?_push_of_some _ (hS18 b o e)⟩
        exact still_ok jT hvl5 (fun j v hv => by obtain ⟨k, xv, t8, e1, e2⟩ := hvP5 j v hv; exact ⟨k, xv, t8, e1, e2⟩) hF5 hns5
    · intro C X i v h17 tk17 E' hC hv hp hX hS17
      obtain ⟨hi17, ti, rfl⟩ := hv
      exact nm_cell rfl hX ⟨⟨i, ti, rfl, ti, rfl⟩, h17, _, rfl, fun _ _ e => e⟩ rfl rfl
    · intro D6 h17 tk17 g6 vs hD6 ⟨k6, hpl6⟩ hvl hvP hF6 hn17 hk17
      dsimp only
      have hM := moves_ok hvl hvP hF6
      have hS17 : ∀ b o, b ≠ h.objs.size → h14.get? b = some o → h17.get? b = some o := fun b o hb e => hk17 b o hb (Heap.get?_push_of_some _ (hS16 b o e))
      have hup : Sub h h17 := fun b o e => hS17 b o (Nat.ne_of_lt (Heap.lt_size e)) (F14.keep b o e)
      have F17 : Fr h h.objs.size h17 _ := ⟨hn17, hup, F14.above⟩
      have N17 : News h h.objs.size h17 ([(h.objs.size + 1 + 1 + 1, oc), (T, oT)] ++ F0) := fun p hp => ⟨hS17 _ _ (N14 p hp).2.1 (N14 p hp).1, (N14 p hp).2⟩
      have hl6 : h17.IsList D6 g6 := ⟨_, hpl6, rfl, _, rfl⟩
      clear hk17 hS17 hpl6 hvP hF6
      have hM12 : (movesT t z).length ≤ 12 := by
        refine Nat.le_trans (List.length_filter_le _ _) ?_
        rw [List.length_map, List.length_range]; omega
      have hg6z : g6.size = (movesT t z).length := by rw [← Array.length_toList]; exact hM.length.symm
      have hl3 : h17.IsList D3 g3 := ⟨_, (N17 _ (.tail _ (.tail _ i3))).1, rfl, _, rfl⟩
      have hl4 : h17.IsList D4 g4 := ⟨_, (N17 _ (.tail _ (.tail _ i4))).1, rfl, _, rfl⟩
      have hct17 : h17.IsCell (h.objs.size + 1 + 1 + 1) (some (.ref T)) := ⟨oc, (N17 _ (.head _)).1, jc⟩
      have hcz17 : h17.IsCell (h.objs.size + 1) (some (.int z u)) := ⟨_, (N17 _ (.tail _ (.tail _ ic1))).1, d1'⟩
      have hcs17 : h17.IsCell (h.objs.size + 1 + 1) (some (.int c u2)) := ⟨_, (N17 _ (.tail _ (.tail _ ic2))).1, d2'⟩
      have htb17 : h17.DictOf (intKind prog w) T kvs := jO _ _ (N17 _ (.tail _ (.head _))).1
      -- bound
      refine wpAny_execs_cons (wpAny_Assign_Name ?_ rfl)
      have G17 := G.keeps F17.keep
      refine wpAny_BinOp (wpAny_BinOp ?_)
      refine callG G17 rfl rfl rfl rfl rfl rfl ?_ rfl rfl
      refine args_cons (nm_loc F17.ns j3 ?_ rfl rfl) rfl
      refine args_cons (nm_loc F17.ns rfl ?_ rfl rfl) rfl
      refine args_cons (nm_cell rfl hcz17 ?_ rfl rfl) rfl
      refine args_nil ⟨fun _ _ e => e, ?_⟩
      refine c_moved G17 (Fit.mono hA (by decide)) D3 D6 g3 g6 A0 (movesT t z) z u hl3 hg3 hl6 hM hA4 hM12 hz0 fun t18 h18 tk18 hS18 => ?_
      have F18 := Fr.sub F17 hS18
      have G18 := G.keeps F18.keep
      refine callG G18 rfl rfl rfl rfl rfl rfl ?_ rfl rfl
      refine args_cons (nm_loc F18.ns j4 ?_ rfl rfl) rfl
      refine args_cons (nm_loc F18.ns rfl ?_ rfl rfl) rfl
      refine args_cons (nm_cell rfl (hcz17.keeps hS18) ?_ rfl rfl) rfl
      refine args_nil ⟨fun _ _ e => e, ?_⟩
      refine c_moved G18 (Fit.mono hA (by decide)) D4 D6 g4 g6 B0 (movesT t z) z u (hl4.at fun o e => hS18 _ o e) hg4 (hl6.at fun o e => hS18 _ o e) hM (Nat.le_trans hB3 (by decide)) hM12 hz0 fun t19 h19 tk19 hS19' => ?_
      have hS19 := Sub.trans hS18 hS19'
      have F19 := Fr.sub F17 hS19
      have G19 := G.keeps F19.keep
      refine w_add fun t20 tk20 => ?_
      refine Call_Name1 (nm_B G19 rfl rfl (by decide) ?_ rfl rfl rfl rfl)
      refine callWith_builtin rfl (evalArgs_plain (spliced_cons (nm_loc F19.ns rfl (spliced_nil ?_) rfl rfl)))
      refine call_len_list (hl6.at fun o e => hS19 _ o e) (by rw [hg6z]; omega) ?_
      rw [hg6z]
      refine w_sub fun t21 tk21 => ?_
      have N19 := News.sub N17 hS19
      generalize hbd : ((((dedup (sums z A0 (movesT t z))).length : Nat) : Int) + (((dedup (sums z B0 (movesT t z))).length : Nat) : Int) - (((movesT t z).length : Nat) : Int)) = bd
      refine w_stC F19 N19 (fun h20 tk22 F20 N20 => ?_) rfl rfl
      -- both
      refine wpAny_execs_cons (wpAny_Assign_Name ?_ rfl)
      have G20 := G.keeps F20.keep
      refine wpAny_BinOp ?_
      refine Call_Name1 (nm_B G20 rfl rfl (by decide) ?_ rfl rfl rfl rfl)
      refine callWith_builtin rfl (evalArgs_plain (spliced_cons (nm_loc F20.ns j3 (spliced_nil ?_) rfl rfl)))
      refine call_len_list (s := St s h20 _) ⟨_, (N20 _ (.tail _ (.tail _ i3))).1, rfl, _, rfl⟩ (by rw [hg3z]; omega) ?_
      rw [hg3z]
      refine Call_Name1 (nm_B G20 rfl rfl (by decide) ?_ rfl rfl rfl rfl)
      refine callWith_builtin rfl (evalArgs_plain (spliced_cons (nm_loc F20.ns j4 (spliced_nil ?_) rfl rfl)))
      refine call_len_list (s := St s h20 _) ⟨_, (N20 _ (.tail _ (.tail _ i4))).1, rfl, _, rfl⟩ (by rw [hg4z]; omega) ?_
      rw [hg4z]
      refine w_add fun t23 tk23 => ?_
      refine w_stC F20 N20 (fun h21 tk24 F21 N21 => ?_) rfl rfl
      dsimp only
      have hPL : PL t z c bd (((A0.length : Nat) : Int) + ((B0.length : Nat) : Int)) := by
        rw [← hbd, ← hA0, ← hB0]
        exact plain z c n1 n2 n3 n4 n5 n6 t hz hc2 (by rw [hA0, hB0]; exact jC)
      have G21 := G.keeps F21.keep
      have hct21 : h21.IsCell (h.objs.size + 1 + 1 + 1) (some (.ref T)) := ⟨oc, (N21 _ (.head _)).1, jc⟩
      have hcs21 : h21.IsCell (h.objs.size + 1 + 1) (some (.int c u2)) := ⟨_, (N21 _ (.tail _ (.tail _ ic2))).1, d2'⟩
      have htb21 : h21.DictOf (intKind prog w) T kvs := jO _ _ (N21 _ (.tail _ (.head _))).1
      have hkt : kvs.length = t.length := jT.length.symm
      have ht12 : t.length ≤ 12 := jC.len
      -- the bounds
      refine wpAny_execs_cons (wpAny_If ?_)
      have step : ∀ {Q' : Bool → Shared → Prop} {test : Expr} {env : Env} {tk0 : Nat}, wpAny (model prog w) A (isTrue test env (eval test env)) (fun b s' => b = false ∧ ∃ k, s' = St s h21 k) (fun _ _ => False) (St s h21 tk0) → (∀ k, Q' false (St s h21 k)) →
          wpAny (model prog w) A (isTrue test env (eval test env)) Q' (fun _ _ => False) (St s h21 tk0) := fun h1 h2 => wpAny_mono h1 (fun b s' ⟨e1, k, e2⟩ => by rw [e1, e2]; exact h2 k) fun _ _ e => e
      refine step (wpAny_isTrue_BoolOp (wpAny_allTrue_Or_cons (wpAny_isTrue_Compare1 ?_))) fun k22 => ?_
      · skip
        refine Call_Name1 (nm_B G21 rfl rfl (by decide) ?_ rfl rfl rfl rfl)
        refine callWith_builtin rfl (evalArgs_plain (spliced_cons (nm_cell rfl hct21 (spliced_nil ?_) rfl rfl)))
        refine call_len_dict (s := St s h21 _) jS htb21 (by rw [hkt]; omega) ?_
        rw [hkt]
        refine nm_loc F21.ns (v := .int bd t21) rfl ?_ rfl rfl
        refine lt_int ?_
        rw [decide_eq_false (Int.not_lt.mpr hPL.lo)]
        refine wpAny_truthy_bool ?_
        rw [if_neg (by decide)]
        refine wpAny_allTrue_Or_cons (wpAny_isTrue_BoolOp (wpAny_allTrue_And_cons (wpAny_isTrue_Compare1 ?_)))
        refine Call_Name1 (nm_B G21 rfl rfl (by decide) ?_ rfl rfl rfl rfl)
        refine callWith_builtin rfl (evalArgs_plain (spliced_cons (nm_cell rfl hct21 (spliced_nil ?_) rfl rfl)))
        refine call_len_dict (s := St s h21 _) jS htb21 (by rw [hkt]; omega) ?_
        rw [hkt]
        refine nm_loc F21.ns rfl ?_ rfl rfl
        refine lt_int (wpAny_truthy_bool ?_)
        by_cases hb : (t.length : Int) < ((A0.length : Nat) : Int) + ((B0.length : Nat) : Int)
        · rw [decide_eq_true hb, if_pos rfl]
          refine wpAny_allTrue_And_cons (wpAny_isTrue_Compare1 ?_)
          refine Call_Name1 (nm_B G21 rfl rfl (by decide) ?_ rfl rfl rfl rfl)
          refine callWith_builtin rfl (evalArgs_plain (spliced_cons (nm_cell rfl hct21 (spliced_nil ?_) rfl rfl)))
          refine call_len_dict (s := St s h21 _) jS htb21 (by rw [hkt]; omega) ?_
          rw [hkt]
          refine nm_loc F21.ns (v := .int bd t21) rfl ?_ rfl rfl
          refine ne_int ?_
          rw [hPL.eq hb, bne_self_eq_false]
          refine wpAny_truthy_bool ?_
          rw [if_neg (by decide), if_neg (by decide)]
          exact wpAny_allTrue_Or_nil ⟨rfl, _, rfl⟩
        · rw [decide_eq_false hb, if_neg (by decide), if_neg (by decide)]
          exact wpAny_allTrue_Or_nil ⟨rfl, _, rfl⟩
      rw [if_neg (by decide)]
      refine wpAny_execs_nil ?_
      dsimp only
      -- the return
      refine wpAny_execs_cons (wpAny_Return_some (wpAny_Compare1 ?_))
      refine Call_Name1 (nm_B G21 rfl rfl (by decide) ?_ rfl rfl rfl rfl)
      refine callWith_builtin rfl (evalArgs_plain (spliced_cons (nm_cell rfl hct21 (spliced_nil ?_) rfl rfl)))
      refine call_len_dict (s := St s h21 _) jS htb21 (by rw [hkt]; omega) ?_
      rw [hkt]
      refine wpAny_BinOp (nm_loc F21.ns rfl ?_ rfl rfl)
      refine Call_Name1 (nm_B G21 rfl rfl (by decide) ?_ rfl rfl rfl rfl)
      refine callWith_builtin rfl (evalArgs_plain (spliced_cons ?_))
      have hc0 : c ≠ 0 := fun e => by rw [e] at hc2; exact absurd hc2 (by decide)
      refine lc (fun _ => true) (fun v y => ∃ k tk n t0, v = .int k tk ∧ lookT t k = some n ∧ y = .int (n.fdiv c) t0) rfl (by decide) rfl (by decide) rfl (fun _ => rfl) ?_
      refine nm_cell rfl hct21 ?_ rfl rfl
      obtain ⟨oD, esD, epD, rD⟩ := id htb21
      refine ⟨_, _, _, _, _, rfl, over_keys hA.hh jS ⟨oD, esD, rD⟩, by rw [hkt, sizeLine_eq]; omega, ⟨?_, ?_⟩, ?_⟩
      · intro C i v s' h₃ tk₃ m₃ E' _ _ _ _ hS
        exact no_tests ⟨rfl, h₃, tk₃, rfl, fun _ _ e => e⟩
      · intro C i v s' h22 tk22 m22 E' _ hv _ hNs hm22 hS22
        obtain ⟨k, xv, t8, hkx, rfl⟩ := hv
        obtain ⟨e, he, hke, tx, hxe⟩ := paired_get' jT hkx
        have hke : k = e.1 := hke
        have hlk : lookT t k = some e.2 := by
          have hn := jC.nodup
          rw [hke]
          exact look_mem hn (List.mem_of_getElem? he)
        have hxv := tab_look k jT
        rw [hlk] at hxv
        obtain ⟨x0, hx0, t9, rfl⟩ := hxv
        have G22 := G21.keeps hS22
        have hd22 : h22.DictOf (intKind prog w) T kvs := jO _ _ (hS22 _ _ (N21 _ (.tail _ (.head _))).1)
        refine callG G22 rfl rfl rfl rfl rfl rfl ?_ rfl rfl
        refine args_cons ?_ rfl
        refine Subscript_ (nm_cell rfl (hct21.keeps hS22) (nm_loc hNs hm22 ?_ rfl rfl) rfl rfl)
        refine tail_any (hd22.typeIs (s := St s' h22 _)) PySem.F.slot_dict_getitem.lookup (wpAny_getItem_of (s := St s' h22 _) (intKind_is prog w k t8) hd22.mapOf hx0 ?_) (by with_unfolding_all rfl)
        refine args_cons (nm_cell rfl (hcs21.keeps hS22) ?_ rfl rfl) rfl
        refine args_nil ⟨fun _ _ e => e, ?_⟩
        refine c_floordiv G22 (Fit.mono hA (by decide)) e.2 c t9 u2 hc0 (by omega) fun t10 h23 tk23 hS23 => ?_
        exact ⟨⟨k, t8, e.2, t10, rfl, hlk, rfl⟩, h23, tk23, rfl, hS23⟩
      · intro D7 h22 tk22 zs7 vs7 hD7 hS22 hpl7 hvl7 hvP7 hF7
        rw [List.filter_eq_self.mpr (fun _ _ => rfl)] at hF7
        have hi7 : Ints (t.map fun e => e.2.fdiv c) zs7.toList := paired_of (by rw [List.length_map, ← hF7.length, hvl7, hkt]) fun j a y ha hy => by
          rw [List.getElem?_map] at ha
          obtain ⟨v, hv, k, tk, n, t0, e1, e2, e3⟩ := paired_get' hF7 hy
          obtain ⟨k', xv, t8, hkx, e4⟩ := hvP7 j v hv
          rw [e1] at e4
          have hkk : k = k' := (Value.int.inj e4).1
          obtain ⟨e, he, hke, _⟩ := paired_get' jT hkx
          have hke : k' = e.1 := hke
          rw [he] at ha
          have ha : some (e.2.fdiv c) = some a := ha
          rw [hkk, hke, look_mem jC.nodup (List.mem_of_getElem? he)] at e2
          rw [e3, ← Option.some.inj ha, ← Option.some.inj e2]
          exact ⟨t0, rfl⟩
        refine spliced_nil ?_
        refine w_min hA.hh hpl7.isList hi7 (fun e => hPL.ne (List.map_eq_nil_iff.mp e)) fun x h23 t11 tk23 hx hmin hS23 => ?_
        obtain ⟨e, he, hxe⟩ := List.mem_map.mp hx
        have hfin := hPL.mn x ⟨e, he, hxe.symm⟩ fun e' he' => hmin _ (List.mem_map_of_mem he')
        refine w_sub fun t12 tk25 => ?_
        refine ge_int ?_
        rw [decide_eq_true hfin]
        exact q _ _ _ (Fr.sub F21 (Sub.trans hS22 hS23))
end
end Mine
end
section -- P6
open PySem PySem.W PySem.Calls PyProof.Rows
namespace Mine
theorem TabC.mem_keys {c : Int} {ks : List Int} {t : List (Int × Int)} (x : TabC c ks t) (k : Int) : (t.any fun e => decide (e.1 = k)) = ks.contains k := by
  rw [Bool.eq_iff_iff, List.contains_iff_mem]
  have := x.look k
  constructor
  · intro ha
    have h1 : lookT t k ≠ none := fun e => by rw [lookT_none.mp e] at ha; cases ha
    rw [this] at h1
    by_cases h0 : ks.count k = 0
    · rw [if_pos h0] at h1; exact absurd rfl h1
    · exact List.count_pos_iff.mp (by omega)
  · intro hm
    cases ha : t.any fun e => decide (e.1 = k) with
    | true => rfl
    | false =>
      rw [lookT_none.mpr ha, if_neg] at this
      · cases this
      · have := List.count_pos_iff.mpr hm; omega
theorem TabC.length {c : Int} {ks : List Int} {t : List (Int × Int)} (x : TabC c ks t) : t.length = (dedup ks).length := by
  have p : (t.map (·.1)).Perm (dedup ks) := dedup_perm x.nodup fun y => by
    have := x.mem_keys y
    rw [Bool.eq_iff_iff, List.contains_iff_mem, List.any_eq_true] at this
    rw [← this, List.mem_map]
    exact ⟨fun ⟨e, he, h⟩ => ⟨e, he, by simpa using h⟩, fun ⟨e, he, h⟩ => ⟨e, he, by simpa using h⟩⟩
  have := p.length_eq
  rwa [List.length_map] at this
theorem TabC.val {c : Int} {ks : List Int} {t : List (Int × Int)} (x : TabC c ks t) (hc : c ≠ 0) {e : Int × Int} (he : e ∈ t) : e.1 ∈ ks ∧ e.2.fdiv c = ks.count e.1 := by
  have h1 := look_mem x.nodup he
  rw [x.look] at h1
  by_cases h0 : ks.count e.1 = 0
  · rw [if_pos h0] at h1; cases h1
  · rw [if_neg h0] at h1
    refine ⟨List.count_pos_iff.mp (by omega), ?_⟩
    rw [← Option.some.inj h1]
    exact Int.mul_fdiv_cancel _ hc
/-- the moves that keep the members of ks -/
def movesL (ks : List Int) (z : Int) : List Int := ((List.range z.toNat).map fun (i : Nat) => (i : Int)).filter fun x => ks.all fun s => ks.contains ((s + x) % z)
theorem TabC.moves {c : Int} {ks : List Int} {t : List (Int × Int)} (x : TabC c ks t) (z : Int) : movesT t z = movesL ks z := by
  unfold movesT movesL
  refine List.filter_congr fun y _ => ?_
  show (t.all fun e => t.any fun e' => decide (e'.1 = (e.1 + y) % z)) = _
  rw [Bool.eq_iff_iff, List.all_eq_true, List.all_eq_true]
  have hk : ∀ k, k ∈ ks ↔ ∃ e ∈ t, e.1 = k := fun k => by
    have := x.mem_keys k
    rw [Bool.eq_iff_iff, List.contains_iff_mem, List.any_eq_true] at this
    rw [← this]
    exact ⟨fun ⟨e, he, h⟩ => ⟨e, he, by simpa using h⟩, fun ⟨e, he, h⟩ => ⟨e, he, by simpa using h⟩⟩
  constructor
  · intro h s hs
    obtain ⟨e, he, rfl⟩ := (hk s).mp hs
    have := h e he
    rwa [x.mem_keys] at this
  · intro h e he
    rw [x.mem_keys]
    exact h e.1 ((hk e.1).mpr ⟨e, he, rfl⟩)
end Mine
end
section -- P7
open PySem PySem.W PySem.Calls PyProof.Rows
namespace Mine
def bdOf (z : Int) (A B : List Int) : Int := (((dedup (sums z A (movesL (sums z A B) z))).length : Nat) : Int) + (((dedup (sums z B (movesL (sums z A B) z))).length : Nat) : Int) - (((movesL (sums z A B) z).length : Nat) : Int)
/-- the plain law for two lists of residues -/
structure Kn (z : Int) (A B : List Int) : Prop where
  lo : bdOf z A B ≤ (dedup (sums z A B)).length
  eq : ((dedup (sums z A B)).length : Int) < (A.length : Int) + B.length → ((dedup (sums z A B)).length : Int) = bdOf z A B
  mn : ∀ s ∈ sums z A B, (A.length : Int) + B.length - (sums z A B).count s ≤ (dedup (sums z A B)).length
theorem pl_of {z c : Int} {A B : List Int} {t : List (Int × Int)} (x : TabC c (sums z A B) t) (hc : c ≠ 0) (hA : A ≠ []) (hB : B ≠ []) (k : Kn z A B) :
    PL t z c ((((dedup (sums z A (movesT t z))).length : Nat) : Int) + (((dedup (sums z B (movesT t z))).length : Nat) : Int) - (((movesT t z).length : Nat) : Int)) ((A.length : Int) + B.length) := by
  rw [x.moves z]
  refine ⟨?_, ?_, ?_, ?_⟩
  · rw [x.length]; exact k.lo
  · rw [x.length]; exact k.eq
  · intro e
    have hl := x.length
    rw [e] at hl
    have h0 : dedup (sums z A B) = [] := List.length_eq_zero_iff.mp hl.symm
    obtain ⟨a, A', rfl⟩ := List.exists_cons_of_ne_nil hA
    obtain ⟨b, B', rfl⟩ := List.exists_cons_of_ne_nil hB
    have : (a + b) % z ∈ dedup (sums z (a :: A') (b :: B')) := ((dedup_spec _).2 _).mpr (by unfold sums; simp)
    rw [h0] at this
    cases this
  · rintro y ⟨e, he, rfl⟩ _
    obtain ⟨h1, h2⟩ := x.val hc he
    rw [h2, x.length]
    exact k.mn _ h1
end Mine
end
section -- P8
open PySem PySem.W PySem.Calls PyProof.Rows
namespace Mine
def pc (z m : Nat) : Nat := ((List.range z).filter fun k => m.testBit k).length
def rot (z m k : Nat) : Nat := ((m <<< k) ||| (m >>> (z - k))) % 2 ^ z
def sumM (z a b : Nat) : Nat := (List.range z).foldl (fun acc k => bif a.testBit k then acc ||| rot z b k else acc) 0
def movM (z s : Nat) : Nat := (List.range z).foldl (fun acc h => bif ((rot z s h ||| s) == s) then acc ||| 2 ^ h else acc) 0
def cntM (z a b s : Nat) : Nat := ((List.range z).filter fun k => a.testBit k && b.testBit ((s + z - k) % z)).length
theorem rot_bit {z m i k : Nat} (hm : m < 2 ^ z) (hi : i < z) (hk : k < z) : (rot z m i).testBit k = m.testBit ((k + z - i) % z) := by
  unfold rot
  rw [Nat.testBit_mod_two_pow, Nat.testBit_or, Nat.testBit_shiftLeft, Nat.testBit_shiftRight]
  have hd : decide (k < z) = true := decide_eq_true hk
  rw [hd, Bool.true_and]
  by_cases h : i ≤ k
  · have e1 : (k + z - i) % z = k - i := by
      rw [show k + z - i = (k - i) + z by omega, Nat.add_mod_right, Nat.mod_eq_of_lt (by omega)]
    rw [e1]
    have h2 : m.testBit (z - i + k) = false := Nat.testBit_lt_two_pow (Nat.lt_of_lt_of_le hm (Nat.pow_le_pow_right (by decide) (by omega)))
    rw [h2]; simp [h]
  · have e1 : (k + z - i) % z = z - i + k := by
      rw [Nat.mod_eq_of_lt (by omega)]; omega
    rw [e1]; simp [h]
theorem rot_lt {z m i : Nat} : rot z m i < 2 ^ z := Nat.mod_lt _ (Nat.two_pow_pos z)
theorem fold_or (p : Nat → Bool) (f : Nat → Nat) (k : Nat) : ∀ (l : List Nat) (acc : Nat), (l.foldl (fun acc k => bif p k then acc ||| f k else acc) acc).testBit k = true ↔ acc.testBit k = true ∨ ∃ i ∈ l, p i = true ∧ (f i).testBit k = true
  | [], acc => by simp
  | i :: l, acc => by
    rw [List.foldl_cons, fold_or p f k l]
    cases hp : p i with
    | false => simp [hp]
    | true => simp [hp, or_assoc]
theorem fold_lt {z : Nat} (p : Nat → Bool) (f : Nat → Nat) : ∀ (l : List Nat) (acc : Nat), acc < 2 ^ z → (∀ i ∈ l, f i < 2 ^ z) → (l.foldl (fun acc k => bif p k then acc ||| f k else acc) acc) < 2 ^ z
  | [], acc, h, _ => h
  | i :: l, acc, h, hf => by
    rw [List.foldl_cons]
    refine fold_lt p f l _ ?_ fun j hj => hf j (List.mem_cons_of_mem _ hj)
    cases p i with
    | false => exact h
    | true => exact Nat.or_lt_two_pow h (hf i List.mem_cons_self)
theorem sumM_bit {z a b k : Nat} (hb : b < 2 ^ z) (hk : k < z) : (sumM z a b).testBit k = true ↔ ∃ i < z, a.testBit i = true ∧ b.testBit ((k + z - i) % z) = true := by
  unfold sumM
  rw [fold_or]
  constructor
  · rintro (h | ⟨i, hi, h1, h2⟩)
    · simp at h
    · have hi := List.mem_range.mp hi
      exact ⟨i, hi, h1, by rwa [rot_bit hb hi hk] at h2⟩
  · rintro ⟨i, hi, h1, h2⟩
    exact .inr ⟨i, List.mem_range.mpr hi, h1, by rwa [rot_bit hb hi hk]⟩
theorem sumM_lt {z a b : Nat} : sumM z a b < 2 ^ z := fold_lt _ _ _ _ (Nat.two_pow_pos z) fun _ _ => rot_lt
theorem movM_lt {z s : Nat} : movM z s < 2 ^ z := fold_lt _ _ _ _ (Nat.two_pow_pos z) fun _ hi => Nat.pow_lt_pow_right (by decide) (List.mem_range.mp hi)
theorem movM_bit {z s k : Nat} (hs : s < 2 ^ z) (hk : k < z) : (movM z s).testBit k = true ↔ ∀ j < z, s.testBit j = true → s.testBit ((j + k) % z) = true := by
  unfold movM
  rw [fold_or (fun h => (rot z s h ||| s) == s)]
  have e : (∃ i ∈ List.range z, ((rot z s i ||| s) == s) = true ∧ (2 ^ i).testBit k = true) ↔ ((rot z s k ||| s) == s) = true := by
    constructor
    · rintro ⟨i, _, h1, h2⟩
      rw [Nat.testBit_two_pow] at h2
      have : i = k := by simpa using h2
      rwa [this] at h1
    · intro h
      exact ⟨k, List.mem_range.mpr hk, h, by rw [Nat.testBit_two_pow]; simp⟩
  rw [e]
  constructor
  · rintro (h | h) j hj hb
    · simp at h
    · have h := eq_of_beq h
      have hlt : (j + k) % z < z := Nat.mod_lt _ (by omega)
      rw [← h, Nat.testBit_or, rot_bit hs hk hlt]
      have : ((j + k) % z + z - k) % z = j := by
        by_cases hh : j + k < z
        · rw [Nat.mod_eq_of_lt hh, show j + k + z - k = j + z by omega, Nat.add_mod_right, Nat.mod_eq_of_lt hj]
        · rw [show (j + k) % z = j + k - z by rw [Nat.mod_eq_sub_mod (by omega), Nat.mod_eq_of_lt (by omega)], show j + k - z + z - k = j by omega, Nat.mod_eq_of_lt hj]
      rw [this, hb, Bool.true_or]
  · intro h
    refine .inr ?_
    rw [beq_iff_eq]
    refine Nat.eq_of_testBit_eq fun j => ?_
    rw [Nat.testBit_or]
    by_cases hj : j < z
    · cases hr : (rot z s k).testBit j with
      | false => simp
      | true =>
        rw [rot_bit hs hk hj] at hr
        have h1 := h _ (Nat.mod_lt _ (by omega)) hr
        have : ((j + z - k) % z + k) % z = j := by
          by_cases hh : k ≤ j
          · rw [show j + z - k = (j - k) + z by omega, Nat.add_mod_right, Nat.mod_eq_of_lt (show j - k < z by omega), show j - k + k = j by omega, Nat.mod_eq_of_lt hj]
          · rw [Nat.mod_eq_of_lt (show j + z - k < z by omega), show j + z - k + k = j + z by omega, Nat.add_mod_right, Nat.mod_eq_of_lt hj]
        rw [this] at h1
        rw [h1]; rfl
    · have h2 : (rot z s k).testBit j = false := Nat.testBit_lt_two_pow (Nat.lt_of_lt_of_le rot_lt (Nat.pow_le_pow_right (by decide) (by omega)))
      rw [h2, Bool.false_or]
/-- L holds the bits of m, moved by d -/
structure Rm (z : Nat) (d : Int) (m : Nat) (L : List Int) : Prop where
  lt : m < 2 ^ z
  mem : ∀ x : Int, x ∈ L ↔ ∃ k < z, m.testBit k = true ∧ x = ((k : Int) + d) % (z : Int)
theorem inj_mod {z i j : Nat} {d : Int} (hi : i < z) (hj : j < z) (h : ((i : Int) + d) % (z : Int) = ((j : Int) + d) % (z : Int)) : i = j := by
  rw [Int.emod_add_cancel_right, Int.emod_eq_of_lt (by omega) (by omega), Int.emod_eq_of_lt (by omega) (by omega)] at h
  omega
theorem mods_nodup {z : Nat} (d : Int) (p : Nat → Bool) : (((List.range z).filter p).map fun (k : Nat) => ((k : Int) + d) % (z : Int)).Nodup := by
  unfold List.Nodup
  rw [List.pairwise_map]
  have hn : ((List.range z).filter p).Nodup := List.Pairwise.filter _ List.nodup_range
  refine List.Pairwise.imp_of_mem (R := fun a b => a ≠ b) ?_ hn
  intro a b ha hb hab h
  exact hab (inj_mod (List.mem_range.mp (List.mem_filter.mp ha).1) (List.mem_range.mp (List.mem_filter.mp hb).1) h)
theorem Rm.len {z m : Nat} {d : Int} {L : List Int} (r : Rm z d m L) : (dedup L).length = pc z m := by
  have p := dedup_perm (mods_nodup (z := z) d fun k => m.testBit k) (ps := L) fun y => by
    rw [r.mem, List.mem_map]
    constructor
    · rintro ⟨k, hk, rfl⟩
      obtain ⟨h1, h2⟩ := List.mem_filter.mp hk
      exact ⟨k, List.mem_range.mp h1, h2, rfl⟩
    · rintro ⟨k, h1, h2, rfl⟩
      exact ⟨k, List.mem_filter.mpr ⟨List.mem_range.mpr h1, h2⟩, rfl⟩
  rw [← p.length_eq, List.length_map]; rfl
theorem Rm.len' {z m : Nat} {d : Int} {L : List Int} (r : Rm z d m L) (hn : L.Nodup) : L.length = pc z m := by
  rw [← r.len]; exact (dedup_perm hn fun _ => Iff.rfl).length_eq
theorem add_back {z i j : Nat} (hi : i < z) (hj : j < z) : ((i + j) % z + z - i) % z = j := by
  by_cases hh : i + j < z
  · rw [Nat.mod_eq_of_lt hh, show i + j + z - i = j + z by omega, Nat.add_mod_right, Nat.mod_eq_of_lt hj]
  · rw [show (i + j) % z = i + j - z by rw [Nat.mod_eq_sub_mod (by omega), Nat.mod_eq_of_lt (by omega)], show i + j - z + z - i = j by omega, Nat.mod_eq_of_lt hj]
theorem back_add {z i k : Nat} (hi : i < z) (hk : k < z) : (i + (k + z - i) % z) % z = k := by
  by_cases hh : i ≤ k
  · rw [show k + z - i = (k - i) + z by omega, Nat.add_mod_right, Nat.mod_eq_of_lt (show k - i < z by omega), show i + (k - i) = k by omega, Nat.mod_eq_of_lt hk]
  · rw [Nat.mod_eq_of_lt (show k + z - i < z by omega), show i + (k + z - i) = k + z by omega, Nat.add_mod_right, Nat.mod_eq_of_lt hk]
theorem place_add {z i j : Nat} {d e : Int} : (((i : Int) + d) % (z : Int) + ((j : Int) + e) % (z : Int)) % (z : Int) = ((((i + j) % z : Nat) : Int) + (d + e)) % (z : Int) := by
  rw [Int.natCast_emod, Int.natCast_add, Int.emod_add_emod, Int.add_emod_emod, Int.emod_add_emod]
  congr 1; omega
theorem Rm.sums {z a b : Nat} {d e : Int} {A B : List Int} (ra : Rm z d a A) (rb : Rm z e b B) : Rm z (d + e) (sumM z a b) (sums z A B) := by
  refine ⟨sumM_lt, fun x => ?_⟩
  unfold Mine.sums
  rw [List.mem_flatMap]
  constructor
  · rintro ⟨y, hy, hx⟩
    obtain ⟨w, hw, rfl⟩ := List.mem_map.mp hx
    obtain ⟨i, hi, h1, rfl⟩ := (ra.mem _).mp hy
    obtain ⟨j, hj, h2, rfl⟩ := (rb.mem _).mp hw
    have hlt : (i + j) % z < z := Nat.mod_lt _ (by omega)
    exact ⟨(i + j) % z, hlt, (sumM_bit rb.lt hlt).mpr ⟨i, hi, h1, by rw [add_back hi hj]; exact h2⟩, place_add⟩
  · rintro ⟨k, hk, h, rfl⟩
    obtain ⟨i, hi, h1, h2⟩ := (sumM_bit rb.lt hk).mp h
    refine ⟨_, (ra.mem _).mpr ⟨i, hi, h1, rfl⟩, List.mem_map.mpr ⟨_, (rb.mem _).mpr ⟨_, Nat.mod_lt _ (by omega), h2, rfl⟩, ?_⟩⟩
    rw [place_add, back_add hi hk]
theorem Rm.moves {z s : Nat} {d : Int} {S : List Int} (r : Rm z d s S) : Rm z 0 (movM z s) (movesL S z) := by
  refine ⟨movM_lt, fun x => ?_⟩
  unfold movesL
  rw [List.mem_filter, List.mem_map, List.all_eq_true]
  have key : ∀ k < z, (movM z s).testBit k = true ↔ ∀ y ∈ S, S.contains ((y + (k : Int)) % (z : Int)) = true := by
    intro k hk
    rw [movM_bit r.lt hk]
    constructor
    · intro h y hy
      obtain ⟨j, hj, h1, rfl⟩ := (r.mem y).mp hy
      rw [List.contains_iff_mem, r.mem]
      refine ⟨(j + k) % z, Nat.mod_lt _ (by omega), h j hj h1, ?_⟩
      rw [Int.natCast_emod, Int.natCast_add, Int.emod_add_emod, Int.emod_add_emod]
      congr 1; omega
    · intro h j hj h1
      have h2 := h _ ((r.mem _).mpr ⟨j, hj, h1, rfl⟩)
      rw [List.contains_iff_mem, r.mem] at h2
      obtain ⟨i, hi, h3, h4⟩ := h2
      have hlt : (j + k) % z < z := Nat.mod_lt _ (by omega)
      have : (j + k) % z = i := by
        refine inj_mod (d := d) hlt hi ?_
        rw [← h4, Int.natCast_emod, Int.natCast_add, Int.emod_add_emod, Int.emod_add_emod]
        congr 1; omega
      rw [this]; exact h3
  constructor
  · rintro ⟨⟨k, hk, rfl⟩, h⟩
    have hk : k < z := by simpa using hk
    exact ⟨k, hk, (key k hk).mpr h, by rw [Int.add_zero, Int.emod_eq_of_lt (by omega) (by omega)]⟩
  · rintro ⟨k, hk, h, rfl⟩
    rw [Int.add_zero, Int.emod_eq_of_lt (by omega) (by omega)]
    exact ⟨⟨k, by simpa using hk, rfl⟩, (key k hk).mp h⟩
theorem movesL_nodup (S : List Int) (z : Nat) : (movesL S z).Nodup := by
  unfold movesL
  refine List.Pairwise.filter _ ?_
  show List.Nodup _
  unfold List.Nodup
  rw [List.pairwise_map]
  refine List.Pairwise.imp (R := fun a b => a ≠ b) ?_ List.nodup_range
  intro i j hab h
  have h : (i : Int) = (j : Int) := h
  exact hab (by omega)
theorem filter_count (z : Int) (B : List Int) (s : Int) : ∀ A : List Int, (A.filter fun a => (B.map fun b => (a + b) % z).contains s).length ≤ (sums z A B).count s
  | [] => by simp
  | a :: A => by
    have ih := filter_count z B s A
    have e : sums z (a :: A) B = (B.map fun b => (a + b) % z) ++ sums z A B := by unfold sums; rw [List.flatMap_cons]
    rw [e, List.count_append, List.filter_cons]
    split
    · rename_i h
      have := List.count_pos_iff.mpr (List.contains_iff_mem.mp h)
      rw [List.length_cons]; omega
    · omega
theorem Rm.count {z a b s : Nat} {d e : Int} {A B : List Int} (ra : Rm z d a A) (rb : Rm z e b B) (hs : s < z) : cntM z a b s ≤ (Mine.sums z A B).count (((s : Int) + (d + e)) % (z : Int)) := by
  refine Nat.le_trans ?_ (filter_count z B _ A)
  refine Nat.le_trans ?_ (dedup_len _)
  have p := dedup_perm (mods_nodup (z := z) d fun k => a.testBit k && b.testBit ((s + z - k) % z)) (ps := A.filter fun a => (B.map fun b => (a + b) % z).contains (((s : Int) + (d + e)) % (z : Int))) fun y => by
    rw [List.mem_filter, ra.mem, List.mem_map, List.contains_iff_mem, List.mem_map]
    constructor
    · rintro ⟨k, hk, rfl⟩
      obtain ⟨h1, h2⟩ := List.mem_filter.mp hk
      have h1 := List.mem_range.mp h1
      rw [Bool.and_eq_true] at h2
      refine ⟨⟨k, h1, h2.1, rfl⟩, _, (rb.mem _).mpr ⟨_, Nat.mod_lt _ (by omega), h2.2, rfl⟩, ?_⟩
      rw [place_add, back_add h1 hs]
    · rintro ⟨⟨k, h1, h2, rfl⟩, y, hy, he⟩
      obtain ⟨j, hj, h3, rfl⟩ := (rb.mem _).mp hy
      rw [place_add] at he
      have := inj_mod (Nat.mod_lt _ (by omega)) hs he
      refine ⟨k, List.mem_filter.mpr ⟨List.mem_range.mpr h1, ?_⟩, rfl⟩
      rw [Bool.and_eq_true]
      refine ⟨h2, ?_⟩
      rw [← this, add_back h1 hj]; exact h3
  rw [← p.length_eq, List.length_map]
  exact Nat.le_refl _
def knc2 (z a b s : Nat) : Bool := (List.range z).all fun k => !s.testBit k || Nat.ble (pc z a + pc z b) (pc z s + cntM z a b k)
def knc1 (z a b s h : Nat) : Bool :=
  Nat.ble (pc z (sumM z a h) + pc z (sumM z b h)) (pc z s + pc z h) &&
  (Nat.ble (pc z a + pc z b) (pc z s) || (Nat.beq (pc z (sumM z a h) + pc z (sumM z b h)) (pc z s + pc z h) && knc2 z a b s))
def knc (z a b : Nat) : Bool := knc1 z a b (sumM z a b) (movM z (sumM z a b))
theorem kn_of {z a b : Nat} {d e : Int} {A B : List Int} (ra : Rm z d a A) (rb : Rm z e b B) (hA : A.Nodup) (hB : B.Nodup) (hc : knc z a b = true) : Kn z A B := by
  have rs := ra.sums rb
  have rh := rs.moves
  have l1 := rs.len
  have l2 := (ra.sums rh).len
  have l3 := (rb.sums rh).len
  have l4 := rh.len' (movesL_nodup _ _)
  have l5 := ra.len' hA
  have l6 := rb.len' hB
  unfold knc knc1 at hc
  rw [Bool.and_eq_true, Bool.or_eq_true, Bool.and_eq_true, Nat.ble_eq, Nat.ble_eq, Nat.beq_eq] at hc
  obtain ⟨c1, c2⟩ := hc
  have hbd : bdOf z A B = (pc z (sumM z a (movM z (sumM z a b))) : Int) + pc z (sumM z b (movM z (sumM z a b))) - pc z (movM z (sumM z a b)) := by
    unfold bdOf; rw [l2, l3, l4]
  refine ⟨?_, ?_, ?_⟩
  · rw [hbd, l1]; omega
  · rw [hbd, l1, l5, l6]
    intro h
    rcases c2 with c2 | ⟨c2, _⟩ <;> omega
  · intro s hs
    rw [l1, l5, l6]
    rcases c2 with c2 | ⟨_, c2⟩
    · omega
    · obtain ⟨k, hk, h1, rfl⟩ := (rs.mem s).mp hs
      have h2 := ra.count rb hk
      unfold knc2 at c2
      have c3 := List.all_eq_true.mp c2 k (List.mem_range.mpr hk)
      rw [h1, Bool.not_true, Bool.false_or, Nat.ble_eq] at c3
      omega
end Mine
end
section -- P9
open PySem PySem.W PySem.Calls PyProof.Rows
namespace Mine
/-- the two lists' masks -/
def mA (z x y : Nat) : Nat := 2 ^ 0 ||| 2 ^ x ||| 2 ^ y ||| 2 ^ ((x + y) % z)
def mB (u v : Nat) : Nat := 2 ^ 0 ||| 2 ^ u ||| 2 ^ v
theorem mod_res {z : Nat} (hz : 0 < z) (d f : Int) : ∃ x < z, f % (z : Int) = ((x : Int) + d) % (z : Int) := by
  refine ⟨((f - d) % (z : Int)).toNat, ?_, ?_⟩
  · have := Int.emod_lt_of_pos (f - d) (show (0 : Int) < z by omega)
    have := Int.emod_nonneg (f - d) (show (z : Int) ≠ 0 by omega)
    omega
  · have := Int.emod_nonneg (f - d) (show (z : Int) ≠ 0 by omega)
    rw [Int.toNat_of_nonneg this, Int.emod_add_emod]
    congr 1; omega
theorem R_A {z : Nat} (hz : 0 < z) (d0 d1 d2 : Int) : ∃ x < z, ∃ y < z, Rm z d0 (mA z x y) (dedup (modL z [d0, d1, d0 + d2, d1 + d2])) := by
  obtain ⟨x, hx, ex⟩ := mod_res hz d0 d1
  obtain ⟨y, hy, ey⟩ := mod_res hz 0 d2
  have e3 : (d0 + d2) % (z : Int) = ((y : Int) + d0) % (z : Int) := by
    rw [← Int.add_emod_emod, ey, Int.add_zero, Int.add_emod_emod, Int.add_comm]
  have e4 : (d1 + d2) % (z : Int) = ((((x + y) % z : Nat) : Int) + d0) % (z : Int) := by
    rw [Int.add_emod, ex, ey, Int.add_zero, ← Int.add_emod, Int.natCast_emod, Int.natCast_add, Int.emod_add_emod]
    congr 1; omega
  have e1 : d0 % (z : Int) = (((0 : Nat) : Int) + d0) % (z : Int) := by
    congr 1; omega
  have hxy : (x + y) % z < z := Nat.mod_lt _ hz
  have pl : ∀ {i : Nat}, i < z → 2 ^ i < 2 ^ z := fun h => Nat.pow_lt_pow_right (by decide) h
  refine ⟨x, hx, y, hy, ?_, fun v => ?_⟩
  · exact Nat.or_lt_two_pow (Nat.or_lt_two_pow (Nat.or_lt_two_pow (pl hz) (pl hx)) (pl hy)) (pl hxy)
  · rw [(dedup_spec _).2]
    unfold modL mA
    simp only [List.map_cons, List.map_nil, List.mem_cons, List.not_mem_nil, or_false, e1, ex, e3, e4, Nat.testBit_or, Nat.testBit_two_pow, Bool.or_eq_true, decide_eq_true_eq]
    constructor
    · rintro (rfl | rfl | rfl | rfl)
      · exact ⟨0, hz, .inl (.inl (.inl rfl)), rfl⟩
      · exact ⟨x, hx, .inl (.inl (.inr rfl)), rfl⟩
      · exact ⟨y, hy, .inl (.inr rfl), rfl⟩
      · exact ⟨_, hxy, .inr rfl, rfl⟩
    · rintro ⟨k, _, ((rfl | rfl) | rfl) | rfl, rfl⟩
      · exact .inl rfl
      · exact .inr (.inl rfl)
      · exact .inr (.inr (.inl rfl))
      · exact .inr (.inr (.inr rfl))
theorem R_B {z : Nat} (hz : 0 < z) (d3 d4 d5 : Int) : ∃ u < z, ∃ v < z, Rm z d3 (mB u v) (dedup (modL z [d3, d4, d5])) := by
  obtain ⟨x, hx, ex⟩ := mod_res hz d3 d4
  obtain ⟨y, hy, ey⟩ := mod_res hz d3 d5
  have e1 : d3 % (z : Int) = (((0 : Nat) : Int) + d3) % (z : Int) := by
    congr 1; omega
  have pl : ∀ {i : Nat}, i < z → 2 ^ i < 2 ^ z := fun h => Nat.pow_lt_pow_right (by decide) h
  refine ⟨x, hx, y, hy, ?_, fun v => ?_⟩
  · exact Nat.or_lt_two_pow (Nat.or_lt_two_pow (pl hz) (pl hx)) (pl hy)
  · rw [(dedup_spec _).2]
    unfold modL mB
    simp only [List.map_cons, List.map_nil, List.mem_cons, List.not_mem_nil, or_false, e1, ex, ey, Nat.testBit_or, Nat.testBit_two_pow, Bool.or_eq_true, decide_eq_true_eq]
    constructor
    · rintro (rfl | rfl | rfl)
      · exact ⟨0, hz, .inl (.inl rfl), rfl⟩
      · exact ⟨x, hx, .inl (.inr rfl), rfl⟩
      · exact ⟨y, hy, .inr rfl, rfl⟩
    · rintro ⟨k, _, (rfl | rfl) | rfl, rfl⟩
      · exact .inl rfl
      · exact .inr (.inl rfl)
      · exact .inr (.inr rfl)
/-- the same check, in words that the kernel runs fast -/
def bt (m k : Nat) : Bool := Nat.beq (Nat.land 1 (Nat.shiftRight m k)) 1
def pcF (z m : Nat) : Nat := Nat.rec 0 (fun k n => cond (bt m k) (Nat.add n 1) n) z
def rotF (z m k : Nat) : Nat := Nat.mod (Nat.lor (Nat.shiftLeft m k) (Nat.shiftRight m (Nat.sub z k))) (Nat.pow 2 z)
def sumF (z a b : Nat) : Nat := Nat.rec 0 (fun k n => cond (bt a k) (Nat.lor n (rotF z b k)) n) z
def movF (z s : Nat) : Nat := Nat.rec 0 (fun k n => cond (Nat.beq (Nat.lor (rotF z s k) s) s) (Nat.lor n (Nat.pow 2 k)) n) z
def cntF (z a b s : Nat) : Nat := Nat.rec 0 (fun k n => cond (bt a k) (cond (bt b (Nat.mod (Nat.sub (Nat.add s z) k) z)) (Nat.add n 1) n) n) z
def allF (z : Nat) (p : Nat → Bool) : Bool := Nat.rec true (fun k n => cond (p k) n false) z
def force (n : Nat) (f : Nat → Bool) : Bool := Nat.rec (f 0) (fun k _ => f (Nat.succ k)) n
def kncG (z a b s h : Nat) : Bool :=
  cond (Nat.ble (Nat.add (pcF z (sumF z a h)) (pcF z (sumF z b h))) (Nat.add (pcF z s) (pcF z h)))
  (cond (Nat.ble (Nat.add (pcF z a) (pcF z b)) (pcF z s)) true
    (cond (Nat.beq (Nat.add (pcF z (sumF z a h)) (pcF z (sumF z b h))) (Nat.add (pcF z s) (pcF z h)))
      (allF z fun k => cond (bt s k) (Nat.ble (Nat.add (pcF z a) (pcF z b)) (Nat.add (pcF z s) (cntF z a b k))) true) false)) false
def kncF (z a b : Nat) : Bool := force (sumF z a b) fun s => force (movF z s) fun h => kncG z a b s h
noncomputable def allL (p : Nat → Bool) (l : List Nat) : Bool := List.rec true (fun a _ r => cond (p a) r false) l
theorem bt_eq (m k : Nat) : bt m k = m.testBit k := by
  show Nat.beq (1 &&& (m >>> k)) 1 = ((1 &&& (m >>> k)) != 0)
  rw [Nat.one_and_eq_mod_two]
  rcases Nat.mod_two_eq_zero_or_one (m >>> k) with h | h <;> rw [h] <;> rfl
theorem rec_fold {α : Type} (f : Nat → α → α) (x : α) : ∀ n : Nat, (Nat.rec x f n : α) = (List.range n).foldl (fun acc k => f k acc) x
  | 0 => rfl
  | n + 1 => by
    rw [List.range_succ, List.foldl_append, ← rec_fold f x n]; rfl
theorem sumF_eq (z a b : Nat) : sumF z a b = sumM z a b := by
  unfold sumF sumM
  rw [rec_fold]
  congr 1
  funext acc k
  rw [bt_eq]; rfl
theorem movF_eq (z s : Nat) : movF z s = movM z s := by
  unfold movF movM
  rw [rec_fold]
  congr 1
  funext acc k
  have e : Nat.beq (Nat.lor (rotF z s k) s) s = ((rot z s k ||| s) == s) := by
    rw [Bool.eq_iff_iff, Nat.beq_eq, beq_iff_eq]; rfl
  rw [e]; rfl
theorem count_fold (p : Nat → Bool) : ∀ z : Nat, (Nat.rec 0 (fun k n => cond (p k) (Nat.add n 1) n) z : Nat) = ((List.range z).filter p).length
  | 0 => rfl
  | z + 1 => by
    rw [List.range_succ, List.filter_append, List.length_append, ← count_fold p z]
    show cond (p z) (Nat.add _ 1) _ = _
    rw [List.filter_cons]
    cases p z <;> rfl
theorem pcF_eq (z m : Nat) : pcF z m = pc z m := by
  unfold pcF pc
  rw [← count_fold]
  congr 1
  funext k n
  rw [bt_eq]
theorem cntF_eq (z a b s : Nat) : cntF z a b s = cntM z a b s := by
  unfold cntF cntM
  rw [← count_fold]
  congr 1
  funext k n
  rw [bt_eq, bt_eq]
  cases a.testBit k <;> rfl
theorem allF_eq (p : Nat → Bool) : ∀ z : Nat, allF z p = true → ∀ k < z, p k = true
  | 0, _, k, hk => absurd hk (Nat.not_lt_zero _)
  | z + 1, h, k, hk => by
    have h : cond (p z) (allF z p) false = true := h
    cases hp : p z with
    | false => rw [hp] at h; cases h
    | true =>
      rw [hp] at h
      rcases Nat.lt_succ_iff_lt_or_eq.mp hk with hk | rfl
      · exact allF_eq p z h k hk
      · exact hp
theorem force_eq (n : Nat) (f : Nat → Bool) : force n f = f n := by cases n <;> rfl
theorem allL_eq (p : Nat → Bool) : ∀ l : List Nat, allL p l = true → ∀ a ∈ l, p a = true
  | [], _, a, ha => by cases ha
  | b :: l, h, a, ha => by
    have h : cond (p b) (allL p l) false = true := h
    cases hp : p b with
    | false => rw [hp] at h; cases h
    | true =>
      rw [hp] at h
      rcases List.mem_cons.mp ha with rfl | ha
      · exact hp
      · exact allL_eq p l h a ha
theorem cond_true {a b : Bool} (h : cond a b false = true) : a = true ∧ b = true := by cases a <;> cases b <;> first | exact ⟨rfl, rfl⟩ | cases h
theorem knc_of {z a b : Nat} (h : kncF z a b = true) : knc z a b = true := by
  unfold kncF at h
  rw [force_eq, force_eq] at h
  unfold kncG at h
  simp only [sumF_eq, movF_eq, pcF_eq] at h
  unfold knc knc1
  obtain ⟨h1, h2⟩ := cond_true h
  rw [Bool.and_eq_true, Bool.or_eq_true]
  refine ⟨h1, ?_⟩
  cases h3 : Nat.ble (pc z a + pc z b) (pc z (sumM z a b)) with
  | true => exact .inl rfl
  | false =>
    have h3 : Nat.ble (Nat.add (pc z a) (pc z b)) (pc z (sumM z a b)) = false := h3
    rw [h3] at h2
    obtain ⟨h4, h5⟩ := cond_true h2
    rw [Bool.and_eq_true]
    refine .inr ⟨h4, ?_⟩
    unfold knc2
    rw [List.all_eq_true]
    intro k hk
    have h6 := allF_eq _ z h5 k (List.mem_range.mp hk)
    rw [bt_eq, cntF_eq] at h6
    cases hb : (sumM z a b).testBit k with
    | false => rfl
    | true => rw [hb] at h6; exact h6
def bs6 : List Nat := [1, 3, 5, 7, 9, 11, 13, 17, 19, 21, 25, 33, 35, 37, 41, 49]
def as6_0 : List Nat := [1, 3, 5, 7, 9, 15, 17, 21, 27, 33, 35, 39, 45, 49, 51, 57]
def as6 : List Nat := as6_0
theorem inA6 : ((List.range 6).all fun x => (List.range 6).all fun y => as6.contains (mA 6 x y)) = true := by decide +kernel
theorem inB6 : ((List.range 6).all fun x => (List.range 6).all fun y => bs6.contains (mB x y)) = true := by decide +kernel
theorem go6_0 : allL (fun a => allL (fun b => kncF 6 a b) bs6) as6_0 = true := by decide +kernel
theorem all6 {a b : Nat} (ha : a ∈ as6) (hb : b ∈ bs6) : kncF 6 a b = true := by
  · exact allL_eq _ _ (allL_eq _ _ go6_0 _ ha) _ hb
theorem kn6 (d0 d1 d2 d3 d4 d5 : Int) : Kn (6 : Nat) (dedup (modL (6 : Nat) [d0, d1, d0 + d2, d1 + d2])) (dedup (modL (6 : Nat) [d3, d4, d5])) := by
  obtain ⟨x, hx, y, hy, ra⟩ := R_A (z := 6) (by decide) d0 d1 d2
  obtain ⟨u, hu, v, hv, rb⟩ := R_B (z := 6) (by decide) d3 d4 d5
  have h1 := List.all_eq_true.mp (List.all_eq_true.mp inA6 x (List.mem_range.mpr hx)) y (List.mem_range.mpr hy)
  have h2 := List.all_eq_true.mp (List.all_eq_true.mp inB6 u (List.mem_range.mpr hu)) v (List.mem_range.mpr hv)
  exact kn_of ra rb (dedup_spec _).1 (dedup_spec _).1 (knc_of (all6 (List.contains_iff_mem.mp h1) (List.contains_iff_mem.mp h2)))
def bs8 : List Nat := [1, 3, 5, 7, 9, 11, 13, 17, 19, 21, 25, 33, 35, 37, 41, 49, 65, 67, 69, 73, 81, 97, 129, 131, 133, 137, 145, 161, 193]
def as8_0 : List Nat := [1, 3, 5, 7, 9, 15, 17, 21, 27, 33, 37, 41, 45, 51, 65, 69, 73, 75]
def as8_1 : List Nat := [81, 85, 99, 105, 129, 131, 135, 141, 153, 165, 177, 193, 195, 225]
def as8 : List Nat := as8_0 ++ as8_1
theorem inA8 : ((List.range 8).all fun x => (List.range 8).all fun y => as8.contains (mA 8 x y)) = true := by decide +kernel
theorem inB8 : ((List.range 8).all fun x => (List.range 8).all fun y => bs8.contains (mB x y)) = true := by decide +kernel
theorem go8_0 : allL (fun a => allL (fun b => kncF 8 a b) bs8) as8_0 = true := by decide +kernel
theorem go8_1 : allL (fun a => allL (fun b => kncF 8 a b) bs8) as8_1 = true := by decide +kernel
theorem all8 {a b : Nat} (ha : a ∈ as8) (hb : b ∈ bs8) : kncF 8 a b = true := by
  unfold as8 at ha
  simp only [List.mem_append] at ha
  rcases ha with ha | ha
  · exact allL_eq _ _ (allL_eq _ _ go8_0 _ ha) _ hb
  · exact allL_eq _ _ (allL_eq _ _ go8_1 _ ha) _ hb
theorem kn8 (d0 d1 d2 d3 d4 d5 : Int) : Kn (8 : Nat) (dedup (modL (8 : Nat) [d0, d1, d0 + d2, d1 + d2])) (dedup (modL (8 : Nat) [d3, d4, d5])) := by
  obtain ⟨x, hx, y, hy, ra⟩ := R_A (z := 8) (by decide) d0 d1 d2
  obtain ⟨u, hu, v, hv, rb⟩ := R_B (z := 8) (by decide) d3 d4 d5
  have h1 := List.all_eq_true.mp (List.all_eq_true.mp inA8 x (List.mem_range.mpr hx)) y (List.mem_range.mpr hy)
  have h2 := List.all_eq_true.mp (List.all_eq_true.mp inB8 u (List.mem_range.mpr hu)) v (List.mem_range.mpr hv)
  exact kn_of ra rb (dedup_spec _).1 (dedup_spec _).1 (knc_of (all8 (List.contains_iff_mem.mp h1) (List.contains_iff_mem.mp h2)))
def bs10 : List Nat := [1, 3, 5, 7, 9, 11, 13, 17, 19, 21, 25, 33, 35, 37, 41, 49, 65, 67, 69, 73, 81, 97, 129, 131, 133, 137, 145, 161, 193, 257, 259, 261, 265, 273, 289, 321, 385, 513, 515, 517, 521, 529, 545, 577, 641, 769]
def as10_0 : List Nat := [1, 3, 5, 7, 9, 15, 17, 21, 27, 33, 45, 51, 65, 69, 73, 81, 85, 99]
def as10_1 : List Nat := [129, 137, 145, 147, 153, 165, 195, 201, 257, 261, 267, 273, 277, 297, 321, 325, 337, 387]
def as10_2 : List Nat := [417, 513, 515, 519, 525, 537, 561, 585, 609, 645, 705, 769, 771, 897]
def as10 : List Nat := as10_0 ++ as10_1 ++ as10_2
theorem inA10 : ((List.range 10).all fun x => (List.range 10).all fun y => as10.contains (mA 10 x y)) = true := by decide +kernel
theorem inB10 : ((List.range 10).all fun x => (List.range 10).all fun y => bs10.contains (mB x y)) = true := by decide +kernel
theorem go10_0 : allL (fun a => allL (fun b => kncF 10 a b) bs10) as10_0 = true := by decide +kernel
theorem go10_1 : allL (fun a => allL (fun b => kncF 10 a b) bs10) as10_1 = true := by decide +kernel
theorem go10_2 : allL (fun a => allL (fun b => kncF 10 a b) bs10) as10_2 = true := by decide +kernel
theorem all10 {a b : Nat} (ha : a ∈ as10) (hb : b ∈ bs10) : kncF 10 a b = true := by
  unfold as10 at ha
  simp only [List.mem_append] at ha
  rcases ha with (ha | ha) | ha
  · exact allL_eq _ _ (allL_eq _ _ go10_0 _ ha) _ hb
  · exact allL_eq _ _ (allL_eq _ _ go10_1 _ ha) _ hb
  · exact allL_eq _ _ (allL_eq _ _ go10_2 _ ha) _ hb
theorem kn10 (d0 d1 d2 d3 d4 d5 : Int) : Kn (10 : Nat) (dedup (modL (10 : Nat) [d0, d1, d0 + d2, d1 + d2])) (dedup (modL (10 : Nat) [d3, d4, d5])) := by
  obtain ⟨x, hx, y, hy, ra⟩ := R_A (z := 10) (by decide) d0 d1 d2
  obtain ⟨u, hu, v, hv, rb⟩ := R_B (z := 10) (by decide) d3 d4 d5
  have h1 := List.all_eq_true.mp (List.all_eq_true.mp inA10 x (List.mem_range.mpr hx)) y (List.mem_range.mpr hy)
  have h2 := List.all_eq_true.mp (List.all_eq_true.mp inB10 u (List.mem_range.mpr hu)) v (List.mem_range.mpr hv)
  exact kn_of ra rb (dedup_spec _).1 (dedup_spec _).1 (knc_of (all10 (List.contains_iff_mem.mp h1) (List.contains_iff_mem.mp h2)))
def bs12 : List Nat := [1, 3, 5, 7, 9, 11, 13, 17, 19, 21, 25, 33, 35, 37, 41, 49, 65, 67, 69, 73, 81, 97, 129, 131, 133, 137, 145, 161, 193, 257, 259, 261, 265, 273, 289, 321, 385, 513, 515, 517, 521, 529, 545, 577, 641, 769, 1025, 1027, 1029, 1033, 1041, 1057, 1089, 1153, 1281, 1537, 2049, 2051, 2053, 2057, 2065, 2081, 2113, 2177, 2305, 2561, 3073]
def as12_0 : List Nat := [1, 3, 5, 7, 9, 15, 17, 21, 27, 33, 45, 51, 65, 73, 85, 99, 129, 133]
def as12_1 : List Nat := [153, 161, 165, 195, 257, 273, 291, 297, 325, 387, 393, 513, 521, 531, 549, 561, 577, 585]
def as12_2 : List Nat := [645, 657, 771, 801, 1025, 1029, 1035, 1045, 1057, 1065, 1105, 1161, 1185, 1281, 1285, 1345, 1539, 1665]
def as12_3 : List Nat := [2049, 2051, 2055, 2061, 2073, 2097, 2145, 2193, 2241, 2313, 2433, 2565, 2817, 3073, 3075, 3585]
def as12 : List Nat := as12_0 ++ as12_1 ++ as12_2 ++ as12_3
theorem inA12 : ((List.range 12).all fun x => (List.range 12).all fun y => as12.contains (mA 12 x y)) = true := by decide +kernel
theorem inB12 : ((List.range 12).all fun x => (List.range 12).all fun y => bs12.contains (mB x y)) = true := by decide +kernel
theorem go12_0 : allL (fun a => allL (fun b => kncF 12 a b) bs12) as12_0 = true := by decide +kernel
theorem go12_1 : allL (fun a => allL (fun b => kncF 12 a b) bs12) as12_1 = true := by decide +kernel
theorem go12_2 : allL (fun a => allL (fun b => kncF 12 a b) bs12) as12_2 = true := by decide +kernel
theorem go12_3 : allL (fun a => allL (fun b => kncF 12 a b) bs12) as12_3 = true := by decide +kernel
theorem all12 {a b : Nat} (ha : a ∈ as12) (hb : b ∈ bs12) : kncF 12 a b = true := by
  unfold as12 at ha
  simp only [List.mem_append] at ha
  rcases ha with ((ha | ha) | ha) | ha
  · exact allL_eq _ _ (allL_eq _ _ go12_0 _ ha) _ hb
  · exact allL_eq _ _ (allL_eq _ _ go12_1 _ ha) _ hb
  · exact allL_eq _ _ (allL_eq _ _ go12_2 _ ha) _ hb
  · exact allL_eq _ _ (allL_eq _ _ go12_3 _ ha) _ hb
theorem kn12 (d0 d1 d2 d3 d4 d5 : Int) : Kn (12 : Nat) (dedup (modL (12 : Nat) [d0, d1, d0 + d2, d1 + d2])) (dedup (modL (12 : Nat) [d3, d4, d5])) := by
  obtain ⟨x, hx, y, hy, ra⟩ := R_A (z := 12) (by decide) d0 d1 d2
  obtain ⟨u, hu, v, hv, rb⟩ := R_B (z := 12) (by decide) d3 d4 d5
  have h1 := List.all_eq_true.mp (List.all_eq_true.mp inA12 x (List.mem_range.mpr hx)) y (List.mem_range.mpr hy)
  have h2 := List.all_eq_true.mp (List.all_eq_true.mp inB12 u (List.mem_range.mpr hu)) v (List.mem_range.mpr hv)
  exact kn_of ra rb (dedup_spec _).1 (dedup_spec _).1 (knc_of (all12 (List.contains_iff_mem.mp h1) (List.contains_iff_mem.mp h2)))
theorem dd_ne {a : Int} {l : List Int} : dedup (a :: l) ≠ [] := fun e => by
  have := ((dedup_spec (a :: l)).2 a).mpr List.mem_cons_self
  rw [e] at this; cases this
theorem kn_all {z : Int} (hz : z = 6 ∨ z = 8 ∨ z = 10 ∨ z = 12) (d0 d1 d2 d3 d4 d5 : Int) : Kn z (dedup (modL z [d0, d1, d0 + d2, d1 + d2])) (dedup (modL z [d3, d4, d5])) := by
  rcases hz with rfl | rfl | rfl | rfl
  · exact kn6 d0 d1 d2 d3 d4 d5
  · exact kn8 d0 d1 d2 d3 d4 d5
  · exact kn10 d0 d1 d2 d3 d4 d5
  · exact kn12 d0 d1 d2 d3 d4 d5
theorem plain_law (z c d0 d1 d2 d3 d4 d5 : Int) (t : List (Int × Int)) (hz : z = 6 ∨ z = 8 ∨ z = 10 ∨ z = 12) (hc : c % 2 = 1) (x : TabC c (sums z (dedup (modL z [d0, d1, d0 + d2, d1 + d2])) (dedup (modL z [d3, d4, d5]))) t) :
    PL t z c ((((dedup (sums z (dedup (modL z [d0, d1, d0 + d2, d1 + d2])) (movesT t z))).length : Nat) : Int) + (((dedup (sums z (dedup (modL z [d3, d4, d5])) (movesT t z))).length : Nat) : Int) - (((movesT t z).length : Nat) : Int))
      ((((dedup (modL z [d0, d1, d0 + d2, d1 + d2])).length : Nat) : Int) + (((dedup (modL z [d3, d4, d5])).length : Nat) : Int)) :=
  pl_of x (by omega) dd_ne dd_ne (kn_all hz d0 d1 d2 d3 d4 d5)
end Mine
end
open PySem PySem.W PySem.Calls PyProof.Rows
namespace Mine
theorem fitCaller (env : Env) : Fit (callerA.deeper env) 10 := Fit.deeper ⟨rfl, by decide, by decide⟩
theorem nd3 {n : Nat} {o1 o2 o3 : Obj} : ([((n + 1 + 1 + 1 : Nat), o3), ((n + 1 + 1 : Nat), o2), ((n + 1 : Nat), o1)].map (·.1)).Nodup := by
  refine List.nodup_cons.mpr ⟨fun h => ?_, List.nodup_cons.mpr ⟨fun h => ?_, List.nodup_cons.mpr ⟨fun h => ?_, List.nodup_nil⟩⟩⟩
  · simp only [List.map_cons, List.map_nil, List.mem_cons, List.not_mem_nil, or_false] at h; omega
  · simp only [List.map_cons, List.map_nil, List.mem_cons, List.not_mem_nil, or_false] at h; omega
  · cases h
end Mine
set_option maxHeartbeats 8000000 in
theorem PySem.Challenge.cw_xo0005_01_holds : PySem.Challenge.rw_xo0005_01.Holds := by
  refine Mine.hd ?_
  k_go0
  all_goals (try k_fold)
  rename_i w s₀ s₁ mg mb G Y fa o pm doc ho hg KX X V GL T B TE TW w11 w10 M w9 w8 hcd ns hs hlay0 hL1 hr1 hl2 w7 w6 la vs w3 hL ra w1 r0 hI hr hlen htr K0 hD h₁ tk₁ F o3 o2 o1 d3 d2 d1 N0 X0
  have hsz : vs.toArray.size ≤ sizeLine := by
    have := hI.length
    rw [sizeLine_eq, List.size_toArray]; omega
  have d1 : o1.data = .cell none := d1
  have d2 : o2.data = .cell none := d2
  have d3 : o3.data = .cell none := d3
  refine wpAny_mono (Mine.law_body (w := w) (s := s₁) (a := la) (ys := vs.toArray) (ns := ns) (h := s₁.heap) (Q := fun v s' => qk (.ret v) s') rfl ⟨KX, topRead_of T⟩ (Mine.fitCaller _) hL (Mine.are_ints hI) hsz rfl d1 d2 d3 ⟨F, N0, Mine.nd3⟩ ?plain ?q) (fun _ _ x => x) (fun _ _ x => x.elim)
  case plain => exact fun z c d0 d1 d2 d3 d4 d5 t hz hc x => Mine.plain_law z c d0 d1 d2 d3 d4 d5 t hz hc x
  case q =>
    intro h' tk' m' F'
    exact goodW_bool F' hg (raisesW_false (by wrow_none_raised)) (by kc_post)
