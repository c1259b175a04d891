import PyProof.Rows.All
import Wide.All
import OpenK.AllK
import Wide.FinOn
import PySem.Challenge.RW_mq0080_01
set_option Elab.async false
set_option maxRecDepth 100000

namespace Mine
open PySem PySem.W PyProof.Rows
set_option maxHeartbeats 8000000 in
open_top hd for PySem.Challenge.rw_mq0080_01
end Mine

namespace Mine
open PySem PySem.W PySem.Calls PyProof.Rows

noncomputable abbrev KF (w : World) : Frag := hd.heap_39 w.params

structure Gnd (w : World) (h : Heap) : Prop where
  K : (KF w).In h
  T : ∃ p loose mg mb, TopRead p loose mg mb h

theorem Gnd.keeps {w : World} {h h' : Heap} (G : Gnd w h) (hk : ∀ b o, h.get? b = some o → h'.get? b = some o) : Gnd w h' :=
  ⟨G.K.keeps hk, let ⟨p, l, mg, mb, T⟩ := G.T; ⟨p, l, mg, mb, T.keeps hk⟩⟩

theorem Gnd.nolimit {w : World} {h : Heap} (G : Gnd w h) : h.NoLimit := let ⟨_, _, _, _, T⟩ := G.T; T.nolimit

/-- the heap only grows; gens and os stay -/
structure Ext (s s' : Shared) : Prop where
  keep : ∀ b o, s.heap.get? b = some o → s'.heap.get? b = some o
  gens : s'.gens = s.gens
  os : s'.os = s.os
theorem Ext.refl (s : Shared) : Ext s s := ⟨fun _ _ e => e, rfl, rfl⟩
theorem Ext.trans {a b c : Shared} (x : Ext a b) (y : Ext b c) : Ext a c := ⟨fun p o e => y.keep p o (x.keep p o e), y.gens.trans x.gens, y.os.trans x.os⟩

section
variable {prog : Program} {w : World} {A : Around} {E : Value → Shared → Prop} {s : Shared} {env : Env}

theorem name_def {x : Str} {pos : Pos} {v : Value} {Q : Value → Shared → Prop} (G : Gnd w s.heap) (e : nsIn (KF w) mainGlobals x = some (some v)) (h : Q v s)
    (hg : env.globals = mainGlobals := by rfl) (hk : env.scope.kind = .function := by rfl) (hx : env.kindOf x = some .globalImplicit := by rfl)
    (hd : (x == ("__debug__" : Str)) = false := by decide) :
    wpAny (model prog w) A (eval (.Name x pos) env) Q E s := by
  obtain ⟨K, p, l, mg, mb, T⟩ := G
  exact Name_function_global hk hx (loadGlobal_global (hg ▸ T.g) (mg_of K T.g e) h) hd

theorem name_builtin {x : Str} {pos : Pos} {v : Value} {Q : Value → Shared → Prop} (G : Gnd w s.heap) (e : nsIn (KF w) mainGlobals x = some none) (hv : bootBuiltins x = some v) (h : Q v s)
    (hn : x ≠ "__name__" := by decide)
    (hg : env.globals = mainGlobals := by rfl) (hb : env.builtins = builtinsNs := by rfl) (hk : env.scope.kind = .function := by rfl) (hx : env.kindOf x = some .globalImplicit := by rfl)
    (hd : (x == ("__debug__" : Str)) = false := by decide) :
    wpAny (model prog w) A (eval (.Name x pos) env) Q E s := by
  obtain ⟨K, p, l, mg, mb, T⟩ := G
  exact Name_function_global hk hx (loadGlobal_builtin (hg ▸ T.g) (mg_none_of K T.g e) (hb ▸ T.b) ((T.builtins x hn).trans hv) h) hd
end

section
variable {prog : Program} {w : World} {A : Around} {E : Value → Shared → Prop} {s : Shared}

/-- a def without cells, called by place -/
theorem call_fn {Q : Value → Shared → Prop} {name qual : Str} {params : Arguments} {body : List Stmt} {scope : Scope} {dV kV doc pm cdv ct oc : Value} {an od : Option Addr} {osl : Array (Option Value)}
    {f : Addr} {vals : List Value} {binds : List (Str × Value)}
    (G : Gnd w s.heap) (hroom : A.depth < recursionLimit)
    (ho : (KF w).lookup f = some ⟨oc, od, .func (fnOf name qual params body scope dV kV doc pm an cdv ct), osl⟩) (hcd : codeIn (KF w) cdv qual = true)
    (hbind : bindArgs (fnOf name qual params body scope dV kV doc pm an cdv ct) ⟨vals, []⟩ = pure binds)
    (hloc : ∀ y ∈ binds, scope.names.lookup y.1 = some .local)
    (hcell : ∀ x ∈ scope.names, x.2 ≠ .cell)
    (h : ∀ L h₁ tk, L = s.heap.objs.size → Fr s.heap L h₁ (fun x => binds.reverse.lookup x) →
      wpAny (model prog w) (A.deeper (envOf qual scope L f cdv)) (execs body (envOf qual scope L f cdv))
        (fun fl s' => Q (match fl with | .ret v => v | _ => .none) s') (fun _ _ => False) { s with heap := h₁, toks := tk })
    (hco : scope.isCoroutine = false := by rfl) (hgen : scope.isGenerator = false := by rfl) (hk : scope.kind = .function := by rfl) :
    wpAny (model prog w) A (call (.ref f) vals) Q E s := by
  refine wpAny_call (codeAny_call_def (fd := fnOf name qual params body scope dV kV doc pm an cdv ct) (body := body) (binds := binds) hroom (G.K _ _ ho) rfl G.nolimit (codeRec_of G.K hcd) rfl (BindsTo.of_eq hbind) hcell hloc (fun h₁ hns hk₁ => ?_) hco hgen hk)
  exact wpAny_mono (h _ h₁ (s.toks + binds.length) rfl ⟨hns, hk₁, Nat.le_refl _⟩) (fun _ _ x => x) fun _ _ x => x.elim

/-- a def with cells, called by place -/
theorem call_fnC {Q : Value → Shared → Prop} {name qual : Str} {params : Arguments} {body : List Stmt} {scope : Scope} {dV kV doc pm cdv ct oc : Value} {an od : Option Addr} {osl : Array (Option Value)}
    {f : Addr} {vals : List Value} {binds : List (Str × Value)}
    (G : Gnd w s.heap) (hroom : A.depth < recursionLimit)
    (ho : (KF w).lookup f = some ⟨oc, od, .func (fnOf name qual params body scope dV kV doc pm an cdv ct), osl⟩) (hcd : codeIn (KF w) cdv qual = true)
    (hbind : bindArgs (fnOf name qual params body scope dV kV doc pm an cdv ct) ⟨vals, []⟩ = pure binds)
    (hkind : (binds.all fun y => scope.names.lookup y.1 == some .local || scope.names.lookup y.1 == some .cell) = true)
    (h : ∀ L h₁ tk, L = s.heap.objs.size → Fr s.heap L h₁ (bindL (envOfC qual scope L f cdv).kindOf binds fun _ => none) →
      Cl L (cellsFrom (L + 1) scope.names []) h₁ (bindC (envOfC qual scope L f cdv).kindOf binds fun _ => none) →
      wpAny (model prog w) (A.deeper (envOfC qual scope L f cdv)) (execs body (envOfC qual scope L f cdv))
        (fun fl s' => Q (match fl with | .ret v => v | _ => .none) s') (fun _ _ => False) { s with heap := h₁, toks := tk })
    (hco : scope.isCoroutine = false := by rfl) (hgen : scope.isGenerator = false := by rfl) (hk : scope.kind = .function := by rfl) :
    wpAny (model prog w) A (call (.ref f) vals) Q E s := by
  refine wpAny_call (codeAny_call_cells (fd := fnOf name qual params body scope dV kV doc pm an cdv ct) (body := body) (binds := binds) hroom (G.K _ _ ho) rfl G.nolimit (codeRec_of G.K hcd) rfl hbind rfl (kindsX hkind _) (fun s₁ X => ?_) hco hgen hk)
  obtain ⟨h₁, tk, rfl, _⟩ := X.done
  exact wpAny_mono (h _ h₁ tk rfl ⟨X.toInCall.ns, X.toInCall.keep, X.toInCall.fresh⟩ ⟨X.cell, X.apart, X.above⟩) (fun _ _ x => x) fun _ _ x => x.elim
end

def fnS (i : Nat) : List Stmt × Scope := match PySem.Challenge.pw_mq0080_01.main.body[i]? with
  | some (.FunctionDef _ _ b _ _ _ sc _ _ _) => (b, sc)
  | _ => ([], default)

structure St (w : World) (s₀ : Shared) (env : Env) (m cm : Str → Option Value) (s : Shared) : Prop where
  ext : Ext s₀ s
  ns : s.heap.Ns env.locals m
  fresh : s₀.heap.objs.size ≤ env.locals
  cl : Cl env.locals env.cells s.heap cm
  G : Gnd w s₀.heap

abbrev upd (m : Str → Option Value) (x : Str) (v : Value) : Str → Option Value := fun y => if y = x then some v else m y

section
variable {prog : Program} {w : World} {A : Around} {E : Value → Shared → Prop} {s₀ s s' : Shared} {env : Env} {m cm : Str → Option Value}

theorem St.gnd (S : St w s₀ env m cm s) : Gnd w s.heap := S.G.keeps S.ext.keep
theorem St.grow (S : St w s₀ env m cm s) (x : Ext s s') : St w s₀ env m cm s' :=
  ⟨S.ext.trans x, S.ns.keeps x.keep, S.fresh, S.cl.keeps x.keep, S.G⟩
theorem St.notOld (S : St w s₀ env m cm s) : s₀.heap.get? env.locals = none := by
  cases e : s₀.heap.get? env.locals with
  | none => rfl
  | some o => exact absurd (Heap.lt_size e) (Nat.not_lt.mpr S.fresh)
theorem St.ne_of (S : St w s₀ env m cm s) {b : Addr} {o : Obj} (e : s₀.heap.get? b = some o) : b ≠ env.locals := fun q => by rw [q, S.notOld] at e; cases e

theorem ldL {x : Str} {pos : Pos} {v : Value} {Q : Value → Shared → Prop} (S : St w s₀ env m cm s) (hv : m x = some v) (h : Q v s)
    (hk : env.scope.kind = .function := by rfl) (hx : env.kindOf x = some .local := by rfl) (hd : (x == ("__debug__" : Str)) = false := by decide) :
    wpAny (model prog w) A (eval (.Name x pos) env) Q E s := wpAny_Name (wpAny_loadName_local hk hx S.ns hv h) hd
theorem ldnL {x : Str} {v : Value} {Q : Value → Shared → Prop} (S : St w s₀ env m cm s) (hv : m x = some v) (h : Q v s)
    (hk : env.scope.kind = .function := by rfl) (hx : env.kindOf x = some .local := by rfl) :
    wpAny (model prog w) A (loadName env x) Q E s := wpAny_loadName_local hk hx S.ns hv h
theorem ldC {x : Str} {pos : Pos} {v : Value} {c : Addr} {Q : Value → Shared → Prop} (S : St w s₀ env m cm s) (hc : env.cells.lookup x = some c) (hv : cm x = some v) (h : Q v s)
    (hk : env.scope.kind = .function := by rfl) (hx : env.kindOf x = some .cell := by rfl) (hd : (x == ("__debug__" : Str)) = false := by decide) :
    wpAny (model prog w) A (eval (.Name x pos) env) Q E s := wpAny_Name (wpAny_loadName_cell hk hx hc (hv ▸ S.cl.cell x c hc) h) hd

theorem stL {x : Str} {v : Value} {Q : Unit → Shared → Prop} (S : St w s₀ env m cm s)
    (h : ∀ s', St w s₀ env (upd m x v) cm s' → (∀ b, b ≠ env.locals → s'.heap.get? b = s.heap.get? b) → Q () s')
    (hk : env.scope.kind = .function := by rfl) (hx : env.kindOf x = some .local := by rfl) :
    wpAny (model prog w) A (storeName env x v) Q E s := by
  refine wpAny_storeName_local hx S.ns (fun h' hn hs => h _ ⟨⟨fun b o e => ?_, S.ext.gens, S.ext.os⟩, hn, S.fresh, S.cl.sameBut hs (Nat.le_refl _), S.G⟩ fun b hb => hs.2 b hb) (by rw [hk]; rfl)
  exact (hs.2 b (S.ne_of e)).trans (S.ext.keep b o e)

theorem stC {x : Str} {v : Value} {c : Addr} {Q : Unit → Shared → Prop} (S : St w s₀ env m cm s) (hc : env.cells.lookup x = some c)
    (h : ∀ s', St w s₀ env m (upd cm x v) s' → (∀ b, b ≠ c → s'.heap.get? b = s.heap.get? b) → Q () s')
    (hk : env.scope.kind = .function := by rfl) (hx : env.kindOf x = some .cell := by rfl) :
    wpAny (model prog w) A (storeName env x v) Q E s := by
  have hLc : env.locals < c := S.cl.above x c (mem_of_lookup hc)
  refine wpAny_storeName_cell hk hx hc (S.cl.cell x c hc) fun h' hv hs => h _ ⟨⟨fun b o e => ?_, S.ext.gens, S.ext.os⟩, S.ns.sameBut hs (Nat.ne_of_lt hLc), S.fresh, ⟨fun n c' e => ?_, S.cl.apart, S.cl.above⟩, S.G⟩ fun b hb => hs.2 b hb
  · exact (hs.2 b (Nat.ne_of_lt (Nat.lt_trans (Nat.lt_of_lt_of_le (Heap.lt_size e) S.fresh) hLc))).trans (S.ext.keep b o e)
  · by_cases hn : n = x
    · subst hn; rw [hc] at e; cases e; simpa [upd] using hv
    · have hcc : c' ≠ c := fun q => hn (name_of_addr S.cl.apart (mem_of_lookup e) (q ▸ mem_of_lookup hc))
      simpa [upd, hn] using (S.cl.cell n c' e).sameBut hs hcc
theorem upd_self {m : Str → Option Value} {x : Str} {v : Value} : upd m x v x = some v := if_pos rfl
theorem upd_ne {m : Str → Option Value} {x y : Str} {v : Value} {r : Option Value} (h : m y = r) (hn : y ≠ x := by decide) : upd m x v y = r := (if_neg hn).trans h
end

section
variable {prog : Program} {w : World} {A : Around} {E : Value → Shared → Prop} {s : Shared}

def twEnv (L : Addr) : Env := envOf (Str.ofString "three_way_cmp") (fnS 1).2 L 21 (.ref 20)
theorem tw_enter {a b : Value} {Q : Value → Shared → Prop} (G : Gnd w s.heap) (hroom : A.depth < recursionLimit)
    (h : ∀ L s₁, St w s (twEnv L) (fun x => [(Str.ofString "y", b), (Str.ofString "x", a)].lookup x) (fun _ => none) s₁ →
      wpAny (model prog w) (A.deeper (twEnv L)) (execs (fnS 1).1 (twEnv L)) (fun fl s' => Q (match fl with | .ret v => v | _ => .none) s') (fun _ _ => False) s₁) :
    wpAny (model prog w) A (call (.ref 21) [a, b]) Q E s :=
  call_fn (binds := [(Str.ofString "x", a), (Str.ofString "y", b)]) (scope := (fnS 1).2) (body := (fnS 1).1) G hroom rfl rfl rfl (locs rfl) (by decide +kernel) fun L h₁ tk hL F => h L _ ⟨⟨F.keep, rfl, rfl⟩, F.ns, F.above, ⟨fun _ _ e => (nomatch e), .nil, fun _ _ e => (nomatch e)⟩, G⟩

end
end Mine

namespace Mine
open PySem PySem.W PySem.Calls PyProof.Rows

section
variable {prog : Program} {w : World} {A : Around} {E : Value → Shared → Prop} {s : Shared} {env : Env} {Q : Value → Shared → Prop}

theorem callB1 {fx : Str} {id : String} {p pos : Pos} {e : Expr} (G : Gnd w s.heap) (hn : nsIn (KF w) mainGlobals fx = some none) (hv : bootBuiltins fx = some (.builtin id))
    (h : wpAny (model prog w) A (eval e env) (fun v s₁ => wpAny (model prog w) A (call (.builtin id) [v]) Q E s₁) E s)
    (he : starEach [e] env = [(false, eval e env)] := by rfl) (h1 : fx ≠ "__name__" := by decide) (hg : env.globals = mainGlobals := by rfl) (hb : env.builtins = builtinsNs := by rfl)
    (hk : env.scope.kind = .function := by rfl) (hx : env.kindOf fx = some .globalImplicit := by rfl) (hd : (fx == ("__debug__" : Str)) = false := by decide) :
    wpAny (model prog w) A (eval (.Call (.Name fx p) [e] [] pos) env) Q E s := by
  refine wpAny_Call_NameR (name_builtin G hn hv ?_ h1 hg hb hk hx hd)
  rw [he]
  exact callWith_builtin rfl (evalArgs_plain (spliced_cons (wpAny_mono h (fun v s₁ h₁ => spliced_nil h₁) fun _ _ x => x)))

theorem callT1 {fx : Str} {T : String} {p pos : Pos} {e : Expr} (G : Gnd w s.heap) (hn : nsIn (KF w) mainGlobals fx = some none) (hv : bootBuiltins fx = some (.type T))
    (h : wpAny (model prog w) A (eval e env) (fun v s₁ => wpAny (model prog w) A (call (.type T) [v]) Q E s₁) E s)
    (he : starEach [e] env = [(false, eval e env)] := by rfl) (h1 : fx ≠ "__name__" := by decide) (hg : env.globals = mainGlobals := by rfl) (hb : env.builtins = builtinsNs := by rfl)
    (hk : env.scope.kind = .function := by rfl) (hx : env.kindOf fx = some .globalImplicit := by rfl) (hd : (fx == ("__debug__" : Str)) = false := by decide) :
    wpAny (model prog w) A (eval (.Call (.Name fx p) [e] [] pos) env) Q E s := by
  refine wpAny_Call_NameR (name_builtin G hn hv ?_ h1 hg hb hk hx hd)
  rw [he]
  exact PySem.callWith_type rfl (evalArgs_plain (spliced_cons (wpAny_mono h (fun v s₁ h₁ => spliced_nil h₁) fun _ _ x => x)))

theorem callT2 {fx : Str} {T : String} {p pos : Pos} {e e' : Expr} (G : Gnd w s.heap) (hn : nsIn (KF w) mainGlobals fx = some none) (hv : bootBuiltins fx = some (.type T))
    (h : wpAny (model prog w) A (eval e env) (fun v s₁ => wpAny (model prog w) A (eval e' env) (fun v' s₂ => wpAny (model prog w) A (call (.type T) [v, v']) Q E s₂) E s₁) E s)
    (he : starEach [e, e'] env = [(false, eval e env), (false, eval e' env)] := by rfl) (h1 : fx ≠ "__name__" := by decide) (hg : env.globals = mainGlobals := by rfl) (hb : env.builtins = builtinsNs := by rfl)
    (hk : env.scope.kind = .function := by rfl) (hx : env.kindOf fx = some .globalImplicit := by rfl) (hd : (fx == ("__debug__" : Str)) = false := by decide) :
    wpAny (model prog w) A (eval (.Call (.Name fx p) [e, e'] [] pos) env) Q E s := by
  refine wpAny_Call_NameR (name_builtin G hn hv ?_ h1 hg hb hk hx hd)
  rw [he]
  refine PySem.callWith_type rfl (evalArgs_plain (spliced_cons (wpAny_mono h (fun v s₁ h₁ => ?_) fun _ _ x => x)))
  exact spliced_cons (wpAny_mono h₁ (fun v' s₂ h₂ => spliced_nil h₂) fun _ _ x => x)

theorem callF1 {fx : Str} {f : Addr} {p pos : Pos} {e : Expr} (G : Gnd w s.heap) (hn : nsIn (KF w) mainGlobals fx = some (some (.ref f))) (hkp : keepIn (KF w) (.ref f) = true)
    (h : wpAny (model prog w) A (eval e env) (fun v s₁ => Gnd w s₁.heap ∧ wpAny (model prog w) A (call (.ref f) [v]) Q E s₁) E s)
    (he : starEach [e] env = [(false, eval e env)] := by rfl) (hg : env.globals = mainGlobals := by rfl)
    (hk : env.scope.kind = .function := by rfl) (hx : env.kindOf fx = some .globalImplicit := by rfl) (hd : (fx == ("__debug__" : Str)) = false := by decide) :
    wpAny (model prog w) A (eval (.Call (.Name fx p) [e] [] pos) env) Q E s := by
  refine wpAny_Call_NameR (name_def G hn ?_ hg hk hx hd)
  rw [he]
  exact callWith_of (P := fun h => (KF w).In h) rfl (keeps_K hkp) (evalArgs_plain (spliced_cons (wpAny_mono h (fun v s₁ h₁ => spliced_nil ⟨h₁.1.K, h₁.2⟩) fun _ _ x => x)))

theorem callF2 {fx : Str} {f : Addr} {p pos : Pos} {e e' : Expr} (G : Gnd w s.heap) (hn : nsIn (KF w) mainGlobals fx = some (some (.ref f))) (hkp : keepIn (KF w) (.ref f) = true)
    (h : wpAny (model prog w) A (eval e env) (fun v s₁ => wpAny (model prog w) A (eval e' env) (fun v' s₂ => Gnd w s₂.heap ∧ wpAny (model prog w) A (call (.ref f) [v, v']) Q E s₂) E s₁) E s)
    (he : starEach [e, e'] env = [(false, eval e env), (false, eval e' env)] := by rfl) (hg : env.globals = mainGlobals := by rfl)
    (hk : env.scope.kind = .function := by rfl) (hx : env.kindOf fx = some .globalImplicit := by rfl) (hd : (fx == ("__debug__" : Str)) = false := by decide) :
    wpAny (model prog w) A (eval (.Call (.Name fx p) [e, e'] [] pos) env) Q E s := by
  refine wpAny_Call_NameR (name_def G hn ?_ hg hk hx hd)
  rw [he]
  refine callWith_of (P := fun h => (KF w).In h) rfl (keeps_K hkp) (evalArgs_plain (spliced_cons (wpAny_mono h (fun v s₁ h₁ => ?_) fun _ _ x => x)))
  exact spliced_cons (wpAny_mono h₁ (fun v' s₂ h₂ => spliced_nil ⟨h₂.1.K, h₂.2⟩) fun _ _ x => x)

theorem meth1 {o e : Expr} {name : Str} {apos pos : Pos} {T id : String} (pa : PlainAttrs T) (slot : Slot T name id) (hty : typeOf (.builtin id) = pure (.type "method_descriptor"))
    (h : wpAny (model prog w) A (eval o env) (fun ov s₁ => s₁.TypeIs ov T ∧ (∀ a, ov = .ref a → ∃ ob, s₁.heap.get? a = some ob ∧ ob.dict = none) ∧
      wpAny (model prog w) A (eval e env) (fun v s₂ => wpAny (model prog w) A (call (.builtin id) [ov, v]) Q E s₂) E s₁) E s)
    (he : starEach [e] env = [(false, eval e env)] := by rfl)
    (hbase : attributeBase o name env (eval o env) = eval o env := by rfl)
    (hline : (apos.endLine == pos.line) = true := by rfl) :
    wpAny (model prog w) A (eval (.Call (.Attribute o name apos) [e] [] pos) env) Q E s := by
  refine wpAny_Call_method hbase (by rw [he]; rfl) hline pa slot hty (wpAny_mono h (fun ov s₁ h₁ => ⟨h₁.1, h₁.2.1, ?_⟩) fun _ _ x => x)
  rw [he]
  exact callWith_builtin rfl (evalArgs_plain (spliced_cons (wpAny_mono h₁.2.2 (fun v s₂ h₂ => spliced_nil h₂) fun _ _ x => x)))

theorem meth3 {o e e' e'' : Expr} {name : Str} {apos pos : Pos} {T id : String} (pa : PlainAttrs T) (slot : Slot T name id) (hty : typeOf (.builtin id) = pure (.type "method_descriptor"))
    (h : wpAny (model prog w) A (eval o env) (fun ov s₁ => s₁.TypeIs ov T ∧ (∀ a, ov = .ref a → ∃ ob, s₁.heap.get? a = some ob ∧ ob.dict = none) ∧
      wpAny (model prog w) A (eval e env) (fun v s₂ => wpAny (model prog w) A (eval e' env) (fun v' s₃ => wpAny (model prog w) A (eval e'' env) (fun v'' s₄ => wpAny (model prog w) A (call (.builtin id) [ov, v, v', v'']) Q E s₄) E s₃) E s₂) E s₁) E s)
    (he : starEach [e, e', e''] env = [(false, eval e env), (false, eval e' env), (false, eval e'' env)] := by rfl)
    (hbase : attributeBase o name env (eval o env) = eval o env := by rfl)
    (hline : (apos.endLine == pos.line) = true := by rfl) :
    wpAny (model prog w) A (eval (.Call (.Attribute o name apos) [e, e', e''] [] pos) env) Q E s := by
  refine wpAny_Call_method hbase (by rw [he]; rfl) hline pa slot hty (wpAny_mono h (fun ov s₁ h₁ => ⟨h₁.1, h₁.2.1, ?_⟩) fun _ _ x => x)
  rw [he]
  refine callWith_builtin rfl (evalArgs_plain (spliced_cons (wpAny_mono h₁.2.2 (fun v s₂ h₂ => ?_) fun _ _ x => x)))
  refine spliced_cons (wpAny_mono h₂ (fun v' s₃ h₃ => ?_) fun _ _ x => x)
  exact spliced_cons (wpAny_mono h₃ (fun v'' s₄ h₄ => spliced_nil h₄) fun _ _ x => x)

theorem tailI {value slice : Expr} {l : Addr} {items : Array Value} {k : Int} {u : Tok} {v : Value} (hl : s.heap.IsList l items) (h0 : 0 ≤ k) (hhi : k < 2 ^ 63) (hx : items[k.toNat]? = some v) (h : Q v s)
    (hs : subscripted slice false (.ref l) (.int k u) = operate [.ref l, .int k u] (getItem (.ref l) (.int k u)) := by with_unfolding_all rfl)
    (ht : ∀ r, letTemporaryGo value (.ref l) r = pure () := by intro _; with_unfolding_all rfl) :
    wpAny (model prog w) A (subscriptTail value slice (.ref l) (.int k u)) Q E s :=
  subscriptTail_builtin hl.typeIs slot_list_getitem.lookup (wpAny_getItem_list hl h0 hhi hx h) hs ht

theorem tailNeg {value slice : Expr} {l : Addr} {items : Array Value} {k : Int} {u : Tok} {v : Value} (hl : s.heap.IsList l items) (h0 : k < 0) (h1 : -(items.size : Int) ≤ k) (hhi : -(2 ^ 63) ≤ k) (hx : items[(k + items.size).toNat]? = some v) (h : Q v s)
    (hs : subscripted slice false (.ref l) (.int k u) = operate [.ref l, .int k u] (getItem (.ref l) (.int k u)) := by with_unfolding_all rfl)
    (ht : ∀ r, letTemporaryGo value (.ref l) r = pure () := by intro _; with_unfolding_all rfl) :
    wpAny (model prog w) A (subscriptTail value slice (.ref l) (.int k u)) Q E s :=
  subscriptTail_builtin hl.typeIs slot_list_getitem.lookup (wpAny_getItem_list_neg hl h0 h1 hhi hx h) hs ht
end

section
variable {prog : Program} {w : World} {A : Around} {E : Value → Shared → Prop} {s : Shared}

def sliceLay (items new : Array Value) (a b : Int) : Array Value :=
  items.extract 0 (sliceBounds (some a) (some b) none items.size).1.toNat ++ new ++ items.extract (max (sliceBounds (some a) (some b) none items.size).1 (sliceBounds (some a) (some b) none items.size).2.1).toNat items.size

theorem setSlice {l sl v : Addr} {items new : Array Value} {a b : Int} {t u : Tok} {Q : Unit → Shared → Prop} (hl : s.heap.PlainList l items) (hs : s.heap.IsSliceOf sl (.int a t) (.int b u) .none)
    (hv : s.heap.IsList v new) (hne : l ≠ v) (hsz : items.size + new.size ≤ 1000)
    (hQ : ∀ h', h'.PlainList l (sliceLay items new a b) → Heap.SameBut l s.heap h' → Q () { s with heap := h' }) :
    wpAny (model prog w) A (setItem (.ref l) (.ref sl) (.ref v)) Q E s := by
  obtain ⟨n, ho⟩ := hl
  obtain ⟨os, hos, hcs, hds⟩ := id hs
  obtain ⟨ov, hov, hcv, nv, hdv⟩ := id hv
  have hT : s.TypeIs (.ref l) "list" := ⟨_, ho, rfl⟩
  have hTs : s.TypeIs (.ref sl) "slice" := ⟨os, hos, hcs⟩
  have hTv : s.TypeIs (.ref v) "list" := ⟨ov, hov, hcv⟩
  unfold setItem
  try with_reducible refine wpAny_holding ?_
  first | refine wpAny_bind (wpAny_pure ?_) | skip
  refine wpAny_bind (wpAny_sequenceKey hT (by decide) ?_)
  refine wpAny_bind (wpAny_callSpecial?_slot (name := Str.ofString "__setitem__") hT slot_list_setitem
    (wpAny_call_entry slot_list_setitem hT entry_list_setitem ?_ (args_list_setitem _ _ _)))
  show wpAny _ _ (Builtin.List.listSubscript? (.ref sl) >>= _) _ _ s
  refine wpAny_bind ?_
  unfold Builtin.List.listSubscript?
  refine wpAny_bind (wpAny_specialOf hTs slice_no_index ?_)
  simp only [Option.isNone_none, if_true]
  refine wpAny_pure ?_
  show wpAny _ _ (typeOf (.ref sl) >>= _) _ _ s
  refine wpAny_bind (wpAny_typeOf hTs ?_)
  rw [if_neg (by decide)]
  rw [listSliceParts_eq]
  refine wpAny_bind (wpAny_bind (wpAny_field hos hds (x := .none) rfl (wpAny_bind (wpAny_listPart .none ?_))))
  rw [if_neg (by decide)]
  refine wpAny_bind (wpAny_field hos hds (x := .int a t) rfl (wpAny_bind (wpAny_listPart (.int a t) ?_)))
  refine wpAny_bind (wpAny_field hos hds (x := .int b u) rfl (wpAny_bind (wpAny_listPart (.int b u) (wpAny_pure ?_))))
  dsimp only
  rw [if_neg (by simpa [Builtin.List.listSameRef] using hne)]
  refine wpAny_bind ?_
  unfold Builtin.List.listAllItems
  refine wpAny_bind (wpAny_typeOf hTv ?_)
  rw [if_pos (by decide)]
  refine PyProof.Rows.listItems_at hov hdv ?_
  refine wpAny_bind (PyProof.Rows.listItems_at ho rfl ?_)
  refine wpAny_bind (wpAny_of_eq (sliceIndices_raw (some a) (some b) none items.size (by simp)) ?_)
  have h3 : ((sliceBounds (some a) (some b) none items.size).2.snd == 1) = true := rfl
  rw [if_pos h3]
  have htl : ¬ (Builtin.List.listTooLong (items.size + new.size) = true) := by
    have : Builtin.List.listTooLong (items.size + new.size) = false := by
      unfold Builtin.List.listTooLong
      exact decide_eq_false (by rw [sizeLine_eq]; omega)
    rw [this]; decide
  refine wpAny_bind (wpAny_rule ?_)
  rw [if_neg htl]
  refine wpAny_bind (PyProof.Rows.listUpdate_at ho rfl ?_ (by rw [sizeLine_eq]; omega) ?_)
  · exact wpAny_bind (wpAny_letGo (wpAny_pure ⟨_, rfl, wpAny_pure (hQ _ ⟨_, PyProof.Rows.get?_update_seq ho _⟩ (Heap.SameBut.update ..))⟩))
  · simp only [Array.size_append, Array.size_extract]
    rw [sizeLine_eq]; omega

def cmpZ (x y : Int) : Int := if x > y then 1 else if x < y then -1 else 0

theorem twc {x y : Int} {t u : Tok} {Q : Value → Shared → Prop} (G : Gnd w s.heap) (hroom : A.depth < recursionLimit)
    (h : ∀ s' t', Ext s s' → Q (.int (cmpZ x y) t') s') :
    wpAny (model prog w) A (call (.ref 21) [.int x t, .int y u]) Q E s := by
  refine tw_enter G hroom fun L s₁ S => ?_
  refine wpAny_execs_cons (wpAny_Return_some (wpAny_BinOp (wpAny_Compare1 (ldL S rfl (ldL S rfl (PyProof.Rows.gt_int (wpAny_Compare1 (ldL S rfl (ldL S rfl (PyProof.Rows.lt_int (sub_bool ?_)))))))))))
  have e : b2i (decide (y < x)) - b2i (decide (x < y)) = cmpZ x y := by
    unfold cmpZ b2i
    by_cases h1 : y < x
    · have h2 : ¬ x < y := by omega
      simp [h1, h2]
    · by_cases h2 : x < y
      · simp [h1, h2]
      · simp [h1, h2]
  rw [e]
  exact h _ _ ⟨S.ext.keep, S.ext.gens, S.ext.os⟩
end

section
variable {w : World} {s₀ s s' : Shared} {env : Env} {m cm : Str → Option Value}

/-- a thing of this call's own -/
structure Own (s₀ : Shared) (env : Env) (D : Addr) : Prop where
  new : s₀.heap.get? D = none
  neL : D ≠ env.locals
  neC : ∀ n c, env.cells.lookup n = some c → c ≠ D

theorem St.own_new (S : St w s₀ env m cm s) {D : Addr} (h : s.heap.get? D = none) : Own s₀ env D := by
  refine ⟨?_, ?_, ?_⟩
  · cases e : s₀.heap.get? D with
    | none => rfl
    | some o => rw [S.ext.keep _ _ e] at h; cases h
  · obtain ⟨o, _, _, ho, _⟩ := S.ns
    exact fun q => by rw [q, ho] at h; cases h
  · intro n c hc q
    obtain ⟨o, ho, _⟩ := S.cl.cell n c hc
    rw [← q, ho] at h; cases h

/-- a thing of the call's own is changed, all else stays -/
theorem St.mut (S : St w s₀ env m cm s) {D : Addr} (O : Own s₀ env D) {h' : Heap} (hs : Heap.ExtBut D s.heap h') (tk : Nat) : St w s₀ env m cm { s with heap := h', toks := tk } :=
  ⟨⟨fun b o e => hs b o (fun q => by rw [q, O.new] at e; cases e) (S.ext.keep b o e), S.ext.gens, S.ext.os⟩, S.ns.extBut hs (Ne.symm O.neL), S.fresh,
    ⟨fun n c e => let ⟨o, ho, hd⟩ := S.cl.cell n c e; ⟨o, hs c o (O.neC n c e) ho, hd⟩, S.cl.apart, S.cl.above⟩, S.G⟩
theorem St.keep_list (S : St w s₀ env m cm s) {D : Addr} {items : Array Value} (x : s₀.heap.IsList D items) : s.heap.IsList D items := let ⟨o, q, r⟩ := x; ⟨o, S.ext.keep _ _ q, r⟩

theorem plain_of {h h' : Heap} {D : Addr} {items : Array Value} (x : h.PlainList D items) (e : h'.get? D = h.get? D) : h'.PlainList D items := let ⟨n, q⟩ := x; ⟨n, e.trans q⟩
theorem plain_ext {D : Addr} {items : Array Value} (x : s.heap.PlainList D items) (e : Ext s s') : s'.heap.PlainList D items := let ⟨n, q⟩ := x; ⟨n, e.keep _ _ q⟩
theorem list_ext {D : Addr} {items : Array Value} (x : s.heap.IsList D items) (e : Ext s s') : s'.heap.IsList D items := let ⟨o, q, r⟩ := x; ⟨o, e.keep _ _ q, r⟩

theorem lt_size_of_plain {h : Heap} {D : Addr} {items : Array Value} (x : h.PlainList D items) : D < h.objs.size := let ⟨_, q⟩ := x; Heap.lt_size q
theorem lt_size_of_list {h : Heap} {D : Addr} {items : Array Value} (x : h.IsList D items) : D < h.objs.size := let ⟨_, q, _⟩ := x; Heap.lt_size q
theorem get_size (h : Heap) : h.get? h.objs.size = none := by
  cases e : h.get? h.objs.size with
  | none => rfl
  | some o => exact absurd (Heap.lt_size e) (Nat.lt_irrefl _)
theorem ne_plain {h : Heap} {D I : Addr} {items : Array Value} (x : h.PlainList D items) (n : h.get? I = none) : D ≠ I := fun q => by
  obtain ⟨k, e⟩ := x
  rw [q, n] at e; cases e
theorem ne_list {h : Heap} {D I : Addr} {items : Array Value} (x : h.IsList D items) (n : h.get? I = none) : D ≠ I := fun q => by
  obtain ⟨k, e, _⟩ := x
  rw [q, n] at e; cases e
theorem ne_some {h : Heap} {D I : Addr} {o : Obj} (x : h.get? D = some o) (n : h.get? I = none) : D ≠ I := fun q => by
  rw [q, n] at x; cases x
theorem Ext.new {s s' : Shared} (x : Ext s s') {D : Addr} (n : s'.heap.get? D = none) : s.heap.get? D = none := by
  cases e : s.heap.get? D with
  | none => rfl
  | some o => rw [x.keep _ _ e] at n; cases n
theorem ext_push (s : Shared) (o : Obj) (tk : Nat) : Ext s { s with heap := s.heap.push o, toks := tk } := ⟨fun _ _ e => Heap.get?_push_of_some _ e, rfl, rfl⟩
theorem ext_tok (s : Shared) (tk : Nat) : Ext s { s with toks := tk } := ⟨fun _ _ e => e, rfl, rfl⟩
end

section
variable {prog : Program} {w : World} {A : Around} {E : Value → Shared → Prop} {s : Shared} {Q : Value → Shared → Prop}
theorem newList_x {vs : List Value} (h : ∀ D s', Ext s s' → s.heap.get? D = none → s'.heap.PlainList D vs.toArray → Q (.ref D) s') (hsz : vs.length ≤ sizeLine := by size_fits) :
    wpAny (model prog w) A (newList vs) Q E s :=
  wpAny_newList (h _ _ (ext_push s _ s.toks) (get_size _) ⟨0, Heap.get?_push_size _ rfl⟩) hsz
theorem iterList_x {l : Addr} {items : Array Value} (hl : s.heap.IsList l items) (h : ∀ I s', Ext s s' → s.heap.get? I = none → s'.heap.IsListIter I l 0 → Q (.ref I) s') :
    wpAny (model prog w) A (pyIter (.ref l)) Q E s :=
  wpAny_pyIter_list hl (h _ _ (ext_push s _ s.toks) (get_size _) ⟨_, Heap.get?_push_size _ rfl, rfl, rfl⟩)
theorem newTuple_x {vs : List Value} (h : ∀ D s', Ext s s' → s.heap.get? D = none → IsTup s'.heap D vs.toArray → Q (.ref D) s') (hsz : vs.length ≤ sizeLine := by size_fits) :
    wpAny (model prog w) A (newTuple vs) Q E s :=
  wpAny_newTuple (h _ _ (ext_push s _ s.toks) (get_size _) ⟨_, Heap.get?_push_size _ rfl, rfl, 0, rfl⟩) hsz
theorem unpack_x {t : Addr} {items : Array Value} {n : Nat} {Q : List Value → Shared → Prop} (hh : A.handled = none) (ht : IsTup s.heap t items) (hn : n = items.size)
    (h : ∀ s', Ext s s' → Q items.toList s') : wpAny (model prog w) A (unpackItems (.ref t) n none) Q E s := by
  subst hn
  refine unpackItems_tuple hh ht fun h' he => h _ ⟨fun b o e => he b o (Nat.ne_of_lt (Heap.lt_size e)) e, rfl, rfl⟩
theorem Ext.of_heap {s s₁ s' : Shared} (x : Ext s₁ s') (h : s₁.heap = s.heap := by rfl) (g : s₁.gens = s.gens := by rfl) (o : s₁.os = s.os := by rfl) : Ext s s' :=
  ⟨fun b ob e => x.keep b ob (by rw [h]; exact e), x.gens.trans g, x.os.trans o⟩
end
end Mine

namespace Mine
open PySem PySem.W PySem.Calls PyProof.Rows

def goOn (sign t c : Int) : Bool := ((cmpZ t c == sign) == decide (sign < 0))
def layAt (tops : List Int) (k : Nat) (c : Int) : List Int := tops.take k ++ c :: tops.drop (k + 1)
def lay1 (sign : Int) (tops : List Int) (c : Int) : List Int := layAt tops (tops.takeWhile (goOn sign · c)).length c
def topsOf (sign : Int) (cards : List Int) : List Int := cards.foldl (lay1 sign) []

theorem layAt_length {tops : List Int} {k : Nat} {c : Int} (hk : k ≤ tops.length) : (layAt tops k c).length ≤ tops.length + 1 := by
  simp [layAt]; omega
theorem takeWhile_le {α : Type} (p : α → Bool) : ∀ l : List α, (l.takeWhile p).length ≤ l.length
  | [] => Nat.le_refl _
  | a :: l => by
    rw [List.takeWhile_cons]
    split
    · have := takeWhile_le p l
      simp; omega
    · simp
theorem topsFold_length (sign : Int) : ∀ (cards tops : List Int), (cards.foldl (lay1 sign) tops).length ≤ tops.length + cards.length
  | [], tops => by simp
  | c :: cards, tops => by
    have h1 := topsFold_length sign cards (lay1 sign tops c)
    have h2 : (lay1 sign tops c).length ≤ tops.length + 1 := layAt_length (takeWhile_le _ _)
    simp only [List.foldl_cons, List.length_cons]
    omega
theorem topsOf_length (sign : Int) (cards : List Int) : (topsOf sign cards).length ≤ cards.length := by
  have := topsFold_length sign cards []
  simpa [topsOf] using this
theorem topsOf_succ {sign : Int} {ns : List Int} {i : Nat} {c : Int} (hc : ns[i]? = some c) :
    topsOf sign (ns.take (i + 1)) = layAt (topsOf sign (ns.take i)) ((topsOf sign (ns.take i)).takeWhile (goOn sign · c)).length c := by
  unfold topsOf
  rw [List.take_add_one, hc, Option.toList_some, List.foldl_append]
  rfl
theorem takeWhile_at {α : Type} (p : α → Bool) : ∀ (l : List α) (k : Nat), k ≤ l.length → (∀ j x, j < k → l[j]? = some x → p x = true) → (∀ x, l[k]? = some x → p x = false) → (l.takeWhile p).length = k
  | [], k, hk, _, _ => by simp at hk; simp [hk]
  | a :: l, 0, _, _, h => by simp [h a rfl]
  | a :: l, k + 1, hk, h1, h2 => by
    have ha : p a = true := h1 0 a (by omega) rfl
    rw [List.takeWhile_cons, if_pos ha, List.length_cons, takeWhile_at p l k (by simpa using hk) (fun j x hj e => h1 (j + 1) x (by omega) (by simpa using e)) (fun x e => h2 x (by simpa using e))]

theorem sliceLay_ints {its : Array Value} {tops : List Int} {k : Nat} {c : Int} {t : Tok} (hi : IntsAre its.toList tops) (hk : k ≤ tops.length) :
    IntsAre (sliceLay its #[.int c t] k (k + 1)).toList (layAt tops k c) := by
  have hl : its.size = tops.length := by rw [← hi.length, Array.length_toList]
  have e1 : (sliceBounds (some (k : Int)) (some ((k : Int) + 1)) none its.size).1 = k := by
    simp only [sliceBounds, Option.getD_none]
    have h1 : ¬ ((k : Int) < 0) := by omega
    simp only [h1, if_false, show (1 : Int) > 0 by decide, if_true]
    omega
  have e2 : (sliceBounds (some (k : Int)) (some ((k : Int) + 1)) none its.size).2.1 = min ((k : Int) + 1) its.size := by
    simp only [sliceBounds, Option.getD_none]
    have h1 : ¬ ((k : Int) + 1 < 0) := by omega
    simp only [h1, if_false, show (1 : Int) > 0 by decide, if_true]
    omega
  unfold sliceLay layAt
  rw [e1, e2, Array.toList_append, Array.toList_append, Array.toList_extract, Array.toList_extract]
  have h3 : (max (k : Int) (min ((k : Int) + 1) (its.size : Int))).toNat = min (k + 1) tops.length := by omega
  rw [h3]
  have h4 : tops.drop (k + 1) = tops.drop (min (k + 1) tops.length) := by
    by_cases h : k + 1 ≤ tops.length
    · rw [Nat.min_eq_left h]
    · rw [Nat.min_eq_right (by omega), List.drop_of_length_le (by omega), List.drop_of_length_le (Nat.le_refl _)]
  rw [h4, List.append_assoc]
  refine IntsAre.append ?_ (.cons c t ?_)
  · simpa [List.extract_eq_take_drop] using hi.take k
  · have := hi.drop (min (k + 1) tops.length)
    rw [List.extract_eq_take_drop, List.take_of_length_le (by simp)]
    exact this

def tpEnv (L : Addr) : Env := envOf (Str.ofString "_law_tops") (fnS 6).2 L 35 (.ref 34)
section
variable {prog : Program} {w : World} {A : Around} {E : Value → Shared → Prop} {s : Shared}
theorem tp_enter {a b : Value} {Q : Value → Shared → Prop} (G : Gnd w s.heap) (hroom : A.depth < recursionLimit)
    (h : ∀ L s₁, St w s (tpEnv L) (fun x => [(Str.ofString "sign", b), (Str.ofString "cards", a)].lookup x) (fun _ => none) s₁ →
      wpAny (model prog w) (A.deeper (tpEnv L)) (execs (fnS 6).1 (tpEnv L)) (fun fl s' => Q (match fl with | .ret v => v | _ => .none) s') (fun _ _ => False) s₁) :
    wpAny (model prog w) A (call (.ref 35) [a, b]) Q E s :=
  call_fn (binds := [(Str.ofString "cards", a), (Str.ofString "sign", b)]) (scope := (fnS 6).2) (body := (fnS 6).1) G hroom rfl rfl rfl (locs rfl) (by decide +kernel) fun L h₁ tk hL F => h L _ ⟨⟨F.keep, rfl, rfl⟩, F.ns, F.above, ⟨fun _ _ e => (nomatch e), .nil, fun _ _ e => (nomatch e)⟩, G⟩

def tpFor : List Stmt := match (fnS 6).1 with
  | _ :: .For _ _ b _ _ :: _ => b
  | _ => []
def tpLast : List Stmt := tpFor.drop 2

theorem tp_last {s₀ : Shared} {L D : Addr} {m : Str → Option Value} {its : Array Value} {tops : List Int} {k : Nat} {tk : Tok} {c : Int} {tc : Tok} {Q : Flow → Shared → Prop}
    (S : St w s₀ (tpEnv L) m (fun _ => none) s) (O : Own s₀ (tpEnv L) D) (mt : m (Str.ofString "tops") = some (.ref D)) (mc : m (Str.ofString "card") = some (.int c tc)) (mp : m (Str.ofString "place") = some (.int (k : Nat) tk))
    (P : s.heap.PlainList D its) (hi : IntsAre its.toList tops) (hk : k ≤ tops.length) (h100 : tops.length ≤ 100)
    (h : ∀ s' its', St w s₀ (tpEnv L) m (fun _ => none) s' → s'.heap.PlainList D its' → IntsAre its'.toList (layAt tops k c) → (∀ b o, b ≠ D → s.heap.get? b = some o → s'.heap.get? b = some o) → Q .next s') :
    wpAny (model prog w) A (execs tpLast (tpEnv L)) Q E s := by
  refine wpAny_execs_cons <| wpAny_Assign_Subscript <| List_ <| wpAny_items_cons <| ldL S mc <| wpAny_items_nil <| newList_x fun V s₁ x1 hV P1 => ?_
  have S1 := S.grow x1
  refine ldL S1 mt <| wpAny_Slice <| ldL S1 mp <| wpAny_BinOp <| ldL S1 mp <| wpAny_Constant_int <| PyProof.Rows.add_int <| ?_
  rw [evalPart_none]
  refine wpAny_pure ?_
  have hDV : D ≠ V := ne_plain P hV
  have hsz : its.size = tops.length := by rw [← hi.length, Array.length_toList]
  refine setSlice (l := D) (v := V) (plain_ext (plain_ext P x1) (ext_push s₁ _ (s₁.toks + 1 + 1))) (Heap.IsSliceOf.new ..) (plain_ext P1 (ext_push s₁ _ (s₁.toks + 1 + 1))).isList hDV (by simp; omega) fun h' P' hs' => ?_
  refine wpAny_execs_nil (h _ _ ((S1.grow (ext_push s₁ _ (s₁.toks + 1 + 1))).mut O hs'.extBut _) P' ?_ fun b o hb e => ?_)
  · exact sliceLay_ints hi hk
  · exact hs'.extBut b o hb (Heap.get?_push_of_some _ (x1.keep b o e))

theorem tops_spec {l : Addr} {items : Array Value} {ns : List Int} {sign : Int} {t : Tok} {Q : Value → Shared → Prop} (G : Gnd w s.heap) (hroom : A.depth + 1 < recursionLimit) (hh : A.handled = none)
    (hl : s.heap.IsList l items) (hi : IntsAre items.toList ns) (hlen : ns.length ≤ 100)
    (h : ∀ s' D vs, Ext s s' → s'.heap.PlainList D vs → IntsAre vs.toList (topsOf sign ns) → Q (.ref D) s') :
    wpAny (model prog w) A (call (.ref 35) [.ref l, .int sign t]) Q E s := by
  refine tp_enter G (by omega) fun L s₁ S => ?_
  have hh' : (A.deeper (tpEnv L)).handled = none := hh
  have hr' : (A.deeper (tpEnv L)).depth < recursionLimit := hroom
  generalize A.deeper (tpEnv L) = B at hh' hr'
  refine wpAny_execs_cons (wpAny_Assign_Name (List_ (wpAny_items_nil (newList_x fun D s₁' x1 hD P1 => ?_))))
  have O1 := S.own_new hD
  refine stL (S.grow x1) fun s₂ S2 k2 => ?_
  have P2 : s₂.heap.PlainList D #[] := plain_of P1 (k2 _ O1.neL)
  refine wpAny_execs_cons (wpAny_For (ldL S2 (upd_ne rfl) (iterList_x (S2.keep_list hl) fun I s₃ x3 hI I3 => ?_)))
  have hlI : l ≠ I := ne_list (S2.keep_list hl) hI
  have hDI : D ≠ I := ne_plain P2 hI
  have OI := S2.own_new hI
  have S3 := S2.grow x3
  have P3 := plain_ext P2 x3
  have hsz : items.size = ns.length := by rw [← hi.length, Array.length_toList]
  refine codeAny_forLoop (fun n s' => ∃ m i its, St w s (tpEnv L) m (fun _ => none) s' ∧ m (Str.ofString "cards") = some (.ref l) ∧ m (Str.ofString "sign") = some (.int sign t) ∧ m (Str.ofString "tops") = some (.ref D) ∧
      s'.heap.IsListIter I l i ∧ s'.heap.PlainList D its ∧ IntsAre its.toList (topsOf sign (ns.take i)) ∧ i ≤ ns.length ∧ n = ns.length + 1 - i) ?_ (ns.length + 1)
    ⟨_, 0, #[], S3, upd_ne rfl, upd_ne rfl, upd_self, I3, P3, .nil, Nat.zero_le _, rfl⟩
  rintro n s' ⟨m, i, its, S4, mc, ms, mt, I4, P4, hits, hin, rfl⟩
  cases hv : items[i]? with
  | none =>
    have hieq : i = ns.length := by
      have := Array.getElem?_eq_none_iff.mp hv
      omega
    refine wpAny_pyNext_list_end hh' I4 (S4.keep_list hl) hv fun h₁ he₁ => wpAny_execs_nil ?_
    have S5 := S4.mut OI he₁ s'.toks
    refine wpAny_execs_cons (wpAny_Return_some (ldL S5 mt ?_))
    rw [hieq, List.take_of_length_le (Nat.le_refl _)] at hits
    refine h _ D its S5.ext ?_ hits
    obtain ⟨n, ho⟩ := P4
    exact ⟨n, he₁ _ _ hDI ho⟩
  | some v =>
    have hlt : i < items.size := (Array.getElem?_eq_some_iff.mp hv).1
    obtain ⟨c, tc, rfl, hc⟩ := hi.at i v (by rw [Array.getElem?_toList]; exact hv)
    refine wpAny_pyNext_list_item I4 (S4.keep_list hl) hv fun h₁ hit₁ hs₁ => ?_
    have S5 := S4.mut OI hs₁.extBut s'.toks
    have P5 : h₁.PlainList D its := plain_of P4 (hs₁.2 _ hDI)
    refine wpAny_assign_Name (stL S5 fun s₆ S6 k6 => ?_)
    have I6 : s₆.heap.IsListIter I l (i + 1) := by obtain ⟨o, ho, r⟩ := hit₁; exact ⟨o, (k6 _ OI.neL).trans ho, r⟩
    have P6 : s₆.heap.PlainList D its := plain_of P5 (k6 _ O1.neL)
    refine wpAny_execs_cons (wpAny_Assign_Name (wpAny_Constant_int (stL (S6.grow (s' := { s₆ with toks := s₆.toks + 1 }) ⟨fun _ _ e => e, rfl, rfl⟩) fun s₇ S7 k7 => ?_)))
    have I7 : s₇.heap.IsListIter I l (i + 1) := by obtain ⟨o, ho, r⟩ := I6; exact ⟨o, (k7 _ OI.neL).trans ho, r⟩
    have P7 : s₇.heap.PlainList D its := plain_of P6 (k7 _ O1.neL)
    have hilen : its.size = (topsOf sign (ns.take i)).length := by rw [← hits.length, Array.length_toList]
    have htl : (topsOf sign (ns.take i)).length ≤ 100 := by
      have := topsOf_length sign (ns.take i)
      rw [List.length_take] at this; omega
    refine wpAny_execs_cons (wpAny_While (codeAny_whileLoop (fun n s' => ∃ m k tk, St w s (tpEnv L) m (fun _ => none) s' ∧ m (Str.ofString "cards") = some (.ref l) ∧ m (Str.ofString "sign") = some (.int sign t) ∧ m (Str.ofString "tops") = some (.ref D) ∧
      m (Str.ofString "card") = some (.int c tc) ∧ m (Str.ofString "place") = some (.int (k : Nat) tk) ∧
      s'.heap.IsListIter I l (i + 1) ∧ s'.heap.PlainList D its ∧ k ≤ its.size ∧ (∀ (j : Nat) (x : Int), j < k → (topsOf sign (ns.take i))[j]? = some x → goOn sign x c = true) ∧ n = its.size - k) ?_ (its.size - 0)
      ⟨_, 0, _, S7, upd_ne (upd_ne mc), upd_ne (upd_ne ms), upd_ne (upd_ne mt), upd_ne upd_self, upd_self, I7, P7, Nat.zero_le _, fun j x hj => absurd hj (Nat.not_lt_zero _), rfl⟩))
    rintro n s₈ ⟨m8, k, tk, S8, mc8, ms8, mt8, mcd8, mp8, I8, P8, hk8, hgo, rfl⟩
    refine wpAny_isTrue_BoolOp (wpAny_allTrue_And_cons (wpAny_isTrue_Compare1 (ldL S8 mp8 (callB1 S8.gnd rfl Boot.len (ldL S8 mt8 (call_len_list P8.isList (by omega) (PyProof.Rows.lt_int (wpAny_truthy_bool ?_))))))))
    have S9 := S8.grow (ext_tok s₈ (s₈.toks + 1 + 1))
    by_cases hklt : k < its.size
    · rw [if_pos (by simpa using hklt)]
      have hkv : its[k]? = some its[k] := Array.getElem?_eq_getElem hklt
      obtain ⟨x, tx, hx, hxk⟩ := hits.at k its[k] (by rw [Array.getElem?_toList]; exact hkv)
      rw [hx] at hkv
      refine wpAny_allTrue_And_cons <| wpAny_isTrue_Compare1 <| wpAny_Compare1 <| callF2 S9.gnd rfl rfl <| Subscript_ <| ldL S9 mt8 <| ldL S9 mp8 <|
        tailI P8.isList (Int.natCast_nonneg _) (by omega) (by simpa using hkv) <| ldL S9 mcd8 ⟨S9.gnd, twc S9.gnd hr' fun s₁₀ t10 x10 => ?_⟩
      have S10 := S9.grow x10
      refine ldL S10 ms8 (PyProof.Rows.eq_int (wpAny_Compare1 (ldL S10 ms8 (wpAny_Constant_int (PyProof.Rows.lt_int (eq_bool (wpAny_truthy_bool ?_)))))))
      have S11 := S10.grow (ext_tok s₁₀ (s₁₀.toks + 1))
      have P11 := plain_ext (plain_ext (plain_ext P8 (ext_tok s₈ (s₈.toks + 1 + 1))) x10) (ext_tok s₁₀ (s₁₀.toks + 1))
      have I11 : s₁₀.heap.IsListIter I l (i + 1) := by obtain ⟨o, ho, r⟩ := I8; exact ⟨o, x10.keep _ _ ho, r⟩
      show if goOn sign x c = true then _ else _
      by_cases hg : goOn sign x c = true
      · rw [if_pos hg]
        refine wpAny_allTrue_And_nil ?_
        rw [if_pos rfl]
        refine wpAny_execs_cons <| wpAny_AugAssign_Name <| ldnL S11 mp8 <| wpAny_Constant_int <| PyProof.Rows.iadd_int <| stL (S11.grow (ext_tok _ (s₁₀.toks + 1 + 1 + 1))) fun s₁₂ S12 k12 => wpAny_execs_nil ?_
        refine ⟨its.size - (k + 1), by omega, _, k + 1, _, S12, upd_ne mc8, upd_ne ms8, upd_ne mt8, upd_ne mcd8, upd_self, ?_, plain_of P11 (k12 _ O1.neL), hklt, ?_, rfl⟩
        · obtain ⟨o, ho, r⟩ := I11; exact ⟨o, (k12 _ OI.neL).trans ho, r⟩
        · intro j y hj hy
          by_cases hjk : j < k
          · exact hgo j y hjk hy
          · have : j = k := by omega
            subst this
            rw [hxk] at hy; cases hy; exact hg
      · rw [if_neg hg]
        show (if false = true then _ else _)
        rw [if_neg Bool.false_ne_true]
        refine wpAny_execs_nil ?_
        refine tp_last S11 O1 mt8 mcd8 mp8 P11 hits (by omega) htl fun s₁₂ its' S12 P12 hits' k12 => ?_
        have htw : ((topsOf sign (ns.take i)).takeWhile (goOn sign · c)).length = k := takeWhile_at _ _ k (by omega) hgo (fun y hy => by rw [hxk] at hy; cases hy; simpa using hg)
        refine ⟨ns.length + 1 - (i + 1), by omega, _, i + 1, its', S12, mc8, ms8, mt8, ?_, P12, ?_, by omega, rfl⟩
        · obtain ⟨o, ho, r⟩ := I11; exact ⟨o, k12 _ _ (Ne.symm hDI) ho, r⟩
        · rw [topsOf_succ hc, htw]; exact hits'
    · rw [if_neg (by simpa using hklt)]
      rw [if_neg Bool.false_ne_true]
      refine wpAny_execs_nil ?_
      have hkl : k = (topsOf sign (ns.take i)).length := by omega
      refine tp_last S9 O1 mt8 mcd8 mp8 P8 hits (by omega) htl fun s₁₂ its' S12 P12 hits' k12 => ?_
      have htw : ((topsOf sign (ns.take i)).takeWhile (goOn sign · c)).length = k := takeWhile_at _ _ k (by omega) hgo (fun y hy => by rw [List.getElem?_eq_none (by omega)] at hy; cases hy)
      refine ⟨ns.length + 1 - (i + 1), by omega, _, i + 1, its', S12, mc8, ms8, mt8, ?_, P12, ?_, by omega, rfl⟩
      · obtain ⟨o, ho, r⟩ := I8; exact ⟨o, k12 _ _ (Ne.symm hDI) ho, r⟩
      · rw [topsOf_succ hc, htw]; exact hits'
end
end Mine

namespace Mine
open PySem PySem.Builtin PySem.Builtin.Str PySem.StrLaws

abbrev mk (l : List Nat) : Str := ⟨l.toArray⟩
@[simp] theorem mk_length (l : List Nat) : (mk l).length = l.length := by simp [Str.length]
@[simp] theorem mk_toList (l : List Nat) : (mk l).cps.toList = l := by simp

/-- the signs of cs, three dots between any two -/
def dotted : List Nat → List Nat
  | [] => []
  | [c] => [c]
  | c :: d :: r => c :: 46 :: 46 :: 46 :: dotted (d :: r)

def dots : Str := Str.ofString "..."
theorem dots_eq : dots = mk [46, 46, 46] := by decide +kernel

theorem at_iff (l y : List Nat) (i hi : Nat) : At (mk l) (mk y) hi i ↔ i + y.length ≤ hi ∧ (l.drop i).take y.length = y := by
  unfold At
  rw [subAt_eq, mk_length, mk_toList, mk_toList, beq_iff_eq]

theorem sub_mk (l : List Nat) (i j : Nat) : strSub (mk l) i j = mk ((l.drop i).take (j - i)) := by
  have h := strSub_toList (mk l) i j
  rw [mk_toList] at h
  exact mk_of_toList h

theorem parts_dotted (l : List Nat) : ∀ (cs : List Nat) (a f : Nat) (cuts : List Nat), cs ≠ [] → (∀ c ∈ cs, c ≠ 46) → l.drop a = dotted cs →
    ChainG (mk l) (mk [46, 46, 46]) l.length a cuts f → (∀ k, f ≤ k → ¬ At (mk l) (mk [46, 46, 46]) l.length k) →
    partsFrom (mk l) 3 a cuts = cs.map fun c => mk [c]
  | [], _, _, _, h, _, _, _, _ => absurd rfl h
  | [c], a, f, cuts, _, hc, hd, hch, hn => by
    have hlen : l.length = a + 1 := by
      have := congrArg List.length hd
      simp [dotted] at this
      omega
    cases cuts with
    | nil =>
      show [strSub (mk l) a (mk l).length] = _
      rw [sub_mk, hd, mk_length, hlen]
      simp [dotted]
    | cons k r =>
      obtain ⟨h1, h2, _⟩ := hch
      rw [at_iff] at h2
      simp at h2
      omega
  | c :: d :: r, a, f, cuts, _, hc, hd, hch, hn => by
    have hd' : l.drop a = c :: 46 :: 46 :: 46 :: dotted (d :: r) := hd
    have hne : dotted (d :: r) ≠ [] := by cases r <;> simp [dotted]
    have hlen : a + 4 < l.length := by
      have := congrArg List.length hd'
      have h0 : 0 < (dotted (d :: r)).length := List.length_pos_iff.mpr hne
      simp at this
      omega
    have hd1 : l.drop (a + 1) = 46 :: 46 :: 46 :: dotted (d :: r) := by rw [← List.drop_drop, hd']; rfl
    have hd4 : l.drop (a + 1 + 3) = dotted (d :: r) := by rw [← List.drop_drop, hd1]; rfl
    have hA1 : At (mk l) (mk [46, 46, 46]) l.length (a + 1) := by
      rw [at_iff, hd1]
      exact ⟨by simp; omega, rfl⟩
    have hA0 : ¬ At (mk l) (mk [46, 46, 46]) l.length a := by
      rw [at_iff, hd']
      rintro ⟨_, h⟩
      simp at h
      exact hc c (List.mem_cons_self ..) h
    cases cuts with
    | nil =>
      have e : f = a := hch
      exact absurd hA1 (hn (a + 1) (by omega))
    | cons k r' =>
      obtain ⟨h1, h2, h3, h4⟩ := hch
      have hk : k = a + 1 := by
        have h5 : k ≠ a := fun q => hA0 (q ▸ h2)
        have h6 : ¬ a + 1 < k := fun q => h3 (a + 1) (by omega) q hA1
        omega
      subst hk
      show strSub (mk l) a (a + 1) :: partsFrom (mk l) 3 (a + 1 + 3) r' = _
      rw [sub_mk, hd', parts_dotted l (d :: r) (a + 1 + 3) f r' (by simp) (fun x hx => hc x (List.mem_cons_of_mem _ hx)) hd4 h4 hn]
      simp

theorem split_dotted {cs : List Nat} (hne : cs ≠ []) (hc : ∀ c ∈ cs, c ≠ 46) :
    partsBetween (mk (dotted cs)) (occurrences (mk (dotted cs)) dots 0 (mk (dotted cs)).length ((mk (dotted cs)).length + 1)) dots.length = cs.map fun c => mk [c] := by
  rw [partsBetween_eq, dots_eq]
  obtain ⟨f, h1, h2⟩ := occ_tight (mk (dotted cs)) (mk [46, 46, 46]) (by simp)
  rw [mk_length] at h1 h2
  rw [mk_length]
  exact parts_dotted (dotted cs) cs 0 f _ hne hc rfl h1 h2

theorem found_dotted {c d : Nat} {r : List Nat} : (occurrences (mk (dotted (c :: d :: r))) dots 0 (mk (dotted (c :: d :: r))).length 1).isEmpty = false := by
  have := (found_iff (mk (dotted (c :: d :: r))) dots).mpr ⟨1, by
    rw [dots_eq]
    have h := (at_iff (dotted (c :: d :: r)) [46, 46, 46] 1 (dotted (c :: d :: r)).length).mpr ⟨by simp [dotted], rfl⟩
    rw [← mk_length (dotted (c :: d :: r))] at h
    exact h⟩
  simpa using this

theorem join_dotted : ∀ cs : List Nat, (Str.join dots (cs.map fun c => mk [c])) = mk (dotted cs)
  | [] => rfl
  | [c] => rfl
  | c :: d :: r => by
    show mk [c] ++ dots ++ Str.join dots ((d :: r).map fun c => mk [c]) = _
    rw [join_dotted (d :: r), dots_eq]
    apply StrLaws.mk_of_toList
    show ((mk [c] ++ mk [46, 46, 46] ++ mk (dotted (d :: r))).cps).toList = _
    rw [Str.cps_append, Str.cps_append]
    simp [dotted]

theorem dotted_length : ∀ cs : List Nat, (dotted cs).length ≤ 4 * cs.length
  | [] => Nat.le_refl _
  | [c] => by simp [dotted]
  | c :: d :: r => by
    have := dotted_length (d :: r)
    simp [dotted] at this ⊢
    omega

/-- the word is a subsequence (greedy) -/
def isSub : List Nat → List Nat → Bool
  | [], _ => true
  | _ :: _, [] => false
  | c :: w, x :: l => if c = x then isSub w l else isSub (c :: w) l

theorem isSub_skip {c : Nat} {w : List Nat} : ∀ {l : List Nat} {i : Nat}, l[i]? = some c → (∀ k, k < i → l[k]? ≠ some c) → isSub (c :: w) l = isSub w (l.drop (i + 1))
  | [], _, h, _ => by simp at h
  | x :: l, 0, h, _ => by
    simp at h
    subst h
    simp [isSub]
  | x :: l, i + 1, h, hn => by
    have hx : c ≠ x := fun q => hn 0 (by omega) (by simp [q])
    simp only [isSub, if_neg hx, List.drop_succ_cons]
    exact isSub_skip (by simpa using h) fun k hk => by have := hn (k + 1) (by omega); simpa using this
theorem isSub_none {c : Nat} {w : List Nat} : ∀ {l : List Nat}, c ∉ l → isSub (c :: w) l = false
  | [], _ => rfl
  | x :: l, h => by
    have hx : c ≠ x := fun q => h (q ▸ List.mem_cons_self ..)
    simp only [isSub, if_neg hx]
    exact isSub_none fun q => h (List.mem_cons_of_mem _ q)

theorem find_spec (letters : List Nat) (c p : Nat) (hp : p ≤ letters.length) :
    (occurrences (mk (60 :: letters ++ [62])) (mk [c]) (1 + p) (1 + letters.length) 1 = [] ∧ ∀ w, isSub (c :: w) (letters.drop p) = false) ∨
    ∃ i r, occurrences (mk (60 :: letters ++ [62])) (mk [c]) (1 + p) (1 + letters.length) 1 = (1 + i) :: r ∧ p ≤ i ∧ i < letters.length ∧ ∀ w, isSub (c :: w) (letters.drop p) = isSub w (letters.drop (i + 1)) := by
  have hat : ∀ i, At (mk (60 :: letters ++ [62])) (mk [c]) (1 + letters.length) (1 + i) ↔ letters[i]? = some c := by
    intro i
    rw [at_iff]
    have h1 : (60 :: letters ++ [62]).drop (1 + i) = letters.drop i ++ ([62] : List Nat).drop (i - letters.length) := by
      rw [Nat.add_comm, List.cons_append, List.drop_succ_cons, List.drop_append]
    rw [h1]
    constructor
    · rintro ⟨h2, h3⟩
      simp at h2
      have hi : i < letters.length := by omega
      have h4 : (letters.drop i ++ ([62] : List Nat).drop (i - letters.length)).take 1 = [letters[i]] := by
        rw [List.drop_eq_getElem_cons hi]; rfl
      rw [show ([c] : List Nat).length = 1 from rfl, h4] at h3
      rw [List.getElem?_eq_getElem hi]
      simpa using h3
    · intro h2
      have hi : i < letters.length := (List.getElem?_eq_some_iff.mp h2).1
      have h3 := (List.getElem?_eq_some_iff.mp h2).2
      refine ⟨by simp; omega, ?_⟩
      rw [List.drop_eq_getElem_cons hi, h3]
      simp
  rw [occ_eq]
  rcases occ_first (mk (60 :: letters ++ [62])) (mk [c]) (1 + letters.length) 1 (Nat.le_refl 1) (List.range' (1 + p) (1 + letters.length + 1 - (1 + p))) (1 + p) (fun i hi => by have := List.mem_range'_1.mp hi; omega) with ⟨h0, hn⟩ | ⟨pre, a, post, e, h0, ha, hn⟩
  · refine .inl ⟨by rw [h0], fun w => isSub_none fun hm => ?_⟩
    obtain ⟨j, hj⟩ := List.getElem?_of_mem hm
    rw [List.getElem?_drop] at hj
    have hlt : p + j < letters.length := (List.getElem?_eq_some_iff.mp hj).1
    exact hn (1 + (p + j)) (by rw [List.mem_range'_1]; omega) ((hat _).mpr hj)
  · have hs := range'_split_from e
    obtain ⟨i, rfl⟩ : ∃ i, a = 1 + i := ⟨a - 1, by omega⟩
    have hi := (hat i).mp ha
    have hlt : i < letters.length := (List.getElem?_eq_some_iff.mp hi).1
    refine .inr ⟨i, ((forIn (List.range' (1 + p) (1 + letters.length + 1 - (1 + p))) ((#[] : Array Nat), 1 + p) (occBody (mk (60 :: letters ++ [62])) (mk [c]) (1 + letters.length) 1)).run.fst.toList).tail, ?_, by omega, hlt, fun w => ?_⟩
    · generalize (forIn (List.range' (1 + p) (1 + letters.length + 1 - (1 + p))) ((#[] : Array Nat), 1 + p) (occBody (mk (60 :: letters ++ [62])) (mk [c]) (1 + letters.length) 1)).run.fst = arr at h0
      have h1 : arr.toList[0]? = some (1 + i) := by simpa using h0
      cases hL : arr.toList with
      | nil => rw [hL] at h1; cases h1
      | cons b t => rw [hL] at h1; simp at h1; rw [h1]; rfl
    · rw [isSub_skip (i := i - p) (by rw [List.getElem?_drop, show p + (i - p) = i by omega]; exact hi) fun k hk hq => ?_, List.drop_drop, show p + (i - p + 1) = i + 1 by omega]
      rw [List.getElem?_drop] at hq
      exact hn (1 + (p + k)) (hs.2 _ (by omega) (by omega)) ((hat _).mpr hq)

section
variable {prog : Program} {w : World} {A : Around} {E : Value → Shared → Prop} {s : Shared} {Q : Value → Shared → Prop}
theorem gives_find4 (x y : Str) (i j : Nat) (t u v v' : Tok) : Gives («str.find» ⟨[.str x t, .str y u, .int i v, .int j v'], []⟩) (.int (match occurrences x y i (min j x.length) 1 with | k :: _ => (k : Int) | [] => -1)) := by
  show Gives (match occurrences x y (max 0 (if (i : Int) < 0 then (i : Int) + x.length else i)).toNat (min (max 0 (if (j : Int) < 0 then (j : Int) + x.length else j)).toNat x.length) 1 with | k :: _ => retInt k | [] => (do rule "str.find.not-found"; retInt (-1))) _
  have e1 : (max 0 (if (i : Int) < 0 then (i : Int) + x.length else i)).toNat = i := by
    rw [if_neg (by omega)]; omega
  have e2 : (max 0 (if (j : Int) < 0 then (j : Int) + x.length else j)).toNat = j := by
    rw [if_neg (by omega)]; omega
  rw [e1, e2]
  cases occurrences x y i (min j x.length) 1 with
  | nil => exact .rule (.of_eq rfl)
  | cons k _ => exact .of_eq rfl
theorem call_find4 {x y : Str} {i j : Nat} {t u v v' : Tok} (h : Q (.int (match occurrences x y i (min j x.length) 1 with | k :: _ => (k : Int) | [] => -1) s.toks) { s with toks := s.toks + 1 }) :
    wpAny (model prog w) A (call (.builtin "str.find") [.str x t, .str y u, .int i v, .int j v']) Q E s :=
  call_gives F.slot_str_find (typeIs_str _ _ _) F.entry_str_find (F.args_str_find_4 _ _ _ _) (gives_find4 x y i j t u v v') h
end
end Mine

namespace Mine
open PySem PySem.W PySem.Calls PyProof.Rows

def emEnv (L : Addr) : Env := envOf (Str.ofString "_ellipsis_match") (fnS 4).2 L 28 (.ref 27)
section
variable {prog : Program} {w : World} {A : Around} {E : Value → Shared → Prop} {s : Shared}
theorem em_enter {a b : Value} {Q : Value → Shared → Prop} (G : Gnd w s.heap) (hroom : A.depth < recursionLimit)
    (h : ∀ L s₁, St w s (emEnv L) (fun x => [(Str.ofString "got", b), (Str.ofString "want", a)].lookup x) (fun _ => none) s₁ →
      wpAny (model prog w) (A.deeper (emEnv L)) (execs (fnS 4).1 (emEnv L)) (fun fl s' => Q (match fl with | .ret v => v | _ => .none) s') (fun _ _ => False) s₁) :
    wpAny (model prog w) A (call (.ref 28) [a, b]) Q E s :=
  call_fn (binds := [(Str.ofString "want", a), (Str.ofString "got", b)]) (scope := (fnS 4).2) (body := (fnS 4).1) G hroom rfl rfl rfl (locs rfl) (by decide +kernel) fun L h₁ tk hL F => h L _ ⟨⟨F.keep, rfl, rfl⟩, F.ns, F.above, ⟨fun _ _ e => (nomatch e), .nil, fun _ _ e => (nomatch e)⟩, G⟩

theorem assignInOrder_nil {Q : Unit → Shared → Prop} (h : Q () s) : wpAny (model prog w) A (assignInOrder [] []) Q E s := wpAny_pure h
theorem assignInOrder_cons {t : Value → Sem Unit} {ts : List (Value → Sem Unit)} {x : Value} {xs : List Value} {Q : Unit → Shared → Prop} (h : wpAny (model prog w) A (t x) (fun _ s₁ => wpAny (model prog w) A (assignInOrder ts xs) Q E s₁) E s) :
    wpAny (model prog w) A (assignInOrder (t :: ts) (x :: xs)) Q E s := wpAny_bind (wpAny_holding h)
theorem strsFrom_append : ∀ (tk : Nat) (xs ys : List Str), strsFrom tk (xs ++ ys) = strsFrom tk xs ++ strsFrom (tk + xs.length) ys
  | tk, [], ys => rfl
  | tk, x :: xs, ys => by
    show Value.str x tk :: strsFrom (tk + 1) (xs ++ ys) = _
    rw [strsFrom_append (tk + 1) xs ys, List.length_cons, show tk + 1 + xs.length = tk + (xs.length + 1) by omega]
    rfl
theorem strsFrom_strs : ∀ (tk : Nat) (xs : List Str), StrsAre (strsFrom tk xs) xs
  | tk, [] => .nil
  | tk, x :: xs => .cons x tk (strsFrom_strs (tk + 1) xs)

theorem split_x {c d : Nat} {r : List Nat} {t u : Tok} {Q : Value → Shared → Prop} (hc : ∀ x ∈ c :: d :: r, x ≠ 46) (hl : (c :: d :: r).length ≤ 1000)
    (h : ∀ D s' tk, Ext s s' → s.heap.get? D = none → s'.heap.PlainList D (strsFrom tk ((c :: d :: r).map fun x => mk [x])).toArray → Q (.ref D) s') :
    wpAny (model prog w) A (call (.builtin "str.split") [.str (mk (dotted (c :: d :: r))) t, .str dots u]) Q E s := by
  have hp := split_dotted (cs := c :: d :: r) (by simp) hc
  have hdl := dotted_length (c :: d :: r)
  have h1 : (decide ((mk (dotted (c :: d :: r))).length < dots.length) || decide (Builtin.Str.strKind (mk (dotted (c :: d :: r))) < Builtin.Str.strKind dots)) = false := by
    rw [Bool.or_eq_false_iff]
    constructor
    · refine decide_eq_false ?_
      rw [mk_length, dots_eq, mk_length]
      simp [dotted]
    · refine decide_eq_false ?_
      have : Builtin.Str.strKind dots = 1 := by decide +kernel
      rw [this]
      unfold Builtin.Str.strKind
      split
      · decide
      · split <;> decide
  have hf : (Builtin.Str.occurrences (mk (dotted (c :: d :: r))) dots 0 (mk (dotted (c :: d :: r))).length ((mk (dotted (c :: d :: r))).length + 1)).isEmpty = false := by
    cases hO : Builtin.Str.occurrences (mk (dotted (c :: d :: r))) dots 0 (mk (dotted (c :: d :: r))).length ((mk (dotted (c :: d :: r))).length + 1) with
    | cons _ _ => rfl
    | nil =>
      rw [hO] at hp
      have := congrArg List.length hp
      simp [Builtin.Str.partsBetween] at this
  refine call_meets F.slot_str_split (typeIs_str _ _ _) F.entry_str_split (F.args_str_split_2 _ _) (meets_str_split_sep _ _ t u h1 (by decide +kernel) hf (by rw [mk_length, sizeLine_eq]; omega) (by rw [hp, List.length_map, sizeLine_eq]; omega)) ?_
  rw [hp]
  exact h _ _ s.toks (ext_push s _ _) (get_size _) ⟨0, Heap.get?_push_size _ rfl⟩

theorem starts_ok (l : List Nat) : Txt.startswith (mk (60 :: l)) (mk [60]) = true := by
  unfold Txt.startswith
  rw [StrLaws.subAt_eq, mk_length, mk_length, mk_toList, mk_toList]
  simp
theorem ends_ok (l : List Nat) : Txt.endswith (mk (60 :: l ++ [62])) (mk [62]) = true := by
  unfold Txt.endswith
  rw [StrLaws.subAt_eq, mk_length, mk_length, mk_toList, mk_toList]
  have e : (60 :: l ++ [62]).length - ([62] : List Nat).length = (60 :: l).length := by simp
  rw [e, List.drop_left]
  simp
theorem last_at (v : Value) (l : List Value) : (l ++ [v]).toArray[(-1 + ((l ++ [v]).toArray.size : Int)).toNat]? = some v := by
  have e : (-1 + ((l ++ [v]).toArray.size : Int)).toNat = l.length := by
    rw [List.size_toArray, List.length_append]; simp only [List.length_cons, List.length_nil]; omega
  rw [e]; simp
theorem last_le (v : Value) (l : List Value) : -((l ++ [v]).toArray.size : Int) ≤ -1 := by
  rw [List.size_toArray, List.length_append]; simp only [List.length_cons, List.length_nil]; omega
theorem last_idx (v : Value) (l : List Value) : seqIndex? (-1) (l ++ [v]).toArray.size = some l.length := by
  rw [PySem.seqIndex_neg (by decide) (last_le v l)]
  rw [List.size_toArray, List.length_append]; simp only [List.length_cons, List.length_nil]
  congr 1; omega
theorem strs_at : ∀ {vs : List Value} {ss : List Str}, StrsAre vs ss → ∀ (i : Nat) (v : Value), vs[i]? = some v → ∃ x t, v = .str x t ∧ ss[i]? = some x
  | _, _, .nil, i, v, h => by simp at h
  | _, _, .cons x t _, 0, v, h => by simp at h; exact ⟨x, t, h.symm, rfl⟩
  | _, _, .cons x t r, i + 1, v, h => by
    simp only [List.getElem?_cons_succ] at h ⊢
    exact strs_at r i v h
theorem erase0 (v : Value) (l : List Value) : ((v :: l).toArray).eraseIdxIfInBounds 0 = l.toArray := by simp
theorem eraseLast (v : Value) (l : List Value) : ((l ++ [v]).toArray).eraseIdxIfInBounds l.length = l.toArray := by
  simp [List.eraseIdx_append_of_length_le]

theorem em_spec {word letters : List Nat} {t u : Tok} {Q : Value → Shared → Prop} (G : Gnd w s.heap) (hroom : A.depth < recursionLimit) (hh : A.handled = none)
    (hw : ∀ c ∈ word, c ≠ 46) (hwl : word.length ≤ 100) (hll : letters.length ≤ 100)
    (h : ∀ s', Ext s s' → Q (.bool (isSub word letters)) s') :
    wpAny (model prog w) A (call (.ref 28) [.str (mk (dotted (60 :: word ++ [62]))) t, .str (mk (60 :: letters ++ [62])) u]) Q E s := by
  refine em_enter G hroom fun L s₁ S => ?_
  have hh' : (A.deeper (emEnv L)).handled = none := hh
  generalize A.deeper (emEnv L) = B at hh'
  refine wpAny_execs_cons <| wpAny_If <| wpAny_isTrue_Compare1 <| name_def S.gnd rfl <| ldL S rfl <| PyProof.Rows.notIn_str <| wpAny_truthy_bool ?_
  rw [show Str.ofString "..." = dots from rfl, show (60 :: word ++ [62]) = 60 :: (word ++ [62]) from rfl]
  obtain ⟨d, r, hdr⟩ : ∃ d r, word ++ [62] = d :: r := by
    cases word with
    | nil => exact ⟨62, [], rfl⟩
    | cons c w => exact ⟨c, w ++ [62], rfl⟩
  have hc46 : ∀ x ∈ 60 :: (word ++ [62]), x ≠ 46 := by
    intro x hx
    rcases List.mem_cons.mp hx with rfl | hx
    · decide
    · rcases List.mem_append.mp hx with hx | hx
      · exact hw x hx
      · rw [List.mem_singleton] at hx; subst hx; decide
  rw [hdr, found_dotted, if_neg (by decide)]
  refine wpAny_execs_nil <| wpAny_execs_cons <| wpAny_Assign_Name <| meth1 F.plainAttrs_str F.slot_str_split F.type_str_split <| ldL S rfl ⟨typeIs_str _ _ _, (fun _ e => nomatch e), ?_⟩
  rw [show (60 :: word ++ [62]) = 60 :: (word ++ [62]) from rfl, hdr]
  refine name_def S.gnd rfl <| split_x (hdr ▸ hc46) (by rw [← hdr]; simp; omega) fun D s₂ tk x2 hD P2 => ?_
  rw [← hdr] at P2
  have hsplit : strsFrom tk ((60 :: (word ++ [62])).map fun x => mk [x]) = .str (mk [60]) tk :: (strsFrom (tk + 1) (word.map fun x => mk [x]) ++ [.str (mk [62]) (tk + 1 + word.length)]) := by
    rw [List.map_cons, List.map_append]
    show Value.str (mk [60]) tk :: strsFrom (tk + 1) _ = _
    rw [strsFrom_append, List.length_map]
    rfl
  rw [hsplit] at P2
  have hmv := strsFrom_strs (tk + 1) (word.map fun x => mk [x])
  generalize strsFrom (tk + 1) (word.map fun x => mk [x]) = mv at P2 hmv
  have hmvl : mv.length = word.length := by have := StrsAre.length hmv; simpa using this
  have O1 := S.own_new hD
  refine stL (S.grow x2) fun s₃ S3 k3 => ?_
  have P3 := plain_of P2 (k3 _ O1.neL)
  refine wpAny_execs_cons <| wpAny_Assert_holds <| wpAny_isTrue_Compare1 <| callB1 S3.gnd rfl Boot.len <| ldL S3 upd_self <| call_len_list P3.isList (by simp; omega) <| wpAny_Constant_int <| PyProof.Rows.ge_int <| wpAny_truthy_bool ⟨by simp; omega, ?_⟩
  have S4 := S3.grow (ext_tok s₃ (s₃.toks + 1 + 1 + 1))
  refine wpAny_execs_cons <| Assign_Tuple_swapped (names := [Str.ofString "startpos", Str.ofString "endpos"]) <| Tuple_ <| wpAny_items_cons <| wpAny_Constant_int <| wpAny_items_cons <| callB1 (S4.grow (ext_tok _ _)).gnd rfl Boot.len <| ldL (S4.grow (ext_tok _ _)) (upd_ne rfl) <| len_str (by rw [mk_length]; simp; omega) <| wpAny_items_nil <| newTuple_x fun T s₅ x5 hT T5 => ?_
  have S5 := S4.grow x5.of_heap
  have P5 := plain_ext P3 x5.of_heap
  refine unpack_x hh' T5 rfl fun s₆ x6 => ?_
  have S6 := S5.grow x6
  have P6 := plain_ext P5 x6
  refine assignInOrder_cons (bindName_ (stL S6 fun s₇ S7 k7 => assignInOrder_cons (bindName_ (stL S7 fun s₈ S8 k8 => assignInOrder_nil ?_))))
  have P8 := plain_of (plain_of P6 (k7 _ O1.neL)) (k8 _ O1.neL)
  have hval : ((mk (60 :: letters ++ [62])).length : Int) = ((letters.length + 2 : Nat) : Int) := by simp; omega
  obtain ⟨m8, te, S8, mg8, mws8, mep8⟩ : ∃ m te, St w s (emEnv L) m (fun _ => none) s₈ ∧ m (Str.ofString "got") = some (.str (mk (60 :: letters ++ [62])) u) ∧ m (Str.ofString "ws") = some (.ref D) ∧
    m (Str.ofString "endpos") = some (.int ((letters.length + 2 : Nat) : Int) te) := ⟨_, _, S8, upd_ne (upd_ne (upd_ne rfl)), upd_ne (upd_ne upd_self), by rw [← hval]; exact upd_ne upd_self⟩
  refine wpAny_execs_cons <| wpAny_Assign_Name <| Subscript_ <| ldL S8 mws8 <| wpAny_Constant_int <| tailI (s := { s₈ with toks := s₈.toks + 1 }) P8.isList (by decide) (by decide) rfl <| stL (S8.grow (ext_tok s₈ (s₈.toks + 1))) fun s₉ S9 k9 => ?_
  have P9 := plain_of P8 (k9 _ O1.neL)
  refine wpAny_execs_cons <| wpAny_If <| wpAny_isTrue_value <| ldL S9 upd_self <| P.truthy_str (by simp) ?_
  rw [if_pos (by simp)]
  have S10 := S9.grow (ext_tok s₉ (s₉.toks + 1 + 1))
  refine wpAny_execs_cons <| wpAny_If <| wpAny_isTrue_value <| meth1 F.plainAttrs_str F.slot_str_startswith F.type_str_startswith <| ldL S10 (upd_ne mg8) ⟨typeIs_str _ _ _, (fun _ e => nomatch e), ldL S10 upd_self <| SC.startswith <| wpAny_truthy_bool ?_⟩
  rw [show (60 :: letters ++ [62]) = 60 :: (letters ++ [62]) from rfl, starts_ok, if_pos rfl]
  refine wpAny_execs_cons <| wpAny_Assign_Name <| callB1 S10.gnd rfl Boot.len <| ldL S10 upd_self <| len_str (by simp) <| stL (S10.grow (ext_tok _ _)) fun s₁₁ S11 k11 => ?_
  have P11 := plain_of P9 (k11 _ O1.neL)
  refine wpAny_execs_cons <| wpAny_Delete <| wpAny_deleteEach_cons <| wpAny_delete_Subscript <| ldL S11 (upd_ne (upd_ne mws8)) <| wpAny_Constant_int <| wpAny_delItem_plain (k := 0) P11 (by decide) (by simp [seqIndex?]; omega) (fun h₁₂ P12 hs12 => wpAny_deleteEach_nil ?_) (by simp [sizeLine_eq]; omega)
  rw [erase0] at P12
  have S12 := S11.mut O1 hs12.extBut (s₁₁.toks + 1)
  refine wpAny_execs_nil <| wpAny_execs_nil ?_
  generalize hs13 : ({ s₁₁ with heap := h₁₂, toks := s₁₁.toks + 1 } : Shared) = s₁₃ at S12
  have P13 : s₁₃.heap.PlainList D (mv ++ [Value.str (mk [62]) (tk + 1 + word.length)]).toArray := by rw [← hs13]; exact P12
  show wpAny _ _ _ _ _ s₁₃
  clear P12 hs12 hs13
  obtain ⟨m13, tsp, S13, mg13, mws13, msp13, mep13⟩ : ∃ m tsp, St w s (emEnv L) m (fun _ => none) s₁₃ ∧ m (Str.ofString "got") = some (.str (mk (60 :: letters ++ [62])) u) ∧ m (Str.ofString "ws") = some (.ref D) ∧
    m (Str.ofString "startpos") = some (.int ((1 : Nat) : Int) tsp) ∧ m (Str.ofString "endpos") = some (.int ((letters.length + 2 : Nat) : Int) te) :=
      ⟨_, _, S12, upd_ne (upd_ne mg8), upd_ne (upd_ne mws8), upd_self, upd_ne (upd_ne mep8)⟩
  generalize tk + 1 + word.length = tb at P13
  refine wpAny_execs_cons <| wpAny_Assign_Name <| Subscript_ <| ldL S13 mws13 <| wpAny_UnaryOp <| wpAny_Constant_int <| neg_int <|
    tailNeg (v := .str (mk [62]) tb) P13.isList (by decide) (last_le _ _) (by decide) (last_at _ _) <| stL (S13.grow (ext_tok s₁₃ (s₁₃.toks + 1 + 1))) fun s₁₄ S14 k14 => ?_
  have P14 := plain_of P13 (k14 _ O1.neL)
  refine wpAny_execs_cons <| wpAny_If <| wpAny_isTrue_value <| ldL S14 upd_self <| P.truthy_str (by simp) ?_
  rw [if_pos (by simp)]
  have S15 := S14.grow (ext_tok s₁₄ (s₁₄.toks + 1 + 1))
  refine wpAny_execs_cons <| wpAny_If <| wpAny_isTrue_value <| meth1 F.plainAttrs_str F.slot_str_endswith F.type_str_endswith <| ldL S15 (upd_ne mg13) ⟨typeIs_str _ _ _, (fun _ e => nomatch e), ldL S15 upd_self <| SC.endswith <| wpAny_truthy_bool ?_⟩
  rw [ends_ok, if_pos rfl]
  refine wpAny_execs_cons <| wpAny_AugAssign_Name <| ldnL S15 (upd_ne mep13) <| callB1 S15.gnd rfl Boot.len <| ldL S15 upd_self <| len_str (by simp) <| PyProof.Rows.isub_int <| stL (S15.grow (ext_tok _ _)) fun s₁₆ S16 k16 => ?_
  have P16 := plain_of P14 (k16 _ O1.neL)
  refine wpAny_execs_cons <| wpAny_Delete <| wpAny_deleteEach_cons <| wpAny_delete_Subscript <| ldL S16 (upd_ne (upd_ne mws13)) <| wpAny_UnaryOp <| wpAny_Constant_int <| neg_int <| wpAny_delItem_plain (k := mv.length) P16 (by decide) (last_idx _ _) (fun h₁₇ P17 hs17 => wpAny_deleteEach_nil ?_) (by simp [sizeLine_eq]; omega)
  rw [eraseLast] at P17
  have S17 := S16.mut O1 hs17.extBut (s₁₆.toks + 1 + 1)
  refine wpAny_execs_nil <| wpAny_execs_nil ?_
  generalize hs18 : ({ s₁₆ with heap := h₁₇, toks := s₁₆.toks + 1 + 1 } : Shared) = s₁₈ at S17
  have P18 : s₁₈.heap.PlainList D mv.toArray := by rw [← hs18]; exact P17
  show wpAny _ _ _ _ _ s₁₈
  clear P17 hs17 hs18
  obtain ⟨m18, te', S18, mg18, mws18, msp18, mep18⟩ : ∃ m te, St w s (emEnv L) m (fun _ => none) s₁₈ ∧ m (Str.ofString "got") = some (.str (mk (60 :: letters ++ [62])) u) ∧ m (Str.ofString "ws") = some (.ref D) ∧
    m (Str.ofString "startpos") = some (.int ((1 : Nat) : Int) tsp) ∧ m (Str.ofString "endpos") = some (.int ((1 + letters.length : Nat) : Int) te) :=
      ⟨_, _, S17, upd_ne (upd_ne mg13), upd_ne (upd_ne mws13), upd_ne (upd_ne msp13), by
        have e : ((letters.length + 2 : Nat) : Int) - ((mk [62]).length : Int) = ((1 + letters.length : Nat) : Int) := by simp; omega
        rw [← e]; exact upd_self⟩
  refine wpAny_execs_cons <| wpAny_If <| wpAny_isTrue_Compare1 <| ldL S18 msp18 <| ldL S18 mep18 <| PyProof.Rows.gt_int <| wpAny_truthy_bool ?_
  rw [if_neg (by simp; omega)]
  refine wpAny_execs_nil <| wpAny_execs_cons <| wpAny_For <| ldL S18 mws18 <| iterList_x P18.isList fun I s₁₉ x19 hI I19 => ?_
  have hDI : D ≠ I := ne_plain P18 hI
  have OI := S18.own_new hI
  have S19 := S18.grow x19
  have P19 := plain_ext P18 x19
  refine codeAny_forLoop (fun n s' => ∃ m i p tp, St w s (emEnv L) m (fun _ => none) s' ∧ m (Str.ofString "got") = some (.str (mk (60 :: letters ++ [62])) u) ∧ m (Str.ofString "endpos") = some (.int ((1 + letters.length : Nat) : Int) te') ∧
      m (Str.ofString "startpos") = some (.int ((1 + p : Nat) : Int) tp) ∧ s'.heap.IsListIter I D i ∧ s'.heap.PlainList D mv.toArray ∧ p ≤ letters.length ∧ isSub (word.drop i) (letters.drop p) = isSub word letters ∧ i ≤ word.length ∧ n = word.length + 1 - i) ?_ (word.length + 1)
    ⟨_, 0, 0, _, S19, mg18, mep18, msp18, I19, P19, Nat.zero_le _, rfl, Nat.zero_le _, rfl⟩
  rintro n s' ⟨m, i, p, tp, S20, mg, mep, msp, I20, P20, hp, hsub, hin, rfl⟩
  cases hv : mv.toArray[i]? with
  | none =>
    have hieq : i = word.length := by
      have := Array.getElem?_eq_none_iff.mp hv
      simp at this
      omega
    refine wpAny_pyNext_list_end hh' I20 P20.isList hv fun h₁ he₁ => wpAny_execs_nil ?_
    have S21 := S20.mut OI he₁ s'.toks
    refine wpAny_execs_cons <| wpAny_Return_some <| wpAny_Constant_bool ?_
    rw [hieq, List.drop_of_length_le (Nat.le_refl _)] at hsub
    have : isSub word letters = true := hsub.symm.trans (by cases letters.drop p <;> rfl)
    rw [this] at h
    exact h _ S21.ext
  | some v =>
    have hlt : i < word.length := by
      have := (Array.getElem?_eq_some_iff.mp hv).1
      simp at this
      omega
    obtain ⟨c, tc, rfl, hc⟩ : ∃ c tc, v = .str (mk [c]) tc ∧ word[i]? = some c := by
      obtain ⟨x, tx, rfl, hx⟩ := strs_at hmv i v (by simpa using hv)
      rw [List.getElem?_map] at hx
      cases hw' : word[i]? with
      | none => rw [hw'] at hx; cases hx
      | some c => rw [hw'] at hx; cases hx; exact ⟨c, tx, rfl, rfl⟩
    refine wpAny_pyNext_list_item I20 P20.isList hv fun h₁ hit₁ hs₁ => ?_
    have S21 := S20.mut OI hs₁.extBut s'.toks
    have P21 : h₁.PlainList D mv.toArray := plain_of P20 (hs₁.2 _ hDI)
    refine wpAny_assign_Name (stL S21 fun s₂₂ S22 k22 => ?_)
    have I22 : s₂₂.heap.IsListIter I D (i + 1) := by obtain ⟨o, ho, r⟩ := hit₁; exact ⟨o, (k22 _ OI.neL).trans ho, r⟩
    have P22 := plain_of P21 (k22 _ O1.neL)
    refine wpAny_execs_cons <| wpAny_Assign_Name <| meth3 F.plainAttrs_str F.slot_str_find F.type_str_find <| ldL S22 (upd_ne mg) ⟨typeIs_str _ _ _, (fun _ e => nomatch e), ldL S22 upd_self <| ldL S22 (upd_ne msp) <| ldL S22 (upd_ne mep) <| call_find4 ?_⟩
    rw [show min (1 + letters.length) (mk (60 :: letters ++ [62])).length = 1 + letters.length by simp; omega]
    have hdrop : word.drop i = c :: word.drop (i + 1) := by
      rw [List.drop_eq_getElem_cons hlt]
      have := (List.getElem?_eq_some_iff.mp hc).2
      rw [this]
    rcases find_spec letters c p hp with ⟨h0, hno⟩ | ⟨q, r, h0, hpq, hql, hyes⟩
    · rw [h0]
      refine stL (S22.grow (ext_tok s₂₂ (s₂₂.toks + 1))) fun s₂₃ S23 k23 => ?_
      refine wpAny_execs_cons <| wpAny_If <| wpAny_isTrue_Compare1 <| ldL S23 upd_self <| wpAny_Constant_int <| PyProof.Rows.lt_int <| wpAny_truthy_bool ?_
      rw [if_pos (by decide)]
      refine wpAny_execs_cons <| wpAny_Return_some <| wpAny_Constant_bool ?_
      have : isSub word letters = false := by rw [← hsub, hdrop]; exact hno _
      rw [this] at h
      exact h _ (S23.ext.trans (ext_tok _ _))
    · rw [h0]
      refine stL (S22.grow (ext_tok s₂₂ (s₂₂.toks + 1))) fun s₂₃ S23 k23 => ?_
      refine wpAny_execs_cons <| wpAny_If <| wpAny_isTrue_Compare1 <| ldL S23 upd_self <| wpAny_Constant_int <| PyProof.Rows.lt_int <| wpAny_truthy_bool ?_
      rw [if_neg (by simp; omega)]
      have S24 := S23.grow (ext_tok s₂₃ (s₂₃.toks + 1))
      refine wpAny_execs_nil <| wpAny_execs_cons <| wpAny_AugAssign_Name <| ldnL S24 upd_self <| callB1 S24.gnd rfl Boot.len <| ldL S24 (upd_ne upd_self) <| len_str (by simp) <| PyProof.Rows.iadd_int <| stL (S24.grow (ext_tok _ _)) fun s₂₅ S25 k25 => wpAny_execs_nil ?_
      have e : ((1 + q : Nat) : Int) + ((mk [c]).length : Int) = ((1 + (q + 1) : Nat) : Int) := by simp; omega
      dsimp only at S25
      rw [e] at S25
      refine ⟨word.length + 1 - (i + 1), by omega, _, i + 1, q + 1, _, S25, upd_ne (upd_ne (upd_ne mg)), upd_ne (upd_ne (upd_ne mep)), upd_self, ?_, ?_, hql, ?_, hlt, rfl⟩
      · obtain ⟨o, ho, r⟩ := I22; exact ⟨o, (k25 _ OI.neL).trans ((k23 _ OI.neL).trans ho), r⟩
      · exact plain_of (plain_of P22 (k23 _ O1.neL)) (k25 _ O1.neL)
      · rw [← hsub, hdrop]; exact (hyes _).symm
end
end Mine

namespace Mine
open PySem PySem.SetTable

abbrev Rise (xs : Array Nat) : Prop := xs.toList.Pairwise (· < ·)

theorem Rise.lt {xs : Array Nat} (h : Rise xs) {i j : Nat} (hi : i < xs.size) (hj : j < xs.size) (hij : i < j) : xs[i] < xs[j] := by
  have := List.pairwise_iff_getElem.mp h i j (by simpa using hi) (by simpa using hj) hij
  simpa using this

theorem below_go (xs : Array Nat) (h : Rise xs) (j : Nat) : ∀ (fuel lo hi : Nat), hi - lo ≤ fuel → lo ≤ hi → hi ≤ xs.size →
    (∀ i (hi' : i < xs.size), i < lo → xs[i] < j) → (∀ i (hi' : i < xs.size), hi ≤ i → j ≤ xs[i]) →
    let r := below.go xs j fuel lo hi
    r ≤ xs.size ∧ (∀ i (hi' : i < xs.size), i < r → xs[i] < j) ∧ (∀ i (hi' : i < xs.size), r ≤ i → j ≤ xs[i])
  | 0, lo, hi, hf, hl, hs, h1, h2 => by
    have : lo = hi := by omega
    subst this
    exact ⟨hs, h1, h2⟩
  | fuel + 1, lo, hi, hf, hl, hs, h1, h2 => by
    unfold below.go
    by_cases hlt : lo < hi
    · simp only [hlt, if_true]
      have hm : (lo + hi) / 2 < xs.size := by omega
      have hg : xs.getD ((lo + hi) / 2) j = xs[(lo + hi) / 2] := by simp [Array.getD, hm]
      rw [hg]
      by_cases hc : xs[(lo + hi) / 2] < j
      · simp only [hc, if_true]
        refine below_go xs h j fuel _ hi (by omega) (by omega) hs (fun i hi' hil => ?_) h2
        by_cases he : i = (lo + hi) / 2
        · subst he; exact hc
        · exact Nat.lt_trans (h.lt hi' hm (by omega)) hc
      · simp only [hc, if_false]
        refine below_go xs h j fuel lo _ (by omega) (by omega) (by omega) h1 fun i hi' hil => ?_
        by_cases he : i = (lo + hi) / 2
        · subst he; omega
        · have := h.lt hm hi' (by omega)
          omega
    · simp only [hlt, if_false]
      have : lo = hi := by omega
      subst this
      exact ⟨hs, h1, h2⟩

theorem below_spec {xs : Array Nat} (h : Rise xs) (j : Nat) :
    below xs j ≤ xs.size ∧ (∀ i (hi' : i < xs.size), i < below xs j → xs[i] < j) ∧ (∀ i (hi' : i < xs.size), below xs j ≤ i → j ≤ xs[i]) :=
  below_go xs h j xs.size 0 xs.size (by omega) (Nat.zero_le _) (Nat.le_refl _) (fun i _ h => by omega) fun i h h' => by omega

theorem below_at {xs : Array Nat} (h : Rise xs) {i : Nat} (hi : i < xs.size) (j : Nat) (hlo : i = 0 ∨ ∃ hp : i - 1 < xs.size, xs[i - 1] < j) (hhi : j ≤ xs[i]) : below xs j = i := by
  obtain ⟨b1, b2, b3⟩ := below_spec h j
  have h1 : ¬ i < below xs j := fun q => by have := b2 i hi q; omega
  have h2 : ¬ below xs j < i := fun q => by
    rcases hlo with h0 | ⟨hp, hl⟩
    · omega
    · have := b3 (i - 1) hp (by omega)
      omega
  omega

theorem rise_insert {xs : Array Nat} (h : Rise xs) {j : Nat} (hn : xs[below xs j]? ≠ some j) : Rise (insertAt xs (below xs j) j) := by
  obtain ⟨b1, b2, b3⟩ := below_spec h j
  unfold Rise
  rw [toList_insertAt]
  have hsplit : xs.toList = xs.toList.take (below xs j) ++ xs.toList.drop (below xs j) := (List.take_append_drop _ _).symm
  have hp : (xs.toList.take (below xs j) ++ xs.toList.drop (below xs j)).Pairwise (· < ·) := by rw [← hsplit]; exact h
  rw [List.pairwise_append] at hp ⊢
  have hlt : ∀ a ∈ xs.toList.take (below xs j), a < j := by
    intro a ha
    obtain ⟨i, hi, rfl⟩ := List.mem_iff_getElem.mp ha
    simp at hi
    have := b2 i (by omega) (by omega)
    simpa using this
  have hgt : ∀ a ∈ xs.toList.drop (below xs j), j < a := by
    intro a ha
    obtain ⟨i, hi, rfl⟩ := List.mem_iff_getElem.mp ha
    simp at hi
    have h1 : below xs j + i < xs.size := by omega
    have h2 := b3 (below xs j + i) h1 (by omega)
    have h3 : xs[below xs j + i] ≠ j := by
      by_cases h0 : i = 0
      · subst h0
        intro q
        exact hn (by rw [Array.getElem?_eq_getElem (by omega)]; simpa using q)
      · have h4 := h.lt (i := below xs j) (by omega) h1 (by omega)
        have h5 := b3 (below xs j) (by omega) (Nat.le_refl _)
        omega
    have : j < xs[below xs j + i] := by omega
    simpa using this
  refine ⟨hp.1, List.pairwise_cons.mpr ⟨hgt, hp.2.1⟩, fun a ha b hb => ?_⟩
  rcases List.mem_cons.mp hb with rfl | hb
  · exact hlt a ha
  · exact Nat.lt_trans (hlt a ha) (hgt b hb)

theorem rise_range (n : Nat) : Rise (Array.range n) := by
  unfold Rise
  rw [Array.toList_range]
  exact List.pairwise_lt_range

structure Neat (t : SetTable) : Prop where
  rise : Rise t.place
  dum : t.dummies = #[]

theorem neat_standIn (t : SetTable) (n : Nat) : Neat (t.standIn n) := ⟨rise_range n, rfl⟩

theorem has_nil (j : Nat) : has #[] j = false := by simp [has]

theorem probe_go_neat {t : SetTable} (N : Neat t) {h : Int} : ∀ (fuel : Nat) (p : Probe) (r : Met), p.dummy = none → probe.go t (fun _ => h + 1) h fuel p = some r → ∃ j, r = .empty j none ∧ t.slot j = .empty
  | 0, p, r, hd, he => by simp [probe.go] at he
  | fuel + 1, p, r, hd, he => by
    unfold probe.go at he
    have hadv : (t.advance p).dummy = none := by
      unfold SetTable.advance
      split
      · exact hd
      · exact hd
    cases hs : t.slot p.j with
    | empty => rw [hs] at he; simp at he; exact ⟨p.j, by rw [← he, hd], hs⟩
    | dummy =>
      exfalso
      unfold SetTable.slot at hs
      simp only at hs
      split at hs
      · cases hs
      · rw [N.dum, has_nil] at hs; simp at hs
    | live i =>
      rw [hs] at he
      simp only at he
      rw [if_neg (by simp; omega)] at he
      exact probe_go_neat N fuel _ r hadv he

theorem freeSlot_neat {t : SetTable} (N : Neat t) {h : Int} {j : Nat} {b : Bool} (he : t.freeSlot h = some (j, b)) : t.slot j = .empty := by
  unfold SetTable.freeSlot SetTable.probe at he
  cases hp : probe.go t (fun _ => h + 1) h (10 * turns t.mask) (t.probeStart h) with
  | none => rw [hp] at he; simp at he
  | some r =>
    obtain ⟨k, rfl, hk⟩ := probe_go_neat N _ _ r rfl hp
    rw [hp] at he
    simp at he
    rw [← he.1]; exact hk

theorem slot_empty {t : SetTable} {j : Nat} (h : t.slot j = .empty) : t.place[below t.place j]? ≠ some j := by
  intro q
  unfold SetTable.slot at h
  simp only at h
  rw [if_pos (by simpa using q)] at h
  cases h

theorem neat_put {t : SetTable} (N : Neat t) {j : Nat} (h : t.slot j = .empty) : Neat (t.put j).1 := by
  refine ⟨rise_insert N.rise (slot_empty h), ?_⟩
  show (if has t.dummies j then eraseAt t.dummies (below t.dummies j) else t.dummies) = #[]
  rw [N.dum, has_nil]
  rfl

theorem layNew_neat {t : SetTable} (N : Neat t) (es : Array (Int × Value)) (h : Int) (x : Value) : Neat (layNew t es h x).2.1 := by
  unfold layNew
  split
  · rename_i slot wd he
    have := neat_put N (freeSlot_neat N he)
    show Neat ((t.put slot).1.orStandIn _)
    unfold SetTable.orStandIn
    split
    · exact this
    · exact neat_standIn ..
  · exact neat_standIn ..

theorem laid_neat {mask finger moves : Nat} {led plain : Bool} {hashes : Array Int} {t : SetTable} {o : Array Nat} (h : SetTable.laid mask finger moves led plain hashes = some (t, o)) : Neat t := by
  unfold SetTable.laid at h
  cases hL : SetTable.layClean mask hashes with
  | none => rw [hL] at h; cases h
  | some owner =>
    rw [hL] at h
    simp only [Option.pure_def, Option.bind_eq_bind, Option.bind_some, Option.some.injEq, Prod.mk.injEq] at h
    rw [← h.1]
    refine ⟨?_, rfl⟩
    show ((((List.range (mask + 1)).filterMap fun j => (owner.getD j none).map (j, ·)).map (·.1)).toArray).toList.Pairwise (· < ·)
    rw [List.toList_toArray, List.map_filterMap]
    refine (List.Pairwise.filterMap (R := (· < ·)) _ ?_ List.pairwise_lt_range)
    intro a a' haa b hb b' hb'
    cases h1 : owner.getD a none with
    | none => rw [h1] at hb; simp at hb
    | some x =>
      cases h2 : owner.getD a' none with
      | none => rw [h2] at hb'; simp at hb'
      | some y =>
        rw [h1] at hb; rw [h2] at hb'
        simp at hb hb'
        omega

theorem relayAll_neat {t : SetTable} (es : Array (Int × Value)) (wanted : Nat) : Neat (relayAll t es wanted).2.1 := by
  unfold relayAll
  split
  · rename_i t' order he
    have := laid_neat he
    dsimp only
    split
    · exact this
    · exact neat_standIn ..
  · exact neat_standIn ..
end Mine

namespace Mine
open PySem PySem.W PySem.Calls PyProof.Rows

theorem put_led (t : SetTable) (j : Nat) : (t.put j).1.led = t.led := rfl
theorem standIn_led (t : SetTable) (n : Nat) : (t.standIn n).led = t.led := rfl
theorem orStandIn_led (t : SetTable) (n : Nat) : (t.orStandIn n).led = t.led := by
  unfold SetTable.orStandIn; split <;> rfl
theorem layNew_led (t : SetTable) (es : Array (Int × Value)) (h : Int) (x : Value) : (layNew t es h x).2.1.led = t.led := by
  unfold layNew
  split
  · exact orStandIn_led ..
  · rfl
theorem laid_led {mask finger moves : Nat} {led plain : Bool} {hashes : Array Int} {t : SetTable} {o : Array Nat} (h : SetTable.laid mask finger moves led plain hashes = some (t, o)) : t.led = led := by
  unfold SetTable.laid at h
  cases hL : SetTable.layClean mask hashes with
  | none => rw [hL] at h; cases h
  | some owner =>
    rw [hL] at h
    simp at h
    rw [← h.1]
theorem relayAll_led (t : SetTable) (es : Array (Int × Value)) (wanted : Nat) : (relayAll t es wanted).2.1.led = t.led := by
  unfold relayAll
  split
  · rename_i t' order he
    have := laid_led he
    dsimp only
    split
    · exact this
    · rfl
  · rfl

section
variable {prog : Program} {w : World} {K : Type} [DecidableEq K] {knd : PySem.KeyKind prog w K} {kf : Value → K}

structure SetBody (knd : PySem.KeyKind prog w K) (kf : Value → K) (es : Array (Int × Value)) (t : SetTable) (ks : List K) : Prop where
  el : ElemsOf knd es.toList
  key : ∀ e ∈ es.toList, knd.is (kf e.2) e.2 = true
  perm : (es.toList.map fun e => kf e.2).Perm ks
  small : es.size < scanBound
  fits : t.fits es.size = true
  led : t.led = true ∨ w.params.followText "set-order" = true
  neat : Neat t

def SetAt (knd : PySem.KeyKind prog w K) (kf : Value → K) (h : Heap) (a : Addr) (ks : List K) : Prop :=
  ∃ es ep t, h.get? a = some { cls := .type "set", data := .set es ep t } ∧ SetBody knd kf es t ks

theorem SetBody.size {es : Array (Int × Value)} {t : SetTable} {ks : List K} (B : SetBody knd kf es t ks) : es.size = ks.length := by
  have := B.perm.length_eq
  simpa using this
theorem SetBody.mem {es : Array (Int × Value)} {t : SetTable} {ks : List K} (B : SetBody knd kf es t ks) (k : K) : k ∈ ks ↔ ∃ e ∈ es.toList, knd.is k e.2 = true := by
  rw [← B.perm.mem_iff, List.mem_map]
  constructor
  · rintro ⟨e, he, rfl⟩; exact ⟨e, he, B.key e he⟩
  · rintro ⟨e, he, hk⟩; exact ⟨e, he, knd.inj _ _ _ (B.key e he) hk⟩

variable {A : Around} {E : Value → Shared → Prop} {s : Shared}

theorem get_putSet {h : Heap} {a : Addr} {es : Array (Int × Value)} {ep : Nat} {t : SetTable} (ho : h.get? a = some { cls := .type "set", data := .set es ep t }) (es' : Array (Int × Value)) (t' : SetTable) :
    (h.update a (Obj.putSet es' t')).get? a = some { cls := .type "set", data := .set es' (ep + 1) t' } :=
  Heap.get?_update_self (Obj.putSet es' t') ho rfl

theorem addTail_x {g : Bool → Sem Unit} (hg : ∀ (b : Bool) (s₁ : Shared) (Q' : Unit → Shared → Prop), Q' () s₁ → wpAny (model prog w) A (g b) Q' E s₁)
    {a : Addr} {es : Array (Int × Value)} {ep : Nat} {t : SetTable} (ho : s.heap.get? a = some { cls := .type "set", data := .set es ep t })
    {es1 : Array (Int × Value)} {t2 : SetTable} {ks : List K} (B : SetBody knd kf es1 t2 ks) {wasDummy : Bool} {R : Option Bool → Shared → Prop}
    (h : ∀ h', Heap.SameBut a s.heap h' → SetAt knd kf h' a ks → R (some true) { s with heap := h' }) :
    wpAny (model prog w) A (do
        storeSet a es1 t2
        if (!wasDummy && t2.tooFull) = true then do
            g (relayAll t2 es1 (SetTable.grown es1.size)).2.2
            storeSet a (relayAll t2 es1 (SetTable.grown es1.size)).1 (relayAll t2 es1 (SetTable.grown es1.size)).2.1
            pure (some true)
          else pure (some true)) R E s := by
  refine wpAny_bind (wpAny_storeSet_of ho rfl ?_ (fits_of_scanBound B.small))
  have ho1 := get_putSet ho es1 t2
  have hsb1 := Heap.SameBut.update s.heap a (Obj.putSet es1 t2)
  split
  · have hp := relayAll_perm t2 es1 (SetTable.grown es1.size)
    have hfr := relayAll_fits t2 es1 (SetTable.grown es1.size)
    have hld := relayAll_led t2 es1 (SetTable.grown es1.size)
    have hnt := relayAll_neat (t := t2) es1 (SetTable.grown es1.size)
    generalize relayAll t2 es1 (SetTable.grown es1.size) = Rl at hp hfr hld hnt ⊢
    obtain ⟨es2, t3, gave2⟩ := Rl
    dsimp only at hp hfr hld hnt ⊢
    have hsz : es2.size = es1.size := by rw [← Array.length_toList, hp.length_eq, Array.length_toList]
    have hb2 : es2.size < scanBound := by rw [hsz]; exact B.small
    refine wpAny_bind (hg _ _ _ ?_)
    refine wpAny_bind (wpAny_storeSet_of ho1 rfl ?_ (fits_of_scanBound hb2))
    exact wpAny_pure (h _ (hsb1.trans (Heap.SameBut.update _ a _)) ⟨es2, _, t3, get_putSet ho1 es2 t3, B.el.perm hp, fun e he => B.key e (hp.mem_iff.mp he), (hp.map _).trans B.perm, hb2, hfr, hld ▸ B.led, hnt⟩)
  · exact wpAny_pure (h _ hsb1 ⟨es1, _, t2, ho1, B⟩)

theorem setAddHashed_x {a : Addr} {ks : List K} {k : K} {x : Value} {Q : Bool → Shared → Prop} (hkey : knd.is k x = true) (hkf : kf x = k) (hsc : x.scannable = true) (hS : SetAt knd kf s.heap a ks)
    (hroom : ks.length + 1 < scanBound)
    (h : ∀ h' b, Heap.SameBut a s.heap h' → SetAt knd kf h' a (if k ∈ ks then ks else ks ++ [k]) → Q b { s with heap := h' }) :
    wpAny (model prog w) A (setAddHashed a x (knd.hash k)) Q E s := by
  obtain ⟨es, ep, t, ho, B⟩ := hS
  have hb1 : es.size + 1 < scanBound := by rw [B.size]; exact hroom
  unfold setAddHashed setAddHashedIn
  refine wpAny_holding (wpAny_bind (wpAny_setState_of ho rfl B.fits ?_))
  dsimp only
  rw [byScan_of hsc B.small B.el]
  simp only [↓reduceIte]
  unfold setAddByScan
  refine wpAny_bind ?_
  refine wpAny_bind (wpAny_rule ?_)
  refine wpAny_bind (wpAny_setScan_of hkey ho rfl B.fits B.el ?_)
  cases hr : List.findIdx? (fun e => knd.is k e.2) es.toList with
  | some j =>
    dsimp only
    obtain ⟨hj, hpj, _⟩ := List.findIdx?_eq_some_iff_getElem.mp hr
    have hSk : k ∈ ks := (B.mem k).mpr ⟨es.toList[j], List.getElem_mem hj, hpj⟩
    refine wpAny_pure (wpAny_pure ?_)
    have := h s.heap false (Heap.SameBut.refl a s.heap) (by rw [if_pos hSk]; exact ⟨es, ep, t, ho, B⟩)
    exact this
  | none =>
    dsimp only
    have hSk : k ∉ ks := fun hk => by
      obtain ⟨e, he, hp⟩ := (B.mem k).mp hk
      have := List.findIdx?_eq_none_iff.mp hr e he
      rw [hp] at this; exact Bool.noConfusion this
    rw [if_neg hSk] at h
    have hgw : ∀ (b : Bool) {s₁ : Shared} {Q' : Unit → Shared → Prop}, Q' () s₁ → wpAny (model prog w) A (match b with | true => rule "set.scan.the-table-gave-way" | false => pure ()) Q' E s₁ :=
      fun b s₁ Q' hq => by cases b <;> first | exact wpAny_pure hq | exact wpAny_rule hq
    have hperm := layNew_perm t es (knd.hash k) x
    have hfits := layNew_fits t es (knd.hash k) x
    have hled := layNew_led t es (knd.hash k) x
    have hneat := layNew_neat B.neat es (knd.hash k) x
    generalize layNew t es (knd.hash k) x = L at hperm hfits hled hneat ⊢
    obtain ⟨es1, t1, wasDummy, gave⟩ := L
    dsimp only at hperm hfits hled hneat ⊢
    rw [Array.toList_push] at hperm
    have B1 : SetBody knd kf es1 t1 (ks ++ [k]) := ⟨(B.el.push hkey hsc).perm hperm, fun e he => by
        rcases List.mem_append.mp (hperm.mem_iff.mp he) with he | he
        · exact B.key e he
        · rw [List.mem_singleton] at he; subst he; rw [hkf]; exact hkey,
      (hperm.map _).trans (by rw [List.map_append]; exact (B.perm.append_right _).trans (by simp [hkf])),
      by rw [← Array.length_toList, hperm.length_eq, List.length_append, Array.length_toList]; simpa using hb1, hfits, hled ▸ B.led, hneat⟩
    have B2 : SetBody knd kf es1 { t1 with plain := false } (ks ++ [k]) := ⟨B1.el, B1.key, B1.perm, B1.small, SetTable.fits_plain_off hfits, B1.led, ⟨hneat.rise, hneat.dum⟩⟩
    refine wpAny_bind (hgw _ ?_)
    split
    · refine wpAny_bind ?_
      rw [hashByValue_scannable 8 hsc]
      refine wpAny_pure ?_
      refine addTail_x (ks := ks ++ [k]) ?_ ho (knd := knd) (kf := kf) ?_ ?_
      · intro b s₁ Q' hq; cases b <;> first | exact wpAny_pure hq | exact wpAny_rule hq
      · split
        · exact B1
        · exact B2
      · intro h' hsb hS'; dsimp only; exact wpAny_pure (h h' _ hsb hS')
    · refine wpAny_bind (wpAny_pure ?_)
      simp only [↓reduceIte]
      refine addTail_x ?_ ho B1 ?_
      · intro b s₁ Q' hq; cases b <;> first | exact wpAny_pure hq | exact wpAny_rule hq
      · intro h' hsb hS'; dsimp only; exact wpAny_pure (h h' _ hsb hS')
end
end Mine

namespace Mine
open PySem PySem.W PySem.Calls PyProof.Rows

def ddStep {K : Type} [DecidableEq K] (σ : List K) (k : K) : List K := if k ∈ σ then σ else σ ++ [k]
def dd {K : Type} [DecidableEq K] (l : List K) : List K := l.foldl ddStep []
theorem dd_snoc {K : Type} [DecidableEq K] (l : List K) (k : K) : dd (l ++ [k]) = if k ∈ dd l then dd l else dd l ++ [k] := by
  unfold dd; rw [List.foldl_append]; rfl
theorem ddFold_length {K : Type} [DecidableEq K] : ∀ (l σ : List K), (l.foldl ddStep σ).length ≤ σ.length + l.length
  | [], σ => by simp
  | k :: l, σ => by
    have h1 := ddFold_length l (ddStep σ k)
    have h2 : (ddStep σ k).length ≤ σ.length + 1 := by unfold ddStep; split <;> simp
    simp only [List.foldl_cons, List.length_cons]; omega
theorem dd_length {K : Type} [DecidableEq K] (l : List K) : (dd l).length ≤ l.length := by
  have := ddFold_length l []
  simpa [dd] using this

section
variable {prog : Program} {w : World} {K : Type} [DecidableEq K] {knd : PySem.KeyKind prog w K} {kf : Value → K}

theorem SetAt.at {h h' : Heap} {a : Addr} {ks : List K} (x : SetAt knd kf h a ks) (k : ∀ o, h.get? a = some o → h'.get? a = some o) : SetAt knd kf h' a ks :=
  let ⟨es, ep, t, ho, B⟩ := x; ⟨es, ep, t, k _ ho, B⟩

theorem updateLoop_x {A : Around} {R : Result → Shared → Prop} {I : Addr} {fp wr : List Addr} {G : Array GenState → Array GenState → Prop} {n : Nat} {P : Nat → Value → Prop} {St : Nat → Shared → Prop}
    (W : WalksS prog w A.in1 I fp wr G n P St) (S : Addr) (hSf : S ∉ fp)
    (val : Nat → K) (hval : ∀ i v, P i v → knd.is (val i) v = true ∧ kf v = val i ∧ v.scannable = true) (hb : n + 1 < scanBound) :
    ∀ (k i : Nat) (s : Shared), n - i = k → i ≤ n → St i s →
      SetAt knd kf s.heap S (dd ((List.range i).map val)) →
      (∀ s', Moved (S :: wr) G s s' → SetAt knd kf s'.heap S (dd ((List.range n).map val)) → R (.ok (.ret .none)) s') →
      codeAny (model prog w) A (.builtin "set.update.loop" ⟨[.ref S, .ref I], []⟩) R s := by
  have hSw : S ∉ wr := fun h => hSf (W.sub _ h)
  have hsub : ∀ b ∈ wr, b ∈ S :: wr := fun b hb => List.mem_cons_of_mem _ hb
  intro k
  induction k with
  | zero =>
    intro i s hk hi hst hS hR
    have hin : i = n := by omega
    subst hin
    refine codeAny_builtin PyProof.Rows.F.entry_set_update_loop ?_
    rw [Around.under_plainId PyProof.Rows.F.plain_set_update_loop _]
    show wpAny _ A.in1 (pyNext (.ref I) >>= _) _ _ s
    refine wpAny_bind (W.done s _ _ hst fun s' hm => ?_)
    show wpAny _ A.in1 (ret Value.none) _ _ s'
    exact wpAny_pure (hR s' (hm.mono hsub) (hS.at fun o e => hm.heap S o hSw e))
  | succ k ih =>
    intro i s hk hi hst hS hR
    have hlt : i < n := by omega
    refine codeAny_builtin PyProof.Rows.F.entry_set_update_loop ?_
    rw [Around.under_plainId PyProof.Rows.F.plain_set_update_loop _]
    show wpAny _ A.in1 (pyNext (.ref I) >>= _) _ _ s
    refine wpAny_bind (W.item i s _ _ hlt hst fun v s' hP hst' hm => ?_)
    obtain ⟨hv1, hv2, hv3⟩ := hval i v hP
    have hS' := hS.at fun o e => hm.heap S o hSw e
    show wpAny _ A.in1 (holding [v] (setAdd S v) >>= _) _ _ s'
    refine wpAny_bind (wpAny_holding ?_)
    unfold setAdd
    refine wpAny_holding ?_
    refine wpAny_bind (knd.pyHash (k := val i) hv1 ?_)
    have hroom : (dd ((List.range i).map val)).length + 1 < scanBound := by
      have := dd_length ((List.range i).map val)
      simp at this; omega
    refine setAddHashed_x (knd := knd) (s := { s' with toks := s'.toks + 1 }) hv1 hv2 hv3 hS' hroom fun h' b hsb hS2 => ?_
    have hSi : SetAt knd kf h' S (dd ((List.range (i + 1)).map val)) := by
      rw [List.range_succ, List.map_append, List.map_cons, List.map_nil, dd_snoc]; exact hS2
    refine wpAny_pure ⟨plainId_quiet PyProof.Rows.F.plain_set_update_loop _, ih (i + 1) _ (by omega) hlt (W.frame _ s' _ _ hst' (Nat.le_succ _) fun b hb o e => ?_) hSi fun s'' hm'' hS'' => ?_⟩
    · rw [hsb.2 b (fun h : b = S => hSf (by rw [← h]; exact hb))]; exact e
    · refine hR s'' (Moved.trans W.gtrans ((hm.mono hsub).then_heap (Nat.le_succ _) fun b o hb e => ?_) hm'') hS''
      rw [hsb.2 b (fun h : b = S => hb (by rw [h]; exact List.mem_cons_self))]; exact e

theorem set_new_led (a : Value) {A : Around} {E : Value → Shared → Prop} {s : Shared} {Q₁ : Value → Shared → Prop}
    (h : Q₁ (.ref s.heap.objs.size) { s with heap := s.heap.push { cls := .type "set", dict := none, data := .set #[] 0 (.fresh 0 0 (!w.params.followText "set-order")) } }) :
    codeAny (model prog w) A (.call (.builtin "set.__new__") ⟨[.type "set", a], []⟩) (wants Q₁ E) s := by
  refine codeAny_of_tree ?_
  show wpAny _ A.in1 (do checkBuiltinCall "set.__new__" ⟨[.type "set", a], []⟩; again (.builtin "set.__new__" ⟨[.type "set", a], []⟩)) _ _ s
  refine wpAny_bind (wpAny_of_eq (PySem.F.newCall_set_1 a) (wpAny_pure ⟨plainId_quiet PySem.F.plain_set_new _, codeAny_builtin PySem.F.entry_set_new ?_⟩))
  rw [Around.under_plainId PySem.F.plain_set_new _]
  unfold Builtin.«set.__new__» Builtin.Frozenset.newClass
  have hsub := sub_set_self
  obtain ⟨hp, g, d, tk, os⟩ := s
  dsimp only
  wp_walk
  refine wpAny_askSetting (wpAny_pure ?_)
  dsimp only
  simp only [newObj]
  refine wpAny_bind (wpAny_alloc (wpAny_pure ?_))
  exact wpAny_pure h
end
end Mine

namespace Mine
open PySem PySem.W PySem.Calls PyProof.Rows

section
variable {prog : Program} {w : World} {A : Around} {E : Value → Shared → Prop} {s : Shared}
theorem sub_str_set : isSubtype (.type "str") (.type "set") = pure false := by rw [isSubtype_type]; kernel_rfl
theorem sub_str_frozenset : isSubtype (.type "str") (.type "frozenset") = pure false := by rw [isSubtype_type]; kernel_rfl

abbrev freshSet (w : World) : Obj := { cls := .type "set", dict := none, data := .set #[] 0 (.fresh 0 0 (!w.params.followText "set-order")) }
theorem freshSet_at {K : Type} [DecidableEq K] {knd : PySem.KeyKind prog w K} {kf : Value → K} {h : Heap} {a : Addr} (ho : h.get? a = some (freshSet w)) : SetAt knd kf h a [] :=
  ⟨#[], 0, _, ho, fun e he => by simp at he, fun e he => by simp at he, by simp, by decide, rfl, by cases w.params.followText "set-order" <;> simp [SetTable.fresh], ⟨by simp [Rise, SetTable.fresh], rfl⟩⟩

set_option maxHeartbeats 3200000 in
theorem call_set_gen {arg : Value} {R : Shared → Prop} {Q : Value → Shared → Prop}
    (hup : ∀ E', wpAny (model prog w) A.in1.in1 (Builtin.Frozenset.updateFrom "set.__init__" s.heap.objs.size arg) (fun _ s₂ => R s₂) E' { s with heap := s.heap.push (freshSet w) })
    (hR : ∀ s₂, R s₂ → s₂.TypeIs (.ref s.heap.objs.size) "set")
    (h : ∀ s', R s' → Q (.ref s.heap.objs.size) s') :
    wpAny (model prog w) A (call (.type "set") [arg]) Q E s := by
  obtain ⟨c, tl, hmro⟩ := PySem.F.called_set.mro
  have hmade := PySem.F.called_set.made
  have hsub := PySem.F.called_set.sub
  refine wpAny_call (codeAny_of_tree ?_)
  show wpAny _ _ (callAny (.type "set") _) _ _ _
  refine wpAny_pure ⟨Code.quiet_builtin _ (by decide +kernel), codeAny_builtin PySem.F.entry_type_call ?_⟩
  rw [Around.under_plain (weight_type_call_type "set" [arg] []) rfl]
  have h1 := PySem.F.called_set.notType
  have h2 := PySem.F.called_set.canCreate
  have hct := PySem.F.typeCall_set_1 arg
  repeat (any_goals (first | assumption | wp_step))
  refine codeAny_mono (set_new_led arg (E := E) (Q₁ := fun obj s₁ => obj = .ref s.heap.objs.size ∧ s₁ = { s with heap := s.heap.push (freshSet w) }) ⟨rfl, rfl⟩) fun r s₁ hr => ?_
  cases r with
  | error e => exact hr
  | ok fl =>
    cases fl with
    | ret obj =>
      obtain ⟨rfl, rfl⟩ := hr
      have hS : (s.heap.push (freshSet w)).get? s.heap.objs.size = some (freshSet w) := Heap.get?_push_size _ rfl
      have hT : Shared.TypeIs { s with heap := s.heap.push (freshSet w) } (.ref s.heap.objs.size) "set" := ⟨_, hS, rfl⟩
      have hli := PySem.F.called_set.init.lookup
      have hbi := PySem.F.called_set.init.bind (.ref s.heap.objs.size)
      repeat (any_goals (first | assumption | wp_step))
      refine codeAny_mono (codeAny_call_builtin (R := wants (fun r s₂ => r = .none ∧ R s₂) E) PySem.F.called_set.init.plain PySem.F.entry_set_init (check_set_init_1 hT ?_)) fun r₂ s₂ hr₂ => ?_
      · unfold Builtin.«set.__init__» noKeywords
        generalize hU : Builtin.Frozenset.updateFrom = U at hup
        wp_walk
        refine wpAny_mono (hup _) (fun _ s₂ hr => ?_) fun _ _ e => e
        exact wpAny_pure ⟨rfl, hr⟩
      · cases r₂ with
        | error e => exact hr₂
        | ok fl₂ =>
          cases fl₂ with
          | ret r =>
            obtain ⟨rfl, hr⟩ := hr₂
            have hT₂ := hR _ hr
            repeat (any_goals (first | assumption | wp_step))
            exact h _ hr
          | _ => exact hr₂.elim
    | _ => exact hr.elim
end
end Mine

namespace Mine
open PySem PySem.W PySem.Calls PyProof.Rows

theorem owner_si : Manifest.owners.lookup (String.ofList ['r', 'o', 't', 'a', 'r', 'e', 't', 'i', '_', 't', 'e', 's'].reverse) = some Manifest.sig_set_iterator := by kernel_rfl
theorem slot_si_next : Slot "set_iterator" "__next__" "set_iterator.__next__" :=
  .of (owner := "set_iterator") (n := "__next__") (by rw [typeLookup_type, builtinLookup_eq_fast]; kernel_rfl) (by decide +kernel) (by decide +kernel) (by decide +kernel)
    (by first | exact .inl (by decide +kernel) | exact .inr (by decide +kernel)) (by rw [isSubtype_type]; kernel_rfl)
theorem entry_si_next : entryFor table "set_iterator.__next__" = some Builtin.«set_iterator.__next__» := entryFor_of_tree (by kernel_rfl)
theorem args_si_next (a : Value) : argsOk "set_iterator.__next__" ⟨[a], []⟩ := by
  unfold argsOk; rw [signature?_of (id := "set_iterator.__next__") (n := ['_', '_', 't', 'x', 'e', 'n', '_', '_']) (o := ['r', 'o', 't', 'a', 'r', 'e', 't', 'i', '_', 't', 'e', 's']) (by kernel_rfl) owner_si]; kernel_rfl
theorem slot_si_iter : Slot "set_iterator" "__iter__" "set_iterator.__iter__" :=
  .of (owner := "set_iterator") (n := "__iter__") (by rw [typeLookup_type, builtinLookup_eq_fast]; kernel_rfl) (by decide +kernel) (by decide +kernel) (by decide +kernel)
    (by first | exact .inl (by decide +kernel) | exact .inr (by decide +kernel)) (by rw [isSubtype_type]; kernel_rfl)
theorem entry_si_iter : entryFor table "set_iterator.__iter__" = some Builtin.«dict_keyiterator.__iter__» :=
  entryFor_alias (id' := "dict_keyiterator.__iter__") (by kernel_rfl) rfl (by decide +kernel) (by kernel_rfl)
theorem args_si_iter (a : Value) : argsOk "set_iterator.__iter__" ⟨[a], []⟩ := by unfold argsOk; kernel_rfl
theorem entry_set_iter : entryFor table "set.__iter__" = some Builtin.«frozenset.__iter__» :=
  entryFor_alias (id' := "frozenset.__iter__") (by kernel_rfl) rfl (by decide +kernel) (by kernel_rfl)

section
variable {prog : Program} {w : World}

theorem erase_perm {α : Type} : ∀ {l : List α} {i : Nat} (h : i < l.length), (l[i] :: l.eraseIdx i).Perm l
  | [], i, h => by simp at h
  | a :: l, 0, h => by simp
  | a :: l, i + 1, h => by
    have h' : i < l.length := by simpa using h
    simp only [List.getElem_cons_succ, List.eraseIdx_cons_succ]
    exact (List.Perm.swap a l[i] _).trans ((erase_perm h').cons a)
theorem pick_perm {α : Type} (next : Nat → Nat) : ∀ (fuel k : Nat) (left : List α) (out : Array α), left.length = fuel → ∃ l : List α, l.Perm left ∧ (pickOrder.go next fuel k left out).toList = out.toList ++ l
  | 0, k, left, out, h => by
    have : left = [] := List.eq_nil_of_length_eq_zero h
    subst this
    exact ⟨[], .refl _, by simp [pickOrder.go]⟩
  | fuel + 1, k, left, out, h => by
    unfold pickOrder.go
    have hlt : next k % left.length < left.length := Nat.mod_lt _ (by omega)
    rw [List.getElem?_eq_getElem hlt]
    dsimp only
    obtain ⟨l, hp, hl⟩ := pick_perm next fuel (k + 1) (left.eraseIdx (next k % left.length)) (out.push left[next k % left.length]) (by rw [List.length_eraseIdx, if_pos hlt]; omega)
    refine ⟨left[next k % left.length] :: l, ?_, by rw [hl]; simp⟩
    exact (List.Perm.cons _ hp).trans (erase_perm hlt)

theorem drawOrder_x {α : Type} {A : Around} {E : Value → Shared → Prop} : ∀ (n : Nat) (xs : List α) (s : Shared) (Q : List α → Shared → Prop), xs.length = n →
    (∀ l d, l.Perm xs → Q l { s with drawn := d }) → wpAny (model prog w) A (drawOrder n xs) Q E s
  | 0, xs, s, Q, hn, h => by
    have : xs = [] := List.eq_nil_of_length_eq_zero hn
    subst this
    exact wpAny_pure (h [] s.drawn (.refl _))
  | n + 1, [], s, Q, hn, h => by simp at hn
  | n + 1, x :: xs, s, Q, hn, h => by
    unfold drawOrder
    have hch : ∀ (Q' : Nat → Shared → Prop), (∀ i d, i < (x :: xs).length → Q' i { s with drawn := d }) → wpAny (model prog w) A (choose .order (x :: xs).length) Q' E s := by
      intro Q' hq Γ p _
      show Sem.wp _ _ (Sem.choose _ _ _) _ _ _ _
      rw [Sem.wp_choose]
      exact ⟨by simp, hq _ _ (Nat.mod_lt _ (by simp))⟩
    refine wpAny_bind (hch _ fun i d hi => ?_)
    rw [List.getElem?_eq_getElem hi]
    dsimp only
    refine wpAny_bind (drawOrder_x n _ _ _ (by rw [List.length_eraseIdx, if_pos hi]; omega) fun l d' hp => wpAny_pure ?_)
    exact h _ d' ((List.Perm.cons _ hp).trans (erase_perm hi))

variable {K : Type} [DecidableEq K] {knd : PySem.KeyKind prog w K} {kf : Value → K}

abbrev setObj (es : Array (Int × Value)) (ep : Nat) (t : SetTable) : Obj := { cls := .type "set", data := .set es ep t }

theorem setsByText_x {A : Around} {E : Value → Shared → Prop} {s : Shared} {Q : Bool → Shared → Prop} (h : Q (w.params.followText "set-order") s) : wpAny (model prog w) A setsByText Q E s := by
  unfold setsByText
  exact wpAny_bind (wpAny_askSetting (wpAny_pure h))

/-- the walk of a set whose order is not drawn: the values in some order -/
theorem setNext_x {es : Array (Int × Value)} {ep : Nat} {t : SetTable} {ks : List K} (B : SetBody knd kf es t ks) (a : Addr)
    (hnd : w.params.followText "set-order" = true ∨ (!t.plain && decide (es.size > 1)) = false) :
    ∃ (vals : List Value) (slotAt : Nat → Nat), slotAt 0 = 0 ∧ vals.Perm (es.toList.map (·.2)) ∧
      ∀ (i : Nat) (A : Around) (E : Value → Shared → Prop) (s : Shared) (Q : Option (Value × Nat) → Shared → Prop), i ≤ es.size → s.heap.get? a = some (setObj es ep t) →
        Q ((vals[i]?).map fun v => (v, slotAt (i + 1))) s → wpAny (model prog w) A (setNext a (slotAt i) i ep) Q E s := by
  cases hbt : w.params.followText "set-order" with
  | true =>
    obtain ⟨l, hp, hl⟩ := pick_perm (w.params.setOrder a ep) es.size 0 es.toList #[] (by simp)
    refine ⟨l.map (·.2), fun _ => 0, rfl, hp.map _, fun i A E s Q hi ho h => ?_⟩
    unfold setNext
    refine wpAny_bind (wpAny_setState_of ho rfl B.fits ?_)
    dsimp only
    refine wpAny_bind (setsByText_x ?_)
    rw [hbt, if_pos rfl, if_neg (by simp)]
    refine wpAny_bind ?_
    unfold setWalk
    refine wpAny_bind (wpAny_setState_of ho rfl B.fits ?_)
    dsimp only
    refine wpAny_bind (setsByText_x ?_)
    rw [hbt, if_pos rfl]
    refine wpAny_bind (wpAny_askSetting (wpAny_pure (wpAny_pure ?_)))
    have e : ((pickOrder (w.params.setOrder a ep) es)[i]?).map (fun e => (e.2, 0)) = ((l.map (·.2))[i]?).map fun v => (v, 0) := by
      have : (pickOrder (w.params.setOrder a ep) es).toList = l := by unfold pickOrder; rw [hl]; rfl
      rw [← Array.getElem?_toList, this, List.getElem?_map, Option.map_map]
      rfl
    show Q (((pickOrder (w.params.setOrder a ep) es)[i]?).map fun e => (e.2, 0)) s
    rw [e]; exact h
  | false =>
    have hnd' : (!t.plain && decide (es.size > 1)) = false := hnd.resolve_left (by rw [hbt]; decide)
    have hled : t.led = true := B.led.resolve_right (by rw [hbt]; decide)
    have hps : t.place.size = es.size := by
      have := B.fits
      simp only [SetTable.fits, Bool.and_eq_true, beq_iff_eq] at this
      exact this.1
    refine ⟨es.toList.map (·.2), fun i => if i = 0 then 0 else t.place.getD (i - 1) 0 + 1, rfl, .refl _, fun i A E s Q hi ho h => ?_⟩
    unfold setNext
    refine wpAny_bind (wpAny_setState_of ho rfl B.fits ?_)
    dsimp only
    refine wpAny_bind (setsByText_x ?_)
    rw [hbt, if_neg Bool.false_ne_true]
    have hdr : ¬ ((!t.plain && decide (es.size > 1)) = true) := by rw [hnd']; decide
    show wpAny _ _ (if (!t.plain && decide (es.size > 1)) = true then _ else _) _ _ _
    rw [if_neg hdr]
    have hml : ¬ ((!t.led && !es.isEmpty) = true) := by rw [hled]; simp
    refine wpAny_bind ?_
    show wpAny _ _ (if (!t.led && !es.isEmpty) = true then _ else _) _ _ _
    rw [if_neg hml]
    refine wpAny_pure ?_
    have hbel : i < es.size → SetTable.below t.place (if i = 0 then 0 else t.place.getD (i - 1) 0 + 1) = i := by
      intro hlt
      refine below_at B.neat.rise (by omega) _ ?_ ?_
      · by_cases h0 : i = 0
        · exact .inl h0
        · refine .inr ⟨by omega, ?_⟩
          rw [if_neg h0]
          have : t.place.getD (i - 1) 0 = t.place[i - 1] := by simp [Array.getD, show i - 1 < t.place.size by omega]
          omega
      · by_cases h0 : i = 0
        · rw [if_pos h0]; omega
        · rw [if_neg h0]
          have h1 : t.place.getD (i - 1) 0 = t.place[i - 1] := by simp [Array.getD, show i - 1 < t.place.size by omega]
          have := B.neat.rise.lt (i := i - 1) (j := i) (by omega) (by omega) (by omega)
          omega
    by_cases hlt : i < es.size
    · have hb := hbel hlt
      refine wpAny_pure ?_
      rw [hb]
      have e1 : es[i]? = some es[i] := Array.getElem?_eq_getElem hlt
      have e2 : t.place[i]? = some t.place[i] := Array.getElem?_eq_getElem (by omega)
      have e3 : (es.toList.map (·.2))[i]? = some es[i].2 := by simp [hlt]
      rw [e3] at h
      rw [e1, e2]
      dsimp only at h ⊢
      have e4 : t.place.getD (i + 1 - 1) 0 = t.place[i] := by simp [Array.getD, show i < t.place.size by omega]
      rw [Option.map_some, if_neg (by omega), e4] at h
      exact h
    · have hin : i = es.size := by omega
      have hb : es[SetTable.below t.place (if i = 0 then 0 else t.place.getD (i - 1) 0 + 1)]? = none := by
        rw [Array.getElem?_eq_none_iff]
        by_cases h0 : i = 0
        · omega
        · rw [if_neg h0]
          obtain ⟨b1, b2, b3⟩ := below_spec B.neat.rise (t.place.getD (i - 1) 0 + 1)
          have h1 : t.place.getD (i - 1) 0 = t.place[i - 1] := by simp [Array.getD, show i - 1 < t.place.size by omega]
          have : ¬ SetTable.below t.place (t.place.getD (i - 1) 0 + 1) ≤ i - 1 := fun q => by
            have := b3 (i - 1) (by omega) q
            omega
          omega
      refine wpAny_pure ?_
      rw [hb]
      have e3 : (es.toList.map (·.2))[i]? = none := by rw [List.getElem?_eq_none_iff]; simp; omega
      rw [e3] at h
      exact h

abbrev siObj (first : Value) (i : Nat) (a : Addr) (n ep : Nat) : Obj := { cls := .type "set_iterator", data := .fields #[first, .int i 0, .ref a, .int n 0, .int ep 0] }

section
variable {A : Around} {E : Value → Shared → Prop} {s : Shared}

theorem stop_tail (hh : A.handled = none) {Q : Option Value → Shared → Prop} {R : Fin → Shared → Prop} (hQ : ∀ h', (∀ b o, s.heap.get? b = some o → h'.get? b = some o) → Q none { s with heap := h' }) :
    wpAny (model prog w) A.in1 (do let e ← newExc (.type "StopIteration") []; raiseNew e) R
      (fun e s' => wpAny (model prog w) A (do let b ← isInstance e (Value.type "StopIteration"); if b = true then pure none else throw e) Q E s') s := by
  refine wpAny_bind ?_
  simp only [newExc, newTuple]
  refine wpAny_bind (wpAny_newObj_type ?_ (by size_fits))
  refine wpAny_bind (m := firstArgMember _ _) (wpAny_of_eq (a := Value.none) (by first | rfl | (simp only [firstArgMember]; rfl)) ?_)
  refine wpAny_newObj_type ?_ (by size_fits)
  simp only [raiseNew]
  refine wpAny_bind (wpAny_handled ?_)
  rw [show A.in1.handled = none from hh]
  refine wpAny_bind (wpAny_pure (wpAny_throw ?_))
  refine wpAny_bind (wpAny_isInstance (T := "StopIteration") (b := true) ⟨_, Heap.get?_push_size _ rfl, rfl⟩ isSubtype_stop ?_)
  exact wpAny_pure (hQ _ fun b o e => Heap.get?_push_of_some _ (Heap.get?_push_of_some _ e))

theorem si_head {I a : Addr} {es : Array (Int × Value)} {ep : Nat} {t : SetTable} {ks : List K} {first : Value} {i : Nat} (B : SetBody knd kf es t ks)
    (hI : s.heap.get? I = some (siObj first i a es.size ep)) (ha : s.heap.get? a = some (setObj es ep t)) {Q : Option Value → Shared → Prop}
    (h : wpAny (model prog w) A.in1 (match first with
        | Value.int slot tok => do
          let r ← setNext a slot.toNat i ep
          match r with
          | some (x, next) => do
            setField (Value.ref I) 0 (rawInt next)
            setField (Value.ref I) 1 (rawInt ((i : Int) + 1))
            ret x
          | none => do
            setField (Value.ref I) 2 Value.none
            let e ← newExc (Value.type "StopIteration") []
            raiseNew e
        | _ => do
          let r ← seqItems? first
          match r with
          | some places =>
            match places[i]? with
            | some (Value.int place tok) => do
              let x ← setNextDrawn a place.toNat ep
              setField (Value.ref I) 1 (rawInt ((i : Int) + 1))
              ret x
            | some val => unsupported "internal:set_iterator"
            | none => do
              setField (Value.ref I) 0 (rawInt 0)
              setField (Value.ref I) 2 Value.none
              let e ← newExc (Value.type "StopIteration") []
              raiseNew e
          | _ => unsupported "internal:set_iterator")
      (fun fin s' => ∃ v, fin = Fin.done (Flow.ret v) ∧ Q (some v) s')
      (fun e s' => wpAny (model prog w) A (do let b ← isInstance e (Value.type "StopIteration"); if b = true then pure none else throw e) Q E s') s) :
    wpAny (model prog w) A (pyNext (.ref I)) Q E s := by
  have hT : s.TypeIs (.ref I) "set_iterator" := ⟨_, hI, rfl⟩
  unfold pyNext
  refine wpAny_bind (wpAny_attempt (wpAny_callSpecial?_slot (name := Str.ofString "__next__") hT slot_si_next
    (wpAny_call_entry slot_si_next hT entry_si_next ?_ (args_si_next _))))
  show wpAny _ _ (fieldsOf (.ref I) >>= _) _ _ s
  refine wpAny_bind (wpAny_fieldsOf hI rfl ?_)
  dsimp only
  refine wpAny_bind (wpAny_setEntries_of ha rfl B.fits ?_)
  rw [if_neg (by simp)]
  exact wpAny_mono h (fun fin s' ⟨v, hv, hq⟩ => ⟨v, hv, wpAny_pure hq⟩) fun _ _ e => e

/-- by the table's own order -/
theorem si_walks {a I : Addr} (hne : a ≠ I) {es : Array (Int × Value)} {ep : Nat} {t : SetTable} {ks : List K} (hh : A.handled = none) (B : SetBody knd kf es t ks) {vals : List Value} {slotAt : Nat → Nat} (hlen : vals.length = es.size)
    (hnext : ∀ (i : Nat) (A : Around) (E : Value → Shared → Prop) (s : Shared) (Q : Option (Value × Nat) → Shared → Prop), i ≤ es.size → s.heap.get? a = some (setObj es ep t) →
        Q ((vals[i]?).map fun v => (v, slotAt (i + 1))) s → wpAny (model prog w) A (setNext a (slotAt i) i ep) Q E s) :
    Walks prog w A I [I, a] [I] es.size (fun i v => vals[i]? = some v) (fun i h => h.get? I = some (siObj (.int (slotAt i) 0) i a es.size ep) ∧ h.get? a = some (setObj es ep t)) where
  sub := fun b hb => by simp at hb; simp [hb]
  frame := fun i h h' st hk => ⟨hk I (by simp) _ st.1, hk a (by simp) _ st.2⟩
  item := fun i s Q E hi st hQ => by
    refine si_head B st.1 st.2 ?_
    dsimp only
    refine wpAny_bind (hnext i _ _ s _ (Nat.le_of_lt hi) st.2 ?_)
    have hv : vals[i]? = some vals[i] := List.getElem?_eq_getElem (by omega)
    rw [hv, Option.map_some]
    dsimp only
    refine wpAny_bind (wpAny_setField_rec st.1 (by simp) fun h1 g1 k1 => ?_)
    refine wpAny_bind (wpAny_setField_rec g1 (by simp) fun h2 g2 k2 => ?_)
    refine wpAny_pure ⟨_, rfl, ?_⟩
    refine hQ _ h2 s.toks hv ⟨?_, ?_⟩ fun b o hb e => ?_
    · rw [g2]; simp [rawInt]
    · rw [k2.2 a hne, k1.2 a hne]; exact st.2
    · have hbI : b ≠ I := fun q => hb (by simp [q])
      rw [k2.2 b hbI, k1.2 b hbI]; exact e
  done := fun s Q E st hQ => by
    refine si_head B st.1 st.2 ?_
    dsimp only
    refine wpAny_bind (hnext _ _ _ s _ (Nat.le_refl _) st.2 ?_)
    have hv : vals[es.size]? = none := List.getElem?_eq_none (by omega)
    rw [hv, Option.map_none]
    dsimp only
    refine wpAny_bind (wpAny_setField_rec st.1 (by simp) fun h1 g1 k1 => ?_)
    refine stop_tail hh fun h' hk => hQ h' s.toks fun b o hb e => ?_
    have hbI : b ≠ I := fun q => hb (by simp [q])
    exact hk b o (by rw [k1.2 b hbI]; exact e)
  self := fun i s Q E st hQ => by
    have hT : s.TypeIs (.ref I) "set_iterator" := ⟨_, st.1, rfl⟩
    refine wpAny_pyIter_slot hT slot_si_iter (wpAny_call_entry slot_si_iter hT entry_si_iter ?_ (args_si_iter _))
    show wpAny _ _ (ret (.ref I)) _ _ s
    exact wpAny_pure ⟨_, rfl, "set_iterator", _, hT, slot_si_next.lookup, hQ⟩

/-- by a drawn order -/
theorem si_walksD {a I T : Addr} (hne : a ≠ I) (hnT : T ≠ I) {es : Array (Int × Value)} {ep : Nat} {t : SetTable} {ks : List K} (hh : A.handled = none) (B : SetBody knd kf es t ks) {order : List Nat} (hp : order.Perm (List.range es.size)) :
    Walks prog w A I [I, a, T] [I] es.size (fun i v => (order.map fun j => (es[j]?.map (·.2)).getD .none)[i]? = some v)
      (fun i h => h.get? I = some (siObj (.ref T) i a es.size ep) ∧ h.get? a = some (setObj es ep t) ∧ IsTup h T (order.map fun (j : Nat) => rawInt j).toArray) where
  sub := fun b hb => by simp at hb; simp [hb]
  frame := fun i h h' st hk => ⟨hk I (by simp) _ st.1, hk a (by simp) _ st.2.1, let ⟨o, ho, r⟩ := st.2.2; ⟨o, hk T (by simp) _ ho, r⟩⟩
  item := fun i s Q E hi st hQ => by
    refine si_head B st.1 st.2.1 ?_
    dsimp only
    obtain ⟨oT, hoT, hcT, nT, hdT⟩ := id st.2.2
    refine wpAny_bind (wpAny_seqItems hoT hdT ?_)
    have hlen : order.length = es.size := by have := hp.length_eq; simpa using this
    have hjl : order[i]? = some order[i] := List.getElem?_eq_getElem (by omega)
    have hpl : (order.map fun (j : Nat) => rawInt j).toArray[i]? = some (rawInt order[i]) := by simp [show i < order.length by omega]
    dsimp only
    rw [hpl]
    have hj : order[i] < es.size := by
      have : order[i] ∈ List.range es.size := hp.mem_iff.mp (List.getElem_mem _)
      simpa using this
    show wpAny _ _ (setNextDrawn a (((order[i] : Nat) : Int)).toNat ep >>= _) _ _ _
    rw [Int.toNat_natCast]
    refine wpAny_bind ?_
    unfold setNextDrawn
    refine wpAny_bind (wpAny_setState_of st.2.1 rfl B.fits ?_)
    dsimp only
    rw [if_neg (by simp), Array.getElem?_eq_getElem hj]
    refine wpAny_pure ?_
    refine wpAny_bind (wpAny_setField_rec st.1 (by simp) fun h1 g1 k1 => ?_)
    refine wpAny_pure ⟨_, rfl, ?_⟩
    refine hQ _ h1 s.toks ?_ ⟨?_, ?_, ?_⟩ fun b o hb e => ?_
    · rw [List.getElem?_map, hjl, Option.map_some, Array.getElem?_eq_getElem hj]; rfl
    · rw [g1]; simp [rawInt]
    · rw [k1.2 a hne]; exact st.2.1
    · exact ⟨oT, (k1.2 T hnT).trans hoT, hcT, nT, hdT⟩
    · have hbI : b ≠ I := fun q => hb (by simp [q])
      rw [k1.2 b hbI]; exact e
  done := fun s Q E st hQ => by
    refine si_head B st.1 st.2.1 ?_
    dsimp only
    obtain ⟨oT, hoT, hcT, nT, hdT⟩ := id st.2.2
    refine wpAny_bind (wpAny_seqItems hoT hdT ?_)
    have hlen : order.length = es.size := by have := hp.length_eq; simpa using this
    have hpl : (order.map fun (j : Nat) => rawInt j).toArray[es.size]? = none := by rw [Array.getElem?_eq_none_iff]; simp; omega
    dsimp only
    rw [hpl]
    refine wpAny_bind (wpAny_setField_rec st.1 (by simp) fun h1 g1 k1 => ?_)
    refine wpAny_bind (wpAny_setField_rec g1 (by simp) fun h2 g2 k2 => ?_)
    refine stop_tail hh fun h' hk => hQ h' s.toks fun b o hb e => ?_
    have hbI : b ≠ I := fun q => hb (by simp [q])
    exact hk b o (by rw [k2.2 b hbI, k1.2 b hbI]; exact e)
  self := fun i s Q E st hQ => by
    have hT : s.TypeIs (.ref I) "set_iterator" := ⟨_, st.1, rfl⟩
    refine wpAny_pyIter_slot hT slot_si_iter (wpAny_call_entry slot_si_iter hT entry_si_iter ?_ (args_si_iter _))
    show wpAny _ _ (ret (.ref I)) _ _ s
    exact wpAny_pure ⟨_, rfl, "set_iterator", _, hT, slot_si_next.lookup, hQ⟩
end
end
end Mine

namespace Mine
open PySem PySem.W PySem.Calls PyProof.Rows

section
variable {prog : Program} {w : World} {K : Type} [DecidableEq K] {knd : PySem.KeyKind prog w K} {kf : Value → K} {A : Around} {E : Value → Shared → Prop} {s : Shared}

theorem drawnVals_perm {es : Array (Int × Value)} {order : List Nat} (hp : order.Perm (List.range es.size)) :
    (order.map fun j => (es[j]?.map (·.2)).getD .none).Perm (es.toList.map (·.2)) := by
  refine (hp.map _).trans (List.Perm.of_eq ?_)
  apply List.ext_getElem?
  intro i
  by_cases hi : i < es.size
  · simp [hi]
  · rw [List.getElem?_eq_none (by simpa using hi), List.getElem?_eq_none (by simpa using hi)]

theorem iterSet_x {a : Addr} {es : Array (Int × Value)} {ep : Nat} {t : SetTable} {ks : List K} {Q : Value → Shared → Prop} (ha : s.heap.get? a = some (setObj es ep t)) (B : SetBody knd kf es t ks)
    (h : ∀ (I : Addr) (fp : List Addr) (vals : List Value) (St : Nat → Heap → Prop) (s' : Shared), (∀ A' : Around, A'.handled = none → Walks prog w A' I fp [I] es.size (fun i v => vals[i]? = some v) St) →
      vals.Perm (es.toList.map (·.2)) → St 0 s'.heap → (∀ b ∈ fp, b < s'.heap.objs.size) → Ext s s' → (∀ b ∈ fp, b = a ∨ s.heap.get? b = none) → s.heap.get? I = none → Q (.ref I) s') :
    wpAny (model prog w) A (pyIter (.ref a)) Q E s := by
  have hT : s.TypeIs (.ref a) "set" := ⟨_, ha, rfl⟩
  have halt : a < s.heap.objs.size := Heap.lt_size ha
  refine wpAny_pyIter_slot hT PySem.F.slot_set_iter (wpAny_call_entry PySem.F.slot_set_iter hT entry_set_iter ?_ (PySem.F.args_set_iter_1 _))
  unfold Builtin.«frozenset.__iter__» Builtin.Frozenset.slot0 slotArgs Builtin.Frozenset.addrOf Builtin.Frozenset.sizeOf
  refine wpAny_bind (wpAny_bind (wpAny_pure (wpAny_pure ?_)))
  refine wpAny_bind (wpAny_bind (wpAny_setEntries_of ha rfl B.fits (wpAny_pure ?_)))
  refine wpAny_bind ?_
  unfold setDrawn
  refine wpAny_bind (wpAny_setState_of ha rfl B.fits ?_)
  dsimp only
  refine wpAny_bind (setsByText_x (wpAny_pure ?_))
  show wpAny _ _ (if (!w.params.followText "set-order" && (!t.plain && decide (es.size > 1))) = true then _ else _) _ _ _
  by_cases hc : (!w.params.followText "set-order" && (!t.plain && decide (es.size > 1))) = true
  · rw [if_pos hc]
    refine wpAny_bind (drawOrder_x es.size (List.range es.size) _ _ (by simp) fun order d hp => ?_)
    have hlen : order.length = es.size := by have := hp.length_eq; simpa using this
    have hsml := B.small
    refine wpAny_bind (newTuple_x (fun T s₁ x1 hT1 T1 => ?_) (by rw [List.length_map, hlen]; exact fits_of_scanBound hsml))
    have ha1 : s₁.heap.get? a = some (setObj es ep t) := x1.keep _ _ ha
    refine wpAny_bind (wpAny_setEpoch_of ha1 rfl B.fits ?_)
    refine wpAny_bind (wpAny_newObj_type ?_)
    refine wpAny_pure ⟨_, rfl, "set_iterator", _, ⟨_, Heap.get?_push_size _ rfl, rfl⟩, slot_si_next.lookup, ?_⟩
    have halt1 : a < s₁.heap.objs.size := Heap.lt_size ha1
    have hT1lt : T < s₁.heap.objs.size := let ⟨_, q, _⟩ := T1; Heap.lt_size q
    have hsz : s.heap.get? s₁.heap.objs.size = none := (Ext.of_heap x1 : Ext s s₁).new (get_size _)
    refine h s₁.heap.objs.size [s₁.heap.objs.size, a, T] _ _ _ (fun A' hA' => si_walksD (ep := ep) (Nat.ne_of_lt halt1) (Nat.ne_of_lt hT1lt) hA' B hp) (drawnVals_perm hp) ⟨?_, ?_, ?_⟩ ?_ ?_ ?_ hsz
    · exact Heap.get?_push_size _ rfl
    · exact Heap.get?_push_of_some _ ha1
    · exact T1.push _
    · intro b hb
      show b < (s₁.heap.push _).objs.size
      rw [Heap.size_push]
      simp only [List.mem_cons, List.not_mem_nil, or_false] at hb
      rcases hb with rfl | rfl | rfl
      · exact Nat.lt_succ_self _
      · exact Nat.lt_succ_of_lt halt1
      · exact Nat.lt_succ_of_lt hT1lt
    · exact Ext.trans (Ext.of_heap x1) (ext_push s₁ _ s₁.toks)
    · intro b hb
      simp only [List.mem_cons, List.not_mem_nil, or_false] at hb
      rcases hb with rfl | rfl | rfl
      · exact .inr hsz
      · exact .inl rfl
      · exact .inr hT1
  · rw [if_neg hc]
    refine wpAny_bind (wpAny_pure ?_)
    refine wpAny_bind (wpAny_setEpoch_of ha rfl B.fits ?_)
    refine wpAny_bind (wpAny_newObj_type ?_)
    refine wpAny_pure ⟨_, rfl, "set_iterator", _, ⟨_, Heap.get?_push_size _ rfl, rfl⟩, slot_si_next.lookup, ?_⟩
    obtain ⟨vals, slotAt, h0, hvp, hnx⟩ := setNext_x (ep := ep) B a (by
      cases hb : w.params.followText "set-order" with
      | true => exact .inl rfl
      | false =>
        rw [hb] at hc
        right
        simpa using hc)
    refine h s.heap.objs.size [s.heap.objs.size, a] vals _ _ (fun A' hA' => si_walks (ep := ep) (Nat.ne_of_lt halt) hA' B (by have := hvp.length_eq; simpa using this) hnx) hvp ⟨?_, ?_⟩ ?_ ?_ ?_ (get_size _)
    · rw [h0]; exact Heap.get?_push_size _ rfl
    · exact Heap.get?_push_of_some _ ha
    · intro b hb
      show b < (s.heap.push _).objs.size
      rw [Heap.size_push]
      simp only [List.mem_cons, List.not_mem_nil, or_false] at hb
      rcases hb with rfl | rfl
      · exact Nat.lt_succ_self _
      · exact Nat.lt_succ_of_lt halt
    · exact ext_push s _ s.toks
    · intro b hb
      simp only [List.mem_cons, List.not_mem_nil, or_false] at hb
      rcases hb with rfl | rfl
      · exact .inr (get_size _)
      · exact .inl rfl

theorem set_len : typeLookup (.type "set") "__len__" = pure (some (.builtin "set.__len__")) := by rw [typeLookup_type, builtinLookup_eq_fast]; kernel_rfl

theorem collect_set {a : Addr} {es : Array (Int × Value)} {ep : Nat} {t : SetTable} {ks : List K} {Q : List Value → Shared → Prop} (hh : A.handled = none) (ha : s.heap.get? a = some (setObj es ep t)) (B : SetBody knd kf es t ks)
    (hQ : ∀ vals s', vals.Perm (es.toList.map (·.2)) → Ext s s' → Q vals s') : wpAny (model prog w) A (collect (.ref a)) Q E s := by
  have hn : es.size ≤ sizeLine := fits_of_scanBound B.small
  unfold collect
  refine wpAny_bind (wpAny_runValue (codeAny_builtin PySem.F.entry_proto_collect ?_))
  rw [Around.under_plainId PySem.F.plain_proto_collect _]
  show wpAny _ A.in1 (newList [] >>= fun l => again (.builtin "list.__iadd__" ⟨[l, .ref a], []⟩)) _ _ s
  refine wpAny_bind (newList_x fun S s₁ x1 hS P1 => ?_)
  refine wpAny_pure ⟨plainId_quiet PySem.F.plain_list_iadd _, codeAny_builtin PySem.F.entry_list_iadd ?_⟩
  rw [Around.under_plainId PySem.F.plain_list_iadd _]
  have ha1 : s₁.heap.get? a = some (setObj es ep t) := x1.keep _ _ ha
  have haS : a ≠ S := ne_some ha hS
  have hT : s₁.TypeIs (.ref a) "set" := ⟨_, ha1, rfl⟩
  show wpAny _ A.in1 (Builtin.List.listExtendWith (.ref S) (.ref a) (.ref S)) _ _ _
  unfold Builtin.List.listExtendWith
  refine wpAny_bind (wpAny_typeOf hT ?_)
  have h1 : Builtin.List.listSameRef (.ref S) (.ref a) = false := by simp [Builtin.List.listSameRef, Ne.symm haS]
  rw [if_neg (by rw [h1]; decide)]
  refine wpAny_bind (iterSet_x ha1 B fun I fp vals St s₂ W hvp hst hfp x2 hfn hI => ?_)
  refine wpAny_bind (wpAny_holding ?_)
  have ha2 : s₂.heap.get? a = some (setObj es ep t) := x2.keep _ _ ha1
  have hT2 : s₂.TypeIs (.ref a) "set" := ⟨_, ha2, rfl⟩
  unfold Builtin.List.listLengthHint
  refine wpAny_bind (wpAny_specialOf hT2 set_len ?_)
  generalize hid : ("set.__len__" : String) = id0
  wp_delta
  rw [show splitId id0 = some ("set", "__len__") from by subst hid; decide +kernel]
  subst hid
  refine wpAny_bind (wpAny_isInstance (b := true) hT2 sub_set_self ?_)
  show wpAny _ A.in1 (typeOf (Value.ref a) >>= _) _ _ _
  refine wpAny_bind (wpAny_typeOf hT2 ?_)
  refine wpAny_pure ?_
  rw [if_pos (by decide)]
  refine wpAny_bind (wpAny_rule ?_)
  obtain ⟨nS, hoS⟩ := plain_ext P1 x2
  have hSf : S ∉ fp := fun hm => by
    rcases hfn S hm with h | h
    · exact haS h.symm
    · exact ne_plain P1 h rfl
  refine wpAny_bind ?_
  unfold Builtin.List.listTouch
  refine wpAny_bind (PyProof.Rows.listUpdate_at hoS rfl ?_ (by decide) (by decide))
  have g1 := PyProof.Rows.get?_update_seq hoS (·.push Value.none)
  refine PyProof.Rows.listUpdate_at g1 rfl ?_ (by decide) (by decide)
  have g2 := PyProof.Rows.get?_update_seq g1 (·.pop)
  have k2 : ∀ b, b ≠ S → ((s₂.heap.update S (Obj.mapSeq (·.push Value.none))).update S (Obj.mapSeq (·.pop))).get? b = s₂.heap.get? b := fun b hb => by
    rw [(Heap.SameBut.update _ S _).2 b hb, (Heap.SameBut.update _ S _).2 b hb]
  have hst2 := (W A.in1 hh).frame 0 s₂.heap _ hst fun b hb o e => (k2 b fun q => hSf (q ▸ hb)).trans e
  refine wpAny_pure ⟨plainId_quiet PySem.F.plain_extend_loop _, codeAny_extend_loopS (W A.in1 hh).toS hn S hSf _ es.size 0 _ _ _ rfl (Nat.zero_le _) hst2 g2 (ItemsOf.nil _) fun s' acc' c' hm hS' hacc => ?_⟩
  show wpAny _ A (load S >>= _) _ _ s'
  refine wpAny_bind (wpAny_load hS' (wpAny_pure ?_))
  have hvl : vals.length = es.size := by have := hvp.length_eq; simpa using this
  have hacc' : acc'.toList = vals := by
    apply List.ext_getElem?
    intro i
    rw [Array.getElem?_toList]
    cases ho : acc'[i]? with
    | some v => exact (hacc.2 i v ho).symm
    | none =>
      have := Array.getElem?_eq_none_iff.mp ho
      rw [List.getElem?_eq_none (by have := hacc.1; omega)]
  rw [hacc']
  refine hQ vals s' hvp ⟨fun b o e => ?_, hm.gens.trans (x2.gens.trans x1.gens), hm.os.trans (x2.os.trans x1.os)⟩
  have hb1 : b ≠ S := ne_some e hS
  have hb2 : b ≠ I := ne_some (x1.keep b o e) hI
  refine hm.heap b o (by simp [hb1, hb2]) ?_
  exact (k2 b hb1).trans (x2.keep b o (x1.keep b o e))

end
end Mine

namespace Mine
open PySem PySem.W PySem.Calls PyProof.Rows

section
variable {prog : Program} {w : World} {K : Type} [DecidableEq K] {knd : PySem.KeyKind prog w K} {kf : Value → K} {A : Around} {E : Value → Shared → Prop} {s : Shared}

theorem sorted_old {h : Heap} {vals : List Value} {out : Array Value} {b : Addr} {o : Obj} (hb : h.get? b = some o) : (sortedHeap (h.push (seqObj "list" vals.toArray 0)) h.objs.size vals out).get? b = some o := by
  have hlt : b < h.objs.size := Heap.lt_size hb
  rw [sortedHeap_old (Nat.ne_of_lt hlt) (by rw [size_push']; exact Nat.lt_succ_of_lt hlt)]
  exact Heap.get?_push_of_some _ hb

theorem sorted_ext {vals : List Value} {out : Array Value} : Ext s { s with heap := sortedHeap (s.heap.push (seqObj "list" vals.toArray 0)) s.heap.objs.size vals out } := by
  constructor
  · intro b o hb
    exact sorted_old hb
  · rfl
  · rfl

theorem sorted_plain {h : Heap} {vals : List Value} {out : Array Value} : (sortedHeap (h.push (seqObj "list" vals.toArray 0)) h.objs.size vals out).PlainList h.objs.size out := by
  obtain ⟨e, he⟩ := sortedHeap_at (h := h.push (seqObj "list" vals.toArray 0)) (out := out) (a := h.objs.size) (vs := vals) (n := 0) (Heap.get?_push_size _ rfl)
  exact ⟨e, he⟩

theorem sortedSet_x {κ : PyProof.Rows.KeyKind} (hO : κ.OneLt) {a : Addr} {es : Array (Int × Value)} {ep : Nat} {t : SetTable} {ks : List K} {Q : Value → Shared → Prop} (hh : A.handled = none) (ha : s.heap.get? a = some (setObj es ep t)) (B : SetBody knd kf es t ks)
    (h0 : ∀ vals : List Value, vals.Perm (es.toList.map (·.2)) → PyProof.Rows.KeysOf κ (pairsOf vals) ∧ ∀ v₁ v₂ rest, vals = v₁ :: v₂ :: rest → keyKind' (v₁ :: v₂ :: rest).toArray = pure oneType')
    (h64 : es.size < 64)
    (h : ∀ D s' (vals : List Value) (out : Array Keyed), Ext s s' → s.heap.get? D = none → s'.heap.PlainList D (out.map (·.2)) → vals.Perm (es.toList.map (·.2)) → out.Perm (pairsOf vals) → SortedToK κ out (pairsOf vals).size → Q (.ref D) s') :
    wpAny (model prog w) A (call (.builtin "sorted") [.ref a]) Q E s := by
  refine Calls.call_function_entry kind_sorted plain_sorted entry_sorted (args_sorted1 _) ?_
  unfold Builtin.«sorted»
  refine wpAny_bind (m := checkCount "sorted" 1 1 _) (wpAny_pure ?_)
  refine wpAny_bind (collect_set (A := A.in1) hh ha B fun vals s₁ hvp x1 => ?_)
  have hvl : vals.length = es.size := by have := hvp.length_eq; simpa using this
  refine wpAny_bind (wpAny_newList ?_ (by rw [hvl]; exact fits_of_scanBound B.small))
  have hoL : (s₁.heap.push (seqObj "list" vals.toArray 0)).get? s₁.heap.objs.size = some (seqObj "list" vals.toArray 0) := Heap.get?_push_size _ rfl
  obtain ⟨hk, hkk⟩ := h0 vals hvp
  have h64' : vals.length < 64 := by omega
  show wpAny _ _ _ _ _ { s₁ with heap := s₁.heap.push (seqObj "list" vals.toArray 0) }
  refine wpAny_bind (wpAny_holding (wpAny_call_entry slot_list_sort ⟨_, hoL, rfl⟩ entry_list_sort (list_sort_treeK hO hoL hk hkk h64' fun st' a1 a2 => ⟨_, rfl, ?_⟩) (args_list_sort _)))
  exact wpAny_pure ⟨_, rfl, h _ _ vals (arrOf st') (x1.trans sorted_ext) (x1.new (get_size _)) sorted_plain hvp a1 a2⟩
end
end Mine

namespace Mine
open PySem PySem.W PySem.Calls PyProof.Rows

theorem range_getD {α : Type} (l : List α) (d : α) : (List.range l.length).map (fun i => l.getD i d) = l := by
  apply List.ext_getElem?
  intro i
  by_cases hi : i < l.length
  · simp [hi, List.getD_eq_getElem?_getD]
  · rw [List.getElem?_eq_none (by simpa using hi), List.getElem?_eq_none (by simpa using hi)]

theorem keeps_ext {s s' : Shared} (k : Keeps s s') : Ext s s' := by
  obtain ⟨h', tk, rfl, hk⟩ := k
  exact ⟨hk, rfl, rfl⟩
theorem keeps_of {s s' : Shared} (hk : ∀ b o, s.heap.get? b = some o → s'.heap.get? b = some o) (g : s'.gens = s.gens) (d : s'.drawn = s.drawn) (os : s'.os = s.os) : Keeps s s' := by
  obtain ⟨h', g', d', tk', os'⟩ := s'
  dsimp only at g d os hk
  subst g; subst d; subst os
  exact ⟨h', tk', rfl, hk⟩

section
variable {prog : Program} {w : World} {A : Around} {E : Value → Shared → Prop} {s : Shared}

theorem upd_tail {K : Type} [DecidableEq K] {knd : PySem.KeyKind prog w K} {kf : Value → K} {I : Addr} {fp : List Addr} {n : Nat} {P : Nat → Value → Prop} {St : Nat → Heap → Prop} {s₂ : Shared} {ks : List K} (d : K)
    (W : Walks prog w A.in1 I fp [I] n P St) (S : Addr) (hSf : S ∉ fp)
    (hn : ks.length = n) (hval : ∀ i v, P i v → knd.is (ks.getD i d) v = true ∧ kf v = ks.getD i d ∧ v.scannable = true) (hb : n + 1 < scanBound)
    (hst : St 0 s₂.heap) (hS : SetAt knd kf s₂.heap S []) {R : Unit → Shared → Prop}
    (hR : ∀ s', Moved [S, I] (fun a b => b = a) s₂ s' → SetAt knd kf s'.heap S (dd ks) → R () s') :
    wpAny (model prog w) A (do let _ ← runValue (.builtin "set.update.loop" ⟨[.ref S, .ref I], []⟩); pure ()) R E s₂ := by
  refine wpAny_bind (wpAny_runValue ?_)
  refine updateLoop_x (knd := knd) (kf := kf) W.toS S hSf (fun i => ks.getD i d) hval hb n 0 s₂ rfl (Nat.zero_le _) hst hS fun s' hm hs' => ?_
  refine wpAny_pure (hR s' hm ?_)
  rw [← hn, range_getD] at hs'
  exact hs'

theorem updFrom_str {l : List Nat} {t : Tok} {S : Addr} {R : Unit → Shared → Prop} (hh : A.handled = none) (hb : l.length + 1 < scanBound) (ho : s.heap.get? S = some (freshSet w))
    (hR : ∀ s', (∀ b o, b ≠ S → s.heap.get? b = some o → s'.heap.get? b = some o) → s'.gens = s.gens → s'.drawn = s.drawn → s'.os = s.os → SetAt (PySem.strKind prog w) strOf s'.heap S (dd (l.map fun c => mk [c])) → R () s') :
    wpAny (model prog w) A (Builtin.Frozenset.updateFrom "set.__init__" S (.str (mk l) t)) R E s := by
  have hT : ∀ s' : Shared, s'.TypeIs (.str (mk l) t) "str" := fun s' => typeIs_str s' _ _
  have h1 := sub_str_set
  have h2 := sub_str_frozenset
  have hne : (Value.type "str" == Value.type "dict") = false := by decide
  unfold Builtin.Frozenset.updateFrom
  generalize hPI : pyIter = PI
  wp_walk
  subst hPI
  refine wpAny_pyIter_str fun o St W hst => ?_
  have hSI : S ≠ s.heap.objs.size := ne_some ho (get_size _)
  refine upd_tail (kf := strOf) (knd := PySem.strKind prog w) (ks := l.map fun c => mk [c]) (mk []) (W A.in1 hh) S (by simpa using hSI) (by simp) ?_ (by simpa using hb) hst (freshSet_at (Heap.get?_push_of_some _ ho)) ?_
  · rintro i v ⟨c, u, hc, rfl⟩
    have hc' : l[i]? = some c := by simpa using hc
    have e : (l.map fun c => mk [c]).getD i (mk []) = mk [c] := by simp [List.getD_eq_getElem?_getD, hc']
    rw [e]
    exact ⟨strKind_is _ _ _ _, rfl, rfl⟩
  · intro s' hm hs'
    refine hR s' (fun b o hb e => hm.heap b o ?_ (Heap.get?_push_of_some _ e)) hm.gens hm.drawn hm.os hs'
    simp only [List.mem_cons, List.not_mem_nil, or_false, not_or]
    exact ⟨hb, ne_some e (get_size _)⟩

theorem updFrom_list {a : Addr} {items : Array Value} {ns : List Int} {S : Addr} {R : Unit → Shared → Prop} (hh : A.handled = none) (hl : s.heap.IsList a items) (hi : IntsAre items.toList ns) (hb : ns.length + 1 < scanBound) (ho : s.heap.get? S = some (freshSet w))
    (hR : ∀ s', (∀ b o, b ≠ S → s.heap.get? b = some o → s'.heap.get? b = some o) → s'.gens = s.gens → s'.drawn = s.drawn → s'.os = s.os → SetAt (PySem.intKind prog w) numOf s'.heap S (dd ns) → R () s') :
    wpAny (model prog w) A (Builtin.Frozenset.updateFrom "set.__init__" S (.ref a)) R E s := by
  have hl0 := hl
  obtain ⟨ol, hol, hcl, nl, hdl⟩ := hl
  have haS : a ≠ S := fun q => by
    rw [q, ho] at hol; cases hol; exact absurd (show Value.type "set" = Value.type "list" from hcl) (by decide)
  obtain ⟨ocls, odict, odata, oslots⟩ := ol
  simp only at hcl hdl
  subst hcl; subst hdl
  have hsls := PySem.F.sub_list_set
  have hslf := PySem.F.sub_list_frozenset
  have hne : (Value.type "list" == Value.type "dict") = false := by decide
  unfold Builtin.Frozenset.updateFrom
  generalize hPI : pyIter = PI
  wp_walk
  subst hPI
  refine wpAny_pyIter_list hl0 ?_
  have hSI : S ≠ s.heap.objs.size := ne_some ho (get_size _)
  have haI : a ≠ s.heap.objs.size := ne_some hol (get_size _)
  have hlen : items.size = ns.length := by rw [← hi.length, Array.length_toList]
  refine upd_tail (kf := numOf) (knd := PySem.intKind prog w) (ks := ns) 0 (Walks.list (A := A.in1) hh _ a haI items) S ?_ hlen.symm ?_ (by omega) ⟨⟨_, Heap.get?_push_size _ rfl, rfl, rfl⟩, hl0.push _⟩ (freshSet_at (Heap.get?_push_of_some _ ho)) ?_
  · simp only [List.mem_cons, List.not_mem_nil, or_false, not_or]
    exact ⟨hSI, Ne.symm haS⟩
  · intro i v hv
    obtain ⟨c, u, rfl, hc⟩ := hi.at i v (by rw [Array.getElem?_toList]; exact hv)
    have e : ns.getD i 0 = c := by simp [List.getD_eq_getElem?_getD, hc]
    rw [e]
    exact ⟨intKind_is _ _ _ _, rfl, rfl⟩
  · intro s' hm hs'
    refine hR s' (fun b o hb e => hm.heap b o ?_ (Heap.get?_push_of_some _ e)) hm.gens hm.drawn hm.os hs'
    simp only [List.mem_cons, List.not_mem_nil, or_false, not_or]
    exact ⟨hb, ne_some e (get_size _)⟩

theorem SetAt.isSet {K : Type} [DecidableEq K] {knd : PySem.KeyKind prog w K} {kf : Value → K} {D : Addr} {ks : List K} (x : SetAt knd kf s.heap D ks) : s.TypeIs (.ref D) "set" := let ⟨_, _, _, ho, _⟩ := x; ⟨_, ho, rfl⟩

theorem set_str_x {l : List Nat} {t : Tok} {Q : Value → Shared → Prop} (hh : A.handled = none) (hb : l.length + 1 < scanBound)
    (h : ∀ D s', Keeps s s' → s.heap.get? D = none → SetAt (PySem.strKind prog w) strOf s'.heap D (dd (l.map fun c => mk [c])) → Q (.ref D) s') : wpAny (model prog w) A (call (.type "set") [.str (mk l) t]) Q E s := by
  refine call_set_gen (R := fun s' => Keeps s s' ∧ SetAt (PySem.strKind prog w) strOf s'.heap s.heap.objs.size (dd (l.map fun c => mk [c]))) (fun E' => updFrom_str (A := A.in1.in1) hh hb (Heap.get?_push_size _ rfl) fun s' hk g d o hs => ⟨?_, hs⟩) (fun s₂ hr => hr.2.isSet) fun s' hr => h _ s' hr.1 (get_size _) hr.2
  exact keeps_of (fun b o e => hk b o (ne_some e (get_size _)) (Heap.get?_push_of_some _ e)) g d o

theorem set_list_x {a : Addr} {items : Array Value} {ns : List Int} {Q : Value → Shared → Prop} (hh : A.handled = none) (hl : s.heap.IsList a items) (hi : IntsAre items.toList ns) (hb : ns.length + 1 < scanBound)
    (h : ∀ D s', Keeps s s' → s.heap.get? D = none → SetAt (PySem.intKind prog w) numOf s'.heap D (dd ns) → Q (.ref D) s') : wpAny (model prog w) A (call (.type "set") [.ref a]) Q E s := by
  refine call_set_gen (R := fun s' => Keeps s s' ∧ SetAt (PySem.intKind prog w) numOf s'.heap s.heap.objs.size (dd ns)) (fun E' => updFrom_list (A := A.in1.in1) hh (hl.push _) hi hb (Heap.get?_push_size _ rfl) fun s' hk g d o hs => ⟨?_, hs⟩) (fun s₂ hr => hr.2.isSet) fun s' hr => h _ s' hr.1 (get_size _) hr.2
  exact keeps_of (fun b o e => hk b o (ne_some e (get_size _)) (Heap.get?_push_of_some _ e)) g d o

theorem len_set_x {K : Type} [DecidableEq K] {knd : PySem.KeyKind prog w K} {kf : Value → K} {D : Addr} {ks : List K} {Q : Value → Shared → Prop} (x : SetAt knd kf s.heap D ks)
    (h : ∀ t tk, Q (.int ks.length t) { s with toks := tk }) : wpAny (model prog w) A (call (.builtin "len") [.ref D]) Q E s := by
  obtain ⟨es, ep, t, ho, B⟩ := x
  have hl : es.size = ks.length := by have := B.perm.length_eq; simpa using this
  refine call_len_set ho ?_ rfl B.fits (by have := B.small; unfold scanBound at this; omega) ?_
  · exact ⟨rfl, rfl, rfl⟩
  · rw [hl]; exact h _ _

theorem strs_of_set {es : Array (Int × Value)} {t : SetTable} {ks : List Str} (B : SetBody (PySem.strKind prog w) strOf es t ks) {vals : List Value} (hp : vals.Perm (es.toList.map (·.2))) :
    StrsAre vals (vals.map strOf) ∧ (vals.map strOf).Perm ks := by
  refine ⟨strsAre_map _ fun v hv => ?_, ?_⟩
  · obtain ⟨e, he, rfl⟩ := List.mem_map.mp (hp.mem_iff.mp hv)
    obtain ⟨u, q⟩ := Value.isStrOf_shape (B.key e he)
    exact ⟨_, u, q⟩
  · have := hp.map strOf
    rw [List.map_map] at this
    exact this.trans B.perm

theorem intsAre_map : ∀ (vs : List Value), (∀ v, v ∈ vs → ∃ x t, v = .int x t) → IntsAre vs (vs.map numOf)
  | [], _ => .nil
  | v :: vs, h => by
    obtain ⟨x, t, rfl⟩ := h v (List.mem_cons_self ..)
    exact .cons x t (intsAre_map vs fun u hu => h u (List.mem_cons_of_mem _ hu))

theorem ints_of_set {es : Array (Int × Value)} {t : SetTable} {ks : List Int} (B : SetBody (PySem.intKind prog w) numOf es t ks) {vals : List Value} (hp : vals.Perm (es.toList.map (·.2))) :
    IntsAre vals (vals.map numOf) ∧ (vals.map numOf).Perm ks := by
  refine ⟨intsAre_map _ fun v hv => ?_, ?_⟩
  · obtain ⟨e, he, rfl⟩ := List.mem_map.mp (hp.mem_iff.mp hv)
    obtain ⟨u, q⟩ := Value.isInt_shape (B.key e he)
    exact ⟨_, u, q⟩
  · have := hp.map numOf
    rw [List.map_map] at this
    exact this.trans B.perm

theorem sorted_sset {D : Addr} {ks : List Str} {Q : Value → Shared → Prop} (hh : A.handled = none) (x : SetAt (PySem.strKind prog w) strOf s.heap D ks) (h64 : ks.length < 64)
    (h : ∀ D' s' (out : Array Value) (ss : List Str), Ext s s' → s.heap.get? D' = none → s'.heap.PlainList D' out → StrsAre out.toList ss → ss.Perm ks → sortedS ss = true → Q (.ref D') s') :
    wpAny (model prog w) A (call (.builtin "sorted") [.ref D]) Q E s := by
  obtain ⟨es, ep, t, ho, B⟩ := x
  have hl : es.size = ks.length := by have := B.perm.length_eq; simpa using this
  refine sortedSet_x strKind_oneLt (ep := ep) hh ho B (fun vals hp => ?_) (by omega) fun D' s' vals out x1 hD P1 hvp a1 a2 => ?_
  · obtain ⟨hS, _⟩ := strs_of_set B hp
    exact ⟨hS.keysOf, fun v₁ v₂ rest e => keyKind_strs (by rw [← e]; exact hS)⟩
  · obtain ⟨hS, hpk⟩ := strs_of_set B hvp
    obtain ⟨ss', h1, h2, h3⟩ := sorted_out_str hS a1 a2
    exact h D' s' _ ss' x1 hD P1 h1 (h2.trans hpk) h3

theorem sorted_iset {D : Addr} {ks : List Int} {Q : Value → Shared → Prop} (hh : A.handled = none) (x : SetAt (PySem.intKind prog w) numOf s.heap D ks) (h64 : ks.length < 64)
    (h : ∀ D' s' (out : Array Value) (ns : List Int), Ext s s' → s.heap.get? D' = none → s'.heap.PlainList D' out → IntsAre out.toList ns → ns.Perm ks → ns.Pairwise (· ≤ ·) → Q (.ref D') s') :
    wpAny (model prog w) A (call (.builtin "sorted") [.ref D]) Q E s := by
  obtain ⟨es, ep, t, ha, B⟩ := x
  have hl : es.size = ks.length := by have := B.perm.length_eq; simpa using this
  refine Calls.call_function_entry kind_sorted plain_sorted entry_sorted (args_sorted1 _) ?_
  unfold Builtin.«sorted»
  refine wpAny_bind (m := checkCount "sorted" 1 1 _) (wpAny_pure ?_)
  refine wpAny_bind (collect_set (A := A.in1) hh ha B fun vals s₁ hvp x1 => ?_)
  have hvl : vals.length = es.size := by have := hvp.length_eq; simpa using this
  refine wpAny_bind (wpAny_newList ?_ (by rw [hvl]; exact fits_of_scanBound B.small))
  have hoL : (s₁.heap.push (seqObj "list" vals.toArray 0)).get? s₁.heap.objs.size = some (seqObj "list" vals.toArray 0) := Heap.get?_push_size _ rfl
  obtain ⟨hI, hpk⟩ := ints_of_set B hvp
  have h64' : vals.length < 64 := by omega
  show wpAny _ _ _ _ _ { s₁ with heap := s₁.heap.push (seqObj "list" vals.toArray 0) }
  refine wpAny_bind (wpAny_holding (wpAny_call_entry slot_list_sort ⟨_, hoL, rfl⟩ entry_list_sort (list_sort_tree hoL hI h64' fun out ns' a1 a2 a3 => ⟨_, rfl, ?_⟩) (args_list_sort _)))
  exact wpAny_pure ⟨_, rfl, h _ _ out ns' (x1.trans sorted_ext) (x1.new (get_size _)) sorted_plain a1 (a2.trans hpk) a3⟩
end
end Mine

namespace Mine
open PySem PySem.W PySem.Calls PyProof.Rows

section
variable {prog : Program} {w : World} {A : Around} {R : Shared → Prop} {s : Shared}
abbrev noE : Value → Shared → Prop := fun _ _ => False

abbrev comp2 (elt t0 i0 t1 i1 : Expr) (scope : Scope) (pos : Pos) : Expr := .ListComp elt [⟨t0, i0, [], 0⟩, ⟨t1, i1, [], 0⟩] scope pos

theorem compTurn2_in (elt t0 i0 t1 i1 : Expr) (scope : Scope) (pos : Pos) (it acc : Value) (env : Env) :
    compTurn (comp2 elt t0 i0 t1 i1 scope pos) 1 it acc env = (standAt i1.pos >>= fun _ => pyNext it >>= fun r => match r with
      | none => pure (.done .next)
      | some v => letOwnedTupleGo t1 it v >>= fun _ => assign t1 env v >>= fun _ =>
        (eval elt env >>= fun x => call (.builtin "list.append") [acc, x] >>= fun _ => pure ()) >>= fun _ =>
          again (.compLoop (comp2 elt t0 i0 t1 i1 scope pos) 1 it acc env)) := by rfl

theorem compTurn2_out (elt t0 i0 t1 i1 : Expr) (scope : Scope) (pos : Pos) (it acc : Value) (env : Env) :
    compTurn (comp2 elt t0 i0 t1 i1 scope pos) 0 it acc env = (standAt i0.pos >>= fun _ => pyNext it >>= fun r => match r with
      | none => pure (.done .next)
      | some v => letOwnedTupleGo t0 it v >>= fun _ => assign t0 env v >>= fun _ =>
        eval i1 env >>= fun x => standAt i1.pos >>= fun _ => foldedSetIterable i1 env x >>= fun x => holding [x] (pyIter x) >>= fun j => runOwn (.compStart (comp2 elt t0 i0 t1 i1 scope pos) 1 j acc env) env >>= fun _ =>
          again (.compLoop (comp2 elt t0 i0 t1 i1 scope pos) 0 it acc env)) := by rfl

theorem comp2_inner {elt t0 i0 t1 i1 : Expr} {scope : Scope} {pos : Pos} {it acc : Value} {env : Env} (I : Nat → Shared → Prop)
    (turn : ∀ n s, I n s → wpAny (model prog w) A (pyNext it) (fun r s₁ => match r with
      | none => R s₁
      | some v => wpAny (model prog w) A (assign t1 env v) (fun _ s₂ => wpAny (model prog w) A (eval elt env) (fun x s₃ =>
          wpAny (model prog w) A (call (.builtin "list.append") [acc, x]) (fun _ s₄ => ∃ m, m < n ∧ I m s₄) noE s₃) noE s₂) noE s₁) noE s)
    (n : Nat) (h : I n s) (ht : ∀ v, letOwnedTupleGo t1 it v = pure () := by intro _; rfl) :
    codeAny (model prog w) A (.compLoop (comp2 elt t0 i0 t1 i1 scope pos) 1 it acc env) (fun r s' => r = .ok .next ∧ R s') s := by
  refine codeAny_loop rfl I (fun n s hI => ?_) n h
  show wpAny _ _ ((compTurn (comp2 elt t0 i0 t1 i1 scope pos) 1 it acc env).onRaise (fun x => do noteFrame x env; theTreesLotGoes x)) _ _ s
  refine wpAny_noted ?_
  rw [compTurn2_in]
  refine wpAny_bind (wpAny_standAt (wpAny_bind (wpAny_mono (turn n s hI) (fun r s₁ h₁ => ?_) fun _ _ h' => h'.elim)))
  cases r with
  | none => exact wpAny_pure ⟨rfl, h₁⟩
  | some v =>
    refine wpAny_bind (wpAny_of_eq (ht v) ?_)
    exact wpAny_bind (wpAny_mono h₁ (fun _ s₂ h₂ => wpAny_bind (wpAny_bind (wpAny_mono h₂ (fun x s₃ h₃ => wpAny_bind (wpAny_mono h₃
      (fun _ s₄ h₄ => wpAny_pure (wpAny_pure ⟨rfl, h₄⟩)) fun _ _ h' => h'.elim)) fun _ _ h' => h'.elim))) fun _ _ h' => h'.elim)

theorem comp2_start {elt t0 i0 t1 i1 : Expr} {scope : Scope} {pos : Pos} {it acc : Value} {env : Env} {R : Result → Shared → Prop}
    (h0 : codeAny (model prog w) A (.compLoop (comp2 elt t0 i0 t1 i1 scope pos) 1 it acc env) R s)
    (h : wpAny (model prog w) A (pyIter it) (fun it' s' => codeAny (model prog w) A (.compLoop (comp2 elt t0 i0 t1 i1 scope pos) 1 it' acc env) R s') noE s) :
    codeAny (model prog w) A (.compStart (comp2 elt t0 i0 t1 i1 scope pos) 1 it acc env) R s := by
  refine codeAny_of_tree ?_
  show wpAny _ _ ((compStart (comp2 elt t0 i0 t1 i1 scope pos) 1 it acc env).onRaise (fun x => do noteFrame x env; standAt theWindowsPlace)) _ _ s
  refine wpAny_notedAt ?_
  unfold compStart
  show wpAny _ _ (ask >>= _) _ _ s
  refine wpAny_bind (wpAny_askSetting (wpAny_ite ?_))
  split
  · first
      | exact wpAny_bind (wpAny_pure (wpAny_pure (And.intro rfl h0)))
      | exact wpAny_pure (And.intro rfl h0)
  · first
      | exact wpAny_bind (wpAny_rule (wpAny_bind (wpAny_standAt (wpAny_bind (wpAny_mono h (fun it' s' h' => wpAny_pure (And.intro rfl h')) fun _ _ x => x.elim)))))
      | (refine wpAny_bind (wpAny_rule ?_); show wpAny _ _ (standAt i1.pos >>= _) _ _ s; exact wpAny_bind (wpAny_standAt (wpAny_bind (wpAny_mono h (fun it' s' h' => wpAny_pure (And.intro rfl h')) fun _ _ x => x.elim))))

theorem comp2_outer {elt t0 i0 t1 i1 : Expr} {scope : Scope} {pos : Pos} {it acc : Value} {env : Env} {R : Result → Shared → Prop} (I : Nat → Shared → Prop)
    (turn : ∀ n s, I n s → wpAny (model prog w) A (pyNext it) (fun r s₁ => match r with
      | none => R (.ok .next) s₁
      | some v => wpAny (model prog w) A (assign t0 env v) (fun _ s₂ => wpAny (model prog w) A (eval i1 env) (fun x s₃ => wpAny (model prog w) A (pyIter x) (fun j s₄ =>
          codeAny (model prog w) A (.compStart (comp2 elt t0 i0 t1 i1 scope pos) 1 j acc env) (fun r s' => r = .ok .next ∧ ∃ m, m < n ∧ I m s') s₄) noE s₃) noE s₂) noE s₁) noE s)
    (n : Nat) (h : I n s) (ht : ∀ v, letOwnedTupleGo t0 it v = pure () := by intro _; rfl) (hs : ∀ x, foldedSetIterable i1 env x = pure x := by intro _; rfl) :
    codeAny (model prog w) A (.compLoop (comp2 elt t0 i0 t1 i1 scope pos) 0 it acc env) R s := by
  refine codeAny_loop rfl I (fun n s hI => ?_) n h
  show wpAny _ _ ((compTurn (comp2 elt t0 i0 t1 i1 scope pos) 0 it acc env).onRaise (fun x => do noteFrame x env; theTreesLotGoes x)) _ _ s
  refine wpAny_noted ?_
  rw [compTurn2_out]
  refine wpAny_bind (wpAny_standAt (wpAny_bind (wpAny_mono (turn n s hI) (fun r s₁ h₁ => ?_) fun _ _ h' => h'.elim)))
  cases r with
  | none => exact wpAny_pure h₁
  | some v =>
    refine wpAny_bind (wpAny_of_eq (ht v) ?_)
    refine wpAny_bind (wpAny_mono h₁ (fun _ s₂ h₂ => wpAny_bind (wpAny_mono h₂ (fun x s₃ h₃ => wpAny_bind (wpAny_standAt (wpAny_bind (wpAny_of_eq (hs x) ?_)))) fun _ _ h' => h'.elim)) fun _ _ h' => h'.elim)
    refine wpAny_bind (wpAny_holding (wpAny_mono h₃ (fun j s₄ h₄ => ?_) fun _ _ h' => h'.elim))
    refine wpAny_bind ?_
    unfold runOwn
    refine wpAny_onRaise (wpAny_run (codeAny_mono h₄ fun r s' hr => ?_))
    obtain ⟨rfl, hr⟩ := hr
    exact wpAny_pure ⟨rfl, hr⟩
end
end Mine

namespace Mine
open PySem PySem.W PySem.Calls PyProof.Rows PySem.Spec

theorem mk_append (a b : List Nat) : mk a ++ mk b = mk (a ++ b) := by
  apply StrLaws.mk_of_toList
  show ((mk a ++ mk b).cps).toList = _
  rw [Str.cps_append]; simp
theorem mk_inj {a b : List Nat} (h : mk a = mk b) : a = b := by
  have := congrArg (fun x : Str => x.cps.toList) h
  simpa using this
theorem cnt_count (c : Nat) : ∀ l : List Nat, cnt c l = (l.count c : Int)
  | [] => rfl
  | x :: l => by
    have ih := cnt_count c l
    rw [cnt_cons, ih, List.count_cons]
    by_cases h : x = c
    · simp [h]; omega
    · simp [h]
theorem count_mk (l : List Nat) (c : Nat) : Txt.count (mk l) (mk [c]) = (l.count c : Int) := by
  have := count_cnt (mk l) c
  rw [mk_toList, cnt_count] at this
  exact this
theorem mul_ok (c : Nat) (k : Nat) (hk : k ≤ 1000) : MulOk (mk [c]) (k : Int) := by
  refine ⟨?_, fun h1 _ => ?_, fun _ _ => ?_⟩
  · rw [decide_eq_false (by omega), decide_eq_false (by omega)]; rfl
  · rw [mk_length]
    have h2 : (1 : Int) ≤ (2 ^ 63 - 1) / (k : Int) := by
      apply (Int.le_ediv_iff_mul_le (by omega)).mpr
      omega
    simp only [List.length_cons, List.length_nil]
    omega
  · rw [mk_length]
    unfold Builtin.Str.tooLong
    rw [decide_eq_false]
    rw [sizeLine_eq]
    simp only [List.length_cons, List.length_nil]
    omega
theorem fold_rep (c : Nat) : ∀ (k : Nat) (acc : Array Nat), ((List.replicate k #[c]).foldl (· ++ ·) acc).toList = acc.toList ++ List.replicate k c
  | 0, acc => by simp
  | k + 1, acc => by
    rw [List.replicate_succ, List.foldl_cons, fold_rep c k, List.replicate_succ]
    simp
theorem mul_mk (c k : Nat) : Txt.mul (mk [c]) (k : Int) = mk (List.replicate k c) := by
  unfold Txt.mul
  by_cases h1 : (k : Int) < 1
  · have : k = 0 := by omega
    subst this
    rw [if_pos (by omega)]; rfl
  · rw [if_neg h1]
    by_cases h2 : ((k : Int) == 1 || (mk [c]).length == 0) = true
    · rw [if_pos h2]
      have : k = 1 := by
        simp at h2; omega
      subst this; rfl
    · rw [if_neg h2]
      apply StrLaws.mk_of_toList
      show ((List.replicate (k : Int).toNat #[c]).foldl (· ++ ·) #[]).toList = _
      rw [fold_rep]; simp

theorem strsAre_append : ∀ {vs us : List Value} {as bs : List Str}, StrsAre vs as → StrsAre us bs → StrsAre (vs ++ us) (as ++ bs)
  | _, _, _, _, .nil, h => h
  | _, _, _, _, .cons x t r, h => .cons x t (strsAre_append r h)

theorem dd_mem_fold {K : Type} [DecidableEq K] : ∀ (l σ : List K) (k : K), k ∈ l.foldl ddStep σ ↔ k ∈ σ ∨ k ∈ l
  | [], σ, k => by simp
  | a :: l, σ, k => by
    rw [List.foldl_cons, dd_mem_fold l (ddStep σ a) k]
    unfold ddStep
    split
    · rename_i h
      constructor
      · rintro (h1 | h1)
        · exact .inl h1
        · exact .inr (List.mem_cons_of_mem _ h1)
      · rintro (h1 | h1)
        · exact .inl h1
        · rcases List.mem_cons.mp h1 with rfl | h1
          · exact .inl h
          · exact .inr h1
    · simp [or_assoc]
theorem dd_mem {K : Type} [DecidableEq K] (l : List K) (k : K) : k ∈ dd l ↔ k ∈ l := by
  unfold dd; rw [dd_mem_fold]; simp
theorem dd_nodup_fold {K : Type} [DecidableEq K] : ∀ (l σ : List K), σ.Nodup → (l.foldl ddStep σ).Nodup
  | [], _, h => h
  | a :: l, σ, h => by
    rw [List.foldl_cons]
    apply dd_nodup_fold l
    unfold ddStep
    split
    · exact h
    · rename_i hn
      rw [List.nodup_append]
      exact ⟨h, by simp, fun x hx y hy => by rw [List.mem_singleton] at hy; subst hy; intro q; exact hn (q ▸ hx)⟩
theorem dd_nodup {K : Type} [DecidableEq K] (l : List K) : (dd l).Nodup := dd_nodup_fold l [] List.nodup_nil
theorem dd_map_fold {K J : Type} [DecidableEq K] [DecidableEq J] {f : K → J} (hf : ∀ a b, f a = f b → a = b) : ∀ (l σ : List K), (l.map f).foldl ddStep (σ.map f) = (l.foldl ddStep σ).map f
  | [], _ => rfl
  | a :: l, σ => by
    rw [List.map_cons, List.foldl_cons, List.foldl_cons, ← dd_map_fold hf l]
    congr 1
    unfold ddStep
    have e : f a ∈ σ.map f ↔ a ∈ σ := by
      constructor
      · intro h
        obtain ⟨b, hb, q⟩ := List.mem_map.mp h
        rw [← hf _ _ q]; exact hb
      · exact fun h => List.mem_map_of_mem h
    by_cases h : a ∈ σ
    · rw [if_pos h, if_pos (e.mpr h)]
    · rw [if_neg h, if_neg (fun q => h (e.mp q))]; simp
theorem dd_map {K J : Type} [DecidableEq K] [DecidableEq J] {f : K → J} (hf : ∀ a b, f a = f b → a = b) (l : List K) : dd (l.map f) = (dd l).map f := dd_map_fold hf l []

theorem mk1_inj (a b : Nat) (h : mk [a] = mk [b]) : a = b := by have := mk_inj h; simpa using this
theorem lt1 (a b : Nat) : ltCps (mk [a]).cps.toList (mk [b]).cps.toList = decide (a < b) := by
  rw [ltCps_eq, mk_toList, mk_toList]
  refine decide_eq_decide.mpr ⟨fun h => ?_, fun h => List.Lex.rel h⟩
  cases h with
  | rel h => exact h
  | cons h => cases h
theorem rising_le : ∀ (ds : List Nat) (p : Nat), risingS (mk [p]) (ds.map fun c => mk [c]) = true → (p :: ds).Pairwise (· ≤ ·)
  | [], p, _ => by simp
  | x :: r, p, h => by
    have h' : (!ltCps (mk [x]).cps.toList (mk [p]).cps.toList && risingS (mk [x]) (r.map fun c => mk [c])) = true := h
    rw [lt1, Bool.and_eq_true] at h'
    have h1 : p ≤ x := by simpa using h'.1
    have h2 := rising_le r x h'.2
    rw [List.pairwise_cons]
    refine ⟨fun y hy => ?_, h2⟩
    rcases List.mem_cons.mp hy with rfl | hy
    · exact h1
    · exact Nat.le_trans h1 ((List.pairwise_cons.mp h2).1 y hy)
theorem sorted_le : ∀ (ds : List Nat), sortedS (ds.map fun c => mk [c]) = true → ds.Pairwise (· ≤ ·)
  | [], _ => List.Pairwise.nil
  | x :: r, h => rising_le r x h

/-- strings of one sign each, permuted from one-sign strings, are one-sign strings -/
theorem perm_signs {ss : List Str} {l : List Nat} (hp : ss.Perm (l.map fun c => mk [c])) : ∃ ds : List Nat, ss = ds.map (fun c => mk [c]) ∧ ds.Perm l := by
  have key := hp.map (fun x : Str => x.cps.toList.headD 0)
  rw [List.map_map] at key
  refine ⟨ss.map (fun x : Str => x.cps.toList.headD 0), ?_, ?_⟩
  · rw [List.map_map]
    have : ∀ x ∈ ss, ((fun c => mk [c]) ∘ fun x : Str => x.cps.toList.headD 0) x = x := by
      intro x hx
      obtain ⟨c, _, rfl⟩ := List.mem_map.mp (hp.mem_iff.mp hx)
      rfl
    rw [List.map_congr_left this]; simp
  · have e : ((fun x : Str => x.cps.toList.headD 0) ∘ fun c => mk [c]) = id := by funext c; rfl
    rw [e, List.map_id] at key
    exact key

theorem signs_eq {ss : List Str} {letters cs : List Nat} (hp : ss.Perm (dd (letters.map fun c => mk [c]))) (hs : sortedS ss = true) (hcs : cs.Pairwise (· < ·)) (hm : ∀ c, c ∈ cs ↔ c ∈ letters) : ss = cs.map fun c => mk [c] := by
  rw [dd_map mk1_inj] at hp
  obtain ⟨ds, rfl, hd⟩ := perm_signs hp
  have h1 := sorted_le ds hs
  have hnd : cs.Nodup := hcs.imp (fun h => Nat.ne_of_lt h)
  have h2 : ds.Perm cs := hd.trans ((List.perm_ext_iff_of_nodup (dd_nodup letters) hnd).mpr fun c => by rw [dd_mem, hm])
  have h3 : ds = cs := List.Perm.eq_of_pairwise (le := (· ≤ ·)) (fun a b _ _ x y => Nat.le_antisymm x y) h1 (hcs.imp Nat.le_of_lt) h2
  rw [h3]

def stepW (letters : List Nat) (ws : List (List Nat)) (c : Nat) : List (List Nat) := ws.flatMap fun w => (List.range (letters.count c + 1)).map fun k => w ++ List.replicate k c
def wordsFrom (letters cs : List Nat) : List (List Nat) := cs.foldl (stepW letters) [[]]

theorem stepW_length (letters : List Nat) (c : Nat) : ∀ ws : List (List Nat), (stepW letters ws c).length = ws.length * (letters.count c + 1)
  | [] => by simp [stepW]
  | w :: ws => by
    have ih := stepW_length letters c ws
    unfold stepW at ih ⊢
    rw [List.flatMap_cons, List.length_append, ih, List.length_map, List.length_range, List.length_cons, Nat.add_mul, Nat.one_mul, Nat.add_comm]
theorem stepW_ge (letters : List Nat) (c : Nat) (ws : List (List Nat)) : ws.length ≤ (stepW letters ws c).length := by
  rw [stepW_length]; exact Nat.le_mul_of_pos_right _ (Nat.succ_pos _)
theorem foldW_ge (letters : List Nat) : ∀ (cs : List Nat) (ws : List (List Nat)), ws.length ≤ (cs.foldl (stepW letters) ws).length
  | [], _ => Nat.le_refl _
  | c :: cs, ws => Nat.le_trans (stepW_ge letters c ws) (foldW_ge letters cs _)
theorem stepW_bound {letters : List Nat} {c n : Nat} {ws : List (List Nat)} (h : ∀ w ∈ ws, w.length ≤ n) : ∀ w ∈ stepW letters ws c, w.length ≤ n + letters.length := by
  intro w hw
  obtain ⟨v, hv, hw⟩ := List.mem_flatMap.mp hw
  obtain ⟨k, hk, rfl⟩ := List.mem_map.mp hw
  have h1 := h v hv
  have h2 := List.mem_range.mp hk
  have h3 := List.count_le_length (a := c) (l := letters)
  rw [List.length_append, List.length_replicate]; omega
end Mine

namespace Mine
open PySem PySem.W PySem.Calls PyProof.Rows

/-- a comprehension's names in C, all made since s₀ -/
structure Su (w : World) (s₀ : Shared) (C : Addr) (m : Str → Option Value) (s : Shared) : Prop where
  ext : Ext s₀ s
  ns : s.heap.Ns C m
  new : s₀.heap.get? C = none
  G : Gnd w s₀.heap

section
variable {prog : Program} {w : World} {A : Around} {E : Value → Shared → Prop} {s₀ s s' : Shared} {env : Env} {m cm : Str → Option Value} {C : Addr}

theorem Su.gnd (S : Su w s₀ C m s) : Gnd w s.heap := S.G.keeps S.ext.keep
theorem Su.grow (S : Su w s₀ C m s) (x : Ext s s') : Su w s₀ C m s' := ⟨S.ext.trans x, S.ns.keeps x.keep, S.new, S.G⟩
theorem Su.mut (S : Su w s₀ C m s) {D : Addr} (hn : s₀.heap.get? D = none) (hD : C ≠ D) (hk : ∀ b o, b ≠ D → s.heap.get? b = some o → s'.heap.get? b = some o) (g : s'.gens = s.gens) (o : s'.os = s.os) : Su w s₀ C m s' :=
  ⟨⟨fun b o e => hk b o (ne_some e hn) (S.ext.keep b o e), g.trans S.ext.gens, o.trans S.ext.os⟩, S.ns.at' fun o e => hk _ o hD e, S.new, S.G⟩
theorem ldU {x : Str} {pos : Pos} {v : Value} {Q : Value → Shared → Prop} (S : Su w s₀ env.locals m s) (hv : m x = some v) (h : Q v s)
    (hk : env.scope.kind = .function := by rfl) (hx : env.kindOf x = some .local := by rfl) (hd : (x == ("__debug__" : Str)) = false := by decide) :
    wpAny (model prog w) A (eval (.Name x pos) env) Q E s := wpAny_Name (wpAny_loadName_local hk hx S.ns hv h) hd
theorem ldUC {x : Str} {pos : Pos} {v : Value} {c : Addr} {Q : Value → Shared → Prop} (hc : env.cells.lookup x = some c) (hv : s.heap.IsCell c (some v)) (h : Q v s)
    (hk : env.scope.kind = .function := by rfl) (hx : env.kindOf x = some .cell := by rfl) (hd : (x == ("__debug__" : Str)) = false := by decide) :
    wpAny (model prog w) A (eval (.Name x pos) env) Q E s := wpAny_Name (wpAny_loadName_cell hk hx hc hv h) hd
theorem stU {x : Str} {v : Value} {Q : Unit → Shared → Prop} (S : Su w s₀ env.locals m s)
    (h : ∀ s', Su w s₀ env.locals (upd m x v) s' → (∀ b, b ≠ env.locals → s'.heap.get? b = s.heap.get? b) → Q () s')
    (hk : env.scope.kind = .function := by rfl) (hx : env.kindOf x = some .local := by rfl) :
    wpAny (model prog w) A (storeName env x v) Q E s := by
  refine wpAny_storeName_local hx S.ns (fun h' hn hs => h _ ⟨⟨fun b o e => ?_, S.ext.gens, S.ext.os⟩, hn, S.new, S.G⟩ fun b hb => hs.2 b hb) (by rw [hk]; rfl)
  exact (hs.2 b (ne_some e S.new)).trans (S.ext.keep b o e)
theorem cell_ext {c : Addr} {v : Option Value} (x : s.heap.IsCell c v) (e : Ext s s') : s'.heap.IsCell c v := let ⟨o, ho, hd⟩ := x; ⟨o, e.keep _ _ ho, hd⟩

theorem assign_comp {elt t0 i0 : Expr} {ifs : List Expr} {rest : List Comprehension} {y : Str} {py : Pos} {scope : Scope} {cl : List (Str × Addr)} {pos spos : Pos} {Q : Flow → Shared → Prop} {Z : Array Value → Prop}
    (S : St w s₀ env m cm s) (hclos : closureFor scope env = pure cl)
    (h : wpAny (model prog w) A (eval i0 env) (fun x s₁ => wpAny (model prog w) A (pyIter x) (fun it s₂ => Ext s s₂ ∧
      ∀ D C s₃, Ext s₂ s₃ → s₂.heap.get? D = none → s₂.heap.get? C = none → D ≠ C → s₃.heap.PlainList D #[] → Su w s C (fun _ => none) s₃ →
        codeAny (model prog w) A (.compStart (.ListComp elt (⟨t0, i0, ifs, 0⟩ :: rest) scope pos) 0 it (.ref D) (compEnvC scope cl C env)) (fun r s' => r = .ok .next ∧ ∃ m' ys, Su w s C m' s' ∧ s'.heap.PlainList D ys ∧ Z ys) s₃) E s₁) E s)
    (hQ : ∀ D s' ys, Z ys → St w s₀ env (upd m y (.ref D)) cm s' → s'.heap.PlainList D ys → s.heap.get? D = none → (∀ b o, b ≠ env.locals → s.heap.get? b = some o → s'.heap.get? b = some o) → Q .next s')
    (hsw : swapsWith (.ListComp elt (⟨t0, i0, ifs, 0⟩ :: rest) scope pos) (some (.Name y py)) spos.line env = pure true := by rfl)
    (hcell : ∀ z ∈ scope.names, z.2 ≠ .cell := by decide +kernel) (hkind : scope.kind = .function := by rfl)
    (hnames : ∀ z ∈ scope.names, z.2 = .local → scope.names.lookup z.1 = some .local := by decide +kernel)
    (hk : env.scope.kind = .function := by rfl) (hy : env.kindOf y = some .local := by rfl)
    (hs : ∀ x, foldedSetIterable i0 env x = pure x := by intro _; rfl) :
    wpAny (model prog w) A (exec (.Assign [.Name y py] (.ListComp elt (⟨t0, i0, ifs, 0⟩ :: rest) scope pos) spos) env) Q E s := by
  rw [exec_Assign_Name_used _ _ _ _ hsw]
  refine wpAny_bind (wpAny_standAt (wpAny_bind ?_))
  show wpAny _ A (do let _ ← comprehension (.ListComp elt (⟨t0, i0, ifs, 0⟩ :: rest) scope pos) scope env _ (newList []) false (eval i0 env) (some (assign (.Name y py) env))) _ _ s
  refine wpAny_bind (wpAny_mono (wpAny_comprehension_free (use := some (assign (.Name y py) env)) (Q := fun _ s' => Q .next s') rfl hs hclos hkind hnames
    (wpAny_mono h (fun xv s₁ h₁ => wpAny_mono h₁ (fun it s₂ h₂ => ?_) fun _ _ e => e) fun _ _ e => e)) (fun _ s' hq => wpAny_pure (wpAny_pure hq)) fun _ _ e => e)
  obtain ⟨x2, h₂⟩ := h₂
  refine newList_x fun D s₃ x3 hD P3 => ?_
  refine wpAny_newFunctionEnv hcell (by intro y hy; simp at hy) (fun h₁ hns₁ hsb₁ => ?_) hkind
  have hC : s₃.heap.get? s₃.heap.objs.size = none := get_size _
  have x4 : Ext s₃ { s₃ with heap := h₁, toks := s₃.toks + ([] : List (Str × Value)).length } := ⟨fun b o e => hsb₁.extBut b o (ne_some e hC) (Heap.get?_push_of_some _ e), rfl, rfl⟩
  have hDC : D ≠ s₃.heap.objs.size := ne_plain P3 hC
  refine codeAny_mono (h₂ D s₃.heap.objs.size _ (x3.trans x4) hD (x3.new hC) hDC (plain_ext P3 x4) ⟨x2.trans (x3.trans x4), hns₁, x2.new (x3.new hC), S.gnd⟩) fun r s' hr => ?_
  obtain ⟨rfl, m', ys, U, P', hZ⟩ := hr
  show wpAny _ A (assign (.Name y py) env (.ref D)) _ _ s'
  have OC := S.own_new U.new
  have OD := S.own_new (x2.new hD)
  refine wpAny_assign_Name (stL (S.grow U.ext) (fun s'' S'' k'' => ?_) hk hy)
  refine ⟨m', U.ns.at' fun o e => (k'' _ OC.neL).trans e, fun h' hs' => ?_⟩
  refine hQ D _ ys hZ (S''.mut OC hs'.extBut s''.toks) ?_ (x2.new hD) fun b o hb e => ?_
  · obtain ⟨n, hn⟩ := P'
    exact ⟨n, hs'.extBut _ _ hDC ((k'' _ OD.neL).trans hn)⟩
  · exact hs'.extBut b o (ne_some e U.new) ((k'' b hb).trans (U.ext.keep b o e))
end
end Mine

namespace Mine
open PySem PySem.W PySem.Calls PyProof.Rows

section
variable {prog : Program} {w : World} {A : Around} {E : Value → Shared → Prop} {s : Shared} {Q : Value → Shared → Prop}
theorem range1_x {n : Int} {t : Tok} (h : ∀ r s', Ext s s' → s.heap.get? r = none → (∃ t u v, IsRange s'.heap r 0 n 1 t u v) → Q (.ref r) s') :
    wpAny (model prog w) A (call (.type "range") [.int n t]) Q E s :=
  call_range_1 (h _ _ (ext_push s _ _) (get_size _) ⟨_, _, _, IsRange.new ..⟩)
theorem range2_x {a n : Int} {t u : Tok} (h : ∀ r s', Ext s s' → s.heap.get? r = none → (∃ t u v, IsRange s'.heap r a n 1 t u v) → Q (.ref r) s') :
    wpAny (model prog w) A (call (.type "range") [.int a t, .int n u]) Q E s :=
  call_range_2 (h _ _ (ext_push s _ _) (get_size _) ⟨_, _, _, IsRange.new ..⟩)
theorem iterRange_x {r : Addr} {a b : Int} (hr : ∃ t u v, IsRange s.heap r a b 1 t u v) (ha : -(2 ^ 62) ≤ a) (ha' : a < 2 ^ 62) (hb : -(2 ^ 62) ≤ b) (hb' : b < 2 ^ 62)
    (h : ∀ J s', Ext s s' → s.heap.get? J = none → IsRangeIter s'.heap J a ((b - a).toNat : Nat) 1 → Q (.ref J) s') :
    wpAny (model prog w) A (pyIter (.ref r)) Q E s := by
  obtain ⟨t, u, v, hr⟩ := hr
  refine wpAny_pyIter_range hr (small_one ha ha' hb hb') (h _ _ (ext_push s _ _) (get_size _) ?_)
  rw [rangeSize_nat]
  exact Heap.get?_push_size _ rfl
end

def wwEnv (L : Addr) : Env := envOfC (Str.ofString "_law_words") (fnS 7).2 L 40 (.ref 39)
def wwStmt : Stmt := match (fnS 7).1 with
  | _ :: .For _ _ (b :: _) _ _ :: _ => b
  | _ => .Pass ⟨0, 0, 0, 0⟩

section
variable {prog : Program} {w : World} {A : Around} {E : Value → Shared → Prop} {s₀ s : Shared}

theorem ww_cells (L : Addr) : (wwEnv L).cells = [(Str.ofString "sign", L + 2), (Str.ofString "letters", L + 1)] := by rfl

theorem words_comp {L l : Addr} {m cm : Str → Option Value} {letters : List Nat} {tl tc : Tok} {c : Nat} {vs : Array Value} {ws : List (List Nat)} {Q : Flow → Shared → Prop}
    (S : St w s₀ (wwEnv L) m cm s) (hh : A.handled = none) (mw : m (Str.ofString "words") = some (.ref l)) (P : s.heap.IsList l vs) (hS : StrsAre vs.toList (ws.map mk))
    (c1 : cm (Str.ofString "letters") = some (.str (mk letters) tl)) (c2 : cm (Str.ofString "sign") = some (.str (mk [c]) tc))
    (hll : letters.length ≤ 100) (hwl : ∀ x ∈ ws, x.length ≤ 10000) (hsz : (stepW letters ws c).length ≤ 1000)
    (h : ∀ D s' vs', St w s₀ (wwEnv L) (upd m (Str.ofString "words") (.ref D)) cm s' → s'.heap.PlainList D vs' → s.heap.get? D = none → StrsAre vs'.toList ((stepW letters ws c).map mk) →
      (∀ b o, b ≠ L → s.heap.get? b = some o → s'.heap.get? b = some o) → Q .next s') :
    wpAny (model prog w) A (exec wwStmt (wwEnv L)) Q E s := by
  refine assign_comp (Z := fun ys => StrsAre ys.toList ((stepW letters ws c).map mk)) (cl := [(Str.ofString "sign", L + 2), (Str.ofString "letters", L + 1)]) S (by rfl) ?_ fun D s' ys hz S' P' hD k' => h D s' ys S' P' hD hz k'
  refine ldL S mw <| iterList_x P fun I s₂ x2 hI I2 => ⟨x2, fun D C s₃ x3 hD hC hDC P3 U3 => ?_⟩
  have hlI : l ≠ I := ne_list P hI
  have hDI : D ≠ I := fun q => by obtain ⟨o, ho, _⟩ := I2; rw [q, ho] at hD; cases hD
  have hCI : C ≠ I := fun q => by obtain ⟨o, ho, _⟩ := I2; rw [q, ho] at hC; cases hC
  have I3 : s₃.heap.IsListIter I l 0 := I2.at fun o e => x3.keep _ _ e
  have hDn : s.heap.get? D = none := x2.new hD
  have hCn : s.heap.get? C = none := U3.new
  have hL1 : s.heap.IsCell (L + 1) (some (.str (mk letters) tl)) := by have := S.cl.cell (Str.ofString "letters") (L + 1) rfl; rwa [c1] at this
  have hL2 : s.heap.IsCell (L + 2) (some (.str (mk [c]) tc)) := by have := S.cl.cell (Str.ofString "sign") (L + 2) rfl; rwa [c2] at this
  have hvsz : vs.size = ws.length := by have := hS.length; simpa using this
  have hcnt : letters.count c ≤ 100 := Nat.le_trans List.count_le_length hll
  refine codeAny_compStart_list ?g1 (wpAny_pyIter_listiter I3 ?g1)
  refine comp2_outer (fun n s' => ∃ m' ys i, Su w s C m' s' ∧ s'.heap.PlainList D ys ∧ s'.heap.IsListIter I l i ∧ StrsAre ys.toList ((stepW letters (ws.take i) c).map mk) ∧ i ≤ ws.length ∧ n = ws.length + 1 - i) ?_ (ws.length + 1)
    ⟨_, #[], 0, U3, P3, I3, .nil, Nat.zero_le _, rfl⟩
  rintro n s₄ ⟨m4, ys, i, U4, P4, I4, hys, hi, rfl⟩
  have l4 : s₄.heap.IsList l vs := list_ext P U4.ext
  cases hv : vs[i]? with
  | none =>
    have hieq : i = ws.length := by
      have := Array.getElem?_eq_none_iff.mp hv
      omega
    refine wpAny_pyNext_list_end hh I4 l4 hv fun h₁ he₁ => ⟨rfl, m4, ys, U4.mut hI hCI he₁ rfl rfl, ?_, ?_⟩
    · obtain ⟨n, ho⟩ := P4
      exact ⟨n, he₁ _ _ hDI ho⟩
    · rw [hieq, List.take_of_length_le (Nat.le_refl _)] at hys
      exact hys
  | some v =>
    have hlt : i < ws.length := by
      have := (Array.getElem?_eq_some_iff.mp hv).1
      omega
    obtain ⟨x, tw, rfl, hx⟩ := strs_at hS i v (by simpa using hv)
    obtain ⟨wd, hwd, rfl⟩ : ∃ wd, ws[i]? = some wd ∧ mk wd = x := by
      rw [List.getElem?_map] at hx
      cases q : ws[i]? with
      | none => rw [q] at hx; cases hx
      | some wd => rw [q] at hx; cases hx; exact ⟨wd, rfl, rfl⟩
    have hwdl : wd.length ≤ 10000 := hwl wd (List.mem_of_getElem? hwd)
    refine wpAny_pyNext_list_item I4 l4 hv fun h₁ hit₁ hs₁ => ?_
    have U5 : Su w s C m4 { s₄ with heap := h₁ } := U4.mut hI hCI hs₁.extBut rfl rfl
    have P5 : h₁.PlainList D ys := plain_of P4 (hs₁.2 _ hDI)
    refine wpAny_assign_Name (stU U5 fun s₆ U6 k6 => ?_)
    have I6 : s₆.heap.IsListIter I l (i + 1) := by obtain ⟨o, ho, r⟩ := hit₁; exact ⟨o, (k6 _ (Ne.symm hCI)).trans ho, r⟩
    have P6 : s₆.heap.PlainList D ys := plain_of P5 (k6 _ hDC)
    refine callT1 U6.gnd rfl Boot.range <| wpAny_BinOp <| meth1 F.plainAttrs_str F.slot_str_count F.type_str_count <| ldUC (c := L + 1) rfl (cell_ext hL1 U6.ext) ⟨typeIs_str _ _ _, (fun _ e => nomatch e), ldUC (c := L + 2) rfl (cell_ext hL2 U6.ext) <| SC.count <| wpAny_Constant_int <| PyProof.Rows.add_int <| ?_⟩
    rw [count_mk, show ((letters.count c : Nat) : Int) + 1 = ((letters.count c + 1 : Nat) : Int) by omega]
    have U7 := U6.grow (ext_tok s₆ (s₆.toks + 1 + 1 + 1))
    refine range1_x fun r s₇ x7 hr R7 => ?_
    have U8 := U7.grow x7
    refine iterRange_x R7 (by omega) (by omega) (by omega) (by omega) fun J s₉ x9 hJ J9 => ?_
    have U9 := U8.grow x9
    have hJn : s.heap.get? J = none := U8.ext.new hJ
    have hJC : C ≠ J := fun q => by
      obtain ⟨o, _, _, ho, _⟩ := U8.ns
      have ho' : s₇.heap.get? C = some o := ho
      rw [q, hJ] at ho'; cases ho'
    have P8 : s₇.heap.PlainList D ys := plain_ext P6 x7.of_heap
    have hDJ : D ≠ J := ne_plain P8 hJ
    have I8 : s₇.heap.IsListIter I l (i + 1) := I6.at fun o e => x7.keep _ _ e
    have hIJ : I ≠ J := fun q => by obtain ⟨o, ho, _⟩ := I8; rw [q, hJ] at ho; cases ho
    have P9 := plain_ext P8 x9
    have I9 : s₉.heap.IsListIter I l (i + 1) := I8.at fun o e => x9.keep _ _ e
    have J9' : IsRangeIter s₉.heap J ((0 : Int) + (0 : Nat) * 1) ((letters.count c + 1 : Nat) - (0 : Nat) : Int) 1 := by
      have e : (((letters.count c + 1 : Nat) : Int) - 0).toNat = letters.count c + 1 := by omega
      rw [e] at J9
      simpa using J9
    have W := Walks.range (prog := prog) (w := w) hh J 0 1 (letters.count c + 1)
    refine comp2_start ?g2 (wpAny_pyIter_rangeiter J9 ?g2)
    refine comp2_inner (fun n s' => ∃ m' ys j, Su w s C m' s' ∧ m' (Str.ofString "word") = some (.str (mk wd) tw) ∧ s'.heap.PlainList D ys ∧ s'.heap.IsListIter I l (i + 1) ∧ IsRangeIter s'.heap J ((0 : Int) + (j : Nat) * 1) ((letters.count c + 1 : Nat) - (j : Nat) : Int) 1 ∧
        StrsAre ys.toList ((stepW letters (ws.take i) c ++ (List.range j).map fun k => wd ++ List.replicate k c).map mk) ∧ j ≤ letters.count c + 1 ∧ n = letters.count c + 2 - j) ?_ (letters.count c + 2)
      ⟨_, ys, 0, U9, upd_self, P9, I9, J9', by simpa using hys, Nat.zero_le _, rfl⟩
    rintro n s₁₀ ⟨m10, ys', j, U10, mw10, P10, I10, J10, hys', hj, rfl⟩
    have hstep : stepW letters (ws.take (i + 1)) c = stepW letters (ws.take i) c ++ (List.range (letters.count c + 1)).map fun k => wd ++ List.replicate k c := by
      unfold stepW
      rw [List.take_add_one, hwd, Option.toList_some, List.flatMap_append]
      simp
    by_cases hjl : j < letters.count c + 1
    · refine W.item j s₁₀ _ _ hjl J10 fun v h₁₁ tk ⟨tv, hv'⟩ J11 k11 => ?_
      subst hv'
      have U11 : Su w s C m10 { s₁₀ with heap := h₁₁, toks := tk } := U10.mut hJn hJC (fun b o hb e => k11 b o (by simpa using hb) e) rfl rfl
      refine wpAny_assign_Name (stU U11 fun s₁₂ U12 k12 => ?_)
      have eP : s₁₂.heap.PlainList D ys' := by
        obtain ⟨n, ho⟩ := P10
        exact ⟨n, (k12 _ hDC).trans (k11 _ _ (by simpa using hDJ) ho)⟩
      have eI : s₁₂.heap.IsListIter I l (i + 1) := I10.at fun o e => (k12 _ (Ne.symm hCI)).trans (k11 _ _ (by simpa using hIJ) e)
      have eJ : IsRangeIter s₁₂.heap J ((0 : Int) + ((j + 1 : Nat) : Int) * 1) ((letters.count c + 1 : Nat) - ((j + 1 : Nat) : Int) : Int) 1 := (k12 _ (Ne.symm hJC)).trans J11
      have eval_ : ((0 : Int) + (j : Int) * 1) = ((j : Nat) : Int) := by omega
      refine wpAny_BinOp <| ldU U12 (upd_ne mw10) <| wpAny_BinOp <| ldUC (c := L + 2) rfl (cell_ext hL2 U12.ext) <| ldU U12 upd_self <| ?_
      rw [eval_]
      refine SB.mul (mul_ok c j (by omega)) fun t' k' => ?_
      rw [mul_mk]
      refine PyProof.Rows.add_str (fun t'' k'' => ?_) (by rw [mk_length, mk_length, sizeLine_eq, List.length_replicate]; omega)
      rw [mk_append]
      have hsz' : ys'.size ≤ sizeLine := by
        have e1 := hys'.length
        rw [List.length_map, List.length_append, List.length_map, List.length_range, Array.length_toList] at e1
        have e2 : (stepW letters (ws.take (i + 1)) c).length ≤ (stepW letters ws c).length := by
          rw [stepW_length, stepW_length]; exact Nat.mul_le_mul_right _ (by rw [List.length_take]; omega)
        rw [hstep, List.length_append, List.length_map, List.length_range] at e2
        rw [sizeLine_eq]; omega
      refine wpAny_list_append_plain (hsz := hsz') eP fun h₁₃ P13 hs13 => ?_
      have U13 := (U12.grow (ext_tok s₁₂ k'')).mut (s' := { s₁₂ with heap := h₁₃, toks := k'' }) hDn (Ne.symm hDC) hs13.extBut rfl rfl
      refine ⟨letters.count c + 2 - (j + 1), by omega, _, _, j + 1, U13, upd_ne mw10, P13, ?_, ?_, ?_, hjl, rfl⟩
      · exact eI.at fun o e => hs13.extBut _ _ (Ne.symm hDI) e
      · exact hs13.extBut _ _ (Ne.symm hDJ) eJ
      · have e : ((stepW letters (ws.take i) c ++ (List.range (j + 1)).map fun k => wd ++ List.replicate k c).map mk) = ((stepW letters (ws.take i) c ++ (List.range j).map fun k => wd ++ List.replicate k c).map mk) ++ [mk (wd ++ List.replicate j c)] := by
          rw [List.range_succ]; simp
        rw [e, Array.toList_push]
        exact strsAre_append hys' (.cons _ _ .nil)
    · have hje : j = letters.count c + 1 := by omega
      subst hje
      refine W.done s₁₀ _ _ J10 fun h₁₁ tk k11 => ?_
      refine ⟨ws.length + 1 - (i + 1), by omega, m10, ys', i + 1, U10.mut hJn hJC (fun b o hb e => k11 b o (by simpa using hb) e) rfl rfl, ?_, ?_, ?_, hlt, rfl⟩
      · obtain ⟨n, ho⟩ := P10
        exact ⟨n, k11 _ _ (by simpa using hDJ) ho⟩
      · exact I10.at fun o e => k11 _ _ (by simpa using hIJ) e
      · rw [hstep]; exact hys'
end
end Mine

namespace Mine
open PySem PySem.W PySem.Calls PyProof.Rows

section
variable {prog : Program} {w : World} {A : Around} {E : Value → Shared → Prop} {s : Shared}

theorem ww_enter {a : Value} {Q : Value → Shared → Prop} (G : Gnd w s.heap) (hroom : A.depth < recursionLimit)
    (h : ∀ L s₁, St w s (wwEnv L) (fun _ => none) (upd (fun _ => none) (Str.ofString "letters") a) s₁ →
      wpAny (model prog w) (A.deeper (wwEnv L)) (execs (fnS 7).1 (wwEnv L)) (fun fl s' => Q (match fl with | .ret v => v | _ => .none) s') (fun _ _ => False) s₁) :
    wpAny (model prog w) A (call (.ref 40) [a]) Q E s :=
  call_fnC (binds := [(Str.ofString "letters", a)]) (scope := (fnS 7).2) (body := (fnS 7).1) G hroom rfl rfl rfl (by rfl) fun L h₁ tk hL F C => h L _ ⟨⟨F.keep, rfl, rfl⟩, F.ns, F.above, C, G⟩

theorem words_spec {letters cs : List Nat} {t : Tok} {Q : Value → Shared → Prop} (G : Gnd w s.heap) (hroom : A.depth < recursionLimit) (hh : A.handled = none)
    (hcs : cs.Pairwise (· < ·)) (hm : ∀ c, c ∈ cs ↔ c ∈ letters) (hll : letters.length < 64) (hcl : cs.length ≤ 100) (hW : (wordsFrom letters cs).length ≤ 1000)
    (h : ∀ D s' vs, Ext s s' → s'.heap.PlainList D vs → s.heap.get? D = none → StrsAre vs.toList ((wordsFrom letters cs).map mk) → Q (.ref D) s') :
    wpAny (model prog w) A (call (.ref 40) [.str (mk letters) t]) Q E s := by
  refine ww_enter G hroom fun L s₁ S => ?_
  have hh' : (A.deeper (wwEnv L)).handled = none := hh
  generalize A.deeper (wwEnv L) = B at hh'
  refine wpAny_execs_cons <| wpAny_Assign_Name <| List_ <| wpAny_items_cons <| wpAny_Constant_str <| wpAny_items_nil <| newList_x fun l₀ s₂ x2 hl₀ P2 => ?_
  have S2 := S.grow x2.of_heap
  have O2 := S.own_new hl₀
  refine stL S2 fun s₃ S3 k3 => ?_
  have P3 := plain_of P2 (k3 _ O2.neL)
  refine wpAny_execs_cons <| wpAny_For <| callB1 S3.gnd rfl Boot.sorted <| callT1 S3.gnd rfl Boot.set <| ldC S3 (c := L + 1) rfl upd_self <| set_str_x hh' (by unfold scanBound; omega) fun Ds s₄ k4 hDs X4 => ?_
  have S4 := S3.grow (keeps_ext k4)
  refine sorted_sset hh' X4 (Nat.lt_of_le_of_lt (dd_length _) (by simpa using hll)) fun D' s₅ out ss x5 hD' P5 hSS hp hsort => ?_
  have hcs' := signs_eq hp hsort hcs hm
  subst hcs'
  have S5 := S4.grow x5
  have OD := S4.own_new hD'
  have P5l := plain_ext (plain_ext P3 (keeps_ext k4)) x5
  refine iterList_x P5.isList fun I s₆ x6 hI I6 => ?_
  have S6 := S5.grow x6
  have OI := S5.own_new hI
  have hDI : D' ≠ I := ne_plain P5 hI
  have hl₀I : l₀ ≠ I := ne_plain P5l hI
  have hosz : out.size = cs.length := by have := hSS.length; simpa using this
  refine codeAny_forLoop (fun n s' => ∃ m cm i l vs, St w s (wwEnv L) m cm s' ∧ m (Str.ofString "words") = some (.ref l) ∧ cm (Str.ofString "letters") = some (.str (mk letters) t) ∧ Own s (wwEnv L) l ∧ (l = l₀ ∨ l ≠ I) ∧
      s'.heap.IsListIter I D' i ∧ s'.heap.PlainList D' out ∧ s'.heap.PlainList l vs ∧ StrsAre vs.toList ((wordsFrom letters (cs.take i)).map mk) ∧ (∀ x ∈ wordsFrom letters (cs.take i), x.length ≤ i * letters.length) ∧ i ≤ cs.length ∧ n = cs.length + 1 - i) ?_ (cs.length + 1)
    ⟨_, _, 0, l₀, _, S6, upd_self, upd_self, O2, .inl rfl, I6, plain_ext P5 x6, plain_ext P5l x6, .cons _ _ .nil, by simp [wordsFrom], Nat.zero_le _, rfl⟩
  rintro n s₇ ⟨m, cm, i, l, vs, S7, mw, cl7, Ol, hlI7, I7, P7, Pl7, hvs, hbd, hi, rfl⟩
  have hlI : l ≠ I := by
    rcases hlI7 with q | q
    · exact q ▸ hl₀I
    · exact q
  cases hv : out[i]? with
  | none =>
    have hieq : i = cs.length := by
      have := Array.getElem?_eq_none_iff.mp hv
      omega
    refine wpAny_pyNext_list_end hh' I7 P7.isList hv fun h₁ he₁ => wpAny_execs_nil ?_
    have S8 := S7.mut OI he₁ s₇.toks
    refine wpAny_execs_cons (wpAny_Return_some (ldL S8 mw ?_))
    rw [hieq, List.take_of_length_le (Nat.le_refl _)] at hvs
    refine h l _ vs S8.ext ?_ Ol.new hvs
    obtain ⟨n, ho⟩ := Pl7
    exact ⟨n, he₁ _ _ hlI ho⟩
  | some v =>
    have hlt : i < cs.length := by
      have := (Array.getElem?_eq_some_iff.mp hv).1
      omega
    obtain ⟨x, tc, rfl, hx⟩ := strs_at hSS i v (by simpa using hv)
    obtain ⟨c, hc, rfl⟩ : ∃ c, cs[i]? = some c ∧ mk [c] = x := by
      rw [List.getElem?_map] at hx
      cases q : cs[i]? with
      | none => rw [q] at hx; cases hx
      | some c => rw [q] at hx; cases hx; exact ⟨c, rfl, rfl⟩
    have hsucc : wordsFrom letters (cs.take (i + 1)) = stepW letters (wordsFrom letters (cs.take i)) c := by
      unfold wordsFrom
      rw [List.take_add_one, hc, Option.toList_some, List.foldl_append]; rfl
    have hle : (wordsFrom letters (cs.take (i + 1))).length ≤ (wordsFrom letters cs).length := by
      conv => rhs; rw [← List.take_append_drop (i + 1) cs]
      unfold wordsFrom
      rw [List.foldl_append]
      exact foldW_ge letters _ _
    refine wpAny_pyNext_list_item I7 P7.isList hv fun h₁ hit₁ hs₁ => ?_
    have S8 := S7.mut OI hs₁.extBut s₇.toks
    have P8 : h₁.PlainList D' out := plain_of P7 (hs₁.2 _ hDI)
    have Pl8 : h₁.PlainList l vs := plain_of Pl7 (hs₁.2 _ hlI)
    refine wpAny_assign_Name (stC S8 (c := L + 2) rfl fun s₉ S9 k9 => ?_)
    have hne : ∀ {b : Addr}, Own s (wwEnv L) b → b ≠ L + 2 := fun O => Ne.symm (O.neC (Str.ofString "sign") (L + 2) rfl)
    have I9 : s₉.heap.IsListIter I D' (i + 1) := by obtain ⟨o, ho, r⟩ := hit₁; exact ⟨o, (k9 _ (hne OI)).trans ho, r⟩
    have P9 : s₉.heap.PlainList D' out := plain_of P8 (k9 _ (hne OD))
    have Pl9 : s₉.heap.PlainList l vs := plain_of Pl8 (k9 _ (hne Ol))
    have hmul : i * letters.length ≤ 100 * 64 := Nat.mul_le_mul (by omega) (by omega)
    refine wpAny_execs_cons <| words_comp (letters := letters) (ws := wordsFrom letters (cs.take i)) S9 hh' mw Pl9.isList hvs (upd_ne cl7) upd_self (by omega) (fun x hx => Nat.le_trans (hbd x hx) (by omega)) (by rw [← hsucc]; omega) fun D s₁₀ vs' S10 P10 hD hvs' k10 => wpAny_execs_nil ?_
    have OD2 := S9.own_new hD
    have hDI' : D ≠ I := fun q => by obtain ⟨o, ho, _⟩ := I9; rw [q, ho] at hD; cases hD
    refine ⟨cs.length + 1 - (i + 1), by omega, _, _, i + 1, D, vs', S10, upd_self, upd_ne cl7, OD2, .inr hDI', I9.at fun o e => k10 _ _ OI.neL e, ?_, P10, by rw [hsucc]; exact hvs', ?_, hlt, rfl⟩
    · obtain ⟨n, ho⟩ := P9
      exact ⟨n, k10 _ _ OD.neL ho⟩
    · rw [hsucc, Nat.add_mul, Nat.one_mul]; exact stepW_bound hbd
end
end Mine

namespace Mine
open PySem PySem.W PySem.Calls PyProof.Rows

def fdEnv (L : Addr) : Env := envOf (Str.ofString "_law_found") (fnS 8).2 L 47 (.ref 46)
def foundOf (letters : List Nat) (ws : List (List Nat)) : List (List Nat) := ws.filter (isSub · letters)

theorem join_of (l : List Nat) : Txt.join dots (signs (mk l)) = mk (dotted l) := by
  unfold Txt.join
  rw [StrLaws.glued_eq_join, ← join_dotted]
  unfold signs
  rw [mk_toList]
theorem found_succ {letters : List Nat} {ws : List (List Nat)} {i : Nat} {wd : List Nat} (h : ws[i]? = some wd) :
    foundOf letters (ws.take (i + 1)) = if isSub wd letters = true then foundOf letters (ws.take i) ++ [wd] else foundOf letters (ws.take i) := by
  unfold foundOf
  rw [List.take_add_one, h, Option.toList_some, List.filter_append]
  cases hq : isSub wd letters <;> simp [hq]

section
variable {prog : Program} {w : World} {A : Around} {E : Value → Shared → Prop} {s : Shared}

theorem fd_enter {a : Value} {Q : Value → Shared → Prop} (G : Gnd w s.heap) (hroom : A.depth < recursionLimit)
    (h : ∀ L s₁, St w s (fdEnv L) (fun x => [(Str.ofString "letters", a)].lookup x) (fun _ => none) s₁ →
      wpAny (model prog w) (A.deeper (fdEnv L)) (execs (fnS 8).1 (fdEnv L)) (fun fl s' => Q (match fl with | .ret v => v | _ => .none) s') (fun _ _ => False) s₁) :
    wpAny (model prog w) A (call (.ref 47) [a]) Q E s :=
  call_fn (binds := [(Str.ofString "letters", a)]) (scope := (fnS 8).2) (body := (fnS 8).1) G hroom rfl rfl rfl (locs rfl) (by decide +kernel) fun L h₁ tk hL F => h L _ ⟨⟨F.keep, rfl, rfl⟩, F.ns, F.above, ⟨fun _ _ e => (nomatch e), .nil, fun _ _ e => (nomatch e)⟩, G⟩

set_option maxHeartbeats 2000000 in
theorem found_spec {letters cs : List Nat} {t : Tok} {Q : Value → Shared → Prop} (G : Gnd w s.heap) (hroom : A.depth + 1 < recursionLimit) (hh : A.handled = none)
    (hcs : cs.Pairwise (· < ·)) (hm : ∀ c, c ∈ cs ↔ c ∈ letters) (hll : letters.length < 64) (hcl : cs.length ≤ 100) (hW : (wordsFrom letters cs).length ≤ 1000)
    (hwd : ∀ x ∈ wordsFrom letters cs, x.length ≤ 100 ∧ ∀ c ∈ x, c ≠ 46)
    (h : ∀ D s' vs, Ext s s' → s'.heap.PlainList D vs → s.heap.get? D = none → StrsAre vs.toList ((foundOf letters (wordsFrom letters cs)).map mk) → Q (.ref D) s') :
    wpAny (model prog w) A (call (.ref 47) [.str (mk letters) t]) Q E s := by
  refine fd_enter G (by omega) fun L s₁ S => ?_
  have hh' : (A.deeper (fdEnv L)).handled = none := hh
  have hr' : (A.deeper (fdEnv L)).depth < recursionLimit := hroom
  generalize A.deeper (fdEnv L) = B at hh' hr'
  refine wpAny_execs_cons <| wpAny_Assign_Name <| List_ <| wpAny_items_nil <| newList_x fun D s₂ x2 hD P2 => ?_
  have S2 := S.grow x2
  have OD := S.own_new hD
  refine stL S2 fun s₃ S3 k3 => ?_
  have P3 := plain_of P2 (k3 _ OD.neL)
  refine wpAny_execs_cons <| wpAny_For <| callF1 S3.gnd rfl rfl <| ldL S3 (upd_ne rfl) ⟨S3.gnd, words_spec S3.gnd hr' hh' hcs hm hll hcl hW fun l s₄ vs x4 Pl4 hl hvs => ?_⟩
  have S4 := S3.grow x4
  have Ol := S3.own_new hl
  have P4 := plain_ext P3 x4
  have hlD : D ≠ l := ne_plain P3 hl
  generalize hws : wordsFrom letters cs = ws at hvs hwd hW h
  refine iterList_x Pl4.isList fun I s₅ x5 hI I5 => ?_
  have S5 := S4.grow x5
  have OI := S4.own_new hI
  have hlI : l ≠ I := ne_plain Pl4 hI
  have hDI : D ≠ I := ne_plain P4 hI
  have hvsz : vs.size = ws.length := by have := hvs.length; simpa using this
  refine codeAny_forLoop (fun n s' => ∃ m i ys, St w s (fdEnv L) m (fun _ => none) s' ∧ m (Str.ofString "letters") = some (.str (mk letters) t) ∧ m (Str.ofString "found") = some (.ref D) ∧
      s'.heap.IsListIter I l i ∧ s'.heap.PlainList l vs ∧ s'.heap.PlainList D ys ∧ StrsAre ys.toList ((foundOf letters (ws.take i)).map mk) ∧ i ≤ ws.length ∧ n = ws.length + 1 - i) ?_ (ws.length + 1)
    ⟨_, 0, _, S5, upd_ne rfl, upd_self, I5, plain_ext Pl4 x5, plain_ext P4 x5, .nil, Nat.zero_le _, rfl⟩
  rintro n s₆ ⟨m, i, ys, S6, ml, mf, I6, Pl6, P6, hys, hi, rfl⟩
  cases hv : vs[i]? with
  | none =>
    have hieq : i = ws.length := by
      have := Array.getElem?_eq_none_iff.mp hv
      omega
    refine wpAny_pyNext_list_end hh' I6 Pl6.isList hv fun h₁ he₁ => wpAny_execs_nil ?_
    have S7 := S6.mut OI he₁ s₆.toks
    refine wpAny_execs_cons (wpAny_Return_some (ldL S7 mf ?_))
    rw [hieq, List.take_of_length_le (Nat.le_refl _)] at hys
    refine h D _ ys S7.ext ?_ OD.new hys
    obtain ⟨n, ho⟩ := P6
    exact ⟨n, he₁ _ _ hDI ho⟩
  | some v =>
    have hlt : i < ws.length := by
      have := (Array.getElem?_eq_some_iff.mp hv).1
      omega
    obtain ⟨x, tw, rfl, hx⟩ := strs_at hvs i v (by simpa using hv)
    obtain ⟨wd, hwi, rfl⟩ : ∃ wd, ws[i]? = some wd ∧ mk wd = x := by
      rw [List.getElem?_map] at hx
      cases q : ws[i]? with
      | none => rw [q] at hx; cases hx
      | some wd => rw [q] at hx; cases hx; exact ⟨wd, rfl, rfl⟩
    obtain ⟨hwl, hwc⟩ := hwd wd (List.mem_of_getElem? hwi)
    refine wpAny_pyNext_list_item I6 Pl6.isList hv fun h₁ hit₁ hs₁ => ?_
    have S7 := S6.mut OI hs₁.extBut s₆.toks
    have Pl7 : h₁.PlainList l vs := plain_of Pl6 (hs₁.2 _ hlI)
    have P7 : h₁.PlainList D ys := plain_of P6 (hs₁.2 _ hDI)
    refine wpAny_assign_Name (stL S7 fun s₈ S8 k8 => ?_)
    have I8 : s₈.heap.IsListIter I l (i + 1) := by obtain ⟨o, ho, r⟩ := hit₁; exact ⟨o, (k8 _ OI.neL).trans ho, r⟩
    have Pl8 := plain_of Pl7 (k8 _ Ol.neL)
    have P8 := plain_of P7 (k8 _ OD.neL)
    refine wpAny_execs_cons <| wpAny_If <| wpAny_isTrue_value <| callF2 S8.gnd rfl rfl <| meth1 F.plainAttrs_str F.slot_str_join F.type_str_join <| wpAny_Constant_str ⟨typeIs_str _ _ _, (fun _ e => nomatch e), ?_⟩
    have S9 := S8.grow (ext_tok s₈ (s₈.toks + 1))
    refine wpAny_BinOp <| wpAny_BinOp <| wpAny_Constant_str <| ldL (S8.grow (ext_tok _ _)) upd_self <| PyProof.Rows.add_str (fun t₁ k₁ => wpAny_Constant_str <| PyProof.Rows.add_str (fun t₂ k₂ => ?_) ?_) ?_
    · rw [show Str.ofString "<" = mk [60] from rfl, show Str.ofString ">" = mk [62] from rfl, mk_append, mk_append, show Str.ofString "..." = dots from rfl]
      refine SC.joinStr hh' (joinOk_signsN (N := 1000) (S := 10) (by rw [mk_length]; simp; omega) (by decide) (by decide)) fun h₁₀ k₁₀ t₁₀ hk₁₀ => ?_
      rw [join_of]
      have x10 : Ext s₈ { s₈ with heap := h₁₀, toks := k₁₀ } := ⟨hk₁₀, rfl, rfl⟩
      have S10 := S8.grow x10
      refine wpAny_BinOp <| wpAny_BinOp <| wpAny_Constant_str <| ldL (S10.grow (ext_tok _ _)) (upd_ne ml) <| PyProof.Rows.add_str (fun t₃ k₃ => wpAny_Constant_str <| PyProof.Rows.add_str (fun t₄ k₄ => ?_) ?_) ?_
      · rw [mk_append, mk_append]
        have S11 := S10.grow (ext_tok { s₈ with heap := h₁₀, toks := k₁₀ } k₄)
        refine ⟨S11.gnd, em_spec (word := wd) (letters := letters) S11.gnd hr' hh' hwc hwl (by omega) fun s₁₂ x12 => wpAny_truthy_bool ?_⟩
        have S12 := S11.grow x12
        have xx := x10.trans ((ext_tok { s₈ with heap := h₁₀, toks := k₁₀ } k₄).trans x12)
        have I12 : s₁₂.heap.IsListIter I l (i + 1) := I8.at fun o e => xx.keep _ _ e
        have Pl12 := plain_ext Pl8 xx
        have P12 := plain_ext P8 xx
        by_cases hsub : isSub wd letters = true
        · rw [if_pos hsub]
          refine wpAny_execs_cons <| wpAny_Expr <| meth1 F.plainAttrs_list F.slot_list_append F.type_list_append <| ldL S12 (upd_ne mf) ⟨P12.isList.typeIs, fun a ha => ?_, ldL S12 upd_self <| wpAny_list_append_plain (hsz := ?_) P12 fun h₁₃ P13 hs13 => ?_⟩
          · cases ha
            obtain ⟨n, ho⟩ := P12
            exact ⟨_, ho, rfl⟩
          · refine wpAny_execs_nil <| wpAny_execs_nil ?_
            have S13 := S12.mut OD hs13.extBut s₁₂.toks
            refine ⟨ws.length + 1 - (i + 1), by omega, _, i + 1, _, S13, upd_ne ml, upd_ne mf, I12.at fun o e => hs13.extBut _ _ (Ne.symm hDI) e, plain_of Pl12 (hs13.2 _ (Ne.symm hlD)), P13, ?_, hlt, rfl⟩
            rw [found_succ hwi, if_pos hsub, List.map_append, Array.toList_push]
            exact strsAre_append hys (.cons _ _ .nil)
          · have e1 := hys.length
            rw [List.length_map, Array.length_toList] at e1
            have e2 : (foundOf letters (ws.take i)).length ≤ (ws.take i).length := List.length_filter_le _ _
            rw [List.length_take] at e2
            rw [sizeLine_eq]; omega
        · rw [if_neg hsub]
          refine wpAny_execs_nil <| wpAny_execs_nil ?_
          refine ⟨ws.length + 1 - (i + 1), by omega, _, i + 1, _, S12, upd_ne ml, upd_ne mf, I12, Pl12, P12, ?_, hlt, rfl⟩
          rw [found_succ hwi, if_neg hsub]
          exact hys
      · rw [mk_append, mk_length, mk_length, sizeLine_eq]; simp; omega
      · rw [mk_length, mk_length, sizeLine_eq]; simp; omega
    · rw [show Str.ofString "<" = mk [60] from rfl, show Str.ofString ">" = mk [62] from rfl, mk_append, mk_length, mk_length, sizeLine_eq]; simp; omega
    · rw [show Str.ofString "<" = mk [60] from rfl, mk_length, mk_length, sizeLine_eq]; simp; omega
end
end Mine

namespace Mine
open PySem PySem.W PySem.Calls PyProof.Rows

section
variable {prog : Program} {w : World} {A : Around} {E : Value → Shared → Prop} {s : Shared} {env : Env} {Q : Value → Shared → Prop}

theorem max_x {l : Addr} {vs : Array Value} {ns : List Int} (hh : A.handled = none) (hl : s.heap.IsList l vs) (hi : IntsAre vs.toList ns) (hne : 0 < ns.length)
    (h : ∀ s' M (t : Tok), Ext s s' → M ∈ ns → (∀ a, a ∈ ns → a ≤ M) → Q (.int M t) s') :
    wpAny (model prog w) A (call (.builtin "max") [.ref l]) Q E s := by
  obtain ⟨xs, e⟩ := hi.allInts.items
  have hns : ns = xs.toList.map (·.1) := by
    rw [← hi.numsOf, ← nums_intItems, ← e]
  have hsz : 0 < xs.size := by
    have h3 := hne; rw [hns, List.length_map, Array.length_toList] at h3; exact h3
  have hl' : s.heap.IsList l vs.toList.toArray := by rw [Array.toArray_toList]; exact hl
  rw [e] at hl'
  refine max_intList hh hl' hsz fun v h' tk hv hk => ?_
  obtain ⟨t, rfl⟩ := intItems_at hv
  obtain ⟨h1, h2⟩ := argBest_gt (numAt xs) (xs.size - 1)
  refine h _ _ t ⟨hk, rfl, rfl⟩ ?_ fun a ha => ?_
  · rw [hns, numAt_eq]; exact getD_mem (by rw [List.length_map, Array.length_toList]; omega)
  · rw [hns] at ha
    obtain ⟨j, hj, rfl⟩ := mem_getD ha
    rw [List.length_map, Array.length_toList] at hj
    rw [← numAt_eq]; exact h2 j (by omega)

theorem ldN {x : Str} {pos : Pos} {m : Str → Option Value} {v : Value} (hn : s.heap.Ns env.locals m) (hv : m x = some v) (h : Q v s)
    (hk : env.scope.kind = .function := by rfl) (hx : env.kindOf x = some .local := by rfl) (hd : (x == ("__debug__" : Str)) = false := by decide) :
    wpAny (model prog w) A (eval (.Name x pos) env) Q E s := wpAny_Name (wpAny_loadName_local hk hx hn hv h) hd

theorem keeps_refl (s : Shared) : Keeps s s := ⟨s.heap, s.toks, rfl, fun _ _ e => e⟩
theorem keeps_trans {a b c : Shared} (x : Keeps a b) (y : Keeps b c) : Keeps a c := by
  obtain ⟨h1, t1, rfl, k1⟩ := x
  obtain ⟨h2, t2, rfl, k2⟩ := y
  exact ⟨h2, t2, rfl, fun b o e => k2 b o (k1 b o e)⟩
theorem keeps_tok (s : Shared) (tk : Nat) : Keeps s { s with toks := tk } := ⟨s.heap, tk, rfl, fun _ _ e => e⟩
theorem keeps_push (s : Shared) (o : Obj) (tk : Nat) : Keeps s { s with heap := s.heap.push o, toks := tk } := ⟨_, tk, rfl, fun _ _ e => Heap.get?_push_of_some _ e⟩
theorem keeps_keep {a b : Shared} (x : Keeps a b) : ∀ p o, a.heap.get? p = some o → b.heap.get? p = some o := (keeps_ext x).keep

theorem comp_list {sI : Shared} {l : Addr} {items : Array Value} {elt : Expr} {iter : Expr} {x : Str} {px : Pos} {ifs : List Expr} {scope : Scope} {cl : List (Str × Addr)} {pos : Pos} (p : Value → Bool) (F : Value → Value → Prop)
    (hh : A.handled = none) (hclos : closureFor scope env = pure cl)
    (hi : wpAny (model prog w) A (eval iter env) (fun v s' => v = .ref l ∧ s' = sI) E s) (hl : sI.heap.IsList l items) (hsz : items.size ≤ 1000)
    (tests : ∀ C v s₃ m₃ E', v ∈ items.toList → s₃.heap.Ns C m₃ → m₃ x = some v → (∀ b o, sI.heap.get? b = some o → s₃.heap.get? b = some o) →
      wpAny (model prog w) A (forIn ifs true fun c r => if r = true then do let ok ← isTrue c (compEnvC scope cl C env) (eval c (compEnvC scope cl C env)); pure (ForInStep.yield ok) else pure (ForInStep.yield r))
        (fun ok s₄ => ok = p v ∧ Keeps s₃ s₄) E' s₃)
    (helt : ∀ C v s₃ m₃ E', v ∈ items.toList → p v = true → s₃.heap.Ns C m₃ → m₃ x = some v → (∀ b o, sI.heap.get? b = some o → s₃.heap.get? b = some o) →
      wpAny (model prog w) A (eval elt (compEnvC scope cl C env)) (fun y s₄ => F v y ∧ Keeps s₃ s₄) E' s₃)
    (h : ∀ D s' ys, Keeps sI s' → sI.heap.get? D = none → s'.heap.PlainList D ys → Paired F (items.toList.filter p) ys.toList → Q (.ref D) s')
    (hcell : ∀ y ∈ scope.names, y.2 ≠ .cell := by decide +kernel) (hkind : scope.kind = .function := by rfl)
    (hnames : ∀ y ∈ scope.names, y.2 = .local → scope.names.lookup y.1 = some .local := by decide +kernel) (hx : scope.names.lookup x = some .local := by rfl)
    (hs : ∀ x, foldedSetIterable iter env x = pure x := by intro _; rfl) :
    wpAny (model prog w) A (eval (.ListComp elt [⟨.Name x px, iter, ifs, 0⟩] scope pos) env) Q E s := by
  refine wpAny_ListComp_free p F hclos hcell hkind hnames hx (wpAny_mono hi (fun v s' hv => ?_) fun _ _ e => e) hs
  obtain ⟨rfl, rfl⟩ := hv
  have hlI : l ≠ s'.heap.objs.size := ne_list hl (get_size _)
  refine wpAny_pyIter_list hl ⟨_, _, _, _, _, _, rfl, Walks.list hh _ l hlI items, by rw [sizeLine_eq]; omega, ⟨⟨_, Heap.get?_push_size _ rfl, rfl, rfl⟩, hl.push _⟩, ?_, ⟨?_, ?_⟩, ?_⟩
  · intro b hb
    show b < (s'.heap.push _).objs.size
    rw [Heap.size_push]
    simp only [List.mem_cons, List.not_mem_nil, or_false] at hb
    rcases hb with rfl | rfl
    · exact Nat.lt_succ_self _
    · exact Nat.lt_succ_of_lt (lt_size_of_list hl)
  · intro C i v s₃ m₃ E' _ hv hn hm hk _
    exact tests C v s₃ m₃ E' (List.mem_of_getElem? (by rw [Array.getElem?_toList]; exact hv)) hn hm fun b o e => hk b o (by simpa using ne_some e (get_size _)) (Heap.get?_push_of_some _ e)
  · intro C i v s₃ m₃ E' _ hv hp hn hm hk _
    exact helt C v s₃ m₃ E' (List.mem_of_getElem? (by rw [Array.getElem?_toList]; exact hv)) hp hn hm fun b o e => hk b o (by simpa using ne_some e (get_size _)) (Heap.get?_push_of_some _ e)
  · intro D h' tk ys vs hD _ hP hlen hvs hF hk
    have e : vs = items.toList := by
      apply List.ext_getElem?
      intro i
      have e2 : items.toList[i]? = items[i]? := Array.getElem?_toList
      rw [e2]
      cases ho : vs[i]? with
      | some v => exact (hvs i v ho).symm
      | none =>
        have := List.getElem?_eq_none_iff.mp ho
        rw [Array.getElem?_eq_none (by omega)]
    subst e
    refine h D _ ys ⟨h', tk, rfl, fun b o e => hk b o (by simpa using ne_some e (get_size _)) (Heap.get?_push_of_some _ e)⟩ ?_ hP hF
    cases e : s'.heap.get? D with
    | none => rfl
    | some o => have := Heap.get?_push_of_some { cls := .type "list_iterator", data := .fields #[.ref l, .int 0 0] } e; rw [hD] at this; cases this
end
end Mine

namespace Mine
open PySem PySem.W PySem.Calls PyProof.Rows PySem.Spec

def minL : List Nat → List Nat
  | [] => []
  | a :: r => [r.foldl Nat.min a]
def lastsOf (ws : List (List Nat)) (k : Nat) : List Nat := (ws.filter fun w => w.length == k).map fun w => w.getLastD 0
def maxLen (ws : List (List Nat)) : Nat := (ws.map List.length).foldl Nat.max 0
def leastOf (ws : List (List Nat)) : List Nat := (List.range (maxLen ws)).flatMap fun k => minL (lastsOf ws (k + 1))

theorem foldmin_le : ∀ (r : List Nat) (a : Nat), r.foldl Nat.min a ≤ a ∧ ∀ x ∈ r, r.foldl Nat.min a ≤ x
  | [], a => ⟨Nat.le_refl _, fun x hx => by simp at hx⟩
  | b :: r, a => by
    obtain ⟨h1, h2⟩ := foldmin_le r (Nat.min a b)
    have h1' : r.foldl Nat.min (Nat.min a b) ≤ min a b := h1
    rw [List.foldl_cons]
    refine ⟨by omega, fun x hx => ?_⟩
    rcases List.mem_cons.mp hx with rfl | hx
    · omega
    · exact h2 x hx
theorem foldmin_mem : ∀ (r : List Nat) (a : Nat), r.foldl Nat.min a ∈ a :: r
  | [], a => by simp
  | b :: r, a => by
    rw [List.foldl_cons]
    have := foldmin_mem r (Nat.min a b)
    rcases List.mem_cons.mp this with h | h
    · rw [h]
      show min a b ∈ _
      rcases Nat.le_total a b with q | q
      · rw [Nat.min_eq_left q]; simp
      · rw [Nat.min_eq_right q]; simp
    · simp [h]
theorem take_minL {ds l : List Nat} (hp : ds.Perm l) (hs : ds.Pairwise (· ≤ ·)) : ds.take 1 = minL l := by
  cases l with
  | nil => have := hp.eq_nil; subst this; rfl
  | cons a r =>
    cases ds with
    | nil => exact absurd hp.symm.eq_nil (by simp)
    | cons d t =>
      have h1 := foldmin_mem r a
      have h2 := hp.mem_iff.mpr h1
      have h3 : d ≤ r.foldl Nat.min a := by
        rcases List.mem_cons.mp h2 with h | h
        · omega
        · exact (List.pairwise_cons.mp hs).1 _ h
      have h4 : d ∈ a :: r := hp.mem_iff.mp List.mem_cons_self
      have h5 : r.foldl Nat.min a ≤ d := by
        rcases List.mem_cons.mp h4 with h | h
        · rw [h]; exact (foldmin_le r a).1
        · exact (foldmin_le r a).2 _ h
      have : d = r.foldl Nat.min a := by omega
      simp [minL, this]
theorem foldmax_ge : ∀ (r : List Nat) (a : Nat), a ≤ r.foldl Nat.max a ∧ ∀ x ∈ r, x ≤ r.foldl Nat.max a
  | [], a => ⟨Nat.le_refl _, fun x hx => by simp at hx⟩
  | b :: r, a => by
    obtain ⟨h1, h2⟩ := foldmax_ge r (Nat.max a b)
    have h1' : max a b ≤ r.foldl Nat.max (Nat.max a b) := h1
    rw [List.foldl_cons]
    refine ⟨by omega, fun x hx => ?_⟩
    rcases List.mem_cons.mp hx with rfl | hx
    · omega
    · exact h2 x hx
theorem foldmax_mem : ∀ (r : List Nat) (a : Nat), r.foldl Nat.max a ∈ a :: r
  | [], a => by simp
  | b :: r, a => by
    rw [List.foldl_cons]
    have := foldmax_mem r (Nat.max a b)
    rcases List.mem_cons.mp this with h | h
    · rw [h]
      show max a b ∈ _
      rcases Nat.le_total a b with q | q
      · rw [Nat.max_eq_right q]; simp
      · rw [Nat.max_eq_left q]; simp
    · simp [h]
theorem maxLen_eq {ws : List (List Nat)} {M : Int} (hm : M ∈ ws.map fun w => (w.length : Int)) (hle : ∀ a ∈ ws.map fun w => (w.length : Int), a ≤ M) : M = (maxLen ws : Int) := by
  obtain ⟨x, hx, rfl⟩ := List.mem_map.mp hm
  have h1 : x.length ≤ maxLen ws := (foldmax_ge _ _).2 _ (List.mem_map_of_mem hx)
  have h2 : (maxLen ws : Int) ≤ x.length := by
    rcases List.mem_cons.mp (foldmax_mem (ws.map List.length) 0) with h | h
    · show ((ws.map List.length).foldl Nat.max 0 : Nat) ≤ (x.length : Int)
      rw [h]; omega
    · obtain ⟨y, hy, e⟩ := List.mem_map.mp h
      have := hle _ (List.mem_map_of_mem hy)
      unfold maxLen
      rw [← e]; exact this
  omega

theorem strs_paired {α : Type} {f : α → Str} : ∀ {as : List α} {vs : List Value}, StrsAre vs (as.map f) → Paired (fun a v => ∃ t, v = .str (f a) t) as vs
  | [], _, h => by cases h; exact .nil
  | a :: as, _, h => by cases h with | cons x t r => exact .cons ⟨t, rfl⟩ (strs_paired r)
theorem paired_strs {α : Type} {f : α → Str} : ∀ {as : List α} {vs : List Value}, Paired (fun a v => ∃ t, v = .str (f a) t) as vs → StrsAre vs (as.map f)
  | _, _, .nil => .nil
  | _, _, .cons ⟨t, e⟩ r => by subst e; exact .cons _ t (paired_strs r)
theorem ints_paired {α : Type} {f : α → Int} : ∀ {as : List α} {vs : List Value}, IntsAre vs (as.map f) → Paired (fun a v => ∃ t, v = .int (f a) t) as vs
  | [], _, h => by cases h; exact .nil
  | a :: as, _, h => by cases h with | cons x t r => exact .cons ⟨t, rfl⟩ (ints_paired r)
theorem paired_ints {α : Type} {f : α → Int} : ∀ {as : List α} {vs : List Value}, Paired (fun a v => ∃ t, v = .int (f a) t) as vs → IntsAre vs (as.map f)
  | _, _, .nil => .nil
  | _, _, .cons ⟨t, e⟩ r => by subst e; exact .cons _ t (paired_ints r)
theorem paired_mem {α β : Type} {R : α → β → Prop} : ∀ {as : List α} {bs : List β}, Paired R as bs → ∀ b ∈ bs, ∃ a ∈ as, R a b
  | _, _, .nil, b, hb => by simp at hb
  | _, _, .cons h r, b, hb => by
    rcases List.mem_cons.mp hb with rfl | hb
    · exact ⟨_, List.mem_cons_self, h⟩
    · obtain ⟨a, ha, q⟩ := paired_mem r b hb
      exact ⟨a, List.mem_cons_of_mem _ ha, q⟩
theorem paired_comp {α : Type} {R R' : α → Value → Prop} {F : Value → Value → Prop} {p : Value → Bool} {q : α → Bool} (hpq : ∀ a v, R a v → p v = q a) (hF : ∀ a v y, R a v → F v y → R' a y) :
    ∀ {as : List α} {vs ys : List Value}, Paired R as vs → Paired F (vs.filter p) ys → Paired R' (as.filter q) ys
  | _, _, _, .nil, h => by cases h; exact .nil
  | _, _, _, .cons (a := a) (b := v) hr r, h => by
    have e := hpq _ _ hr
    cases hq : q a with
    | true =>
      rw [List.filter_cons_of_pos (by rw [e, hq])] at h
      rw [List.filter_cons_of_pos hq]
      cases h with
      | cons h1 h2 => exact .cons (hF _ _ _ hr h1) (paired_comp hpq hF r h2)
    | false =>
      rw [List.filter_cons_of_neg (by rw [e, hq]; decide)] at h
      rw [List.filter_cons_of_neg (by rw [hq]; decide)]
      exact paired_comp hpq hF r h
theorem filter_true {α : Type} (l : List α) : l.filter (fun _ => true) = l := by simp
end Mine

namespace Mine
open PySem PySem.W PySem.Calls PyProof.Rows

def lsEnv (L : Addr) : Env := envOfC (Str.ofString "_law_least") (fnS 9).2 L 52 (.ref 51)

section
variable {prog : Program} {w : World} {A : Around} {E : Value → Shared → Prop} {s : Shared}

theorem ls_enter {a : Value} {Q : Value → Shared → Prop} (G : Gnd w s.heap) (hroom : A.depth < recursionLimit)
    (h : ∀ L s₁, St w s (lsEnv L) (upd (fun _ => none) (Str.ofString "words") a) (fun _ => none) s₁ →
      wpAny (model prog w) (A.deeper (lsEnv L)) (execs (fnS 9).1 (lsEnv L)) (fun fl s' => Q (match fl with | .ret v => v | _ => .none) s') (fun _ _ => False) s₁) :
    wpAny (model prog w) A (call (.ref 52) [a]) Q E s :=
  call_fnC (binds := [(Str.ofString "words", a)]) (scope := (fnS 9).2) (body := (fnS 9).1) G hroom rfl rfl rfl (by rfl) fun L h₁ tk hL F C => h L _ ⟨⟨F.keep, rfl, rfl⟩, F.ns, F.above, C, G⟩

theorem slice1_x {l : Addr} {items : Array Value} {env : Env} {value : Expr} {n : Int} {p p' pos : Pos} {Q : Value → Shared → Prop} {k : Nat} (hn : n = k)
    (h : wpAny (model prog w) A (eval value env) (fun o s₁ => o = .ref l ∧ s₁.heap.IsList l items ∧ items.size ≤ 1000 ∧
      ∀ D s', Keeps s₁ s' → s₁.heap.get? D = none → s'.heap.PlainList D (items.toList.take k).toArray → Q (.ref D) s') E s)
    (ht : ∀ o r, letTemporaryGo value o r = pure () := by intro _ _; rfl) :
    wpAny (model prog w) A (eval (.Subscript value (.Slice none (some (.Constant (.int n) 0 p')) none p) pos) env) Q E s := by
  refine wpAny_Subscript_list_slice (wpAny_mono h (fun o s₁ h₁ => ?_) fun _ _ e => e) ht
  obtain ⟨rfl, hl, hsz, hQ⟩ := h₁
  rw [evalPart_none]
  refine wpAny_pure <| wpAny_evalPart_some <| wpAny_Constant_int ⟨l, items, none, some n, rfl, hl, by rw [sizeLine_eq]; omega, .none, .int _ _, ?_⟩
  rw [hn, slicePick_upto']
  refine hQ _ _ ⟨_, _, rfl, fun b o e => Heap.get?_push_of_some _ (Heap.get?_push_of_some _ e)⟩ ?_ ⟨0, ?_⟩
  · cases e : s₁.heap.get? (s₁.heap.objs.size + 1) with
    | none => rfl
    | some o => exact absurd (Heap.lt_size e) (by show ¬ (s₁.heap.objs.size + 1 < s₁.heap.objs.size); exact Nat.not_lt.mpr (Nat.le_succ _))
  · have e : s₁.heap.objs.size + 1 = (s₁.heap.push { cls := .type "slice", data := .fields #[.none, .int n s₁.toks, .none] }).objs.size := by rw [Heap.size_push]
    show Heap.get? _ (s₁.heap.objs.size + 1) = _
    rw [← hn, e]
    exact Heap.get?_push_size _ rfl

theorem tailS {value slice : Expr} {x : List Nat} {t u : Tok} {k : Int} {c : Nat} {Q : Value → Shared → Prop} (hr : (decide (k < -(2 ^ 63 : Int)) || decide (k ≥ 2 ^ 63)) = false) (hc : (seqIndex? k (mk x).length).bind ((mk x).cps[·]?) = some c)
    (h : Q (.str (mk [c]) s.toks) { s with toks := s.toks + 1 })
    (hs : subscripted slice false (.str (mk x) t) (.int k u) = operate [.str (mk x) t, .int k u] (getItem (.str (mk x) t) (.int k u)) := by with_unfolding_all rfl)
    (ht : ∀ r, letTemporaryGo value (.str (mk x) t) r = pure () := by intro _; with_unfolding_all rfl) :
    wpAny (model prog w) A (subscriptTail value slice (.str (mk x) t) (.int k u)) Q E s :=
  subscriptTail_builtin (typeIs_str s _ _) slot_str_getitem.lookup (getItem_str hr hc h) hs ht
theorem last_char {x : List Nat} (hx : x ≠ []) : (seqIndex? (-1) (mk x).length).bind ((mk x).cps[·]?) = some (x.getLastD 0) := by
  have hl : 0 < x.length := List.length_pos_iff.mpr hx
  rw [mk_length, PySem.seqIndex_neg (by decide) (by omega)]
  have e : (-1 + (x.length : Int)).toNat = x.length - 1 := by omega
  show (mk x).cps[(-1 + (x.length : Int)).toNat]? = _
  rw [e]
  show x.toArray[x.length - 1]? = _
  rw [List.getElem?_toArray, List.getLastD_eq_getLast?, List.getLast?_eq_getElem?, List.getElem?_eq_getElem (by omega)]
  rfl

theorem sorted_list_x {l : Addr} {vs : Array Value} {ss : List Str} {Q : Value → Shared → Prop} (hl : s.heap.IsList l vs) (hS : StrsAre vs.toList ss) (h64 : vs.size < 64)
    (h : ∀ D s' (out : Array Value) (ss' : List Str), Ext s s' → s.heap.get? D = none → s'.heap.PlainList D out → StrsAre out.toList ss' → ss'.Perm ss → PyProof.Rows.sortedS ss' = true → Q (.ref D) s') :
    wpAny (model prog w) A (call (.builtin "sorted") [.ref l]) Q E s := by
  refine sorted_strs (vs := vs.toList) (by rw [Array.toArray_toList]; exact hl) hS (by rw [Array.length_toList]; exact h64) fun out ss' a1 a2 a3 => ?_
  obtain ⟨e, he⟩ := sortedAll_at s.heap vs.toList out
  refine h _ _ out ss' ⟨fun _ _ => sortedAll_old, rfl, rfl⟩ ?_ ⟨e, he⟩ a1 a2 a3
  cases e : s.heap.get? (s.heap.objs.size + 1) with
  | none => rfl
  | some o => exact absurd (Heap.lt_size e) (by show ¬ (s.heap.objs.size + 1 < s.heap.objs.size); exact Nat.not_lt.mpr (Nat.le_succ _))
theorem join_nil_mk (l : List Nat) : Txt.join (Str.ofString "") (l.map fun c => mk [c]) = mk l := by
  unfold Txt.join
  rw [StrLaws.glued_eq_join]
  exact join_ones l
end
end Mine

namespace Mine
open PySem PySem.W PySem.Calls PyProof.Rows

section
variable {prog : Program} {w : World} {A : Around} {E : Value → Shared → Prop} {s : Shared}

theorem strsAre_take : ∀ (n : Nat) {vs : List Value} {ss : List Str}, StrsAre vs ss → StrsAre (vs.take n) (ss.take n)
  | 0, _, _, _ => .nil
  | _ + 1, _, _, .nil => .nil
  | n + 1, _, _, .cons x t r => .cons x t (strsAre_take n r)
theorem flat_len (f : Nat → List Nat) : ∀ j : Nat, ((List.range j).flatMap fun k => minL (f k)).length ≤ j
  | 0 => by simp
  | j + 1 => by
    have ih := flat_len f j
    rw [List.range_succ, List.flatMap_append, List.length_append]
    have : ([j].flatMap fun k => minL (f k)).length ≤ 1 := by
      simp only [List.flatMap_cons, List.flatMap_nil, List.append_nil]
      cases f j <;> simp [minL]
    omega
def hasLen (k : Nat) : Value → Bool
  | .str x _ => x.length == k
  | _ => false
def lastIs (v y : Value) : Prop := ∀ x t, v = .str (mk x) t → ∃ t', y = .str (mk [x.getLastD 0]) t'
def lenIs (v y : Value) : Prop := ∀ x t, v = .str (mk x) t → ∃ t', y = .int (x.length : Int) t'

set_option maxHeartbeats 2000000 in
theorem least_spec {l : Addr} {vs : Array Value} {ws : List (List Nat)} {Q : Value → Shared → Prop} (G : Gnd w s.heap) (hroom : A.depth < recursionLimit) (hh : A.handled = none)
    (hl : s.heap.IsList l vs) (hvs : StrsAre vs.toList (ws.map mk)) (hne : 0 < ws.length) (h64 : ws.length < 64) (hwl : ∀ x ∈ ws, x.length ≤ 100)
    (h : ∀ s' t, Ext s s' → Q (.str (mk (leastOf ws)) t) s') :
    wpAny (model prog w) A (call (.ref 52) [.ref l]) Q E s := by
  have hvsz : vs.size = ws.length := by have := hvs.length; simpa using this
  have hmem : ∀ v ∈ vs.toList, ∃ x t, v = .str (mk x) t ∧ x ∈ ws := by
    intro v hv
    obtain ⟨a, ha, t, e⟩ := paired_mem (strs_paired hvs) v hv
    exact ⟨a, t, e, ha⟩
  refine ls_enter G hroom fun L s₁ S => ?_
  have hh' : (A.deeper (lsEnv L)).handled = none := hh
  generalize A.deeper (lsEnv L) = B at hh'
  refine wpAny_execs_cons <| wpAny_Assign_Name <| wpAny_Constant_str <| stL (S.grow (ext_tok _ _)) fun s₂ S2 k2 => ?_
  have hl2 : s₂.heap.IsList l vs := S2.keep_list hl
  refine wpAny_execs_cons <| wpAny_For <| callT2 S2.gnd rfl Boot.range <| wpAny_Constant_int <| wpAny_BinOp <| callB1 (S2.grow (ext_tok _ _)).gnd rfl Boot.max ?_
  have S3 := S2.grow (ext_tok s₂ (s₂.toks + 1))
  refine comp_list (sI := { s₂ with toks := s₂.toks + 1 }) (cl := []) (fun _ => true) lenIs hh' (by rfl) (ldL S3 (upd_ne upd_self) ⟨rfl, rfl⟩) hl2 (by omega) (fun C v s₃ m₃ E' _ _ _ _ => wpAny_tests_nil ⟨rfl, keeps_refl _⟩) ?_ fun D s₄ ys k4 hD P4 hF => ?_
  · intro C v s₃ m₃ E' hv _ hn hm hk
    obtain ⟨x, t, rfl, hx⟩ := hmem v hv
    refine callB1 (S3.gnd.keeps hk) rfl Boot.len <| ldN hn hm <| len_str (by have := hwl x hx; rw [mk_length]; omega) ⟨fun x' t' e => ?_, keeps_tok _ _⟩
    cases mk_inj (Value.str.inj e).1
    exact ⟨_, by rw [mk_length]⟩
  rw [filter_true] at hF
  have hI4 : IntsAre ys.toList (ws.map fun x => (x.length : Int)) := by
    refine paired_ints ?_
    have := paired_comp (F := lenIs) (p := fun _ => true) (q := fun _ => true) (R' := fun (a : List Nat) y => ∃ t, y = Value.int (a.length : Int) t) (fun _ _ _ => rfl) (fun a v y ⟨t, e⟩ hf => hf a t e) (strs_paired hvs) (by rw [filter_true]; exact hF)
    rwa [filter_true] at this
  have S4 := S3.grow (keeps_ext k4)
  refine max_x hh' P4.isList hI4 (by simpa using hne) fun s₅ M tM x5 hM1 hM2 => ?_
  have hMe := maxLen_eq hM1 hM2
  subst hMe
  have S5 := S4.grow x5
  refine wpAny_Constant_int <| PyProof.Rows.add_int <| range2_x fun r s₆ x6 hr R6 => ?_
  have S6 := S5.grow x6.of_heap
  have hMl : maxLen ws ≤ 100 := by
    obtain ⟨x, hx, e⟩ := List.mem_map.mp hM1
    have := hwl x hx
    omega
  refine iterRange_x R6 (by omega) (by omega) (by omega) (by omega) fun J s₇ x7 hJ J7 => ?_
  have S7 := S6.grow x7
  have OJ := S6.own_new hJ
  have J7' : IsRangeIter s₇.heap J ((1 : Int) + (0 : Nat) * 1) ((maxLen ws : Nat) - (0 : Nat) : Int) 1 := by
    have e : (((maxLen ws : Nat) : Int) + 1 - 1).toNat = maxLen ws := by omega
    rw [e] at J7
    simpa using J7
  have W := Walks.range (prog := prog) (w := w) hh' J 1 1 (maxLen ws)
  refine codeAny_forLoop (fun n s' => ∃ m cm j tl, St w s (lsEnv L) m cm s' ∧ m (Str.ofString "words") = some (.ref l) ∧ m (Str.ofString "least") = some (.str (mk ((List.range j).flatMap fun k => minL (lastsOf ws (k + 1)))) tl) ∧
      IsRangeIter s'.heap J ((1 : Int) + (j : Nat) * 1) ((maxLen ws : Nat) - (j : Nat) : Int) 1 ∧ j ≤ maxLen ws ∧ n = maxLen ws + 1 - j) ?_ (maxLen ws + 1)
    ⟨_, _, 0, _, S7, upd_ne upd_self, upd_self, J7', Nat.zero_le _, rfl⟩
  rintro n s₈ ⟨m, cm, j, tl, S8, mw, ml, J8, hj, rfl⟩
  by_cases hjl : j < maxLen ws
  · refine W.item j s₈ _ _ hjl J8 fun v h₉ tk ⟨tv, hv⟩ J9 k9 => ?_
    subst hv
    have S9 := S8.mut OJ (h' := h₉) (fun b o hb e => k9 b o (by simpa using hb) e) tk
    rw [show ((1 : Int) + (j : Int) * 1) = ((j + 1 : Nat) : Int) by omega]
    refine wpAny_assign_Name (stC S9 (c := L + 1) rfl fun s₁₀ S10 k10 => ?_)
    have J10 : IsRangeIter s₁₀.heap J ((1 : Int) + ((j + 1 : Nat) : Int) * 1) ((maxLen ws : Nat) - ((j + 1 : Nat) : Int) : Int) 1 := (k10 _ (Ne.symm (OJ.neC (Str.ofString "size") (L + 1) rfl))).trans J9
    have hl10 : s₁₀.heap.IsList l vs := S10.keep_list hl
    have hC10 : s₁₀.heap.IsCell (L + 1) (some (.int ((j + 1 : Nat) : Int) tv)) := by have := S10.cl.cell (Str.ofString "size") (L + 1) rfl; rwa [upd_self] at this
    refine wpAny_execs_cons <| wpAny_Assign_Name <| callB1 S10.gnd rfl Boot.sorted ?_
    refine comp_list (sI := s₁₀) (cl := [(Str.ofString "size", L + 1)]) (hasLen (j + 1)) lastIs hh' (by rfl) (ldL S10 mw ⟨rfl, rfl⟩) hl10 (by omega) ?_ ?_ fun D₂ s₁₁ ys₂ k11 hD₂ P11 hF₂ => ?_
    · intro C v s₃ m₃ E' hv hn hm hk
      obtain ⟨x, t, rfl, hx⟩ := hmem v hv
      refine wpAny_tests_one <| wpAny_isTrue_Compare1 <| callB1 (S10.gnd.keeps hk) rfl Boot.len <| ldN hn hm <| len_str (by have := hwl x hx; rw [mk_length]; omega) ?_
      refine ldUC (c := L + 1) rfl (let ⟨o, ho, hd⟩ := hC10; ⟨o, hk _ _ ho, hd⟩) <| PyProof.Rows.eq_int <| wpAny_truthy_bool ⟨?_, keeps_tok _ _⟩
      show ((((mk x).length : Nat) : Int) == ((j + 1 : Nat) : Int)) = ((mk x).length == j + 1)
      by_cases hq : (mk x).length = j + 1
      · rw [hq]; simp
      · rw [beq_eq_false_iff_ne.mpr hq, beq_eq_false_iff_ne]
        omega
    · intro C v s₃ m₃ E' hv hp hn hm hk
      obtain ⟨x, t, rfl, hx⟩ := hmem v hv
      have hxl : x.length = j + 1 := by
        have : ((mk x).length == j + 1) = true := hp
        simpa using this
      have hxne : x ≠ [] := by rintro rfl; simp at hxl
      refine Subscript_ <| ldN hn hm <| wpAny_UnaryOp <| wpAny_Constant_int <| neg_int <| tailS (by decide) (last_char hxne) ⟨fun x' t' e => ?_, ?_⟩
      · cases mk_inj (Value.str.inj e).1
        exact ⟨_, rfl⟩
      · exact ⟨_, _, rfl, fun _ _ e => e⟩
    have hS11 : StrsAre ys₂.toList ((lastsOf ws (j + 1)).map fun c => mk [c]) := by
      unfold lastsOf
      rw [List.map_map]
      refine paired_strs ?_
      exact paired_comp (F := lastIs) (R' := fun (a : List Nat) y => ∃ t, y = Value.str (mk [a.getLastD 0]) t) (fun a v ⟨t, e⟩ => by subst e; simp [hasLen]) (fun a v y ⟨t, e⟩ hf => hf a t e) (strs_paired hvs) hF₂
    have S11 := S10.grow (keeps_ext k11)
    have hys2 : ys₂.size < 64 := by
      have e1 := hS11.length
      rw [List.length_map, Array.length_toList] at e1
      have e2 : (lastsOf ws (j + 1)).length ≤ ws.length := by unfold lastsOf; rw [List.length_map]; exact List.length_filter_le _ _
      omega
    refine sorted_list_x P11.isList hS11 hys2 fun D₃ s₁₂ out ss' x12 hD₃ P12 hSo hperm hsort => ?_
    obtain ⟨ds, rfl, hdp⟩ := perm_signs hperm
    have hmin := take_minL hdp (sorted_le ds hsort)
    have S12 := S11.grow x12
    have O3 := S11.own_new hD₃
    have hosz : out.size = ds.length := by have := hSo.length; simpa using this
    have hds : ds.length < 64 := by
      have e1 := hdp.length_eq
      have e2 : (lastsOf ws (j + 1)).length ≤ ws.length := by unfold lastsOf; rw [List.length_map]; exact List.length_filter_le _ _
      omega
    have J12 : IsRangeIter s₁₂.heap J ((1 : Int) + ((j + 1 : Nat) : Int) * 1) ((maxLen ws : Nat) - ((j + 1 : Nat) : Int) : Int) 1 := x12.keep _ _ (keeps_keep k11 _ _ J10)
    refine stL S12 fun s₁₃ S13 k13 => ?_
    have P13 := plain_of P12 (k13 _ O3.neL)
    have J13 : IsRangeIter s₁₃.heap J ((1 : Int) + ((j + 1 : Nat) : Int) * 1) ((maxLen ws : Nat) - ((j + 1 : Nat) : Int) : Int) 1 := (k13 _ OJ.neL).trans J12
    refine wpAny_execs_cons <| wpAny_AugAssign_Name <| ldnL S13 (upd_ne ml) <| meth1 F.plainAttrs_str F.slot_str_join F.type_str_join <| wpAny_Constant_str ⟨typeIs_str _ _ _, (fun _ e => nomatch e), ?_⟩
    have S14 := S13.grow (ext_tok s₁₃ (s₁₃.toks + 1))
    refine slice1_x (k := 1) rfl <| ldL (S13.grow (ext_tok _ _)) upd_self ⟨rfl, P13.isList, by omega, fun D₄ s₁₅ k15 hD₄ P15 => ?_⟩
    have S15 := S14.grow (Ext.of_heap (keeps_ext k15))
    have hS15 : StrsAre (out.toList.take 1).toArray.toList ((minL (lastsOf ws (j + 1))).map fun c => mk [c]) := by
      rw [List.toList_toArray, ← hmin, List.map_take]
      exact strsAre_take 1 hSo
    have hml : (minL (lastsOf ws (j + 1))).length ≤ 1 := by cases lastsOf ws (j + 1) <;> simp [minL]
    have hpl : ((List.range j).flatMap fun k => minL (lastsOf ws (k + 1))).length ≤ j := flat_len (fun k => lastsOf ws (k + 1)) j
    have hjoin : (((minL (lastsOf ws (j + 1))).map fun c => mk [c]).map (·.length)).sum + ((minL (lastsOf ws (j + 1))).map fun c => mk [c]).length * (Str.ofString "").length ≤ 16777216 := by
      have e : (Str.ofString "").length = 0 := rfl
      rw [e, Nat.mul_zero]
      generalize minL (lastsOf ws (j + 1)) = q at hml
      cases q with
      | nil => simp
      | cons a r =>
        cases r with
        | nil => simp
        | cons b r => simp at hml
    refine join_list P15.isList hS15 hjoin fun t₁₆ tk₁₆ => ?_
    rw [join_nil_mk]
    refine PyProof.Rows.iadd_str (fun t₁₇ tk₁₇ => ?_) (by rw [mk_length, mk_length, sizeLine_eq]; omega)
    rw [mk_append]
    refine stL (S15.grow (ext_tok _ _)) fun s₁₈ S18 k18 => wpAny_execs_nil ?_
    refine ⟨maxLen ws + 1 - (j + 1), by omega, _, _, j + 1, t₁₇, S18, upd_ne (upd_ne mw), ?_, ?_, hjl, rfl⟩
    · rw [List.range_succ, List.flatMap_append]
      simpa using upd_self
    · exact (k18 _ OJ.neL).trans (keeps_keep k15 _ _ J13)
  · have hje : j = maxLen ws := by omega
    subst hje
    refine W.done s₈ _ _ J8 fun h₉ tk k9 => wpAny_execs_nil ?_
    have S9 := S8.mut OJ (h' := h₉) (fun b o hb e => k9 b o (by simpa using hb) e) tk
    exact wpAny_execs_cons (wpAny_Return_some (ldL S9 ml (h _ _ S9.ext)))
end
end Mine

namespace Mine

/-- what may follow what in a word -/
structure Follows (R : Nat → Nat → Bool) : Prop where
  le : ∀ a b, R a b = true → a ≤ b
  ge : ∀ a b, R a b = false → b ≤ a
  trans : ∀ a b c, a ≤ b → R b c = true → R a c = true

def layN (tops : List Nat) (p c : Nat) : List Nat := tops.take p ++ c :: tops.drop (p + 1)
def stepN (R : Nat → Nat → Bool) (tops : List Nat) (c : Nat) : List Nat := layN tops (tops.takeWhile (R · c)).length c
def topsN (R : Nat → Nat → Bool) (l : List Nat) : List Nat := l.foldl (stepN R) []

theorem layN_at {tops : List Nat} {p c : Nat} (hp : p ≤ tops.length) (k : Nat) : (layN tops p c)[k]? = if k = p then some c else tops[k]? := by
  unfold layN
  have hl : (tops.take p).length = p := by rw [List.length_take]; omega
  rcases Nat.lt_trichotomy k p with h | h | h
  · rw [if_neg (by omega), List.getElem?_append_left (by omega), List.getElem?_take_of_lt h]
  · subst h
    rw [if_pos rfl, List.getElem?_append_right (by omega), hl, Nat.sub_self]
    rfl
  · rw [if_neg (by omega), List.getElem?_append_right (by omega), hl]
    obtain ⟨j, rfl⟩ : ∃ j, k = p + 1 + j := ⟨k - p - 1, by omega⟩
    rw [show p + 1 + j - p = j + 1 by omega, List.getElem?_cons_succ, List.getElem?_drop]

theorem pw_iff {R : Nat → Nat → Bool} {l : List Nat} : l.Pairwise (fun a b => R a b = true) ↔ ∀ (i j a b : Nat), i < j → l[i]? = some a → l[j]? = some b → R a b = true := by
  rw [List.pairwise_iff_getElem]
  constructor
  · intro h i j a b hij ha hb
    obtain ⟨hi, rfl⟩ := List.getElem?_eq_some_iff.mp ha
    obtain ⟨hj, rfl⟩ := List.getElem?_eq_some_iff.mp hb
    exact h i j hi hj hij
  · intro h i j hi hj hij
    exact h i j _ _ hij (List.getElem?_eq_getElem hi) (List.getElem?_eq_getElem hj)

theorem tw_facts (q : Nat → Bool) : ∀ l : List Nat, (l.takeWhile q).length ≤ l.length ∧ (∀ (k t : Nat), k < (l.takeWhile q).length → l[k]? = some t → q t = true) ∧ ∀ t, l[(l.takeWhile q).length]? = some t → q t = false
  | [] => by simp
  | a :: l => by
    obtain ⟨h1, h2, h3⟩ := tw_facts q l
    cases ha : q a with
    | true =>
      rw [List.takeWhile_cons, if_pos ha]
      refine ⟨by simpa using h1, fun k t hk ht => ?_, fun t ht => ?_⟩
      · cases k with
        | zero => simp at ht; subst ht; exact ha
        | succ k =>
          simp only [List.length_cons] at hk
          simp only [List.getElem?_cons_succ] at ht
          exact h2 k t (by omega) ht
      · simp only [List.length_cons, List.getElem?_cons_succ] at ht
        exact h3 t ht
    | false =>
      rw [List.takeWhile_cons, if_neg (by rw [ha]; decide)]
      refine ⟨by simp, fun k t hk ht => by simp at hk, fun t ht => ?_⟩
      simp at ht; subst ht; exact ha

structure Inv (R : Nat → Nat → Bool) (l tops : List Nat) : Prop where
  sorted : tops.Pairwise (fun a b => R a b = true)
  real : ∀ (k t : Nat), tops[k]? = some t → ∃ w : List Nat, w.Sublist l ∧ w.Pairwise (fun a b => R a b = true) ∧ w.length = k + 1 ∧ w.getLast? = some t
  least : ∀ w : List Nat, w.Sublist l → w.Pairwise (fun a b => R a b = true) → ∀ (k x : Nat), w.length = k + 1 → w.getLast? = some x → ∃ t, tops[k]? = some t ∧ t ≤ x

theorem last_snoc {w : List Nat} {k : Nat} (h : w.length = k + 1) : ∃ v x, w = v ++ [x] ∧ v.length = k ∧ w.getLast? = some x := by
  have hne : w ≠ [] := by rintro rfl; simp at h
  refine ⟨w.dropLast, w.getLast hne, (List.dropLast_concat_getLast hne).symm, by rw [List.length_dropLast]; omega, List.getLast?_eq_some_getLast hne⟩

theorem inv_step {R : Nat → Nat → Bool} (F : Follows R) {l tops : List Nat} {c : Nat} (I : Inv R l tops) : Inv R (l ++ [c]) (stepN R tops c) := by
  obtain ⟨hp, hlt, hstop⟩ := tw_facts (R · c) tops
  unfold stepN
  generalize (tops.takeWhile (R · c)).length = p at hp hlt hstop
  have hat := layN_at (c := c) hp
  have hsorted := pw_iff.mp I.sorted
  have hcp : ∀ t, tops[p]? = some t → c ≤ t := fun t ht => F.ge _ _ (hstop t ht)
  refine ⟨pw_iff.mpr fun i j a b hij ha hb => ?_, fun k t ht => ?_, fun w hw hR k x hk hx => ?_⟩
  · rw [hat] at ha hb
    by_cases hi : i = p
    · rw [if_pos hi] at ha
      rw [if_neg (by omega)] at hb
      cases ha
      have hpl : p < tops.length := by have := (List.getElem?_eq_some_iff.mp hb).1; omega
      have h1 := List.getElem?_eq_getElem hpl
      exact F.trans _ _ _ (hcp _ h1) (hsorted p j _ b (by omega) h1 hb)
    · rw [if_neg hi] at ha
      by_cases hj : j = p
      · rw [if_pos hj] at hb
        cases hb
        exact hlt i a (by omega) ha
      · rw [if_neg hj] at hb
        exact hsorted i j a b hij ha hb
  · rw [hat] at ht
    by_cases hk : k = p
    · rw [if_pos hk] at ht
      cases ht
      subst hk
      cases k with
      | zero => exact ⟨[c], List.sublist_append_right _ _, by simp, rfl, rfl⟩
      | succ q =>
        have hql : q < tops.length := by omega
        obtain ⟨w, hw, hR, hlen, hlast⟩ := I.real q _ (List.getElem?_eq_getElem hql)
        have hqc := hlt q _ (by omega) (List.getElem?_eq_getElem hql)
        refine ⟨w ++ [c], List.Sublist.append hw (List.Sublist.refl _), ?_, by simp [hlen], by simp⟩
        obtain ⟨v, y, rfl, hv, hy⟩ := last_snoc hlen
        rw [hy] at hlast
        cases hlast
        rw [List.pairwise_append]
        refine ⟨hR, by simp, fun a ha b hb => ?_⟩
        rw [List.mem_singleton] at hb
        subst hb
        rcases List.mem_append.mp ha with h | h
        · rw [List.pairwise_append] at hR
          exact F.trans _ _ _ (F.le _ _ (hR.2.2 a h _ (List.mem_singleton.mpr rfl))) hqc
        · rw [List.mem_singleton] at h
          rw [h]; exact hqc
    · rw [if_neg hk] at ht
      obtain ⟨w, hw, r⟩ := I.real k t ht
      exact ⟨w, hw.trans (List.sublist_append_left _ _), r⟩
  · have old : ∀ t, tops[k]? = some t → t ≤ x → ∃ t, (layN tops p c)[k]? = some t ∧ t ≤ x := by
      intro t ht hle
      rw [hat]
      by_cases hkp : k = p
      · subst hkp
        rw [if_pos rfl]
        exact ⟨c, rfl, Nat.le_trans (hcp t ht) hle⟩
      · rw [if_neg hkp]
        exact ⟨t, ht, hle⟩
    rcases List.sublist_append_iff.mp hw with ⟨w₁, w₂, rfl, h1, h2⟩
    have hw2 : w₂ = [] ∨ w₂ = [c] := by
      cases h2 with
      | cons _ h => exact .inl (List.sublist_nil.mp h)
      | cons_cons _ h => rw [List.sublist_nil.mp h]; exact .inr rfl
    rcases hw2 with rfl | rfl
    · rw [List.append_nil] at hR hk hx
      obtain ⟨t, ht, hle⟩ := I.least w₁ h1 hR k x hk hx
      exact old t ht hle
    · have hxc : x = c := by simpa using hx.symm
      subst hxc
      have hlen : w₁.length = k := by simpa using hk
      rw [hat]
      by_cases hkp : k = p
      · rw [if_pos hkp]; exact ⟨x, rfl, Nat.le_refl _⟩
      · rw [if_neg hkp]
        cases k with
        | zero =>
          have h0 : 0 < tops.length := by omega
          exact ⟨_, List.getElem?_eq_getElem h0, F.le _ _ (hlt 0 _ (by omega) (List.getElem?_eq_getElem h0))⟩
        | succ q =>
          obtain ⟨v, y, rfl, hv, hy⟩ := last_snoc hlen
          rw [List.pairwise_append] at hR
          obtain ⟨t, ht, hty⟩ := I.least _ h1 hR.1 q y hlen hy
          have hyx : R y x = true := hR.2.2 y (by simp) x (by simp)
          have htx := F.trans _ _ _ hty hyx
          have hqp : q < p := by
            rcases Nat.lt_or_ge q p with h | h
            · exact h
            · exfalso
              have hql := (List.getElem?_eq_some_iff.mp ht).1
              have hpl : p < tops.length := by omega
              have e := List.getElem?_eq_getElem hpl
              have hle : tops[p] ≤ t := by
                rcases Nat.eq_or_lt_of_le h with hh | hh
                · subst hh; rw [e] at ht; cases ht; exact Nat.le_refl _
                · exact F.le _ _ (hsorted p q _ t hh e ht)
              have h1 := hstop _ e
              rw [F.trans _ _ _ hle htx] at h1
              cases h1
          have hkl : q + 1 < tops.length := by omega
          exact ⟨_, List.getElem?_eq_getElem hkl, F.le _ _ (hlt (q + 1) _ (by omega) (List.getElem?_eq_getElem hkl))⟩

theorem inv_fold {R : Nat → Nat → Bool} (F : Follows R) : ∀ (l l₀ tops : List Nat), Inv R l₀ tops → Inv R (l₀ ++ l) (l.foldl (stepN R) tops)
  | [], l₀, tops, I => by rw [List.append_nil]; exact I
  | c :: l, l₀, tops, I => by
    have := inv_fold F l (l₀ ++ [c]) _ (inv_step F (c := c) I)
    rw [List.append_assoc] at this
    exact this
theorem inv_tops {R : Nat → Nat → Bool} (F : Follows R) (l : List Nat) : Inv R l (topsN R l) := by
  have := inv_fold F l [] [] ⟨by simp, fun k t h => by simp at h, fun w hw _ k x hk _ => by rw [List.sublist_nil.mp hw] at hk; simp at hk⟩
  exact this

/-- the words that are the chains of l, whatever their order: their least last signs are the tops -/
theorem least_tops {R : Nat → Nat → Bool} {l tops : List Nat} (I : Inv R l tops) {ws : List (List Nat)} (hws : ∀ w : List Nat, w ∈ ws ↔ w.Sublist l ∧ w.Pairwise (fun a b => R a b = true)) : leastOf ws = tops := by
  have hmax : maxLen ws = tops.length := by
    unfold maxLen
    apply Nat.le_antisymm
    · rcases List.mem_cons.mp (foldmax_mem (ws.map List.length) 0) with h | h
      · rw [h]; exact Nat.zero_le _
      · obtain ⟨w, hw, e⟩ := List.mem_map.mp h
        rw [← e]
        obtain ⟨h1, h2⟩ := (hws w).mp hw
        cases hl : w.length with
        | zero => exact Nat.zero_le _
        | succ k =>
          obtain ⟨v, x, rfl, _, hx⟩ := last_snoc hl
          obtain ⟨t, ht, _⟩ := I.least _ h1 h2 k x hl hx
          exact (List.getElem?_eq_some_iff.mp ht).1
    · cases hl : tops.length with
      | zero => exact Nat.zero_le _
      | succ k =>
        have hk : k < tops.length := by omega
        obtain ⟨w, h1, h2, h3, _⟩ := I.real k _ (List.getElem?_eq_getElem hk)
        have := (foldmax_ge (ws.map List.length) 0).2 _ (List.mem_map_of_mem ((hws w).mpr ⟨h1, h2⟩))
        omega
  have hmin : ∀ (k t : Nat), tops[k]? = some t → minL (lastsOf ws (k + 1)) = [t] := by
    intro k t ht
    obtain ⟨w, h1, h2, h3, h4⟩ := I.real k t ht
    have hm : t ∈ lastsOf ws (k + 1) := by
      refine List.mem_map.mpr ⟨w, List.mem_filter.mpr ⟨(hws w).mpr ⟨h1, h2⟩, by simpa using h3⟩, ?_⟩
      rw [List.getLastD_eq_getLast?, h4]; rfl
    have hle : ∀ x ∈ lastsOf ws (k + 1), t ≤ x := by
      intro x hx
      obtain ⟨v, hv, rfl⟩ := List.mem_map.mp hx
      obtain ⟨hv1, hv2⟩ := List.mem_filter.mp hv
      have hvl : v.length = k + 1 := by simpa using hv2
      obtain ⟨a1, a2⟩ := (hws v).mp hv1
      obtain ⟨_, y, _, _, hy⟩ := last_snoc hvl
      obtain ⟨t', ht', hle⟩ := I.least v a1 a2 k y hvl hy
      rw [ht] at ht'
      cases ht'
      rw [List.getLastD_eq_getLast?, hy]; exact hle
    generalize lastsOf ws (k + 1) = q at hm hle
    cases q with
    | nil => simp at hm
    | cons a r =>
      have h5 := hle _ (foldmin_mem r a)
      have h6 : r.foldl Nat.min a ≤ t := by
        rcases List.mem_cons.mp hm with h | h
        · rw [h]; exact (foldmin_le r a).1
        · exact (foldmin_le r a).2 _ h
      have : r.foldl Nat.min a = t := by omega
      simp [minL, this]
  unfold leastOf
  rw [hmax]
  have key : ∀ n, n ≤ tops.length → ((List.range n).flatMap fun k => minL (lastsOf ws (k + 1))) = tops.take n := by
    intro n
    induction n with
    | zero => intro _; simp
    | succ n ih =>
      intro hn
      have hlt : n < tops.length := by omega
      rw [List.range_succ, List.flatMap_append, ih (by omega), List.take_add_one, List.getElem?_eq_getElem hlt]
      simp only [List.flatMap_cons, List.flatMap_nil, List.append_nil, Option.toList_some]
      rw [hmin n _ (List.getElem?_eq_getElem hlt)]
  rw [key _ (Nat.le_refl _), List.take_length]
end Mine

namespace Mine

def single (x : List Nat) : Bool := (dd x).length == x.length
def signsOf (l : List Nat) : List Nat := (List.range' 97 5).filter fun c => l.contains c

theorem isSub_iff : ∀ (l x : List Nat), isSub x l = true ↔ x.Sublist l
  | l, [] => by
    have : isSub [] l = true := by cases l <;> rfl
    simp [this]
  | [], c :: x => by simp [isSub]
  | y :: l, c :: x => by
    unfold isSub
    by_cases h : c = y
    · subst h
      rw [if_pos rfl, isSub_iff l x, List.cons_sublist_cons]
    · rw [if_neg h, isSub_iff l (c :: x)]
      constructor
      · exact fun q => q.cons y
      · intro q
        cases q with
        | cons _ q => exact q
        | cons_cons _ q => exact absurd rfl h

theorem dd_full : ∀ (l σ : List Nat), (l.foldl ddStep σ).length = σ.length + l.length → l.Nodup ∧ ∀ a ∈ l, a ∉ σ
  | [], _, _ => ⟨List.nodup_nil, fun a h => by simp at h⟩
  | a :: l, σ, h => by
    rw [List.foldl_cons, List.length_cons] at h
    have hle := ddFold_length l (ddStep σ a)
    have ha : a ∉ σ := by
      intro q
      have e : ddStep σ a = σ := by unfold ddStep; rw [if_pos q]
      rw [e] at h hle
      omega
    have e : ddStep σ a = σ ++ [a] := by unfold ddStep; rw [if_neg ha]
    rw [e] at h
    obtain ⟨h1, h2⟩ := dd_full l (σ ++ [a]) (by rw [h, List.length_append]; simp; omega)
    refine ⟨List.nodup_cons.mpr ⟨fun q => h2 a q (by simp), h1⟩, fun b hb => ?_⟩
    rcases List.mem_cons.mp hb with rfl | hb
    · exact ha
    · exact fun q => h2 b hb (List.mem_append_left _ q)
theorem dd_id : ∀ (l σ : List Nat), l.Nodup → (∀ a ∈ l, a ∉ σ) → l.foldl ddStep σ = σ ++ l
  | [], σ, _, _ => by simp
  | a :: l, σ, h, hd => by
    obtain ⟨h1, h2⟩ := List.nodup_cons.mp h
    have e : ddStep σ a = σ ++ [a] := by unfold ddStep; rw [if_neg (hd a List.mem_cons_self)]
    rw [List.foldl_cons, e, dd_id l (σ ++ [a]) h2 fun b hb q => ?_]
    · simp
    · rcases List.mem_append.mp q with q | q
      · exact hd b (List.mem_cons_of_mem _ hb) q
      · rw [List.mem_singleton] at q
        exact h1 (q ▸ hb)
theorem single_iff (x : List Nat) : single x = true ↔ x.Nodup := by
  unfold single
  rw [beq_iff_eq]
  constructor
  · intro h
    exact (dd_full x [] (by unfold dd at h; simpa using h)).1
  · intro h
    unfold dd
    rw [dd_id x [] h (by simp)]
    simp

theorem words_sorted (letters : List Nat) : ∀ (cs : List Nat) (ws : List (List Nat)), cs.Pairwise (· < ·) → (∀ w ∈ ws, w.Pairwise (· ≤ ·)) → (∀ w ∈ ws, ∀ e ∈ w, ∀ c ∈ cs, e ≤ c) → ∀ x ∈ cs.foldl (stepW letters) ws, x.Pairwise (· ≤ ·)
  | [], _, _, h, _, x, hx => h x hx
  | c :: cs, ws, hc, h, hle, x, hx => by
    obtain ⟨hc1, hc2⟩ := List.pairwise_cons.mp hc
    rw [List.foldl_cons] at hx
    refine words_sorted letters cs _ hc2 (fun w hw => ?_) (fun w hw e he d hd => ?_) x hx
    · obtain ⟨v, hv, hw⟩ := List.mem_flatMap.mp hw
      obtain ⟨k, _, rfl⟩ := List.mem_map.mp hw
      rw [List.pairwise_append]
      refine ⟨h v hv, List.pairwise_replicate.mpr (.inr (Nat.le_refl _)), fun a ha b hb => ?_⟩
      rw [(List.mem_replicate.mp hb).2]
      exact hle v hv a ha c List.mem_cons_self
    · obtain ⟨v, hv, hw⟩ := List.mem_flatMap.mp hw
      obtain ⟨k, _, rfl⟩ := List.mem_map.mp hw
      rcases List.mem_append.mp he with q | q
      · exact hle v hv e q d (List.mem_cons_of_mem _ hd)
      · rw [(List.mem_replicate.mp q).2]
        exact Nat.le_of_lt (hc1 d hd)

theorem lead_split {c : Nat} : ∀ (z : List Nat), z.Pairwise (· ≤ ·) → (∀ e ∈ z, c ≤ e) → z = List.replicate (z.count c) c ++ z.filter (fun e => e != c)
  | [], _, _ => rfl
  | a :: z, h, hc => by
    obtain ⟨h1, h2⟩ := List.pairwise_cons.mp h
    by_cases ha : a = c
    · subst ha
      have ih := lead_split z h2 h1
      rw [List.count_cons_self, List.replicate_succ, List.filter_cons_of_neg (by simp), List.cons_append, ← ih]
    · have hac : c < a := by have := hc a List.mem_cons_self; omega
      have hne : ∀ e ∈ a :: z, e ≠ c := by
        intro e he
        rcases List.mem_cons.mp he with rfl | he
        · exact ha
        · have := h1 e he; omega
      have e1 : (a :: z).count c = 0 := List.count_eq_zero.mpr fun q => hne c q rfl
      have e2 : (a :: z).filter (fun e => e != c) = a :: z := List.filter_eq_self.mpr fun e he => by simpa using hne e he
      rw [e1, e2]; rfl

theorem words_all (letters : List Nat) : ∀ (cs : List Nat) (ws : List (List Nat)) (y z : List Nat), cs.Pairwise (· < ·) → y ∈ ws → z.Pairwise (· ≤ ·) → (∀ e ∈ z, e ∈ cs) → (∀ c ∈ cs, z.count c ≤ letters.count c) → y ++ z ∈ cs.foldl (stepW letters) ws
  | [], ws, y, z, _, hy, _, hz, _ => by
    have : z = [] := List.eq_nil_iff_forall_not_mem.mpr fun e he => by have := hz e he; simp at this
    rw [this, List.append_nil]; exact hy
  | c :: cs, ws, y, z, hc, hy, hs, hz, hn => by
    obtain ⟨hc1, hc2⟩ := List.pairwise_cons.mp hc
    have hge : ∀ e ∈ z, c ≤ e := by
      intro e he
      rcases List.mem_cons.mp (hz e he) with rfl | q
      · exact Nat.le_refl _
      · exact Nat.le_of_lt (hc1 e q)
    have e := lead_split z hs hge
    rw [List.foldl_cons, e, ← List.append_assoc]
    refine words_all letters cs _ (y ++ List.replicate (z.count c) c) _ hc2 ?_ (List.Pairwise.filter _ hs) (fun d hd => ?_) fun d hd => ?_
    · exact List.mem_flatMap.mpr ⟨y, hy, List.mem_map.mpr ⟨z.count c, List.mem_range.mpr (Nat.lt_succ_of_le (hn c List.mem_cons_self)), rfl⟩⟩
    · obtain ⟨h1, h2⟩ := List.mem_filter.mp hd
      rcases List.mem_cons.mp (hz d h1) with q | q
      · exact absurd q (by simpa using h2)
      · exact q
    · exact Nat.le_trans (List.Sublist.count_le _ List.filter_sublist) (hn d (List.mem_cons_of_mem _ hd))

/-- the words found are the sorted words below the letters -/
theorem found_iff' {letters cs : List Nat} (hcs : cs.Pairwise (· < ·)) (hm : ∀ c, c ∈ cs ↔ c ∈ letters) (w : List Nat) :
    w ∈ foundOf letters (wordsFrom letters cs) ↔ w.Sublist letters ∧ w.Pairwise (· ≤ ·) := by
  unfold foundOf
  rw [List.mem_filter, isSub_iff]
  constructor
  · rintro ⟨h1, h2⟩
    exact ⟨h2, words_sorted letters cs [[]] hcs (by simp) (by simp) w h1⟩
  · rintro ⟨h1, h2⟩
    refine ⟨?_, h1⟩
    have := words_all letters cs [[]] [] w hcs (by simp) h2 (fun e he => (hm e).mpr (h1.subset he)) fun c _ => h1.count_le c
    unfold wordsFrom
    simpa using this

def prodC (letters : List Nat) : List Nat → Nat
  | [] => 1
  | c :: cs => (letters.count c + 1) * prodC letters cs
def sumC (letters : List Nat) : List Nat → Nat
  | [] => 0
  | c :: cs => letters.count c + sumC letters cs
theorem words_len (letters : List Nat) : ∀ (cs : List Nat) (ws : List (List Nat)), (cs.foldl (stepW letters) ws).length = ws.length * prodC letters cs
  | [], ws => by simp [prodC]
  | c :: cs, ws => by rw [List.foldl_cons, words_len letters cs, stepW_length, prodC, Nat.mul_assoc]
theorem two_pow_ge : ∀ n : Nat, n + 1 ≤ 2 ^ n
  | 0 => by simp
  | n + 1 => by have := two_pow_ge n; rw [Nat.pow_succ]; omega
theorem two_pow_ge' : ∀ n : Nat, 2 ≤ n → 4 * (n + 1) ≤ 3 * 2 ^ n
  | 0, h => by omega
  | 1, h => by omega
  | 2, _ => by decide
  | n + 3, _ => by have := two_pow_ge' (n + 2) (by omega); rw [Nat.pow_succ]; omega
theorem prod_le (letters : List Nat) : ∀ cs : List Nat, prodC letters cs ≤ 2 ^ sumC letters cs
  | [] => by simp [prodC, sumC]
  | c :: cs => by
    rw [prodC, sumC, Nat.pow_add]
    exact Nat.mul_le_mul (two_pow_ge _) (prod_le letters cs)
theorem prod_le' (letters : List Nat) : ∀ cs : List Nat, (∃ c ∈ cs, 2 ≤ letters.count c) → 4 * prodC letters cs ≤ 3 * 2 ^ sumC letters cs
  | [], h => by obtain ⟨c, hc, _⟩ := h; simp at hc
  | c :: cs, h => by
    rw [prodC, sumC, Nat.pow_add]
    by_cases h2 : 2 ≤ letters.count c
    · have := Nat.mul_le_mul (two_pow_ge' _ h2) (prod_le letters cs)
      rw [Nat.mul_assoc, Nat.mul_assoc] at this
      exact this
    · obtain ⟨d, hd, hd2⟩ := h
      rcases List.mem_cons.mp hd with rfl | hd
      · exact absurd hd2 h2
      · have ih := prod_le' letters cs ⟨d, hd, hd2⟩
        have := Nat.mul_le_mul (two_pow_ge (letters.count c)) ih
        rw [Nat.mul_left_comm, Nat.mul_left_comm _ 3] at this
        exact this
theorem sumC_filter (letters : List Nat) (c : Nat) : ∀ cs : List Nat, c ∉ cs → sumC (letters.filter fun e => e != c) cs = sumC letters cs
  | [], _ => rfl
  | d :: cs, h => by
    have hdc : d ≠ c := fun q => h (q ▸ List.mem_cons_self)
    rw [sumC, sumC, sumC_filter letters c cs fun q => h (List.mem_cons_of_mem _ q), List.count_filter (by simpa using hdc)]
theorem count_filter_len (c : Nat) : ∀ l : List Nat, l.count c + (l.filter fun e => e != c).length = l.length
  | [] => rfl
  | a :: l => by
    have ih := count_filter_len c l
    by_cases h : a = c
    · subst h
      rw [List.count_cons_self, List.filter_cons_of_neg (by simp), List.length_cons]; omega
    · rw [List.count_cons_of_ne h, List.filter_cons_of_pos (by simpa using h), List.length_cons, List.length_cons]; omega
theorem sumC_le : ∀ (cs letters : List Nat), cs.Nodup → sumC letters cs ≤ letters.length
  | [], _, _ => Nat.zero_le _
  | c :: cs, letters, h => by
    obtain ⟨h1, h2⟩ := List.nodup_cons.mp h
    rw [sumC, ← sumC_filter letters c cs h1]
    have := sumC_le cs (letters.filter fun e => e != c) h2
    have := count_filter_len c letters
    omega
theorem words_few {letters cs : List Nat} (hcs : cs.Pairwise (· < ·)) (hl : letters.length ≤ 6) (h2 : ∃ c ∈ cs, 2 ≤ letters.count c) : (wordsFrom letters cs).length < 64 := by
  unfold wordsFrom
  rw [words_len]
  have h1 := prod_le' letters cs h2
  have h3 := sumC_le cs letters (hcs.imp fun h => Nat.ne_of_lt h)
  have h4 : 2 ^ sumC letters cs ≤ 2 ^ 6 := Nat.pow_le_pow_right (by decide) (by omega)
  simp only [List.length_cons, List.length_nil, Nat.zero_add, Nat.one_mul]
  omega
end Mine

namespace Mine
open PySem PySem.W PySem.Calls PyProof.Rows PySem.SeqAt

section
variable {prog : Program} {w : World} {A : Around} {E : Value → Shared → Prop} {s : Shared} {env : Env} {Q : Value → Shared → Prop}

theorem index_x {l : Addr} {vs : Array Value} {ns : List Int} {k : Int} {t : Tok} (hl : s.heap.IsList l vs) (hi : IntsAre vs.toList ns)
    (hlen : ns.length ≤ 1000) (hk : k ∈ ns) (h : Q (.int (ns.idxOf k : Nat) s.toks) { s with toks := s.toks + 1 }) :
    wpAny (model prog w) A (call (.builtin "list.index") [.ref l, .int k t]) Q E s := by
  obtain ⟨⟨cls, dd, data, sl⟩, ho, hc, n, hd⟩ := id hl
  simp only at hc hd
  subst hc hd
  have hlen' := hi.length
  have hj : ns.idxOf k < ns.length := List.idxOf_lt_length_iff.mpr hk
  refine call_meets PySem.F.slot_list_index ⟨_, ho, rfl⟩ PySem.F.entry_list_index (PySem.F.args_list_index_2 _ _)
    (list_indexAt l vs n dd sl (.int k t) (isInt k) (ns.idxOf k) (by rw [← Array.length_toList, hlen']; exact hj) (by omega) ?_ ?_) ⟨ho, fun y hy => (eq_isInt k t hi y (by simpa using hy)).at _ _, h⟩
  · have := isInt_at k hi (ns.idxOf k) (by omega) hj
    rw [Array.getElem_toList] at this
    rw [this]
    simpa using List.getElem_idxOf hj
  · intro j hjs hlt
    have := isInt_at k hi j (by simpa using hjs) (by omega)
    rw [Array.getElem_toList] at this
    rw [this]
    exact ne_of_lt_idxOf hlt _

theorem addList_x {l b : Addr} {xs ys : Array Value} (hl : s.heap.PlainList l xs) (hb : s.heap.PlainList b ys) (hsz : xs.size + ys.size ≤ 1000)
    (h : ∀ D s', Ext s s' → s.heap.get? D = none → s'.heap.PlainList D (xs ++ ys) → Q (.ref D) s') : wpAny (model prog w) A (binaryOp .Add (.ref l) (.ref b)) Q E s := by
  obtain ⟨n, hl⟩ := hl
  obtain ⟨n', hb⟩ := hb
  exact P.add_list (n := n) (n2 := n') hl hb (h _ _ (ext_push s _ s.toks) (get_size _) ⟨0, Heap.get?_push_size _ rfl⟩) (by rw [sizeLine_eq]; omega)

theorem iterTuple_x {l : Addr} {items : Array Value} (hl : IsTup s.heap l items) (h : ∀ I s', Ext s s' → s.heap.get? I = none → IsTupIter s'.heap I l 0 → Q (.ref I) s') :
    wpAny (model prog w) A (pyIter (.ref l)) Q E s :=
  iter_tuple hl (h _ _ (ext_push s _ s.toks) (get_size _) ⟨_, Heap.get?_push_size _ rfl, rfl, rfl⟩)

theorem letGo_tup {I l : Addr} {i : Nat} {elts : List Expr} {k : Nat} {pos : Pos} {v : Value} {Q : Unit → Shared → Prop} (hI : IsTupIter s.heap I l i) (h : Q () s) :
    wpAny (model prog w) A (letOwnedTupleGo (.Tuple elts k pos) (.ref I) v) Q E s := by
  obtain ⟨o, ho, hc, hd⟩ := hI
  unfold letOwnedTupleGo
  cases v with
  | ref a =>
    refine wpAny_bind (wpAny_load ho ?_)
    rw [hc, hd]
    dsimp only
    rw [if_neg (by simp)]
    exact wpAny_pure h
  | _ => exact wpAny_pure h

theorem comp_listG {elt : Expr} {iter : Expr} {x : Str} {px : Pos} {ifs : List Expr} {scope : Scope} {cl : List (Str × Addr)} {pos : Pos} (p : Value → Bool) (F : Value → Value → Prop)
    (hh : A.handled = none) (hclos : closureFor scope env = pure cl)
    (hi : wpAny (model prog w) A (eval iter env) (fun v sI => ∃ l items, v = .ref l ∧ sI.heap.IsList l items ∧ items.size ≤ 1000 ∧
      (∀ C v s₃ m₃ E', v ∈ items.toList → s₃.heap.Ns C m₃ → m₃ x = some v → (∀ b o, sI.heap.get? b = some o → s₃.heap.get? b = some o) →
        wpAny (model prog w) A (forIn ifs true fun c r => if r = true then do let ok ← isTrue c (compEnvC scope cl C env) (eval c (compEnvC scope cl C env)); pure (ForInStep.yield ok) else pure (ForInStep.yield r))
          (fun ok s₄ => ok = p v ∧ Keeps s₃ s₄) E' s₃) ∧
      (∀ C v s₃ m₃ E', v ∈ items.toList → p v = true → s₃.heap.Ns C m₃ → m₃ x = some v → (∀ b o, sI.heap.get? b = some o → s₃.heap.get? b = some o) →
        wpAny (model prog w) A (eval elt (compEnvC scope cl C env)) (fun y s₄ => F v y ∧ Keeps s₃ s₄) E' s₃) ∧
      (∀ D s' ys, Keeps sI s' → sI.heap.get? D = none → s'.heap.PlainList D ys → Paired F (items.toList.filter p) ys.toList → Q (.ref D) s')) E s)
    (hcell : ∀ y ∈ scope.names, y.2 ≠ .cell := by decide +kernel) (hkind : scope.kind = .function := by rfl)
    (hnames : ∀ y ∈ scope.names, y.2 = .local → scope.names.lookup y.1 = some .local := by decide +kernel) (hx : scope.names.lookup x = some .local := by rfl)
    (hs : ∀ x, foldedSetIterable iter env x = pure x := by intro _; rfl) :
    wpAny (model prog w) A (eval (.ListComp elt [⟨.Name x px, iter, ifs, 0⟩] scope pos) env) Q E s := by
  refine wpAny_ListComp_free p F hclos hcell hkind hnames hx (wpAny_mono hi (fun v s' hv => ?_) fun _ _ e => e) hs
  obtain ⟨l, items, rfl, hl, hsz, tests, helt, h⟩ := hv
  have hlI : l ≠ s'.heap.objs.size := ne_list hl (get_size _)
  refine wpAny_pyIter_list hl ⟨_, _, _, _, _, _, rfl, Walks.list hh _ l hlI items, by rw [sizeLine_eq]; omega, ⟨⟨_, Heap.get?_push_size _ rfl, rfl, rfl⟩, hl.push _⟩, ?_, ⟨?_, ?_⟩, ?_⟩
  · intro b hb
    show b < (s'.heap.push _).objs.size
    rw [Heap.size_push]
    simp only [List.mem_cons, List.not_mem_nil, or_false] at hb
    rcases hb with rfl | rfl
    · exact Nat.lt_succ_self _
    · exact Nat.lt_succ_of_lt (lt_size_of_list hl)
  · intro C i v s₃ m₃ E' _ hv hn hm hk _
    exact tests C v s₃ m₃ E' (List.mem_of_getElem? (by rw [Array.getElem?_toList]; exact hv)) hn hm fun b o e => hk b o (by simpa using ne_some e (get_size _)) (Heap.get?_push_of_some _ e)
  · intro C i v s₃ m₃ E' _ hv hp hn hm hk _
    exact helt C v s₃ m₃ E' (List.mem_of_getElem? (by rw [Array.getElem?_toList]; exact hv)) hp hn hm fun b o e => hk b o (by simpa using ne_some e (get_size _)) (Heap.get?_push_of_some _ e)
  · intro D h' tk ys vs hD _ hP hlen hvs hF hk
    have e : vs = items.toList := by
      apply List.ext_getElem?
      intro i
      have e2 : items.toList[i]? = items[i]? := Array.getElem?_toList
      rw [e2]
      cases ho : vs[i]? with
      | some v => exact (hvs i v ho).symm
      | none =>
        have := List.getElem?_eq_none_iff.mp ho
        rw [Array.getElem?_eq_none (by omega)]
    subst e
    refine h D _ ys ⟨h', tk, rfl, fun b o e => hk b o (by simpa using ne_some e (get_size _)) (Heap.get?_push_of_some _ e)⟩ ?_ hP hF
    cases e : s'.heap.get? D with
    | none => rfl
    | some o => have := Heap.get?_push_of_some { cls := .type "list_iterator", data := .fields #[.ref l, .int 0 0] } e; rw [hD] at this; cases this
end
end Mine

namespace Mine
open PySem PySem.W PySem.Calls PyProof.Rows

theorem fold_chars (letters : List Nat) : ∀ (cs : List Nat) (ws : List (List Nat)) (x : List Nat), x ∈ cs.foldl (stepW letters) ws → ∀ c ∈ x, c ∈ cs ∨ ∃ y ∈ ws, c ∈ y
  | [], ws, x, hx, c, hc => .inr ⟨x, hx, hc⟩
  | d :: cs, ws, x, hx, c, hc => by
    rw [List.foldl_cons] at hx
    rcases fold_chars letters cs _ x hx c hc with h | ⟨y, hy, hcy⟩
    · exact .inl (List.mem_cons_of_mem _ h)
    · obtain ⟨v, hv, hy⟩ := List.mem_flatMap.mp hy
      obtain ⟨k, _, rfl⟩ := List.mem_map.mp hy
      rcases List.mem_append.mp hcy with h | h
      · exact .inr ⟨v, hv, h⟩
      · rw [List.mem_replicate] at h
        rw [h.2]; exact .inl List.mem_cons_self
theorem fold_len (letters : List Nat) : ∀ (cs : List Nat) (ws : List (List Nat)) (n : Nat), (∀ y ∈ ws, y.length ≤ n) → ∀ x ∈ cs.foldl (stepW letters) ws, x.length ≤ n + cs.length * letters.length
  | [], ws, n, h, x, hx => by have := h x hx; omega
  | d :: cs, ws, n, h, x, hx => by
    rw [List.foldl_cons] at hx
    have := fold_len letters cs _ (n + letters.length) (stepW_bound h) x hx
    rw [List.length_cons, Nat.add_mul, Nat.one_mul]
    omega
theorem fold_nil (letters : List Nat) : ∀ (cs : List Nat) (ws : List (List Nat)), [] ∈ ws → [] ∈ cs.foldl (stepW letters) ws
  | [], _, h => h
  | d :: cs, ws, h => by
    rw [List.foldl_cons]
    refine fold_nil letters cs _ (List.mem_flatMap.mpr ⟨[], h, List.mem_map.mpr ⟨0, ?_, rfl⟩⟩)
    exact List.mem_range.mpr (Nat.succ_pos _)

theorem takeWhile_map_len {g : Int → Nat} {p : Nat → Bool} {q : Int → Bool} : ∀ (l : List Int), (∀ t ∈ l, p (g t) = q t) → ((l.map g).takeWhile p).length = (l.takeWhile q).length
  | [], _ => rfl
  | a :: l, h => by
    rw [List.map_cons, List.takeWhile_cons, List.takeWhile_cons, h a List.mem_cons_self]
    split
    · rw [List.length_cons, List.length_cons, takeWhile_map_len l fun t ht => h t (List.mem_cons_of_mem _ ht)]
    · rfl
theorem lay1_map {R : Nat → Nat → Bool} {g : Int → Nat} {sign c : Int} {tops : List Int} (h : ∀ t ∈ tops, R (g t) (g c) = goOn sign t c) : stepN R (tops.map g) (g c) = (lay1 sign tops c).map g := by
  have e : ((tops.map g).takeWhile (R · (g c))).length = (tops.takeWhile (goOn sign · c)).length := takeWhile_map_len tops h
  unfold lay1 stepN
  rw [e]
  unfold layAt layN
  simp
theorem lay1_mem {sign c x : Int} {tops : List Int} (hx : x ∈ lay1 sign tops c) : x = c ∨ x ∈ tops := by
  unfold lay1 layAt at hx
  rcases List.mem_append.mp hx with h | h
  · exact .inr (List.mem_of_mem_take h)
  · rcases List.mem_cons.mp h with h | h
    · exact .inl h
    · exact .inr (List.mem_of_mem_drop h)
theorem topsFold_map {R : Nat → Nat → Bool} {g : Int → Nat} {sign : Int} {S : List Int} (h : ∀ a ∈ S, ∀ b ∈ S, R (g a) (g b) = goOn sign a b) : ∀ (cards tops : List Int), (∀ a ∈ cards, a ∈ S) → (∀ a ∈ tops, a ∈ S) →
    (cards.map g).foldl (stepN R) (tops.map g) = (cards.foldl (lay1 sign) tops).map g
  | [], _, _, _ => rfl
  | c :: cards, tops, hc, ht => by
    have hcS := hc c List.mem_cons_self
    rw [List.map_cons, List.foldl_cons, List.foldl_cons, lay1_map fun t htt => h t (ht t htt) c hcS]
    refine topsFold_map h cards _ (fun a ha => hc a (List.mem_cons_of_mem _ ha)) fun a ha => ?_
    rcases lay1_mem ha with rfl | ha
    · exact hcS
    · exact ht a ha
theorem topsOf_map {R : Nat → Nat → Bool} {g : Int → Nat} {sign : Int} {cards : List Int} (h : ∀ a ∈ cards, ∀ b ∈ cards, R (g a) (g b) = goOn sign a b) : topsN R (cards.map g) = (topsOf sign cards).map g :=
  topsFold_map h cards [] (fun _ h => h) (fun _ h => by simp at h)
theorem topsFold_mem {sign : Int} : ∀ (cards tops : List Int) (x : Int), x ∈ cards.foldl (lay1 sign) tops → x ∈ tops ∨ x ∈ cards
  | [], _, _, h => .inl h
  | c :: cards, tops, x, h => by
    rcases topsFold_mem cards _ x h with h | h
    · rcases lay1_mem h with rfl | h
      · exact .inr List.mem_cons_self
      · exact .inl h
    · exact .inr (List.mem_cons_of_mem _ h)
theorem topsOf_mem {sign : Int} {cards : List Int} {x : Int} (h : x ∈ topsOf sign cards) : x ∈ cards := by
  rcases topsFold_mem cards [] x h with h | h
  · simp at h
  · exact h

theorem idx_lt {ranks : List Int} (hs : ranks.Pairwise (· < ·)) {a b : Int} (ha : a ∈ ranks) (hb : b ∈ ranks) (h : a < b) : ranks.idxOf a < ranks.idxOf b := by
  have hi := List.idxOf_lt_length_iff.mpr ha
  have hj := List.idxOf_lt_length_iff.mpr hb
  have ei : ranks[ranks.idxOf a] = a := List.getElem_idxOf hi
  have ej : ranks[ranks.idxOf b] = b := List.getElem_idxOf hj
  rcases Nat.lt_trichotomy (ranks.idxOf a) (ranks.idxOf b) with q | q | q
  · exact q
  · exfalso
    have : a = b := by rw [← ei, ← ej]; congr 1
    omega
  · exfalso
    have := List.pairwise_iff_getElem.mp hs _ _ hj hi q
    rw [ei, ej] at this
    omega
def ltB (a b : Nat) : Bool := decide (a < b)
def leB (a b : Nat) : Bool := decide (a ≤ b)
theorem ltB_follows : Follows ltB := ⟨fun a b h => by have := of_decide_eq_true h; omega, fun a b h => by have := of_decide_eq_false h; omega, fun a b c h h' => by have := of_decide_eq_true h'; exact decide_eq_true (by omega)⟩
theorem leB_follows : Follows leB := ⟨fun a b h => of_decide_eq_true h, fun a b h => by have := of_decide_eq_false h; omega, fun a b c h h' => by have := of_decide_eq_true h'; exact decide_eq_true (by omega)⟩
theorem goOn_lt (a b : Int) : goOn (-1) a b = decide (a < b) := by
  unfold goOn cmpZ
  rcases Int.lt_trichotomy a b with q | q | q
  · have e : decide (a < b) = true := decide_eq_true q
    rw [if_neg (by omega), if_pos (by omega), e]; rfl
  · have e : decide (a < b) = false := decide_eq_false (by omega)
    rw [if_neg (by omega), if_neg (by omega), e]; rfl
  · have e : decide (a < b) = false := decide_eq_false (by omega)
    rw [if_pos (by omega), e]; rfl
theorem goOn_le (a b : Int) : goOn 1 a b = decide (a ≤ b) := by
  unfold goOn cmpZ
  rcases Int.lt_trichotomy a b with q | q | q
  · have e : decide (a ≤ b) = true := decide_eq_true (by omega)
    rw [if_neg (by omega), if_pos (by omega), e]; rfl
  · have e : decide (a ≤ b) = true := decide_eq_true (by omega)
    rw [if_neg (by omega), if_neg (by omega), e]; rfl
  · have e : decide (a ≤ b) = false := decide_eq_false (by omega)
    rw [if_pos (by omega), e]; rfl
theorem idx_ltB {ranks : List Int} (hs : ranks.Pairwise (· < ·)) {a b : Int} (ha : a ∈ ranks) (hb : b ∈ ranks) : ltB (97 + ranks.idxOf a) (97 + ranks.idxOf b) = goOn (-1) a b := by
  rw [goOn_lt]
  unfold ltB
  rcases Int.lt_trichotomy a b with q | q | q
  · have := idx_lt hs ha hb q
    rw [decide_eq_true (by omega), decide_eq_true q]
  · subst q
    rw [decide_eq_false (by omega), decide_eq_false (by omega)]
  · have := idx_lt hs hb ha q
    rw [decide_eq_false (by omega), decide_eq_false (by omega)]
theorem idx_leB {ranks : List Int} (hs : ranks.Pairwise (· < ·)) {a b : Int} (ha : a ∈ ranks) (hb : b ∈ ranks) : leB (97 + ranks.idxOf a) (97 + ranks.idxOf b) = goOn 1 a b := by
  rw [goOn_le]
  unfold leB
  rcases Int.lt_trichotomy a b with q | q | q
  · have := idx_lt hs ha hb q
    rw [decide_eq_true (by omega), decide_eq_true (by omega)]
  · subst q
    rw [decide_eq_true (by omega), decide_eq_true (by omega)]
  · have := idx_lt hs hb ha q
    rw [decide_eq_false (by omega), decide_eq_false (by omega)]
end Mine

namespace Mine
open PySem PySem.W PySem.Calls PyProof.Rows

def ltrs (ranks cards : List Int) : List Nat := cards.map fun c => 97 + ranks.idxOf c

structure Fine (cards ranks : List Int) : Prop where
  rl : ranks.length ≤ 100
  mem : ∀ c ∈ cards, c ∈ ranks
  idx : ∀ c ∈ ranks, ranks.idxOf c < 100
  csLt : (signsOf (ltrs ranks cards)).Pairwise (· < ·)
  csMem : ∀ c, c ∈ signsOf (ltrs ranks cards) ↔ c ∈ ltrs ranks cards
  csLen : (signsOf (ltrs ranks cards)).length ≤ 100
  wLen : (wordsFrom (ltrs ranks cards) (signsOf (ltrs ranks cards))).length < 64
  wOk : ∀ x ∈ wordsFrom (ltrs ranks cards) (signsOf (ltrs ranks cards)), x.length ≤ 100 ∧ ∀ c ∈ x, c ≠ 46
  nil : [] ∈ wordsFrom (ltrs ranks cards) (signsOf (ltrs ranks cards))
  one : ltrs ranks (topsOf (-1) cards) = leastOf ((foundOf (ltrs ranks cards) (wordsFrom (ltrs ranks cards) (signsOf (ltrs ranks cards)))).filter single)
  two : ltrs ranks (topsOf 1 cards) = leastOf (foundOf (ltrs ranks cards) (wordsFrom (ltrs ranks cards) (signsOf (ltrs ranks cards))))

theorem fine {ns ranks : List Int} (hl : ns.length ≤ 4) (hp : ranks.Perm (dd (0 :: ns ++ [0]))) (hs : ranks.Pairwise (· ≤ ·)) : Fine (0 :: ns ++ [0]) ranks := by
  have hmem : ∀ c ∈ (0 :: ns ++ [0] : List Int), c ∈ ranks := fun c hc => hp.mem_iff.mpr ((dd_mem _ _).mpr hc)
  have hmem' : ∀ c ∈ ranks, c ∈ (0 :: ns ++ [0] : List Int) := fun c hc => (dd_mem _ _).mp (hp.mem_iff.mp hc)
  have hnd : ranks.Nodup := hp.symm.nodup (dd_nodup _)
  have hst : ranks.Pairwise (· < ·) := by
    refine (hs.and hnd).imp ?_
    intro a b h
    have := h.1
    have := h.2
    omega
  have hrl : ranks.length ≤ 5 := by
    rw [hp.length_eq, dd_snoc, if_pos ((dd_mem _ _).mpr List.mem_cons_self)]
    have := dd_length (0 :: ns : List Int)
    simp only [List.length_cons] at this
    omega
  have hidx : ∀ c ∈ ranks, ranks.idxOf c < 5 := fun c hc => by
    have := List.idxOf_lt_length_iff.mpr hc
    omega
  have hr : ∀ c ∈ ltrs ranks (0 :: ns ++ [0]), 97 ≤ c ∧ c < 102 := by
    intro c hc
    obtain ⟨a, ha, rfl⟩ := List.mem_map.mp hc
    have := hidx a (hmem a ha)
    omega
  have hcsm : ∀ c, c ∈ signsOf (ltrs ranks (0 :: ns ++ [0])) ↔ c ∈ ltrs ranks (0 :: ns ++ [0]) := by
    intro c
    unfold signsOf
    rw [List.mem_filter, List.contains_iff_mem, List.mem_range'_1]
    refine ⟨fun h => h.2, fun h => ⟨?_, h⟩⟩
    have := hr c h
    omega
  have hcl : (signsOf (ltrs ranks (0 :: ns ++ [0]))).length ≤ 5 := by
    unfold signsOf
    refine Nat.le_trans (List.length_filter_le _ _) ?_
    simp
  have hll : (ltrs ranks (0 :: ns ++ [0])).length ≤ 6 := by unfold ltrs; simp; omega
  have hcsl : (signsOf (ltrs ranks (0 :: ns ++ [0]))).Pairwise (· < ·) := by
    unfold signsOf
    exact List.Pairwise.filter _ List.pairwise_lt_range'
  have htwo : ∃ c ∈ signsOf (ltrs ranks (0 :: ns ++ [0])), 2 ≤ (ltrs ranks (0 :: ns ++ [0])).count c := by
    have e : ltrs ranks (0 :: ns ++ [0]) = (97 + ranks.idxOf 0) :: ltrs ranks ns ++ [97 + ranks.idxOf 0] := by unfold ltrs; simp
    refine ⟨97 + ranks.idxOf 0, (hcsm _).mpr (by rw [e]; simp), ?_⟩
    rw [e, List.count_append, List.count_cons_self, List.count_singleton_self]
    omega
  have found := fun w => found_iff' hcsl hcsm w
  refine ⟨by omega, hmem, fun c hc => by have := hidx c hc; omega, hcsl, hcsm, by omega, words_few hcsl hll htwo, fun x hx => ⟨?_, fun c hc => ?_⟩, fold_nil _ _ _ (by simp), ?_, ?_⟩
  · have := fold_len (ltrs ranks (0 :: ns ++ [0])) _ [[]] 0 (by simp) x hx
    have hm : (signsOf (ltrs ranks (0 :: ns ++ [0]))).length * (ltrs ranks (0 :: ns ++ [0])).length ≤ 5 * 6 := Nat.mul_le_mul hcl hll
    omega
  · rcases fold_chars (ltrs ranks (0 :: ns ++ [0])) _ [[]] x hx c hc with h | ⟨y, hy, hcy⟩
    · have := hr c ((hcsm c).mp h)
      omega
    · rw [List.mem_singleton] at hy
      subst hy
      simp at hcy
  · have e : topsN ltB (ltrs ranks (0 :: ns ++ [0])) = ltrs ranks (topsOf (-1) (0 :: ns ++ [0])) := topsOf_map fun a ha b hb => idx_ltB hst (hmem a ha) (hmem b hb)
    rw [← e]
    refine (least_tops (inv_tops ltB_follows _) fun w => ?_).symm
    rw [List.mem_filter, found, single_iff]
    constructor
    · rintro ⟨⟨h1, h2⟩, h3⟩
      refine ⟨h1, (h2.and h3).imp ?_⟩
      intro a b h
      have := h.1
      have := h.2
      exact decide_eq_true (by omega)
    · rintro ⟨h1, h2⟩
      refine ⟨⟨h1, h2.imp fun {a b} h => ?_⟩, h2.imp fun {a b} h => ?_⟩
      · have := of_decide_eq_true h
        omega
      · have := of_decide_eq_true h
        omega
  · have e : topsN leB (ltrs ranks (0 :: ns ++ [0])) = ltrs ranks (topsOf 1 (0 :: ns ++ [0])) := topsOf_map fun a ha b hb => idx_leB hst (hmem a ha) (hmem b hb)
    rw [← e]
    refine (least_tops (inv_tops leB_follows _) fun w => ?_).symm
    rw [found]
    refine and_congr_right fun _ => ⟨fun h => h.imp fun {a b} q => decide_eq_true q, fun h => h.imp fun {a b} q => of_decide_eq_true q⟩
end Mine

namespace Mine
open PySem PySem.W PySem.Calls PyProof.Rows

section
variable {prog : Program} {w : World} {A : Around} {E : Value → Shared → Prop} {s₀ s : Shared} {env : Env} {m cm : Str → Option Value}

theorem assign_list {l : Addr} {items : Array Value} {elt : Expr} {iter : Expr} {x y : Str} {px py : Pos} {ifs : List Expr} {scope : Scope} {cl : List (Str × Addr)} {pos spos : Pos} {Q : Flow → Shared → Prop} (p : Value → Bool) (F : Value → Value → Prop)
    (S : St w s₀ env m cm s) (hh : A.handled = none) (hclos : closureFor scope env = pure cl)
    (hi : wpAny (model prog w) A (eval iter env) (fun v s' => v = .ref l ∧ s' = s) E s) (hl : s.heap.IsList l items) (hsz : items.size ≤ 1000)
    (tests : ∀ C v s₃ m₃ E', v ∈ items.toList → s₃.heap.Ns C m₃ → m₃ x = some v → (∀ b o, s.heap.get? b = some o → s₃.heap.get? b = some o) →
      wpAny (model prog w) A (forIn ifs true fun c r => if r = true then do let ok ← isTrue c (compEnvC scope cl C env) (eval c (compEnvC scope cl C env)); pure (ForInStep.yield ok) else pure (ForInStep.yield r))
        (fun ok s₄ => ok = p v ∧ Keeps s₃ s₄) E' s₃)
    (helt : ∀ C v s₃ m₃ E', v ∈ items.toList → p v = true → s₃.heap.Ns C m₃ → m₃ x = some v → (∀ b o, s.heap.get? b = some o → s₃.heap.get? b = some o) →
      wpAny (model prog w) A (eval elt (compEnvC scope cl C env)) (fun y s₄ => F v y ∧ Keeps s₃ s₄) E' s₃)
    (h : ∀ D s' ys, St w s₀ env (upd m y (.ref D)) cm s' → s.heap.get? D = none → s'.heap.PlainList D ys → Paired F (items.toList.filter p) ys.toList → (∀ b o, b ≠ env.locals → s.heap.get? b = some o → s'.heap.get? b = some o) → Q .next s')
    (hsw : swapsWith (.ListComp elt [⟨.Name x px, iter, ifs, 0⟩] scope pos) (some (.Name y py)) spos.line env = pure true := by rfl)
    (hcell : ∀ y ∈ scope.names, y.2 ≠ .cell := by decide +kernel) (hkind : scope.kind = .function := by rfl)
    (hnames : ∀ y ∈ scope.names, y.2 = .local → scope.names.lookup y.1 = some .local := by decide +kernel) (hx : scope.names.lookup x = some .local := by rfl)
    (hk : env.scope.kind = .function := by rfl) (hy : env.kindOf y = some .local := by rfl)
    (hs : ∀ x, foldedSetIterable iter env x = pure x := by intro _; rfl) :
    wpAny (model prog w) A (exec (.Assign [.Name y py] (.ListComp elt [⟨.Name x px, iter, ifs, 0⟩] scope pos) spos) env) Q E s := by
  refine wpAny_Assign_ListComp_free p F hsw hclos hcell hkind hnames hx hy (by rw [hk]; rfl) (wpAny_mono hi (fun v s' hv => ?_) fun _ _ e => e) hs
  obtain ⟨rfl, rfl⟩ := hv
  have hlI : l ≠ s'.heap.objs.size := ne_list hl (get_size _)
  have OI := S.own_new (get_size s'.heap)
  refine wpAny_pyIter_list hl ⟨_, _, _, _, _, _, m, rfl, Walks.list hh _ l hlI items, by rw [sizeLine_eq]; omega, ⟨⟨_, Heap.get?_push_size _ rfl, rfl, rfl⟩, hl.push _⟩, ?_, by simpa using Ne.symm OI.neL, S.ns.push _, ⟨?_, ?_⟩, ?_⟩
  · intro b hb
    show b < (s'.heap.push _).objs.size
    rw [Heap.size_push]
    simp only [List.mem_cons, List.not_mem_nil, or_false] at hb
    rcases hb with rfl | rfl
    · exact Nat.lt_succ_self _
    · exact Nat.lt_succ_of_lt (lt_size_of_list hl)
  · intro C i v s₃ m₃ E' _ hv hn hm hk _
    exact tests C v s₃ m₃ E' (List.mem_of_getElem? (by rw [Array.getElem?_toList]; exact hv)) hn hm fun b o e => hk b o (by simpa using ne_some e (get_size _)) (Heap.get?_push_of_some _ e)
  · intro C i v s₃ m₃ E' _ hv hp hn hm hk _
    exact helt C v s₃ m₃ E' (List.mem_of_getElem? (by rw [Array.getElem?_toList]; exact hv)) hp hn hm fun b o e => hk b o (by simpa using ne_some e (get_size _)) (Heap.get?_push_of_some _ e)
  · intro D h' tk ys vs hD _ hP hlen hvs hF hns hkk
    have e : vs = items.toList := by
      apply List.ext_getElem?
      intro i
      have e2 : items.toList[i]? = items[i]? := Array.getElem?_toList
      rw [e2]
      cases ho : vs[i]? with
      | some v => exact (hvs i v ho).symm
      | none =>
        have := List.getElem?_eq_none_iff.mp ho
        rw [Array.getElem?_eq_none (by omega)]
    subst e
    have kept : ∀ b o, b ≠ env.locals → s'.heap.get? b = some o → h'.get? b = some o := fun b o hb e => hkk b o hb (by simpa using ne_some e (get_size _)) (Heap.get?_push_of_some _ e)
    refine h D _ ys ⟨⟨fun b o e => kept b o (S.ne_of e) (S.ext.keep b o e), S.ext.gens, S.ext.os⟩, hns, S.fresh, ⟨fun n c e => ?_, S.cl.apart, S.cl.above⟩, S.G⟩ ?_ hP hF kept
    · obtain ⟨o, ho, hd⟩ := S.cl.cell n c e
      exact ⟨o, kept c o (Nat.ne_of_gt (S.cl.above n c (mem_of_lookup e))) ho, hd⟩
    · cases e : s'.heap.get? D with
      | none => rfl
      | some o => have := Heap.get?_push_of_some { cls := .type "list_iterator", data := .fields #[.ref l, .int 0 0] } e; rw [hD] at this; cases this
end

def lwEnv (L f : Addr) (cd : Value) : Env := envOfC (Str.ofString "law") (fnS 10).2 L f cd

/-- a card and its sign -/
def signIs (ranks : List Int) (v y : Value) : Prop := ∀ c t, v = .int c t → ∃ t', y = .str (mk [97 + ranks.idxOf c]) t'

section
variable {prog : Program} {w : World} {A : Around} {E : Value → Shared → Prop} {s₀ s : Shared}

def crScope : Scope := match ((fnS 10).1[2]? : Option Stmt) with
  | some (Stmt.Assign _ (Expr.Call _ [Expr.ListComp _ _ sc _] _ _) _) => sc
  | _ => default

theorem sign_elt {L f C Dr : Addr} {cd : Value} {m : Str → Option Value} {rv : Array Value} {ranks : List Int} {c : Int} {tc : Tok} {p1 p2 p3 p4 p5 p6 p7 p8 : Pos} (G : Gnd w s.heap)
    (hn : s.heap.Ns C m) (hm : m (Str.ofString "card") = some (.int c tc)) (hc : s.heap.IsCell (L + 1) (some (.ref Dr))) (P : s.heap.PlainList Dr rv) (hI : IntsAre rv.toList ranks) (hrl : ranks.length ≤ 100) (hmem : c ∈ ranks)
    (hline : (p4.endLine == p6.line) = true := by rfl) :
    wpAny (model prog w) A (eval (.Call (.Name (Str.ofString "chr") p1) [.BinOp (.Constant (.int 97) 0 p2) .Add (.Call (.Attribute (.Name (Str.ofString "ranks") p3) (Str.ofString "index") p4) [.Name (Str.ofString "card") p5] [] p6) p7] [] p8)
      (compEnvC crScope [(Str.ofString "ranks", L + 1)] C (lwEnv L f cd))) (fun y s₄ => signIs ranks (.int c tc) y ∧ Keeps s s₄) E s := by
  have hidx : ranks.idxOf c < ranks.length := List.idxOf_lt_length_iff.mpr hmem
  refine callB1 G rfl Boot.chr <| wpAny_BinOp <| wpAny_Constant_int <| meth1 F.plainAttrs_list F.slot_list_index F.type_list_index (hline := hline) <| ldUC (c := L + 1) rfl hc ⟨P.isList.typeIs, fun a ha => ?_, ldN hn hm <| index_x P.isList hI (by omega) hmem <| PyProof.Rows.add_int <| PySem.P.chr_of_int ?_ ⟨fun c' t' e => ?_, keeps_tok _ _⟩⟩
  · cases ha
    obtain ⟨n, ho⟩ := P
    exact ⟨_, ho, rfl⟩
  · rw [decide_eq_false (by omega), decide_eq_false (by omega)]; rfl
  · cases e
    have e : ((97 : Int) + (ranks.idxOf c : Nat)).toNat = 97 + ranks.idxOf c := by omega
    exact ⟨_, by rw [e]⟩

end
end Mine

namespace Mine
open PySem PySem.W PySem.Calls PyProof.Rows

theorem signs_of {cv ys : Array Value} {cards ranks : List Int} (hI : IntsAre cv.toList cards) (hF : Paired (signIs ranks) (cv.toList.filter fun _ => true) ys.toList) : StrsAre ys.toList ((ltrs ranks cards).map fun c => mk [c]) := by
  have hI' : IntsAre cv.toList (cards.map fun c => c) := by rw [List.map_id']; exact hI
  have := paired_strs (f := fun a => mk [97 + ranks.idxOf a]) (paired_comp (p := fun _ => true) (q := fun _ => true) (F := signIs ranks) (R' := fun (a : Int) y => ∃ t, y = Value.str (mk [97 + ranks.idxOf a]) t) (fun _ _ _ => rfl) (fun a v y ⟨t, e⟩ hf => hf a t e) (ints_paired (f := fun c => c) hI') hF)
  rw [filter_true] at this
  unfold ltrs
  rw [List.map_map]
  exact this
theorem ints_mem {cv : List Value} {cards : List Int} (hI : IntsAre cv cards) : ∀ v ∈ cv, ∃ c t, v = .int c t ∧ c ∈ cards := by
  intro v hv
  have hI' : IntsAre cv (cards.map fun c => c) := by rw [List.map_id']; exact hI
  obtain ⟨a, ha, t, e⟩ := paired_mem (ints_paired (f := fun c => c) hI') v hv
  exact ⟨a, t, e, ha⟩
theorem strs_mem {vs : List Value} {ws : List (List Nat)} (hS : StrsAre vs (ws.map mk)) : ∀ v ∈ vs, ∃ x t, v = .str (mk x) t ∧ x ∈ ws := by
  intro v hv
  obtain ⟨a, ha, t, e⟩ := paired_mem (strs_paired hS) v hv
  exact ⟨a, t, e, ha⟩
theorem join_bound (l : List Nat) (hl : l.length ≤ 1000) : ((l.map fun c => mk [c]).map (·.length)).sum + (l.map fun c => mk [c]).length * (Str.ofString "").length ≤ 16777216 := by
  have e : (Str.ofString "").length = 0 := rfl
  have e2 : ∀ l : List Nat, ((l.map fun c => mk [c]).map (·.length)).sum = l.length := by
    intro l
    induction l with
    | nil => rfl
    | cons a r ih => rw [List.map_cons, List.map_cons, List.sum_cons, ih, mk_length]; simp; omega
  rw [e, Nat.mul_zero, e2]
  omega

theorem plain_ne_ns {h : Heap} {D L : Addr} {xs : Array Value} {m : Str → Option Value} (P : h.PlainList D xs) (N : h.Ns L m) : D ≠ L := by
  rintro rfl
  obtain ⟨n, hp⟩ := P
  obtain ⟨o, es, ep, ho, hd, _⟩ := N
  rw [hp] at ho
  cases ho
  cases hd

def lwFor : List Stmt := match ((fnS 10).1[5]? : Option Stmt) with
  | some (Stmt.For _ _ b _ _) => b
  | _ => []

section
variable {prog : Program} {w : World} {A : Around} {E : Value → Shared → Prop} {s₀ s : Shared}

set_option maxHeartbeats 4000000 in
theorem law_turn {L f Dc Dr Dw : Addr} {cd : Value} {m cm : Str → Option Value} {cv rv wv : Array Value} {cards ranks : List Int} {ws : List (List Nat)} {sign : Int} {ts : Tok} {Q : Flow → Shared → Prop} (hh : A.handled = none) (hroom : A.depth + 1 < recursionLimit)
    (S : St w s₀ (lwEnv L f cd) m cm s) (mc : m (Str.ofString "cards") = some (.ref Dc)) (msg : m (Str.ofString "sign") = some (.int sign ts)) (mw : m (Str.ofString "words") = some (.ref Dw)) (hC : s.heap.IsCell (L + 1) (some (.ref Dr)))
    (P : s.heap.PlainList Dc cv) (R : s.heap.PlainList Dr rv) (PW : s.heap.PlainList Dw wv) (hIc : IntsAre cv.toList cards) (hIr : IntsAre rv.toList ranks) (hSw : StrsAre wv.toList (ws.map mk))
    (hrl : ranks.length ≤ 100) (hmem : ∀ c ∈ cards, c ∈ ranks) (hcl : cards.length ≤ 6) (hw0 : 0 < ws.length) (hw1 : ws.length < 64) (hw2 : ∀ x ∈ ws, x.length ≤ 100)
    (hle : ltrs ranks (topsOf sign cards) = leastOf ws)
    (h : ∀ s' D, St w s₀ (lwEnv L f cd) (upd m (Str.ofString "tops") (.ref D)) cm s' → (∀ b o, b ≠ L → s.heap.get? b = some o → s'.heap.get? b = some o) → Q .next s') :
    wpAny (model prog w) A (execs lwFor (lwEnv L f cd)) Q E s := by
  have hLC : (L + 1 : Addr) ≠ L := Nat.succ_ne_self L
  refine wpAny_execs_cons <| wpAny_Assign_Name <| callF2 S.gnd rfl rfl <| ldL S mc <| ldL S msg ⟨S.gnd, tops_spec S.gnd hroom hh P.isList hIc (by omega) fun s₁ Dt tv x1 P1 hIt => ?_⟩
  have S1 := S.grow x1
  have hDt : Dt ≠ L := plain_ne_ns P1 S1.ns
  refine stL S1 fun s₂ S2 k2 => ?_
  have k02 : ∀ b o, b ≠ L → s.heap.get? b = some o → s₂.heap.get? b = some o := fun b o hb e => (k2 b hb).trans (x1.keep b o e)
  have P2 : s₂.heap.PlainList Dt tv := plain_of P1 (k2 _ hDt)
  have hC2 : s₂.heap.IsCell (L + 1) (some (.ref Dr)) := let ⟨o, ho, hd⟩ := hC; ⟨o, k02 _ _ hLC ho, hd⟩
  have R2 : s₂.heap.PlainList Dr rv := let ⟨n, ho⟩ := R; ⟨n, k02 _ _ (plain_ne_ns R S.ns) ho⟩
  have W2 : s₂.heap.PlainList Dw wv := let ⟨n, ho⟩ := PW; ⟨n, k02 _ _ (plain_ne_ns PW S.ns) ho⟩
  have htl : (topsOf sign cards).length ≤ 6 := Nat.le_trans (topsOf_length _ _) hcl
  have htv : tv.size = (topsOf sign cards).length := by rw [← Array.length_toList, hIt.length]
  refine wpAny_execs_cons <| wpAny_If <| wpAny_isTrue_Compare1 <| meth1 F.plainAttrs_str F.slot_str_join F.type_str_join <| wpAny_Constant_str ⟨typeIs_str _ _ _, (fun _ e => nomatch e), ?_⟩
  have S3 := S2.grow (ext_tok s₂ (s₂.toks + 1))
  refine comp_list (sI := { s₂ with toks := s₂.toks + 1 }) (cl := [(Str.ofString "ranks", L + 1)]) (fun _ => true) (signIs ranks) hh (by rfl) (ldL S3 upd_self ⟨rfl, rfl⟩) P2.isList (by omega) (fun C v s₃ m₃ E' _ _ _ _ => wpAny_tests_nil ⟨rfl, keeps_refl _⟩) ?_ fun D4 s₄ ys k4 hD4 P4 hF => ?_
  · intro C v s₃ m₃ E' hv _ hn hm hk
    obtain ⟨c, tc, rfl, hc⟩ := ints_mem hIt v hv
    exact sign_elt (S3.gnd.keeps hk) hn hm (let ⟨o, ho, hd⟩ := hC2; ⟨o, hk _ _ ho, hd⟩) (let ⟨n, ho⟩ := R2; ⟨n, hk _ _ ho⟩) hIr hrl (hmem c (topsOf_mem hc))
  have hS4 := signs_of hIt hF
  have S4 := S3.grow (keeps_ext k4)
  have x24 : Ext s₂ s₄ := Ext.of_heap (keeps_ext k4)
  refine join_list P4.isList hS4 (join_bound _ (by unfold ltrs; simp; omega)) fun t₅ tk₅ => ?_
  rw [join_nil_mk]
  have S5 := S4.grow (ext_tok s₄ tk₅)
  refine callF1 S5.gnd rfl rfl <| ldL S5 (upd_ne mw) ⟨S5.gnd, least_spec S5.gnd (by omega) hh (plain_ext W2 x24).isList hSw hw0 hw1 hw2 fun s₆ t₆ x6 => ?_⟩
  have S6 := S5.grow x6
  refine PyProof.Rows.ne_str <| wpAny_truthy_bool ?_
  rw [hle, if_neg (by simp)]
  refine wpAny_execs_nil <| wpAny_execs_nil <| h s₆ Dt S6 fun b o hb e => x6.keep b o (x24.keep b o (k02 b o hb e))
end
end Mine

namespace Mine
open PySem PySem.W PySem.Calls PyProof.Rows

section
variable {prog : Program} {w : World} {A : Around} {E : Value → Shared → Prop} {s₀ s : Shared}

def uniq : Value → Bool
  | .str x _ => single x.cps.toList
  | _ => false

set_option maxHeartbeats 4000000 in
theorem law_rest {L f Dc Dr : Addr} {cd : Value} {m cm : Str → Option Value} {cv rv : Array Value} {cards ranks : List Int} {Q : Flow → Shared → Prop} (hh : A.handled = none) (hroom : A.depth + 1 < recursionLimit)
    (S : St w s₀ (lwEnv L f cd) m cm s) (mc : m (Str.ofString "cards") = some (.ref Dc)) (cr : cm (Str.ofString "ranks") = some (.ref Dr)) (Oc : Own s₀ (lwEnv L f cd) Dc) (Or : Own s₀ (lwEnv L f cd) Dr)
    (P : s.heap.PlainList Dc cv) (R : s.heap.PlainList Dr rv) (hIc : IntsAre cv.toList cards) (hIr : IntsAre rv.toList ranks) (FN : Fine cards ranks) (hcl : cards.length ≤ 6)
    (h : ∀ s', Ext s₀ s' → Q (.ret (.bool true)) s') : wpAny (model prog w) A (execs ((fnS 10).1.drop 2) (lwEnv L f cd)) Q E s := by
  have hcvl : cv.size = cards.length := by rw [← Array.length_toList, hIc.length]
  have hC : s.heap.IsCell (L + 1) (some (.ref Dr)) := by have := S.cl.cell (Str.ofString "ranks") (L + 1) rfl; rwa [cr] at this
  refine wpAny_execs_cons <| wpAny_Assign_Name <| meth1 F.plainAttrs_str F.slot_str_join F.type_str_join <| wpAny_Constant_str ⟨typeIs_str _ _ _, (fun _ e => nomatch e), ?_⟩
  have S1 := S.grow (ext_tok s (s.toks + 1))
  refine comp_list (sI := { s with toks := s.toks + 1 }) (cl := [(Str.ofString "ranks", L + 1)]) (fun _ => true) (signIs ranks) hh (by rfl) (ldL S1 mc ⟨rfl, rfl⟩) P.isList (by omega) (fun C v s₃ m₃ E' _ _ _ _ => wpAny_tests_nil ⟨rfl, keeps_refl _⟩) ?_ fun D2 s₂ ys k2 hD2 P2 hF => ?_
  · intro C v s₃ m₃ E' hv _ hn hm hk
    obtain ⟨c, tc, rfl, hc⟩ := ints_mem hIc v hv
    exact sign_elt (S1.gnd.keeps hk) hn hm (let ⟨o, ho, hd⟩ := hC; ⟨o, hk _ _ ho, hd⟩) (let ⟨n, ho⟩ := R; ⟨n, hk _ _ ho⟩) hIr FN.rl (FN.mem c hc)
  have hS2 := signs_of hIc hF
  have S2 := S1.grow (keeps_ext k2)
  have x2 : Ext s s₂ := Ext.of_heap (keeps_ext k2)
  have hll : (ltrs ranks cards).length ≤ 6 := by unfold ltrs; simpa using hcl
  refine join_list P2.isList hS2 (join_bound _ (by omega)) fun t₃ tk₃ => ?_
  rw [join_nil_mk]
  refine stL (S2.grow (ext_tok s₂ tk₃)) fun s₄ S4 k4 => ?_
  have k04 : ∀ b o, b ≠ L → s.heap.get? b = some o → s₄.heap.get? b = some o := fun b o hb e => (k4 b hb).trans (x2.keep b o e)
  refine wpAny_execs_cons <| wpAny_Assign_Name <| callF1 S4.gnd rfl rfl <| ldL S4 upd_self ⟨S4.gnd, found_spec S4.gnd hroom hh FN.csLt FN.csMem (by omega) FN.csLen (by have := FN.wLen; omega) FN.wOk fun Df s₅ fv x5 P5 hDf hS5 => ?_⟩
  have hfl : (foundOf (ltrs ranks cards) (wordsFrom (ltrs ranks cards) (signsOf (ltrs ranks cards)))).length < 64 := Nat.lt_of_le_of_lt (List.length_filter_le _ _) FN.wLen
  have hfn : [] ∈ foundOf (ltrs ranks cards) (wordsFrom (ltrs ranks cards) (signsOf (ltrs ranks cards))) := List.mem_filter.mpr ⟨FN.nil, by simp [isSub]⟩
  have hfw : ∀ x ∈ foundOf (ltrs ranks cards) (wordsFrom (ltrs ranks cards) (signsOf (ltrs ranks cards))), x.length ≤ 100 := fun x hx => (FN.wOk x (List.mem_filter.mp hx).1).1
  have one := FN.one
  have two := FN.two
  generalize foundOf (ltrs ranks cards) (wordsFrom (ltrs ranks cards) (signsOf (ltrs ranks cards))) = fd at hS5 hfl hfn hfw one two
  have S5 := S4.grow x5
  have hDfL : Df ≠ L := plain_ne_ns P5 S5.ns
  refine stL S5 fun s₆ S6 k6 => ?_
  have P6 := plain_of P5 (k6 _ hDfL)
  have hfv : fv.size = fd.length := by have := hS5.length; simpa using this
  refine wpAny_execs_cons <| assign_list (cl := []) uniq (fun v y => y = v) S6 hh (by rfl) (ldL S6 upd_self ⟨rfl, rfl⟩) P6.isList (by omega) ?_ ?_ fun Dg s₇ gv S7 hDg P7 hF7 k7 => ?_
  · intro C v s₃ m₃ E' hv hn hm hk
    obtain ⟨x, t, rfl, hx⟩ := strs_mem hS5 v hv
    have hxl := hfw x hx
    have G3 := S6.gnd.keeps hk
    refine wpAny_tests_one <| wpAny_isTrue_Compare1 <| callB1 G3 rfl Boot.len <| callT1 G3 rfl Boot.set <| ldN hn hm <| set_str_x hh (by unfold scanBound; omega) fun Ds s₄' k4' hDs X4 => len_set_x X4 fun t₁ tk₁ => ?_
    have kk : Keeps s₃ { s₄' with toks := tk₁ } := keeps_trans k4' (keeps_tok _ _)
    refine callB1 (G3.keeps (keeps_keep kk)) rfl Boot.len <| ldN (hn.keeps (keeps_keep kk)) hm <| len_str (by rw [mk_length]; omega) <| PyProof.Rows.eq_int <| wpAny_truthy_bool ⟨?_, keeps_trans k4' ?_⟩
    · show ((((dd (x.map fun c => mk [c])).length : Nat) : Int) == (((mk x).length : Nat) : Int)) = single (mk x).cps.toList
      rw [mk_toList, dd_map mk1_inj, List.length_map, mk_length]
      unfold single
      by_cases hq : (dd x).length = x.length
      · rw [hq]; simp
      · rw [beq_eq_false_iff_ne.mpr hq, beq_eq_false_iff_ne]
        omega
    · exact ⟨_, _, rfl, fun _ _ e => e⟩
  · intro C v s₃ m₃ E' _ _ hn hm _
    exact ldN hn hm ⟨rfl, keeps_refl _⟩
  have hS7 : StrsAre gv.toList ((fd.filter single).map mk) :=
    paired_strs (paired_comp (F := fun v y => y = v) (R' := fun (a : List Nat) y => ∃ t, y = Value.str (mk a) t) (fun a v ⟨t, e⟩ => by subst e; simp [uniq]) (fun a v y ⟨t, e⟩ hf => ⟨t, hf.trans e⟩) (strs_paired hS5) hF7)
  have hDgL : Dg ≠ L := plain_ne_ns P7 S7.ns
  have P7f : s₇.heap.PlainList Df fv := let ⟨n, ho⟩ := P6; ⟨n, k7 _ _ hDfL ho⟩
  have k07 : ∀ b o, b ≠ L → s.heap.get? b = some o → s₇.heap.get? b = some o := fun b o hb e => k7 b o hb ((k6 b hb).trans (x5.keep b o (k04 b o hb e)))
  have P7c : s₇.heap.PlainList Dc cv := let ⟨n, ho⟩ := P; ⟨n, k07 _ _ (plain_ne_ns P S.ns) ho⟩
  have P7r : s₇.heap.PlainList Dr rv := let ⟨n, ho⟩ := R; ⟨n, k07 _ _ (plain_ne_ns R S.ns) ho⟩
  have hC7 : s₇.heap.IsCell (L + 1) (some (.ref Dr)) := let ⟨o, ho, hd⟩ := hC; ⟨o, k07 _ _ (Nat.succ_ne_self L) ho, hd⟩
  obtain ⟨m7, S7, mc7, mf7, mg7⟩ : ∃ m, St w s₀ (lwEnv L f cd) m cm s₇ ∧ m (Str.ofString "cards") = some (.ref Dc) ∧ m (Str.ofString "found") = some (.ref Df) ∧ m (Str.ofString "single") = some (.ref Dg) :=
    ⟨_, S7, upd_ne (upd_ne (upd_ne mc)), upd_ne upd_self, upd_self⟩
  refine wpAny_execs_cons <| wpAny_For <| Tuple_ <| wpAny_items_cons <| Tuple_ <| wpAny_items_cons <| wpAny_UnaryOp <| wpAny_Constant_int <| neg_int <| wpAny_items_cons <| ldL (S7.grow (ext_tok _ _)) mg7 <| wpAny_items_nil <| newTuple_x fun T1 s₈ x8 hT1 I8 => ?_
  have S8 := S7.grow x8.of_heap
  refine wpAny_items_cons <| Tuple_ <| wpAny_items_cons <| wpAny_Constant_int <| wpAny_items_cons <| ldL (S8.grow (ext_tok _ _)) mf7 <| wpAny_items_nil <| newTuple_x fun T2 s₉ x9 hT2 I9 => ?_
  have S9 := S8.grow x9.of_heap
  refine wpAny_items_nil <| newTuple_x fun T3 s₁₀ x10 hT3 I10 => iterTuple_x I10 fun I s₁₁ x11 hI I11 => ?_
  have S10 := S9.grow x10
  have S11 := S10.grow x11
  have OI := S10.own_new hI
  have xB : Ext s₇ s₁₁ := x8.of_heap.trans (x9.of_heap.trans (x10.trans x11))
  have B1 : IsTup s₁₁.heap T1 #[.int (-1) (s₇.toks + 1), .ref Dg] := I8.keeps fun b o e => x11.keep b o (x10.keep b o (x9.of_heap.keep b o e))
  have B2 : IsTup s₁₁.heap T2 #[.int 1 s₈.toks, .ref Df] := I9.keeps fun b o e => x11.keep b o (x10.keep b o e)
  have B3 : IsTup s₁₁.heap T3 #[.ref T1, .ref T2] := I10.keeps x11.keep
  have tupL : ∀ {T : Addr} {xs : Array Value}, IsTup s₁₀.heap T xs → T ≠ I := fun ⟨o, ho, _⟩ => ne_some ho hI
  have tupN : ∀ {T : Addr} {xs : Array Value}, IsTup s₁₁.heap T xs → T ≠ L := fun {T xs} ⟨o, ho, hc, n, hd⟩ q => by
    obtain ⟨o', _, _, ho', hd', _⟩ := S11.ns
    have ho2 : s₁₁.heap.get? L = some o' := ho'
    rw [q, ho2] at ho
    cases ho
    rw [hd] at hd'
    cases hd'
  have plI : ∀ {D : Addr} {xs : Array Value}, s₇.heap.PlainList D xs → D ≠ I := fun {D xs} ⟨n, ho⟩ => ne_some (x10.keep _ _ (x9.of_heap.keep _ _ (x8.of_heap.keep _ _ ho))) hI
  have data : ∀ i, i < 2 → ∃ (Tk : Addr) (σ : Int) (tσ : Tok) (Dw : Addr) (wv : Array Value) (ws : List (List Nat)), (#[Value.ref T1, Value.ref T2])[i]? = some (Value.ref Tk) ∧ IsTup s₁₁.heap Tk #[.int σ tσ, .ref Dw] ∧ Tk ≠ I ∧ s₇.heap.PlainList Dw wv ∧
      StrsAre wv.toList (ws.map mk) ∧ 0 < ws.length ∧ ws.length < 64 ∧ (∀ x ∈ ws, x.length ≤ 100) ∧ ltrs ranks (topsOf σ cards) = leastOf ws := by
    intro i hi
    have : i = 0 ∨ i = 1 := by omega
    rcases this with rfl | rfl
    · refine ⟨T1, -1, _, Dg, gv, fd.filter single, rfl, B1, tupL (I8.keeps fun b o e => x10.keep b o (x9.of_heap.keep b o e)), P7, hS7, ?_, Nat.lt_of_le_of_lt (List.length_filter_le _ _) hfl, fun x hx => hfw x (List.mem_filter.mp hx).1, one⟩
      exact List.length_pos_of_mem (List.mem_filter.mpr ⟨hfn, rfl⟩)
    · exact ⟨T2, 1, _, Df, fv, fd, rfl, B2, tupL (I9.keeps fun b o e => x10.keep b o e), P7f, hS5, List.length_pos_of_mem hfn, hfl, hfw, two⟩
  refine codeAny_forLoop_any (fun n s' => ∃ m i, St w s₀ (lwEnv L f cd) m cm s' ∧ m (Str.ofString "cards") = some (.ref Dc) ∧ IsTupIter s'.heap I T3 i ∧ i ≤ 2 ∧ (∀ b o, b ≠ L → b ≠ I → s₁₁.heap.get? b = some o → s'.heap.get? b = some o) ∧ n = 3 - i) ?_ 3
    ⟨_, 0, S11, mc7, I11, by omega, fun _ _ _ _ e => e, rfl⟩
  rintro n s₁₂ ⟨m, i, S12, mc12, I12, hi, k12, rfl⟩
  have hT3I : T3 ≠ I := tupL I10
  have B12 : IsTup s₁₂.heap T3 #[.ref T1, .ref T2] := let ⟨o, ho, r⟩ := B3; ⟨o, k12 _ _ (tupN B3) hT3I ho, r⟩
  by_cases hi2 : i < 2
  · obtain ⟨Tk, σ, tσ, Dw, wv, ws, hx, BT, hTkI, PW, hSw, hw0, hw1, hw2, hle⟩ := data i hi2
    refine next_tuple_item I12 B12 hx fun h₁ hit₁ hs₁ => letGo_tup hit₁ ?_
    have S13 := S12.mut OI hs₁.extBut s₁₂.toks
    have k13 : ∀ b o, b ≠ L → b ≠ I → s₁₁.heap.get? b = some o → h₁.get? b = some o := fun b o hb hbI e => (hs₁.2 b hbI).trans (k12 b o hb hbI e)
    have BT13 : IsTup h₁ Tk #[.int σ tσ, .ref Dw] := let ⟨o, ho, r⟩ := BT; ⟨o, k13 _ _ (tupN BT) hTkI ho, r⟩
    refine assign_Tuple_tuple hh BT13 rfl rfl fun h₂ he₂ => ?_
    have x14 : Ext { s₁₂ with heap := h₁ } { s₁₂ with heap := h₂ } := ⟨fun b o e => he₂ b o (Nat.ne_of_lt (Heap.lt_size e)) e, rfl, rfl⟩
    have S14 := S13.grow x14
    refine assignInOrder_cons (wpAny_assign_Name (stL S14 fun s₁₅ S15 k15 => assignInOrder_cons (wpAny_assign_Name (stL S15 fun s₁₆ S16 k16 => assignInOrder_nil ?_))))
    have k16' : ∀ b o, b ≠ L → b ≠ I → s₁₁.heap.get? b = some o → s₁₆.heap.get? b = some o := fun b o hb hbI e => (k16 b hb).trans ((k15 b hb).trans (x14.keep b o (k13 b o hb hbI e)))
    have pl16 : ∀ {D : Addr} {xs : Array Value}, s₇.heap.PlainList D xs → s₁₆.heap.PlainList D xs := fun {D xs} q => by
      have h1 := plI q
      have h2 := plain_ne_ns q S7.ns
      obtain ⟨n, ho⟩ := q
      exact ⟨n, k16' _ _ h2 h1 (xB.keep _ _ ho)⟩
    have hC16 : s₁₆.heap.IsCell (L + 1) (some (.ref Dr)) := let ⟨o, ho, hd⟩ := hC7; ⟨o, k16' _ _ (Nat.succ_ne_self L) (OI.neC (Str.ofString "ranks") (L + 1) rfl) (xB.keep _ _ ho), hd⟩
    refine law_turn hh hroom S16 (upd_ne (upd_ne mc12)) (upd_ne upd_self) upd_self hC16 (pl16 P7c) (pl16 P7r) (pl16 PW) hIc hIr hSw FN.rl FN.mem hcl hw0 hw1 hw2 hle fun s₁₇ Dt S17 k17 => ?_
    refine ⟨3 - (i + 1), by omega, _, i + 1, S17, upd_ne (upd_ne (upd_ne mc12)), ?_, hi2, fun b o hb hbI e => k17 b o hb (k16' b o hb hbI e), rfl⟩
    obtain ⟨o, ho, r⟩ := hit₁
    exact ⟨o, k17 _ _ OI.neL ((k16 _ OI.neL).trans ((k15 _ OI.neL).trans (x14.keep _ _ ho))), r⟩
  · have hie : i = 2 := by omega
    subst hie
    refine next_tuple_end hh I12 B12 rfl fun h₁ he₁ => wpAny_execs_nil ?_
    have S13 := S12.mut OI he₁ s₁₂.toks
    exact wpAny_execs_cons <| wpAny_Return_some <| wpAny_Constant_bool <| h _ S13.ext
end
end Mine

namespace Mine
open PySem PySem.W PySem.Calls PyProof.Rows

section
variable {prog : Program} {w : World} {A : Around} {E : Value → Shared → Prop} {s₀ s : Shared}

set_option maxHeartbeats 4000000 in
theorem law_body {L f l : Addr} {cd : Value} {m cm : Str → Option Value} {items : Array Value} {ns : List Int} {Q : Flow → Shared → Prop} (hh : A.handled = none) (hroom : A.depth + 1 < recursionLimit)
    (S : St w s₀ (lwEnv L f cd) m cm s) (ms : m (Str.ofString "script") = some (.ref l)) (hl : s.heap.IsList l items) (hi : IntsAre items.toList ns) (hlen : ns.length ≤ 100)
    (h : ∀ s', Ext s₀ s' → Q (.ret (.bool true)) s') : wpAny (model prog w) A (execs (fnS 10).1 (lwEnv L f cd)) Q E s := by
  have hisz : items.size = ns.length := by rw [← hi.length, Array.length_toList]
  refine wpAny_execs_cons <| wpAny_Assign_Name <| wpAny_BinOp <| wpAny_BinOp <| List_ <| wpAny_items_cons <| wpAny_Constant_int <| wpAny_items_nil <| newList_x fun Z s₁ x1 hZ PZ => ?_
  have S1 := S.grow x1.of_heap
  have hl1 : s₁.heap.IsList l items := list_ext hl x1.of_heap
  refine comp_listG (cl := []) (fun _ => true) (fun v y => ∀ c t, v = .int c t → ∃ t', y = .int c t') hh (by rfl) <| slice1_x (k := 4) rfl <| ldL S1 ms ⟨rfl, hl1, by omega, fun D2 s₂ k2 hD2 P2 => ⟨D2, _, rfl, P2.isList, ?_, fun C v s₃ m₃ E' _ _ _ _ => wpAny_tests_nil ⟨rfl, keeps_refl _⟩, ?_, fun D3 s₃ ys k3 hD3 P3 hF => ?_⟩⟩
  · simp; omega
  · intro C v s₃ m₃ E' hv _ hn hm hk
    have hv' : v ∈ items.toList := List.mem_of_mem_take (by simpa using hv)
    obtain ⟨j, hj⟩ := List.getElem?_of_mem hv'
    obtain ⟨c, tc, rfl, _⟩ := hi.at j v hj
    refine callT1 ((S1.grow (keeps_ext k2)).gnd.keeps hk) rfl Boot.int <| ldN hn hm <| call_int_int ⟨fun c' t' e => ?_, keeps_refl _⟩
    cases e
    exact ⟨_, rfl⟩
  have S2 := S1.grow (keeps_ext k2)
  have S3 := S2.grow (keeps_ext k3)
  have x13 : Ext s₁ s₃ := (keeps_ext k2).trans (keeps_ext k3)
  have hI3 : IntsAre ys.toList (ns.take 4) := by
    rw [filter_true, List.toList_toArray] at hF
    have h4 : IntsAre (items.toList.take 4) ((ns.take 4).map fun c => c) := by rw [List.map_id']; exact hi.take 4
    have := paired_ints (f := fun c => c) (paired_comp (p := fun _ => true) (q := fun _ => true) (F := fun v y => ∀ c t, v = .int c t → ∃ t', y = .int c t') (R' := fun (a : Int) y => ∃ t, y = Value.int a t) (fun _ _ _ => rfl) (fun a v y ⟨t, e⟩ hf => hf a t e) (ints_paired (f := fun c => c) h4) (by rw [filter_true]; exact hF))
    rw [filter_true, List.map_id'] at this
    exact this
  have h4 : (ns.take 4).length ≤ 4 := List.length_take_le _ _
  have hysz : ys.size = (ns.take 4).length := by rw [← hI3.length, Array.length_toList]
  generalize ns.take 4 = n4 at hI3 h4 hysz
  refine addList_x (plain_ext PZ x13) P3 (by simp; omega) fun Z4 s₄ x4 hZ4 P4 => ?_
  have S4 := S3.grow x4
  refine List_ <| wpAny_items_cons <| wpAny_Constant_int <| wpAny_items_nil <| newList_x fun Z5 s₅ x5 hZ5 P5 => ?_
  have S5 := S4.grow x5.of_heap
  refine addList_x (plain_ext P4 x5.of_heap) P5 (by simp; omega) fun Dc s₆ x6 hDc P6 => ?_
  have S6 := S5.grow x6
  have Oc := S5.own_new hDc
  have hIc : IntsAre ((([Value.int 0 s.toks].toArray ++ ys) ++ [Value.int 0 s₄.toks].toArray).toList) (0 :: n4 ++ [0]) := by
    rw [Array.toList_append, Array.toList_append]
    exact IntsAre.append (IntsAre.append (.cons 0 _ .nil) hI3) (.cons 0 _ .nil)
  refine stL S6 fun s₇ S7 k7 => ?_
  have P7 := plain_of P6 (k7 _ Oc.neL)
  generalize (([Value.int 0 s.toks].toArray ++ ys) ++ [Value.int 0 s₄.toks].toArray) = cv at hIc P7
  refine wpAny_execs_cons <| wpAny_Assign_Name <| callB1 S7.gnd rfl Boot.sorted <| callT1 S7.gnd rfl Boot.set <| ldL S7 upd_self <| set_list_x hh P7.isList hIc (by unfold scanBound; simp; omega) fun Ds s₈ k8 hDs X8 => ?_
  have S8 := S7.grow (keeps_ext k8)
  refine sorted_iset hh X8 (Nat.lt_of_le_of_lt (dd_length _) (by simp; omega)) fun Dr s₉ rv ranks x9 hDr P9 hIr hpr hsr => ?_
  have S9 := S8.grow x9
  have Or := S8.own_new hDr
  have FN := fine h4 hpr hsr
  have P9c := plain_ext (plain_ext P7 (keeps_ext k8)) x9
  refine stC S9 (c := L + 1) rfl fun s₁₀ S10 k10 => ?_
  have hneC : ∀ {b : Addr}, Own s₀ (lwEnv L f cd) b → b ≠ L + 1 := fun O => Ne.symm (O.neC (Str.ofString "ranks") (L + 1) rfl)
  have P10 := plain_of P9c (k10 _ (hneC Oc))
  have R10 := plain_of P9 (k10 _ (hneC Or))
  have hC10 : s₁₀.heap.IsCell (L + 1) (some (.ref Dr)) := by have := S10.cl.cell (Str.ofString "ranks") (L + 1) rfl; rwa [upd_self] at this
  have hcvl : (0 :: n4 ++ [0] : List Int).length ≤ 6 := by simp; omega
  exact law_rest hh hroom S10 upd_self upd_self Oc Or P10 R10 hIc hIr FN hcvl h
end
end Mine

namespace Mine
open PySem PySem.W PySem.Calls PyProof.Rows

section
variable {prog : Program} {w : World} {A : Around} {E : Value → Shared → Prop} {s : Shared}

theorem law_start {h₁ : Heap} {tk : Nat} {f l : Addr} {cd : Value} {oc : Obj} {vs : List Value} {ns : List Int} {Q : Flow → Shared → Prop} {p : Program} {loose : List Str} {mg mb : Str → Option Value} (K : (hd.heap_39 w.params).In s.heap) (T : TopRead p loose mg mb s.heap)
    (F : Fr s.heap s.heap.objs.size h₁ (upd (fun _ => none) (Str.ofString "script") (.ref l))) (hoc : h₁.get? (s.heap.objs.size + 1) = some oc) (hod : oc.data = .cell none)
    (hl : s.heap.IsList l vs.toArray) (hi : IntsAre vs ns) (hlen : ¬ ((63 : Nat) : Int) < (ns.length : Int)) (hh : A.handled = none) (hroom : A.depth + 1 < recursionLimit)
    (h : ∀ s', Ext s s' → Q (.ret (.bool true)) s') :
    wpAny (model prog w) A (execs (fnS 10).1 (lwEnv s.heap.objs.size f cd)) Q E { s with heap := h₁, toks := tk } := by
  have G : Gnd w s.heap := ⟨K, _, _, _, _, T⟩
  have S : St w s (lwEnv s.heap.objs.size f cd) (upd (fun _ => none) (Str.ofString "script") (.ref l)) (fun _ => none) { s with heap := h₁, toks := tk } := by
    refine ⟨⟨F.keep, rfl, rfl⟩, F.ns, F.above, ⟨fun n c e => ?_, ?_, ?_⟩, G⟩
    · have hcs : (lwEnv s.heap.objs.size f cd).cells = [(Str.ofString "ranks", s.heap.objs.size + 1)] := rfl
      rw [hcs] at e
      have hc : c = s.heap.objs.size + 1 := by
        have := mem_of_lookup e
        simp at this
        exact this.2
      subst hc
      exact ⟨oc, hoc, hod⟩
    · show List.Pairwise _ [(Str.ofString "ranks", s.heap.objs.size + 1)]
      simp
    · intro n c hm
      have hm' : (n, c) ∈ [(Str.ofString "ranks", s.heap.objs.size + 1)] := hm
      simp at hm'
      show s.heap.objs.size < c
      rw [hm'.2]
      exact Nat.lt_succ_self _
  exact law_body hh hroom S upd_self (S.keep_list hl) (by simpa using hi) (by omega) h
end

end Mine

open PySem PySem.W PyProof.Rows Mine
set_option maxHeartbeats 8000000 in
theorem PySem.Challenge.cw_mq0080_01_holds : PySem.Challenge.rw_mq0080_01.Holds := by
  refine Mine.hd ?_
  k_go0
  rename_i hs hlay hL hr hl2 _ _ _ _ _ hLL ra w1 r0 hI hr2 hc1 hc2 K0 hD h₁ tk₁ F ow hod N0 X0
  refine law_start (by assumption) (topRead_of (by assumption)) F (N0 _ List.mem_cons_self).1 hod hLL hI hc1 rfl (show (1 + claimMargin + 1) + 1 < recursionLimit by decide) fun s' x => ?_
  show GoodW _ _ _ _ _ (.ok (.ret (.bool true))) s'
  refine ⟨.inl ⟨_, _, _, rfl, raisesW_false ?_, ReadsW.bool true, ?_, unshared_nil⟩, x.keep, x.os, x.gens.trans (by assumption)⟩
  · wrow_none_raised
  · wrow_post
