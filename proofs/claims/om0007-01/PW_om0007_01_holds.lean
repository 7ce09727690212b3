import PyProof.Rows.All
import Wide.All
import OpenK.AllK
import Wide.FinOn
import PySem.Challenge.RW_om0007_01
set_option Elab.async false

section partFw
open PySem PySem.W PyProof.Rows
set_option maxRecDepth 100000
set_option autoImplicit false
namespace Mine

/-- the program's top, its i-th statement's def -/
noncomputable abbrev pb : List Stmt := PySem.Challenge.pw_om0007_01.main.body
noncomputable abbrev fnB (i : Nat) : List Stmt := match pb[i]? with | some (.FunctionDef _ _ b _ _ _ _ _ _ _) => b | _ => []
noncomputable abbrev fnA (i : Nat) : Arguments := match pb[i]? with | some (.FunctionDef _ a _ _ _ _ _ _ _ _) => a | _ => default
noncomputable abbrev fnS (i : Nat) : Scope := match pb[i]? with | some (.FunctionDef _ _ _ _ _ _ sc _ _ _) => sc | _ => default

/-- what a call leaves: all that stood stands, what is printed too, generators stand, new ones are bare -/
structure Kp (s s' : Shared) : Prop where
  keep : ∀ b o, s.heap.get? b = some o → s'.heap.get? b = some o
  os : s'.os = s.os
  gens : ∀ (i : Nat) (g : GenState), s.gens[i]? = some g → s'.gens[i]? = some g
  bare : AllBare s.gens → AllBare s'.gens

theorem Kp.refl (s : Shared) : Kp s s := ⟨fun _ _ e => e, rfl, fun _ _ e => e, fun e => e⟩
theorem Kp.trans {a b c : Shared} (x : Kp a b) (y : Kp b c) : Kp a c :=
  ⟨fun p o e => y.keep p o (x.keep p o e), y.os.trans x.os, fun i g e => y.gens i g (x.gens i g e), fun e => y.bare (x.bare e)⟩
theorem Kp.toks {s s' : Shared} (x : Kp s s') (n : Nat) : Kp s { s' with toks := n } := ⟨x.keep, x.os, x.gens, x.bare⟩
theorem Kp.push {s s' : Shared} (x : Kp s s') (o : Obj) : Kp s { s' with heap := s'.heap.push o } :=
  ⟨fun b o' e => Heap.get?_push_of_some _ (x.keep b o' e), x.os, x.gens, x.bare⟩
theorem Kp.heap {s : Shared} {h' : Heap} {tk : Nat} (hk : ∀ b o, s.heap.get? b = some o → h'.get? b = some o) : Kp s { s with heap := h', toks := tk } :=
  ⟨hk, rfl, fun _ _ e => e, fun e => e⟩

/-- room for n more frames -/
structure Rm (A : Around) (n : Nat) : Prop where
  hh : A.handled = none
  dp : A.depth + n < recursionLimit
  un : A.units + 8 * n + 64 < cLine

theorem Rm.deeper {A : Around} {n : Nat} (x : Rm A (n + 1)) (env : Env) : Rm (A.deeper env) n :=
  ⟨x.hh, by have := x.dp; show A.depth + 1 + n < _; omega, by have := x.un; show A.units + 3 + 8 * n + 64 < _; omega⟩
theorem Rm.in1 {A : Around} {n : Nat} (x : Rm A (n + 1)) : Rm A.in1 n :=
  ⟨x.hh, by have := x.dp; show A.depth + n < _; omega, by have := x.un; show A.units + 1 + 8 * n + 64 < _; omega⟩
theorem Rm.le {A : Around} {n k : Nat} (x : Rm A n) (h : k ≤ n) : Rm A k :=
  ⟨x.hh, by have := x.dp; omega, by have := x.un; omega⟩
theorem Rm.room {A : Around} {n : Nat} (x : Rm A n) : A.depth < recursionLimit := by have := x.dp; omega
theorem Rm.units {A : Around} {n : Nat} (x : Rm A n) : A.units < cLine := by have := x.un; omega

/-- a name's value in an environment -/
inductive Nm (h : Heap) (env : Env) (x : Str) (v : Value) : Prop
  | loc {m : Str → Option Value} : env.kindOf x = some .local → h.Ns env.locals m → m x = some v → Nm h env x v
  | cel {c : Addr} : env.kindOf x = some .cell → env.cells.lookup x = some c → h.IsCell c (some v) → Nm h env x v
  | fre {c : Addr} : env.kindOf x = some .free → (x == ("__classdict__" : Str)) = false → env.cells.lookup x = some c → h.IsCell c (some v) → Nm h env x v
  | glo {mg : Str → Option Value} : env.kindOf x = some .globalImplicit → h.Ns env.globals mg → mg x = some v → Nm h env x v
  | bui {mg mb : Str → Option Value} : env.kindOf x = some .globalImplicit → h.Ns env.globals mg → mg x = none → h.Ns env.builtins mb → mb x = some v → Nm h env x v

theorem Nm.keeps {h h' : Heap} {env : Env} {x : Str} {v : Value} (n : Nm h env x v) (hk : ∀ b o, h.get? b = some o → h'.get? b = some o) : Nm h' env x v := by
  cases n with
  | loc a b c => exact .loc a (b.keeps hk) c
  | cel a b c => exact .cel a b (c.keeps hk)
  | fre a b c d => exact .fre a b c (d.keeps hk)
  | glo a b c => exact .glo a (b.keeps hk) c
  | bui a b c d e => exact .bui a (b.keeps hk) c (d.keeps hk) e

section
variable {M : Model} {A : Around} {E : Value → Shared → Prop} {s : Shared} {env : Env}
theorem Nm.load {x : Str} {v : Value} {Q : Value → Shared → Prop} (n : Nm s.heap env x v) (hk : env.scope.kind = .function) (h : Q v s) : wpAny M A (loadName env x) Q E s := by
  cases n with
  | loc a b c => exact wpAny_loadName_local hk a b c h
  | cel a b c => exact wpAny_loadName_cell hk a b c h
  | fre a b c d => exact wpAny_loadName_free hk a c d h b
  | glo a b c =>
    have := Calls.loadGlobal_global (M := M) (A := A) (E := E) (env := env) b c h
    simpa [loadName, Env.blockKind, hk, a, ScopeKind.isAnnotationScope] using this
  | bui a b c d e =>
    have := Calls.loadGlobal_builtin (M := M) (A := A) (E := E) (env := env) b c d e h
    simpa [loadName, Env.blockKind, hk, a, ScopeKind.isAnnotationScope] using this
theorem Nm.eval {x : Str} {v : Value} {pos : Pos} {Q : Value → Shared → Prop} (n : Nm s.heap env x v) (h : Q v s) (hk : env.scope.kind = .function := by rfl) (hd : (x == ("__debug__" : Str)) = false := by decide) : wpAny M A (eval (.Name x pos) env) Q E s :=
  wpAny_Name (n.load hk h) hd
end
end Mine
end partFw

section partFw2
open PySem PySem.W PyProof.Rows
set_option maxRecDepth 100000
set_option autoImplicit false
namespace Mine

/-- the i-th statement's def stands at a -/
noncomputable def FnAt (h : Heap) (nm : Str) (i : Nat) (a : Addr) (dV kV : Value) : Prop :=
  ∃ o doc pm an cdv ct, h.get? a = some o ∧ o.data = .func (fnOf nm nm (fnA i) (fnB i) (fnS i) dV kV doc pm an cdv ct) ∧ h.CodeRec cdv nm
theorem FnAt.keeps {h h' : Heap} {nm : Str} {i : Nat} {a : Addr} {dV kV : Value} (x : FnAt h nm i a dV kV) (hk : ∀ b o, h.get? b = some o → h'.get? b = some o) : FnAt h' nm i a dV kV :=
  let ⟨o, doc, pm, an, cdv, ct, h1, h2, h3⟩ := x; ⟨o, doc, pm, an, cdv, ct, hk _ _ h1, h2, h3.keeps hk⟩

structure FnRow where
  nm : Str
  i : Nat
  a : Addr
  dV : Value
  kV : Value

noncomputable def fnTab : List FnRow := [⟨"_iter_escaped_chars", 2, 28, .none, .none⟩, ⟨"_strip_quoted_realnames", 3, 35, .none, .none⟩, ⟨"_check_parenthesis", 4, 42, .none, .none⟩,
  ⟨"_buffer", 6, 49, .none, .none⟩, ⟨"_truth", 7, 56, .none, .none⟩, ⟨"b2a_base64", 9, 64, .none, .ref 57⟩, ⟨"b64encode", 11, 72, .ref 65, .none⟩, ⟨"reduce", 14, 81, .ref 74, .none⟩,
  ⟨"_law_text", 16, 86, .none, .none⟩, ⟨"_law_turned", 17, 91, .none, .none⟩, ⟨"_law_turn", 18, 96, .none, .none⟩, ⟨"_law_by_heights", 19, 101, .none, .none⟩,
  ⟨"_law_led", 20, 108, .none, .none⟩, ⟨"_law_shortest", 21, 113, .none, .none⟩, ⟨"_law_falls", 22, 118, .none, .none⟩]

noncomputable def biTab : List (Str × Value) := [("enumerate", .type "enumerate"), ("len", .builtin "len"), ("range", .type "range"), ("type", .type "type"), ("bytes", .type "bytes"),
  ("bool", .type "bool"), ("iter", .builtin "iter"), ("chr", .builtin "chr"), ("min", .builtin "min")]

noncomputable def b64Bytes : Array UInt8 := #[65, 66, 67, 68, 69, 70, 71, 72, 73, 74, 75, 76, 77, 78, 79, 80, 81, 82, 83, 84, 85, 86, 87, 88, 89, 90, 97, 98, 99, 100, 101, 102, 103, 104, 105, 106, 107, 108, 109, 110, 111, 112, 113, 114, 115, 116, 117, 118, 119, 120, 121, 122, 48, 49, 50, 51, 52, 53, 54, 55, 56, 57, 43, 47]

/-- what the top has left -/
structure Bs (mg mb : Str → Option Value) (h : Heap) : Prop where
  lim : h.NoLimit
  gl : h.Ns mainGlobals mg
  bi : h.Ns builtinsNs mb
  fns : ∀ r ∈ fnTab, mg r.nm = some (.ref r.a) ∧ FnAt h r.nm r.i r.a r.dV r.kV
  bis : ∀ p ∈ biTab, mg p.1 = none ∧ mb p.1 = some p.2
  b64 : ∃ t, mg "_B64" = some (.bytes b64Bytes t)
  d65 : h.get? 65 = some { cls := .type "tuple", data := .seq #[.none] }
  d74 : h.get? 74 = some { cls := .type "tuple", data := .seq #[.ref 73] }
  ini : mg "_initial_missing" = some (.ref 73)
  o73 : h.get? 73 = some { cls := .type "object" }

theorem Bs.keeps {mg mb : Str → Option Value} {h h' : Heap} (x : Bs mg mb h) (hk : ∀ b o, h.get? b = some o → h'.get? b = some o) : Bs mg mb h' :=
  ⟨x.lim.keeps hk, x.gl.keeps hk, x.bi.keeps hk, fun r hr => ⟨(x.fns r hr).1, (x.fns r hr).2.keeps hk⟩, x.bis, x.b64, hk _ _ x.d65, hk _ _ x.d74, x.ini, hk _ _ x.o73⟩

/-- an activation: its locals m, its cells cm, in state s; s₀ the state at the call -/
structure Act (s₀ s : Shared) (env : Env) (m cm : Str → Option Value) : Prop where
  kp : Kp s₀ s
  ns : s.heap.Ns env.locals m
  cell : ∀ n c, env.cells.lookup n = some c → s.heap.IsCell c (cm n)
  apart : env.cells.Pairwise fun x y => x.2 ≠ y.2
  lo : s₀.heap.objs.size ≤ env.locals
  above : ∀ n c, (n, c) ∈ env.cells → env.locals < c

/-- objects that are no dict and no cell -/
noncomputable def Solid (o : Obj) : Prop := (∀ es ep, o.data ≠ .dict es ep) ∧ ∀ v, o.data ≠ .cell v

/-- from s to s' within an activation: solid objects stay -/
structure Gr (s s' : Shared) : Prop where
  solid : ∀ b o, Solid o → s.heap.get? b = some o → s'.heap.get? b = some o

/-- all but X stays -/
structure KpX (X : Addr) (s s' : Shared) : Prop where
  keep : ∀ b o, b ≠ X → s.heap.get? b = some o → s'.heap.get? b = some o
  os : s'.os = s.os
  gens : ∀ (i : Nat) (g : GenState), s.gens[i]? = some g → s'.gens[i]? = some g
  bare : AllBare s.gens → AllBare s'.gens
theorem KpX.refl (X : Addr) (s : Shared) : KpX X s s := ⟨fun _ _ _ e => e, rfl, fun _ _ e => e, fun e => e⟩
theorem KpX.trans {X : Addr} {a b c : Shared} (x : KpX X a b) (y : KpX X b c) : KpX X a c :=
  ⟨fun p o n e => y.keep p o n (x.keep p o n e), y.os.trans x.os, fun i g e => y.gens i g (x.gens i g e), fun e => y.bare (x.bare e)⟩
theorem Kp.x {s s' : Shared} (k : Kp s s') (X : Addr) : KpX X s s' := ⟨fun b o _ e => k.keep b o e, k.os, k.gens, k.bare⟩

theorem Kp.gr {s s' : Shared} (x : Kp s s') : Gr s s' := ⟨fun b o _ e => x.keep b o e⟩
theorem Gr.refl (s : Shared) : Gr s s := ⟨fun _ _ _ e => e⟩
theorem Gr.trans {a b c : Shared} (x : Gr a b) (y : Gr b c) : Gr a c := ⟨fun p o q e => y.solid p o q (x.solid p o q e)⟩

theorem Act.go {s₀ s s' : Shared} {env : Env} {m cm : Str → Option Value} (x : Act s₀ s env m cm) (k : Kp s s') : Act s₀ s' env m cm :=
  ⟨x.kp.trans k, x.ns.keeps k.keep, fun n c e => (x.cell n c e).keeps k.keep, x.apart, x.lo, x.above⟩
theorem Act.toks {s₀ s : Shared} {env : Env} {m cm : Str → Option Value} (x : Act s₀ s env m cm) (n : Nat) : Act s₀ { s with toks := n } env m cm := x.go ((Kp.refl s).toks n)

theorem Act.local {s₀ s : Shared} {env : Env} {m cm : Str → Option Value} (x : Act s₀ s env m cm) {n : Str} {v : Value} (hk : env.kindOf n = some .local) (hv : m n = some v) : Nm s.heap env n v := .loc hk x.ns hv
theorem Act.celled {s₀ s : Shared} {env : Env} {m cm : Str → Option Value} (x : Act s₀ s env m cm) {n : Str} {v : Value} {c : Addr} (hk : env.kindOf n = some .cell) (hc : env.cells.lookup n = some c) (hv : cm n = some v) : Nm s.heap env n v :=
  .cel hk hc (hv ▸ x.cell n c hc)

section
variable {M : Model} {A : Around} {E : Value → Shared → Prop} {s₀ s : Shared} {m cm : Str → Option Value} {env : Env}
theorem Act.stL {n : Str} {v : Value} {Q : Unit → Shared → Prop} (x : Act s₀ s env m cm) (h : ∀ s', Act s₀ s' env (fun y => if y = n then some v else m y) cm → Gr s s' → KpX env.locals s s' → Q () s')
    (hk : env.scope.kind = .function := by rfl) (hl : env.kindOf n = some .local := by rfl) : wpAny M A (storeName env n v) Q E s := by
  refine wpAny_storeName_local hl x.ns (fun h' hn' hs' => h _ ⟨⟨fun b o e => ?_, x.kp.os, x.kp.gens, x.kp.bare⟩, hn', fun k c hc => ?_, x.apart, x.lo, x.above⟩ ⟨fun b o q e => ?_⟩ ⟨fun b o n e => hs'.extBut b o n e, rfl, fun _ _ e => e, fun e => e⟩) (by rw [hk]; rfl)
  · exact hs'.extBut b o (Nat.ne_of_lt (Nat.lt_of_lt_of_le (Heap.lt_size e) x.lo)) (x.kp.keep b o e)
  · exact (x.cell k c hc).sameBut hs' (Nat.ne_of_gt (x.above k c (mem_of_lookup hc)))
  · refine hs'.extBut b o ?_ e
    rintro rfl
    obtain ⟨o', es, ep, ho, hd, _⟩ := x.ns
    rw [e] at ho; cases ho; exact q.1 _ _ hd
theorem Act.stC {n : Str} {c : Addr} {v : Value} {Q : Unit → Shared → Prop} (x : Act s₀ s env m cm) (hc : env.cells.lookup n = some c) (h : ∀ s', Act s₀ s' env m (fun y => if y = n then some v else cm y) → Gr s s' → KpX c s s' → Q () s')
    (hk : env.scope.kind = .function := by rfl) (hl : env.kindOf n = some .cell := by rfl) : wpAny M A (storeName env n v) Q E s := by
  have hLc := x.above n c (mem_of_lookup hc)
  refine wpAny_storeName_cell hk hl hc (x.cell n c hc) fun h' hc' hs' => h _ ⟨⟨fun b o e => ?_, x.kp.os, x.kp.gens, x.kp.bare⟩, x.ns.sameBut hs' (Nat.ne_of_lt hLc), fun k c' hk' => ?_, x.apart, x.lo, x.above⟩ ⟨fun b o q e => ?_⟩ ⟨fun b o n e => hs'.extBut b o n e, rfl, fun _ _ e => e, fun e => e⟩
  · exact hs'.extBut b o (Nat.ne_of_lt (Nat.lt_trans (Nat.lt_of_lt_of_le (Heap.lt_size e) x.lo) hLc)) (x.kp.keep b o e)
  · by_cases hkn : k = n
    · subst hkn
      rw [hc] at hk'; cases hk'
      simpa using hc'
    · rw [if_neg hkn]
      exact (x.cell k c' hk').sameBut hs' fun e => hkn (name_of_addr x.apart (mem_of_lookup hk') (e ▸ mem_of_lookup hc))
  · refine hs'.extBut b o ?_ e
    rintro rfl
    obtain ⟨o', ho, hd⟩ := x.cell n _ hc
    rw [e] at ho; cases ho; exact q.2 _ hd
end

noncomputable abbrev envF (nm : Str) (i : Nat) (L a : Addr) (cd : Value) : Env := envOfC nm (fnS i) L a cd

section
variable {prog : Program} {w : World} {A : Around} {s : Shared}
/-- a call of a def enters its body -/
theorem enter {R : Result → Shared → Prop} {nm : Str} {i : Nat} {a : Addr} {dV kV : Value} {args : Args} {binds : List (Str × Value)} (hroom : A.depth < recursionLimit) (hlim : s.heap.NoLimit)
    (hf : FnAt s.heap nm i a dV kV) (hb : ∀ doc pm an cdv ct, BindsTo s (fnOf nm nm (fnA i) (fnB i) (fnS i) dV kV doc pm an cdv ct) args binds)
    (hkind : (binds.all fun y => (fnS i).names.lookup y.1 == some .local || (fnS i).names.lookup y.1 == some .cell) = true)
    (h : ∀ L cd s₁, L = s.heap.objs.size → Act s s₁ (envF nm i L a cd) (bindL (envF nm i L a cd).kindOf binds fun _ => none) (bindC (envF nm i L a cd).kindOf binds fun _ => none) →
      wpAny (model prog w) (A.deeper (envF nm i L a cd)) (execs (fnB i) (envF nm i L a cd)) (fun f s' => R (.ok (.ret (match f with | .ret v => v | _ => .none))) s') (fun _ _ => False) s₁)
    (hco : (fnS i).isCoroutine = false := by rfl) (hgen : (fnS i).isGenerator = false := by rfl) (hk : (fnS i).kind = .function := by rfl) :
    codeAny (model prog w) A (.call (.ref a) args) R s := by
  obtain ⟨o, doc, pm, an, cdv, ct, ho, hd, hcd⟩ := hf
  refine codeAny_call_function hroom ho hd hco hgen rfl hcd (hb doc pm an cdv ct _ _ _ _ ?_)
  refine wpAny_newFunctionEnv_cells hk (kindsX hkind _) fun env' he s' x => ?_
  subst he
  refine ⟨hlim.keeps x.toInCall.keep, codeAny_func (wpAny_mono (h _ cdv s' rfl ?_) (fun _ _ e => e) fun _ _ e => e.elim)⟩
  obtain ⟨h₁, tk, rfl, _⟩ := x.done
  exact ⟨⟨x.toInCall.keep, rfl, fun _ _ e => e, fun e => e⟩, x.toInCall.ns, x.cell, x.apart, x.toInCall.fresh, x.above⟩
end
end Mine
end partFw2

section partEv
open PySem PySem.W PyProof.Rows
set_option maxRecDepth 100000
set_option autoImplicit false
namespace Mine
section
variable {M : Model} {A : Around} {E : Value → Shared → Prop} {s : Shared} {env : Env}
theorem ev_callT {x : Str} {p pos : Pos} {T : String} {e : Expr} {rest : List Expr} {Q : Value → Shared → Prop} (hn : Nm s.heap env x (.type T))
    (h : wpAny M A (spliced (backTo pos (starEach (e :: rest) env))) (fun vs s₁ => wpAny M A (call (.type T) vs) Q E s₁) E s)
    (hk : env.scope.kind = .function := by rfl) (hd : (x == ("__debug__" : Str)) = false := by decide)
    (he : starEach (e :: rest) env = (false, eval e env) :: starEach rest env := by rfl)
    (hplain : (backTo pos (starEach rest env)).any (·.1) = false := by rfl) :
    wpAny M A (eval (.Call (.Name x p) (e :: rest) [] pos) env) Q E s :=
  Call_Name rfl (hn.eval (callWith_type1 h he hplain) hk hd)
theorem ev_callB {x : Str} {p pos : Pos} {id : String} {e : Expr} {rest : List Expr} {Q : Value → Shared → Prop} (hn : Nm s.heap env x (.builtin id))
    (h : wpAny M A (spliced (backTo pos (starEach (e :: rest) env))) (fun vs s₁ => wpAny M A (call (.builtin id) vs) Q E s₁) E s)
    (hk : env.scope.kind = .function := by rfl) (hd : (x == ("__debug__" : Str)) = false := by decide)
    (he : starEach (e :: rest) env = (false, eval e env) :: starEach rest env := by rfl)
    (hplain : (backTo pos (starEach rest env)).any (·.1) = false := by rfl) :
    wpAny M A (eval (.Call (.Name x p) (e :: rest) [] pos) env) Q E s :=
  Call_Name rfl (hn.eval (PyProof.Rows.callWith_builtin1 h he hplain) hk hd)
theorem ev_callF {x : Str} {p pos : Pos} {f : Addr} {nm : Str} {i : Nat} {dV kV : Value} {e : Expr} {rest : List Expr} {Q : Value → Shared → Prop} (hn : Nm s.heap env x (.ref f)) (hf : FnAt s.heap nm i f dV kV)
    (h : wpAny M A (spliced (backTo pos (starEach (e :: rest) env))) (fun vs s₁ => Kp s s₁ ∧ wpAny M A (call (.ref f) vs) Q E s₁) E s)
    (hk : env.scope.kind = .function := by rfl) (hd : (x == ("__debug__" : Str)) = false := by decide)
    (he : starEach (e :: rest) env = (false, eval e env) :: starEach rest env := by rfl) :
    wpAny M A (eval (.Call (.Name x p) (e :: rest) [] pos) env) Q E s := by
  obtain ⟨o, doc, pm, an, cdv, ct, ho, hdat, _⟩ := hf
  exact Call_Name rfl (hn.eval (callWith_def hdat (wpAny_mono h (fun vs s₁ h₁ => ⟨h₁.1.keep _ _ ho, h₁.2⟩) fun _ _ e => e) he) hk hd)
end
section
variable {prog : Program} {w : World} {A : Around} {E : Value → Shared → Prop} {s : Shared} {mg mb : Str → Option Value}
/-- a def's call by its contract -/
theorem call_def {nm : Str} {i : Nat} {a : Addr} {dV kV : Value} {args : List Value} {kw : List (Str × Value)} {binds : List (Str × Value)} {Q : Value → Shared → Prop} (hroom : A.depth < recursionLimit) (hlim : s.heap.NoLimit)
    (hf : FnAt s.heap nm i a dV kV) (hb : ∀ doc pm an cdv ct, BindsTo s (fnOf nm nm (fnA i) (fnB i) (fnS i) dV kV doc pm an cdv ct) ⟨args, kw⟩ binds)
    (hkind : (binds.all fun y => (fnS i).names.lookup y.1 == some .local || (fnS i).names.lookup y.1 == some .cell) = true)
    (h : ∀ L cd s₁, L = s.heap.objs.size → Act s s₁ (envF nm i L a cd) (bindL (envF nm i L a cd).kindOf binds fun _ => none) (bindC (envF nm i L a cd).kindOf binds fun _ => none) →
      wpAny (model prog w) (A.deeper (envF nm i L a cd)) (execs (fnB i) (envF nm i L a cd)) (fun f s' => Q (match f with | .ret v => v | _ => .none) s') (fun _ _ => False) s₁)
    (hco : (fnS i).isCoroutine = false := by rfl) (hgen : (fnS i).isGenerator = false := by rfl) (hk : (fnS i).kind = .function := by rfl) :
    wpAny (model prog w) A (call (.ref a) args kw) Q E s :=
  wpAny_call (enter hroom hlim hf hb hkind h hco hgen hk)
end
theorem Bs.fn {mg mb : Str → Option Value} {h : Heap} (B : Bs mg mb h) (k : Nat) {r : FnRow} (e : fnTab[k]? = some r := by rfl) : FnAt h r.nm r.i r.a r.dV r.kV := (B.fns r (List.mem_of_getElem? e)).2
theorem Bs.gnm {mg mb : Str → Option Value} {h : Heap} (B : Bs mg mb h) (k : Nat) {r : FnRow} (e : fnTab[k]? = some r := by rfl) : mg r.nm = some (.ref r.a) := (B.fns r (List.mem_of_getElem? e)).1
/-- a def's name in a frame -/
theorem Bs.nmF {mg mb : Str → Option Value} {h : Heap} {env : Env} (B : Bs mg mb h) (k : Nat) {r : FnRow} (e : fnTab[k]? = some r := by rfl) (hg : env.globals = mainGlobals := by rfl) (hk : env.kindOf r.nm = some .globalImplicit := by rfl) : Nm h env r.nm (.ref r.a) :=
  .glo hk (by rw [hg]; exact B.gl) (B.gnm k e)
/-- a built-in's name in a frame -/
theorem Bs.nmB {mg mb : Str → Option Value} {h : Heap} {env : Env} (B : Bs mg mb h) (k : Nat) {p : Str × Value} (e : biTab[k]? = some p := by rfl) (hg : env.globals = mainGlobals := by rfl) (hb : env.builtins = builtinsNs := by rfl) (hk : env.kindOf p.1 = some .globalImplicit := by rfl) : Nm h env p.1 p.2 :=
  .bui hk (by rw [hg]; exact B.gl) (B.bis p (List.mem_of_getElem? e)).1 (by rw [hb]; exact B.bi) (B.bis p (List.mem_of_getElem? e)).2
theorem Act.nB {mg mb : Str → Option Value} {s₀ s : Shared} {env : Env} {m cm : Str → Option Value} (a : Act s₀ s env m cm) (B : Bs mg mb s₀.heap) (k : Nat) {p : Str × Value} (e : biTab[k]? = some p := by rfl) (hg : env.globals = mainGlobals := by rfl) (hb : env.builtins = builtinsNs := by rfl) (hk : env.kindOf p.1 = some .globalImplicit := by rfl) : Nm s.heap env p.1 p.2 :=
  (B.keeps a.kp.keep).nmB k e hg hb hk
theorem Act.nF {mg mb : Str → Option Value} {s₀ s : Shared} {env : Env} {m cm : Str → Option Value} (a : Act s₀ s env m cm) (B : Bs mg mb s₀.heap) (k : Nat) {r : FnRow} (e : fnTab[k]? = some r := by rfl) (hg : env.globals = mainGlobals := by rfl) (hk : env.kindOf r.nm = some .globalImplicit := by rfl) : Nm s.heap env r.nm (.ref r.a) :=
  (B.keeps a.kp.keep).nmF k e hg hk
theorem Nm.nB {mg mb : Str → Option Value} {h : Heap} {env : Env} {x : Str} {v : Value} (_ : Nm h env x v) (B : Bs mg mb h) (k : Nat) {p : Str × Value} (e : biTab[k]? = some p := by rfl) (hg : env.globals = mainGlobals := by rfl) (hb : env.builtins = builtinsNs := by rfl) (hk : env.kindOf p.1 = some .globalImplicit := by rfl) : Nm h env p.1 p.2 :=
  B.nmB k e hg hb hk
theorem Nm.nF {mg mb : Str → Option Value} {h : Heap} {env : Env} {x : Str} {v : Value} (_ : Nm h env x v) (B : Bs mg mb h) (k : Nat) {r : FnRow} (e : fnTab[k]? = some r := by rfl) (hg : env.globals = mainGlobals := by rfl) (hk : env.kindOf r.nm = some .globalImplicit := by rfl) : Nm h env r.nm (.ref r.a) :=
  B.nmF k e hg hk
end Mine
end partEv

section partGn
open PySem PySem.W PyProof.Rows
set_option maxRecDepth 100000
set_option autoImplicit false
namespace Mine

section
variable {M : Model} {A : Around} {R : GenEnd} {Y : Protocol} {n : Nat} {s₀ : Shared} {c : Code} {fs : List Frame} {s : Shared} {env : Env}
  {K : Flow → Sem Fin} {H : Value → Sem Fin} {gd : Bool → Bool} {lv : List Value → List Value}

theorem seg_If {test : Expr} {body orelse : List Stmt} {pos : Pos}
    (h : wpAny M (A.over c fs) (isTrue test env (eval test env)) (fun b s' => if b = true then Seg M A R Y n s₀ c ((execs body env).wrap K H gd lv) fs s' else Seg M A R Y n s₀ c ((execs orelse env).wrap K H gd lv) fs s')
      (fun x s' => Seg M A R Y n s₀ c (H x) fs s') s) : Seg M A R Y n s₀ c ((exec (.If test body orelse pos) env).wrap K H gd lv) fs s := by
  rw [exec_If]
  refine seg_bind_wrap (wpAny_standAt ?_)
  refine seg_bind_wrap (wpAny_mono h (fun b s' hb => ?_) fun _ _ e => e)
  cases b with
  | true => exact hb
  | false => exact hb

/-- what the frame above a loop goes on with -/
noncomputable def backK (env : Env) (K : Flow → Sem Fin) (H : Value → Sem Fin) (gd : Bool → Bool) (lv : List Value → List Value) : Result → Sem Fin := fun r =>
  ((match r with | .ok f => (.pure f : Sem Flow) | .error e => .raise e).onRaise fun (x : Value) => do
        if (← field x 1) == Value.none then unsupported "frame.own-activation:exception-without-traceback"
        setFlight x env.frame).wrap K H gd lv

theorem seg_For {target iter : Expr} {body orelse : List Stmt} {pos : Pos} (hs : ∀ x, foldedSetIterable iter env x = pure x)
    (h : wpAny M (A.over c fs) (eval iter env) (fun x s₁ => wpAny M (A.over c fs) (pyIter x) (fun it s₂ => ∀ p, Seg M A R Y n s₀ (.forLoop target it body orelse env) (M.den (.forLoop target it body orelse env))
      (.ret (backK env K H gd lv) none (gd false) (lv []) c p [] :: fs) s₂) (fun x s' => Seg M A R Y n s₀ c (H x) fs s') s₁) (fun x s' => Seg M A R Y n s₀ c (H x) fs s') s) :
    Seg M A R Y n s₀ c ((exec (.For target iter body orelse pos) env).wrap K H gd lv) fs s := by
  rw [exec_For]
  refine seg_bind_wrap (wpAny_standAt ?_)
  refine seg_bind_wrap (wpAny_mono h (fun x s₁ h₁ => ?_) fun _ _ e => e)
  refine seg_bind_wrap (wpAny_of_eq (hs x) ?_)
  refine seg_bind_wrap (wpAny_standAt ?_)
  refine seg_bind_wrap (wpAny_holding (wpAny_mono h₁ (fun it s₂ h₂ => ?_) fun _ _ e => e))
  exact seg_call h₂
end

section
variable {prog : Program} {w : World} {A : Around} {R : GenEnd} {Y : Protocol} {n : Nat} {s₀ : Shared} {fs : List Frame} {s : Shared} {env : Env}

/-- the end of a raise inside a loop's turn (never reached here) -/
noncomputable def badH (env : Env) : Value → Sem Fin := fun e => (do noteFrame e env; theTreesLotGoes e : Sem Unit).wrap (fun _ => .raise e) .raise id id

theorem seg_forLoop {target : Expr} {it : Value} {body orelse : List Stmt}
    (h : wpAny (model prog w) (A.over (.forLoop target it body orelse env) fs) (pyNext it) (fun r s₁ => match r with
        | none => Seg (model prog w) A R Y n s₀ (.forLoop target it body orelse env) (.pure (.again (.block orelse env))) fs s₁
        | some v => wpAny (model prog w) (A.over (.forLoop target it body orelse env) fs) (letOwnedTupleGo target it v) (fun _ s₂ =>
            wpAny (model prog w) (A.over (.forLoop target it body orelse env) fs) (assign target env v) (fun _ s₃ =>
              Seg (model prog w) A R Y n s₀ (.forLoop target it body orelse env) ((execs body env).wrap (fun f => match f with
                | .next | .cont => .pure (.again (.forLoop target it body orelse env))
                | .brk => .pure (.done .next)
                | .ret v => .pure (.done (.ret v))) (badH env) id id) fs s₃) (fun _ _ => False) s₂) (fun _ _ => False) s₁) (fun _ _ => False) s) :
    Seg (model prog w) A R Y n s₀ (.forLoop target it body orelse env) ((model prog w).den (.forLoop target it body orelse env)) fs s := by
  show Seg _ A R Y n s₀ _ ((forTurn target it body orelse env).onRaise (fun x => do noteFrame x env; theTreesLotGoes x)) fs s
  unfold forTurn
  rw [Sem.onRaise_eq_wrap]
  refine seg_bind_wrap (wpAny_standAt ?_)
  refine seg_bind_wrap (wpAny_onRaise (wpAny_mono h (fun r s₁ h₁ => ?_) fun _ _ e => e.elim))
  cases r with
  | none => exact h₁
  | some v =>
    refine seg_bind_wrap (wpAny_mono h₁ (fun _ s₂ h₂ => ?_) fun _ _ e => e.elim)
    refine seg_bind_wrap (wpAny_mono h₂ (fun _ s₃ h₃ => ?_) fun _ _ e => e.elim)
    rw [Sem.bind_eq_wrap', Sem.wrap_wrap]
    rw [Sem.wrap_congr (execs body env) _ _ (K' := fun f => match f with
                | .next | .cont => .pure (.again (.forLoop target it body orelse env))
                | .brk => .pure (.done .next)
                | .ret v => .pure (.done (.ret v))) (H' := badH env) (fun f => by cases f <;> rfl)
      (fun e => by first | exact Sem.bind_eq_wrap _ _ | (show (do noteFrame e env; theTreesLotGoes e : Sem Unit).bind (fun _ => .raise e) = _; rw [Sem.bind_eq_wrap]; rfl))]
    exact h₃

theorem seg_block_nil {c : Code} {k : Result → Sem Fin} {h₁ : Option Value} {g : Bool} {l : List Value} {p : Pos} {kp : List Value} (h : Seg (model prog w) A R Y n s₀ c (k (.ok .next)) fs s) :
    Seg (model prog w) A R Y n s₀ (.block [] env) ((model prog w).den (.block [] env)) (.ret k h₁ g l c p kp :: fs) s := by
  show Seg _ A R Y n s₀ _ (leafOf (.ok .next)) _ s
  exact seg_leaf (.ok .next) h
end
end Mine
end partGn

section partGn2
open PySem PySem.W PyProof.Rows
set_option maxRecDepth 100000
set_option autoImplicit false
namespace Mine

noncomputable abbrev nth (l : List Stmt) (j : Nat) : Stmt := match l[j]? with | some s => s | none => .Pass default
noncomputable abbrev forT : Stmt → Expr | .For t _ _ _ _ => t | _ => .Name "" default
noncomputable abbrev forI : Stmt → Expr | .For _ i _ _ _ => i | _ => .Name "" default
noncomputable abbrev forB : Stmt → List Stmt | .For _ _ b _ _ => b | _ => []

/-- since the generator was woken: what lies at or below a stays, but its own frame -/
noncomputable def GSince (Lg a : Addr) (s₀ s : Shared) : Prop := ∃ h' tk, s = { s₀ with heap := h', toks := tk } ∧ ∀ b o, b ≤ a → b ≠ Lg → s₀.heap.get? b = some o → h'.get? b = some o
theorem GSince.refl (Lg a : Addr) (s : Shared) : GSince Lg a s s := ⟨s.heap, s.toks, rfl, fun _ _ _ _ e => e⟩
theorem GSince.step {Lg a : Addr} {s₀ s : Shared} (x : GSince Lg a s₀ s) {h' : Heap} {tk : Nat} (hk : ∀ b o, b ≤ a → b ≠ Lg → s.heap.get? b = some o → h'.get? b = some o) : GSince Lg a s₀ { s with heap := h', toks := tk } := by
  obtain ⟨h₁, tk₁, rfl, hk₁⟩ := x
  exact ⟨h', tk, rfl, fun b o h1 h2 e => hk b o h1 h2 (hk₁ b o h1 h2 e)⟩

/-- the generator's word: the i-th sign with its place; Lc: the one frame that the consumer turns meanwhile -/
noncomputable def genY (x : Str) (Lg a Lc : Addr) : Protocol := fun m s₀ v s kap =>
  (∃ T t u c, v = .ref T ∧ s.heap.IsTuple T #[.int ((x.cps.size - 1 - m : Nat) : Int) t, .str ⟨#[c]⟩ u] ∧ x.cps[x.cps.size - 1 - m]? = some c) ∧ GSince Lg a s₀ s ∧
    ∀ s'' : Shared, (∀ b o, b ≠ Lc → s.heap.get? b = some o → s''.heap.get? b = some o) → kap (.send .none) s''
noncomputable def genR (Lg a : Addr) : GenEnd := fun n s₀ r s₁ => r = .ok (.ret .none) ∧ (n = 0 ∧ GSince Lg a s₀ s₁)

noncomputable abbrev gEnv (L : Addr) (cd : Value) : Env := envF "_iter_escaped_chars" 2 L 28 cd

theorem notin2 {b a e it : Nat} (hb : b ≤ a) (he : a < e) (hi : a < it) : b ∉ [e, it] := by
  simp only [List.mem_cons, List.not_mem_nil, or_false, not_or]; omega

section
variable {prog : Program} {w : World} {A : Around}

theorem gen_loop (hh : A.handled = none) {x : Str} {Lg a Lc : Addr} {cd : Value} (hasc : x.cps.all (· < 128) = true) (hno : ∀ c ∈ x.cps.toList, c ≠ 92) (hLa : Lg < a) (hcL : Lc < Lg) {e it : Addr} (hea : a < e) (hita : a < it) (hei : e ≠ it) {t₀ : Tok}
    {F : List Frame} (hF : (A.over (.forLoop (forT (nth (fnB 2) 2)) (.ref e) (forB (nth (fnB 2) 2)) [] (gEnv Lg cd)) F).handled = none) (hF1 : splitAtGen F = none) (hF2 : F.any Frame.guarded = false)
    (hend : ∀ s₀ s m, s.heap.Ns Lg m → m "escape" = some (.bool false) → GSince Lg a s₀ s →
      Seg (model prog w) A (genR Lg a) (genY x Lg a Lc) 0 s₀ (.forLoop (forT (nth (fnB 2) 2)) (.ref e) (forB (nth (fnB 2) 2)) [] (gEnv Lg cd)) (.pure (.again (.block [] (gEnv Lg cd)))) F s) :
    ∀ (k i : Nat) (s₀ s : Shared) (m : Str → Option Value), x.cps.size - i = k → i ≤ x.cps.size → (∃ old, IsEnum s.heap e it i old) ∧ s.heap.IsStrIter it "str_ascii_iterator" x t₀ i → s.heap.Ns Lg m → m "escape" = some (.bool false) → GSince Lg a s₀ s →
      Seg (model prog w) A (genR Lg a) (genY x Lg a Lc) (x.cps.size - i) s₀ (.forLoop (forT (nth (fnB 2) 2)) (.ref e) (forB (nth (fnB 2) 2)) [] (gEnv Lg cd))
        ((model prog w).den (.forLoop (forT (nth (fnB 2) 2)) (.ref e) (forB (nth (fnB 2) 2)) [] (gEnv Lg cd))) F s := by
  have W : WalksT prog w (A.over (.forLoop (forT (nth (fnB 2) 2)) (.ref e) (forB (nth (fnB 2) 2)) [] (gEnv Lg cd)) F) e [e, it] [e, it] x.cps.size _ _ _ :=
    WalksT.enumerateD (Draws.strAscii (A := (A.over (.forLoop (forT (nth (fnB 2) 2)) (.ref e) (forB (nth (fnB 2) 2)) [] (gEnv Lg cd)) F).in1) hF it x t₀) e hei (by simpa using hei) (by simp)
  intro k
  induction k with
  | zero =>
    intro i s₀ s m hk hi hst hn hm hsi
    have hin : i = x.cps.size := by omega
    subst hin
    refine seg_forLoop (W.done s _ _ hst fun h' tk hk' => ?_)
    rw [Nat.sub_self]
    refine hend s₀ _ m (hn.at' fun o e' => hk' _ o (notin2 (Nat.le_of_lt hLa) hea hita) e') hm (hsi.step fun b o hb _ e' => hk' b o (notin2 hb hea hita) e')
  | succ k ih =>
    intro i s₀ s m hk hi hst hn hm hsi
    have hlt : i < x.cps.size := by omega
    refine seg_forLoop (W.item i s _ _ hlt hst fun T vals h₁ tk₁ hP hT hTt hMid hk₁ => ?_)
    refine W.go _ _ _ i T _ _ _ hMid fun h₂ hst₂ hk₂ => ?_
    obtain ⟨ti, ch, ⟨c, u, hc, rfl⟩, rfl⟩ := hP
    have hTw := W.apart i T _ hMid
    have hTt₂ : h₂.IsTuple T #[.int i ti, .str ⟨#[c]⟩ u] := let ⟨o, ho, r⟩ := hTt; ⟨o, hk₂ _ _ hTw ho, r⟩
    have up₂ : ∀ b o, b ≤ a → s.heap.get? b = some o → h₂.get? b = some o := fun b o hb e' => hk₂ b o (notin2 hb hea hita) (hk₁ b o (notin2 hb hea hita) e')
    have hz : a < h₂.objs.size := by
      obtain ⟨⟨_, he⟩, _⟩ := hst₂
      exact Nat.lt_trans hea (Heap.lt_size he)
    refine wpAny_assign_Tuple hF hTt₂ rfl rfl fun h₃ hx₃ => ?_
    replace hx₃ : Heap.ExtBut h₂.objs.size h₂ h₃ := hx₃
    have up₃ : ∀ b o, h₂.get? b = some o → h₃.get? b = some o := fun b o e' => hx₃ b o (Nat.ne_of_lt (Heap.lt_size e')) e'
    have hn₃ : h₃.Ns Lg m := hn.at' fun o e' => up₃ _ o (up₂ _ o (Nat.le_of_lt hLa) e')
    have hst₃ := W.frame _ _ h₃ hst₂ fun b _ o e' => up₃ b o e'
    show wpAny _ _ (do holding [Value.str ⟨#[c]⟩ u] (assign (.Name "pos" _) (gEnv Lg cd) (.int i ti)); do holding [] (assign (.Name "ch" _) (gEnv Lg cd) (.str ⟨#[c]⟩ u)); pure ()) _ _ _
    refine wpAny_bind (wpAny_holding (wpAny_assign_Name (wpAny_storeName_local rfl hn₃ (fun h₄ hn₄ hs₄ => ?_) rfl)))
    replace hs₄ : Heap.SameBut Lg h₃ h₄ := hs₄
    refine wpAny_bind (wpAny_holding (wpAny_assign_Name (wpAny_storeName_local rfl hn₄ (fun h₅ hn₅ hs₅ => wpAny_pure ?_) rfl)))
    replace hs₅ : Heap.SameBut Lg h₄ h₅ := hs₅
    have up₅ : ∀ b o, b ≠ Lg → h₃.get? b = some o → h₅.get? b = some o := fun b o hb e' => hs₅.extBut b o hb (hs₄.extBut b o hb e')
    have hn₅' : h₅.Ns Lg (fun y => if y = "ch" then some (.str ⟨#[c]⟩ u) else if y = "pos" then some (.int i ti) else m y) := hn₅
    generalize hm₅ : (fun y : Str => if y = "ch" then some (Value.str ⟨#[c]⟩ u) else if y = "pos" then some (.int i ti) else m y) = m₅ at hn₅'
    have e1 : m₅ "escape" = some (.bool false) := by rw [← hm₅]; exact hm
    have e2 : m₅ "ch" = some (.str ⟨#[c]⟩ u) := by rw [← hm₅]; rfl
    have e3 : m₅ "pos" = some (.int i ti) := by rw [← hm₅]; rfl
    clear hn₅ hn₄ hn₃
    have hc92 : ((⟨#[c]⟩ : Str) == Str.ofString "\\") = false := by
      have hcm : c ∈ x.cps.toList := by
        rw [← Array.getElem?_toList] at hc; exact List.mem_of_getElem? hc
      have hne := hno c hcm
      cases hq : ((⟨#[c]⟩ : Str) == Str.ofString "\\") with
      | false => rfl
      | true =>
        have := congrArg Str.cps (eq_of_beq hq)
        rw [show (Str.ofString "\\").cps = #[92] from by decide +kernel] at this
        exact absurd (by simpa using this) hne
    refine seg_execs_cons (seg_If (wpAny_isTrue_value (Nm.eval (.loc rfl hn₅' e1) (wpAny_truthy_bool ?_))))
    rw [if_neg (by decide)]
    refine seg_execs_cons (seg_If (wpAny_isTrue_Compare1 (Nm.eval (.loc rfl hn₅' e2) (wpAny_Constant_str (PyProof.Rows.eq_str (wpAny_truthy_bool ?_))))))
    rw [hc92, if_neg (by decide)]
    refine seg_execs_cons ?_
    obtain ⟨N', hN'⟩ : ∃ N', x.cps.size - i = N' + 1 := ⟨x.cps.size - i - 1, by omega⟩
    rw [hN']
    refine seg_Expr_Yield hF1 rfl hF2 (wpAny_Tuple (wpAny_items_cons (Nm.eval (.loc rfl hn₅' e3) (wpAny_items_cons (Nm.eval (.loc rfl hn₅' e2) (wpAny_items_nil ⟨by size_fits, ?_⟩))))))
    intro kap hkap
    refine ⟨⟨_, ti, u, c, rfl, ⟨_, Heap.get?_push_size _ rfl, rfl, 0, ?_⟩, ?_⟩, ?_, fun s'' hs'' => hkap .none s'' ?_⟩
    · have : x.cps.size - 1 - N' = i := by omega
      rw [this]
    · have : x.cps.size - 1 - N' = i := by omega
      rw [this]; exact hc
    · exact hsi.step fun b o hb hbL e' => Heap.get?_push_of_some _ (up₅ b o hbL (up₃ b o (up₂ b o hb e')))
    · show Seg _ A _ _ _ s'' _ (.pure (.again _)) F s''
      have hNi : N' = x.cps.size - (i + 1) := by omega
      rw [hNi]
      have old₅ : ∀ b o, b ≠ Lg → b ≠ Lc → h₃.get? b = some o → s''.heap.get? b = some o := fun b o hb hb' e' => hs'' b o hb' (Heap.get?_push_of_some _ (up₅ b o hb e'))
      refine seg_again rfl (ih (i + 1) s'' s'' m₅ (by omega) hlt (W.frame _ _ _ hst₃ fun b hb o e' => old₅ b o ?_ ?_ e') (hn₅'.at' fun o e' => hs'' _ o (Nat.ne_of_gt hcL) (Heap.get?_push_of_some _ e')) e1 (GSince.refl _ _ _))
      · rintro rfl; exact notin2 (Nat.le_of_lt hLa) hea hita hb
      · rintro rfl; exact notin2 (Nat.le_of_lt (Nat.lt_trans hcL hLa)) hea hita hb
end
end Mine
end partGn2

section partGn3
open PySem PySem.W PyProof.Rows
set_option maxRecDepth 100000
set_option autoImplicit false
namespace Mine
section
variable {prog : Program} {w : World} {A : Around} {mg mb : Str → Option Value}

theorem gen_seg (hh : A.handled = none) {x : Str} {Lg a Lc : Addr} {cd : Value} (hasc : x.cps.all (· < 128) = true) (hno : ∀ c ∈ x.cps.toList, c ≠ 92) (hLa : Lg < a) (hcL : Lc < Lg) {t₀ : Tok} {s : Shared} {m : Str → Option Value}
    (hn : s.heap.Ns Lg m) (hm : m "addr" = some (.str x t₀)) (hg : s.heap.Ns mainGlobals mg) (hb : s.heap.Ns builtinsNs mb) (hge : mg "enumerate" = none) (hbe : mb "enumerate" = some (.type "enumerate")) (hz : a < s.heap.objs.size)
    (hgL : mainGlobals ≠ Lg) (hbL : builtinsNs ≠ Lg) :
    Seg (model prog w) A (genR Lg a) (genY x Lg a Lc) x.cps.size s (.func (fnB 2) (gEnv Lg cd)) ((model prog w).den (.func (fnB 2) (gEnv Lg cd))) [] s := by
  refine seg_func ?_
  refine seg_execs_cons (seg_wrap (wpAny_Assign_Name (wpAny_Constant_int (wpAny_storeName_local rfl hn (fun h₁ hn₁ hs₁ => ?_) rfl))))
  replace hs₁ : Heap.SameBut Lg s.heap h₁ := hs₁
  refine seg_execs_cons (seg_wrap (wpAny_Assign_Name (wpAny_Constant_bool (wpAny_storeName_local rfl hn₁ (fun h₂ hn₂ hs₂ => ?_) rfl))))
  replace hs₂ : Heap.SameBut Lg h₁ h₂ := hs₂
  have hz₂ : h₂.objs.size = s.heap.objs.size := hs₂.1.trans hs₁.1
  have hn₂' : h₂.Ns Lg (fun y => if y = "escape" then some (.bool false) else if y = "pos" then some (.int 0 s.toks) else m y) := hn₂
  have up₂ : ∀ b o, b ≠ Lg → s.heap.get? b = some o → h₂.get? b = some o := fun b o hb' e' => hs₂.extBut b o hb' (hs₁.extBut b o hb' e')
  have hg₂ : h₂.Ns mainGlobals mg := hg.at' fun o e' => up₂ _ o hgL e'
  have hb₂ : h₂.Ns builtinsNs mb := hb.at' fun o e' => up₂ _ o hbL e'
  refine seg_execs_cons (seg_For (by intro _; rfl) (ev_callT (x := "enumerate") (.bui rfl hg₂ hge hb₂ hbe) (args_cons (Nm.eval (.loc rfl hn₂' hm) (args_nil ?_)))))
  refine call_enumerate_str fun h₃ he hit hsz hk => ?_
  replace hk : ∀ b o, h₂.get? b = some o → h₃.get? b = some o := hk
  refine wpAny_pyIter_enum he fun p => ?_
  have hn₃ := hn₂'.keeps hk
  have hita : a < h₂.objs.size := by rw [hz₂]; exact hz
  have hit' : h₃.IsStrIter h₂.objs.size "str_ascii_iterator" x t₀ 0 := by
    have := hit; unfold strIterType at this; rw [if_pos hasc] at this; exact this
  refine gen_loop (prog := prog) (w := w) (A := A) hh (x := x) (Lg := Lg) (a := a) (Lc := Lc) (cd := cd) hasc hno hLa hcL (e := h₂.objs.size + 1) (it := h₂.objs.size) (Nat.lt_succ_of_lt hita) hita (Nat.succ_ne_self _) (t₀ := t₀)
    ?hF ?hF1 ?hF2 ?hend x.cps.size 0 s _ _ (by simp) (Nat.zero_le _) ⟨⟨_, he⟩, hit'⟩ hn₃ rfl ⟨_, _, rfl, fun b o hb' hbL' e' => hk b o (up₂ b o hbL' e')⟩
  case hF => exact hh
  case hF1 => rfl
  case hF2 => rfl
  case hend =>
    intro s₀ s₁ m₁ hn' hm' hsi
    refine seg_again rfl (seg_block_nil ?_)
    refine seg_execs_cons (seg_If (wpAny_isTrue_value (Nm.eval (.loc rfl hn' hm') (wpAny_truthy_bool ?_))))
    rw [if_neg (by decide)]
    refine seg_execs_nil ?_
    exact seg_end (.ok (.ret .none)) ⟨rfl, rfl, hsi⟩
end
end Mine
end partGn3

section partGn4
open PySem PySem.W PyProof.Rows
set_option maxRecDepth 100000
set_option autoImplicit false
namespace Mine
section
variable {prog : Program} {w : World} {A : Around} {E : Value → Shared → Prop} {s : Shared} {mg mb : Str → Option Value}

theorem iter_call (B : Bs mg mb s.heap) (hroom : A.depth < recursionLimit) {x : Str} {t₀ : Tok} {Q : Value → Shared → Prop}
    (h : ∀ s' a cd m, Kp s s' → s.heap.objs.size < a → s'.heap.IsGen a s.gens.size → s'.gens[s.gens.size]? = some (.fresh (.func (fnB 2) (gEnv s.heap.objs.size cd))) → s'.gens.size = s.gens.size + 1 → s'.heap.Ns s.heap.objs.size m → m "addr" = some (.str x t₀) → a < s'.heap.objs.size → Q (.ref a) s') :
    wpAny (model prog w) A (call (.ref 28) [.str x t₀]) Q E s := by
  obtain ⟨o, doc, pm, an, cdv, ct, ho, hdat, hcd⟩ := B.fn 0
  refine wpAny_call (codeAny_call_generator hroom ho hdat rfl rfl rfl hcd ?_)
  refine wpAny_of_eq (a := [(("addr" : Str), Value.str x t₀)]) rfl ?_
  refine wpAny_newFunctionEnv (show ∀ x ∈ (fnS 2).names, x.2 ≠ .cell by decide) (locs rfl) (fun h' hn hs => ?_) rfl
  have hk : ∀ b o, s.heap.get? b = some o → h'.get? b = some o := fun b o e => hs.extBut b o (Nat.ne_of_lt (Heap.lt_size e)) (Heap.get?_push_of_some _ e)
  have hz : h'.objs.size = s.heap.objs.size + 1 := by rw [hs.1, Heap.size_push]
  refine ⟨B.lim.keeps hk, ?_⟩
  refine h _ _ cdv _ ⟨fun b o e => Heap.get?_push_of_some _ (hk b o e), rfl, fun i g e => ?_, fun hb => ?_⟩ (by show _ < h'.objs.size; rw [hz]; exact Nat.lt_succ_self _) ⟨_, _, _, Heap.get?_push_size _ rfl, rfl, rfl, rfl⟩ ?_ ?_ (hn.push _) rfl (by show h'.objs.size < _; rw [Heap.size_push]; exact Nat.lt_succ_self _)
  · show (s.gens.push _)[i]? = some g
    rw [Array.getElem?_push]
    rw [if_neg]; exact e
    rintro rfl
    rw [Array.getElem?_eq_none (Nat.le_refl _)] at e; cases e
  · intro y hy
    rcases Array.mem_push.mp hy with hy | rfl
    · exact hb y hy
    · rfl
  · show (s.gens.push _)[s.gens.size]? = _
    rw [Array.getElem?_push_size]; rfl
  · exact Array.size_push ..
end
end Mine
end partGn4

section partGn5
open PySem PySem.W PyProof.Rows
set_option maxRecDepth 100000
set_option autoImplicit false
namespace Mine
section
variable {prog : Program} {w : World} {A : Around} {E : Value → Shared → Prop} {s : Shared} {mg mb : Str → Option Value}

theorem strip_call (B : Bs mg mb s.heap) (hR : Rm A 1) {x : Str} {t : Tok} {Q : Value → Shared → Prop} (hq : 34 ∉ x.cps.toList) (h : ∀ s', Kp s s' → Q (.str x t) s') :
    wpAny (model prog w) A (call (.ref 35) [.str x t]) Q E s := by
  refine call_def (binds := [(("addr" : Str), Value.str x t)]) hR.room B.lim (B.fn 1) (fun _ _ _ _ _ => .of_eq rfl) rfl ?_
  intro L cd s₁ hL a
  refine wpAny_execs_cons (wpAny_If (wpAny_isTrue_Compare1 (wpAny_Constant_str (Nm.eval ((a.toks _).local rfl rfl) (P.notIn_str (wpAny_truthy_bool ?_))))))
  rw [show Str.ofString "\"" = ⟨#[34]⟩ from by decide +kernel, StrLaws.found_one, decide_eq_false hq]
  refine wpAny_execs_cons (wpAny_Return_some (Nm.eval ((a.toks _).local rfl rfl) ?_))
  exact h _ (a.toks _).kp
end
end Mine
end partGn5

section partGn6
open PySem PySem.W PyProof.Rows
set_option maxRecDepth 100000
set_option autoImplicit false
namespace Mine

/-- what _check_parenthesis reckons -/
noncomputable def chkP : List Nat → Int → Bool
  | [], o => o == 0
  | c :: r, o => if c = 40 then chkP r (o + 1) else if c = 41 then (if o - 1 < 0 then false else chkP r (o - 1)) else chkP r o

section
variable {prog : Program} {w : World} {A : Around} {E : Value → Shared → Prop} {s : Shared} {mg mb : Str → Option Value}

/-- next of a generator function's generator, telling that what it leaves is bare -/
theorem pyNext_genB {a : Addr} {g n : Nat} {gs : GenState} {P : Nat → Shared → Shared → Prop} {Y : Protocol} {Q : Option Value → Shared → Prop} (hh : A.handled = none)
    (hl : s.heap.NoLimit) (hroom : A.depth < recursionLimit) (hg : s.heap.IsGen a g) (hgs : s.gens[g]? = some gs)
    (hgo : gs.Goes (model prog w) A.in1 (fun n s₀ r s₁ => r = .ok (.ret .none) ∧ P n s₀ s₁) Y n (.send .none) (s.setGen g .running))
    (hY : ∀ v s₁ gs', gs'.bare = true → Y (n - 1) (s.setGen g .running) v s₁ (fun r' s'' => match n with
        | 0 => False
        | m + 1 => gs'.Goes (model prog w) A.in1 (fun n s₀ r s₁ => r = .ok (.ret .none) ∧ P n s₀ s₁) Y m r' s'') → Q (some v) (s₁.setGen g gs'))
    (hP : ∀ s₁, P n (s.setGen g .running) s₁ → ∀ h', (∀ b o, s₁.heap.get? b = some o → h'.get? b = some o) → Q none { s₁.setGen g .finished with heap := h' }) :
    wpAny (model prog w) A (pyNext (.ref a)) Q E s := by
  unfold pyNext
  refine wpAny_bind (wpAny_attempt (wpAny_callSpecial?_slot (name := Str.ofString "__next__") hg.typeIs slot_gen_next (wpAny_call_entry slot_gen_next hg.typeIs entry_gen_next ?_ (args_gen_next _))))
  show wpAny _ _ (Builtin.Generator.genWake (.ref a) (.send .none)) _ _ s
  unfold Builtin.Generator.genWake
  refine wpAny_bind (wpAny_holding (wpAny_genNumber hg (wpAny_bind (wpAny_genState hgs ?_))))
  have hstop : ∀ (s₁ : Shared) (P' : PySem.Fin → Shared → Prop) (R : Value → Shared → Prop) (k : Unit → Sem PySem.Fin), (∀ e h', (∀ b o, s₁.heap.get? b = some o → h'.get? b = some o) → (∃ o, h'.get? e = some o ∧ o.cls = .type "StopIteration") → R (.ref e) { s₁ with heap := h' }) →
      wpAny (model prog w) A.in1 (newExc (.type "StopIteration") [] >>= fun e => (raiseNew e : Sem Unit) >>= k) P' R s₁ := by
    intro s₁ P' R k hR
    refine wpAny_bind ?_
    simp only [newExc, newTuple]
    refine wpAny_bind (wpAny_newObj_type ?_ (by size_fits))
    refine wpAny_bind (m := firstArgMember _ _) (wpAny_of_eq (a := Value.none) (by first | rfl | (simp only [firstArgMember]; rfl)) ?_)
    refine wpAny_newObj_type ?_ (by size_fits)
    simp only [raiseNew]
    refine wpAny_bind (wpAny_bind (wpAny_handled ?_))
    rw [show A.in1.handled = none from hh]
    refine wpAny_throw (hR _ _ (fun b o e => Heap.get?_push_of_some _ (Heap.get?_push_of_some _ e)) ⟨_, Heap.get?_push_size _ rfl, rfl⟩)
  have hres : ∀ (k : GenResult → Sem PySem.Fin) (P' : PySem.Fin → Shared → Prop) (R : Value → Shared → Prop), (∀ v s', Q (some v) s' → wpAny (model prog w) A.in1 (k (.yielded v)) P' R s') →
      (∀ s', (∀ h', (∀ b o, s'.heap.get? b = some o → h'.get? b = some o) → Q none { s' with heap := h' }) → wpAny (model prog w) A.in1 (k (.returned .none)) P' R s') → wpAny (model prog w) A.in1 (.resume g (.send .none) [] k) P' R s := by
    intro k P' R h1 h2
    refine wpAny_resumeQ hgs hgo (fun x s₁ hx => ?_) (fun v s₁ gs' hb hv => h1 v _ (hY v s₁ gs' hb hv))
    obtain ⟨rfl, hp⟩ := hx
    exact h2 _ fun h' hk => hP s₁ hp h' hk
  cases gs with
  | running => exact hgo.elim
  | finished => exact hgo.elim
  | _ =>
    refine wpAny_bind (wpAny_roomToWake hl hroom ?_)
    refine hres _ _ _ (fun v s' hq => wpAny_pure ⟨v, rfl, wpAny_pure hq⟩) (fun s' hq => ?_)
    refine hstop s' _ _ _ fun e h' hk ⟨o, ho, hc⟩ => ?_
    exact wpAny_bind (wpAny_isInstance (T := "StopIteration") (b := true) ⟨o, ho, hc⟩ isSubtype_stop (wpAny_pure (hq h' hk)))
end
end Mine
end partGn6

section partGn7
open PySem PySem.W PyProof.Rows
set_option maxRecDepth 100000
set_option autoImplicit false
namespace Mine
section
variable {prog : Program} {w : World} {A : Around} {E : Value → Shared → Prop} {s : Shared} {mg mb : Str → Option Value}

/-- the generator g, at a, is about to hand out the i-th sign -/
structure GAt (prog : Program) (w : World) (A : Around) (x : Str) (Lg a Lc : Addr) (g : Nat) (i : Nat) (s : Shared) : Prop where
  gen : s.heap.IsGen a g
  lim : s.heap.NoLimit
  go : ∃ gs, s.gens[g]? = some gs ∧ ∀ s'' : Shared, (∀ b o, b ≠ Lc → s.heap.get? b = some o → s''.heap.get? b = some o) → gs.Goes (model prog w) A.in1 (genR Lg a) (genY x Lg a Lc) (x.cps.size - i) (.send .none) s''

theorem GAt.step {x : Str} {Lg a Lc : Addr} {g i : Nat} {s s' : Shared} (X : GAt prog w A x Lg a Lc g i s) (k : KpX Lc s s') (ha : a ≠ Lc) (hc : cStatics ≠ Lc) : GAt prog w A x Lg a Lc g i s' := by
  obtain ⟨⟨o, nm, qn, ho, r⟩, ⟨mc, hm, hl⟩, gs, hgs, hgo⟩ := X
  exact ⟨⟨o, nm, qn, k.keep _ _ ha ho, r⟩, ⟨mc, hm.at' fun o e => k.keep _ o hc e, hl⟩, gs, k.gens _ _ hgs, fun s'' h'' => hgo s'' fun b o hb e => h'' b o hb (k.keep b o hb e)⟩

theorem letGo_gen {elts : List Expr} {x1 : Nat} {pos : Pos} {a g : Nat} {v : Value} {Q : Unit → Shared → Prop} (hg : s.heap.IsGen a g) (h : Q () s) : wpAny (model prog w) A (letOwnedTupleGo (.Tuple elts x1 pos) (.ref a) v) Q E s := by
  obtain ⟨o, nm, qn, ho, hc, hd, hs⟩ := hg
  cases v with
  | ref r =>
    unfold letOwnedTupleGo
    refine wpAny_bind (wpAny_load ho ?_)
    rw [hc, hd]
    exact wpAny_pure h
  | _ => exact wpAny_pure h

noncomputable abbrev cEnv (L : Addr) (cd : Value) : Env := envF "_check_parenthesis" 4 L 42 cd

theorem one_eq (c d : Nat) {y : Str} (hy : y = ⟨#[d]⟩) : ((⟨#[c]⟩ : Str) == y) = decide (c = d) := by
  subst hy
  by_cases h : c = d
  · subst h; simp
  · rw [decide_eq_false h]
    cases hq : ((⟨#[c]⟩ : Str) == ⟨#[d]⟩) with
    | false => rfl
    | true => exact absurd (by simpa using congrArg Str.cps (eq_of_beq hq)) h

/-- the consumer's frame behind a turn of the generator -/
theorem act_gen {s₀ s s₁ : Shared} {Lg a Lc : Addr} {cd : Value} {g : Nat} {m cm : Str → Option Value} {gs gs' : GenState} (hcL : Lc < Lg) (hLa : Lg < a) (hg0 : s₀.gens.size ≤ g) (ac : Act s₀ s (cEnv Lc cd) m cm) (hgs : s.gens[g]? = some gs)
    (hb : gs'.bare = true) (hsi : GSince Lg a (s.setGen g .running) s₁) : Act s₀ (s₁.setGen g gs') (cEnv Lc cd) m cm ∧ (s₁.setGen g gs').gens[g]? = some gs' ∧ s₁.heap.NoLimit = s₁.heap.NoLimit := by
  obtain ⟨h', tk, rfl, hk⟩ := hsi
  refine ⟨⟨⟨fun b o e => ?_, ac.kp.os, fun i g' e => ?_, fun hB y hy => ?_⟩, ac.ns.at' fun o e => hk _ o (Nat.le_of_lt (Nat.lt_trans hcL hLa)) (Nat.ne_of_lt hcL) e, fun n c e => (by cases e), ac.apart, ac.lo, ac.above⟩, ?_, rfl⟩
  · have hb' : b < Lc := Nat.lt_of_lt_of_le (Heap.lt_size e) ac.lo
    exact hk b o (Nat.le_of_lt (Nat.lt_trans hb' (Nat.lt_trans hcL hLa))) (Nat.ne_of_lt (Nat.lt_trans hb' hcL)) (ac.kp.keep b o e)
  · have hi : i < s₀.gens.size := by
      rcases Nat.lt_or_ge i s₀.gens.size with h | h
      · exact h
      · rw [Array.getElem?_eq_none h] at e; cases e
    have hne : g ≠ i := by omega
    show ((s.gens.setIfInBounds g .running).setIfInBounds g gs')[i]? = some g'
    rw [Array.getElem?_setIfInBounds_ne hne, Array.getElem?_setIfInBounds_ne hne]
    exact ac.kp.gens i g' e
  · rcases Array.mem_or_eq_of_mem_setIfInBounds hy with hy | rfl
    · rcases Array.mem_or_eq_of_mem_setIfInBounds hy with hy | rfl
      · exact ac.kp.bare hB y hy
      · rfl
    · exact hb
  · exact setGen_self (gs := .running) (setGen_self hgs)

theorem chk_loop {s₀ : Shared} {x : Str} {Lg a Lc : Addr} {cd : Value} {g N0 : Nat} (hh : A.handled = none) (hroom : A.depth < recursionLimit) (hcL : Lc < Lg) (hLa : Lg < a) (hg0 : s₀.gens.size ≤ g) (hcs : cStatics ≠ Lc) (hlim : s₀.heap.NoLimit)
    {R : Result → Shared → Prop} (hR : ∀ s', Kp s₀ s' → ∀ o : Int, ∀ m cm u, Act s₀ s' (cEnv Lc cd) m cm → m "opens" = some (.int o u) → (o == 0) = chkP x.cps.toList 0 → R (.ok .next) s')
    (hF : ∀ s', Kp s₀ s' → chkP x.cps.toList 0 = false → R (.ok (.ret (.bool false))) s')
    {m cm : Str → Option Value} {u : Tok} (ac : Act s₀ s (cEnv Lc cd) m cm) (hm : m "opens" = some (.int 0 u)) (G : GAt prog w A x Lg a Lc g 0 s) :
    codeAny (model prog w) A (.forLoop (forT (nth (fnB 4) 2)) (.ref a) (forB (nth (fnB 4) 2)) [] (cEnv Lc cd)) R s := by
  refine codeAny_forLoop_any (fun k s' => ∃ i o m u, k = x.cps.size + 1 - i ∧ i ≤ x.cps.size ∧ Act s₀ s' (cEnv Lc cd) m cm ∧ m "opens" = some (.int o u) ∧ chkP (x.cps.toList.drop i) o = chkP x.cps.toList 0 ∧ GAt prog w A x Lg a Lc g i s') ?_
    (x.cps.size + 1) ⟨0, 0, m, u, rfl, Nat.zero_le _, ac, hm, rfl, G⟩
  rintro k s' ⟨i, o, m', u', rfl, hi, ac', hm', hch, ⟨gen, lim, gs, hgs, hgo⟩⟩
  refine pyNext_genB hh lim hroom gen hgs (n := x.cps.size - i) (P := fun n s₀ s₁ => n = 0 ∧ GSince Lg a s₀ s₁) (Y := genY x Lg a Lc) (hgo _ fun _ _ _ e => e) ?_ ?_
  · rintro v s₁ gs' hbare ⟨⟨T, t, uu, c, rfl, hT, hc⟩, hsi, hkap⟩
    obtain ⟨N', hN'⟩ : ∃ N', x.cps.size - i = N' + 1 := by
      rcases Nat.eq_zero_or_pos (x.cps.size - i) with h0 | h0
      · rw [h0] at hkap; exact (hkap s₁ fun _ _ _ e => e).elim
      · exact ⟨_, (Nat.succ_pred_eq_of_pos h0).symm⟩
    have hlt : i < x.cps.size := by omega
    obtain ⟨ac₁, hgs₁, _⟩ := act_gen hcL hLa hg0 ac' hgs hbare hsi
    have gen₁ : (s₁.setGen g gs').heap.IsGen a g := by
      obtain ⟨o, nm, qn, ho, r⟩ := gen
      obtain ⟨h', tk, rfl, hk⟩ := hsi
      exact ⟨o, nm, qn, hk _ _ (Nat.le_refl _) (Nat.ne_of_gt hLa) ho, r⟩
    have hN : x.cps.size - 1 - (x.cps.size - i - 1) = i := by omega
    rw [hN] at hT hc
    rw [hN'] at hkap
    have hN2 : N' = x.cps.size - (i + 1) := by omega
    subst hN2
    have G₁ : GAt prog w A x Lg a Lc g (i + 1) (s₁.setGen g gs') := ⟨gen₁, hlim.keeps ac₁.kp.keep, gs', hgs₁, fun s'' h'' => hkap s'' h''⟩
    have hT₁ : (s₁.setGen g gs').heap.IsTuple T #[.int i t, .str ⟨#[c]⟩ uu] := hT
    generalize s₁.setGen g gs' = σ at ac₁ gen₁ G₁ hT₁
    have haL : a ≠ Lc := Nat.ne_of_gt (Nat.lt_trans hcL hLa)
    refine letGo_gen gen₁ (wpAny_assign_Tuple hh hT₁ rfl rfl fun h₃ hx₃ => ?_)
    have k₃ : Kp σ { σ with heap := h₃ } := ⟨fun b o e => hx₃ b o (Nat.ne_of_lt (Heap.lt_size e)) e, rfl, fun _ _ e => e, fun e => e⟩
    have ac₃ := ac₁.go k₃
    have G₃ := G₁.step (k₃.x Lc) haL hcs
    clear hx₃ k₃ hT₁ gen₁ hT G₁ ac₁
    generalize ({ σ with heap := h₃ } : Shared) = σ₃ at ac₃ G₃
    show wpAny _ _ (do holding [Value.str ⟨#[c]⟩ uu] (assign (.Name "pos" _) (cEnv Lc cd) (.int i t)); do holding [] (assign (.Name "ch" _) (cEnv Lc cd) (.str ⟨#[c]⟩ uu)); pure ()) _ _ _
    refine wpAny_bind (wpAny_holding (wpAny_assign_Name (ac₃.stL fun σ₄ ac₄ _ k₄ => ?_)))
    refine wpAny_bind (wpAny_holding (wpAny_assign_Name (ac₄.stL fun σ₅ ac₅ _ k₅ => wpAny_pure ?_)))
    have G₅ := (G₃.step k₄ haL hcs).step k₅ haL hcs
    have hdrop : x.cps.toList.drop i = c :: x.cps.toList.drop (i + 1) := by
      have : i < x.cps.toList.length := by simpa using hlt
      rw [List.drop_eq_getElem_cons this]
      congr 1
      rw [← Array.getElem?_toList, List.getElem?_eq_getElem this] at hc
      exact Option.some.inj hc
    rw [hdrop] at hch
    have h40 : ((⟨#[c]⟩ : Str) == Str.ofString "(") = decide (c = 40) := one_eq c 40 (by decide +kernel)
    have h41 : ((⟨#[c]⟩ : Str) == Str.ofString ")") = decide (c = 41) := one_eq c 41 (by decide +kernel)
    refine wpAny_execs_cons (wpAny_If (wpAny_isTrue_Compare1 (Nm.eval (ac₅.local rfl rfl) (wpAny_Constant_str (PyProof.Rows.eq_str (wpAny_truthy_bool ?_))))))
    rw [h40]
    by_cases hc40 : c = 40
    · rw [decide_eq_true hc40, if_pos rfl]
      refine wpAny_execs_cons (wpAny_AugAssign_Name (Nm.load ((ac₅.toks _).local rfl hm') rfl (wpAny_Constant_int (AutoIntOps.iadd_0 (((ac₅.toks _).toks _).toks _ |>.stL fun σ₆ ac₆ _ k₆ => ?_)))))
      refine wpAny_execs_nil (wpAny_execs_nil ⟨x.cps.size + 1 - (i + 1), by omega, i + 1, o + 1, _, _, rfl, hlt, ac₆, rfl, ?_, G₅.step (((((Kp.refl σ₅).toks _).toks _).toks _ |>.x Lc).trans k₆) haL hcs⟩)
      rw [← hch]; conv => rhs; unfold chkP
      rw [if_pos hc40]
    · rw [decide_eq_false hc40, if_neg (by decide)]
      refine wpAny_execs_cons (wpAny_If (wpAny_isTrue_Compare1 (Nm.eval ((ac₅.toks _).local rfl rfl) (wpAny_Constant_str (PyProof.Rows.eq_str (wpAny_truthy_bool ?_))))))
      rw [h41]
      by_cases hc41 : c = 41
      · rw [decide_eq_true hc41, if_pos rfl]
        refine wpAny_execs_cons (wpAny_AugAssign_Name (Nm.load (((ac₅.toks _).toks _).local rfl hm') rfl (wpAny_Constant_int (AutoIntOps.isub_0 ((((ac₅.toks _).toks _).toks _).toks _ |>.stL fun σ₆ ac₆ _ k₆ => ?_)))))
        have hch' : (if o - 1 < 0 then false else chkP (x.cps.toList.drop (i + 1)) (o - 1)) = chkP x.cps.toList 0 := by
          rw [← hch]; conv => rhs; unfold chkP
          rw [if_neg hc40, if_pos hc41]
        refine wpAny_execs_cons (wpAny_If (wpAny_isTrue_Compare1 (Nm.eval (ac₆.local rfl rfl) (wpAny_Constant_int (PyProof.Rows.lt_int (wpAny_truthy_bool ?_))))))
        by_cases ho : o - 1 < 0
        · rw [decide_eq_true ho, if_pos rfl]
          refine wpAny_execs_cons (wpAny_Return_some (wpAny_Constant_bool ?_))
          rw [if_pos ho] at hch'
          exact hF _ (ac₆.toks _).kp hch'.symm
        · rw [decide_eq_false ho, if_neg (by decide)]
          rw [if_neg ho] at hch'
          refine wpAny_execs_nil (wpAny_execs_nil (wpAny_execs_nil (wpAny_execs_nil ⟨x.cps.size + 1 - (i + 1), by omega, i + 1, o - 1, _, _, rfl, hlt, ac₆.toks _, rfl, hch', ?_⟩)))
          exact G₅.step ((((((Kp.refl σ₅).toks _).toks _).toks _).toks _ |>.x Lc).trans (k₆.trans (((Kp.refl σ₆).toks _).x Lc))) haL hcs
      · rw [decide_eq_false hc41, if_neg (by decide)]
        refine wpAny_execs_nil (wpAny_execs_nil (wpAny_execs_nil ⟨x.cps.size + 1 - (i + 1), by omega, i + 1, o, _, _, rfl, hlt, (ac₅.toks _).toks _, hm', ?_, ?_⟩))
        · rw [← hch]; conv => rhs; unfold chkP
          rw [if_neg hc40, if_neg hc41]
        · exact G₅.step ((((Kp.refl σ₅).toks _).toks _).x Lc) haL hcs
  · rintro s₁ ⟨hn, hsi⟩ h' hk
    have hin : i = x.cps.size := by omega
    subst hin
    obtain ⟨ac₁, _, _⟩ := act_gen (gs' := .finished) hcL hLa hg0 ac' hgs rfl hsi
    have ac₂ : Act s₀ { s₁.setGen g .finished with heap := h' } (cEnv Lc cd) m' cm := ac₁.go ⟨hk, rfl, fun _ _ e => e, fun e => e⟩
    refine wpAny_execs_nil (hR _ ac₂.kp o m' cm u' ac₂ hm' ?_)
    rw [← hch, List.drop_of_length_le (by simp)]; rfl
end
end Mine
end partGn7

section partGn8
open PySem PySem.W PyProof.Rows
set_option maxRecDepth 100000
set_option autoImplicit false
namespace Mine
section
variable {prog : Program} {w : World} {A : Around} {E : Value → Shared → Prop} {s : Shared} {mg mb : Str → Option Value}

theorem low_mg : mainGlobals < 20 := by decide
theorem low_bn : builtinsNs < 20 := by decide
theorem low_cs : cStatics < 20 := by decide

theorem chk_call (B : Bs mg mb s.heap) (hR : Rm A 3) {x : Str} {t : Tok} {Q : Value → Shared → Prop} (hasc : x.cps.all (· < 128) = true) (hno : ∀ c ∈ x.cps.toList, c ≠ 92) (hq : 34 ∉ x.cps.toList)
    (h : ∀ s', Kp s s' → Q (.bool (chkP x.cps.toList 0)) s') : wpAny (model prog w) A (call (.ref 42) [.str x t]) Q E s := by
  refine call_def (binds := [(("addr" : Str), Value.str x t)]) hR.room B.lim (B.fn 2) (fun _ _ _ _ _ => .of_eq rfl) rfl ?_
  intro L cd s₁ hL a
  have hR1 := hR.deeper (cEnv L cd)
  have hzL : 73 < L := by rw [hL]; exact Heap.lt_size B.o73
  have B₁ := B.keeps a.kp.keep
  refine wpAny_execs_cons (wpAny_Assign_Name (ev_callF (B₁.nmF (env := cEnv L cd) 1) (B₁.fn 1) (args_cons (Nm.eval (a.local rfl rfl) (args_nil ⟨Kp.refl _, strip_call B₁ (hR1.le (by decide)) hq fun s₂ k₂ => ?_⟩)))))
  have a₂ := a.go k₂
  refine Act.stL a₂ fun s₃ a₃ _ _ => ?_
  refine wpAny_execs_cons (wpAny_Assign_Name (wpAny_Constant_int (Act.stL (a₃.toks _) fun s₄ a₄ _ _ => ?_)))
  have B₄ := B.keeps a₄.kp.keep
  refine wpAny_execs_cons (wpAny_For (ev_callF (B₄.nmF (env := cEnv L cd) 0) (B₄.fn 0) (args_cons (Nm.eval (a₄.local rfl rfl) (args_nil ⟨Kp.refl _, iter_call B₄ hR1.room fun s₅ ga gcd gm k₅ hga hgen hgs hgz hgn hgm hgaz => ?_⟩)))))
  have a₅ := a₄.go k₅
  have B₅ := B.keeps a₅.kp.keep
  have hLg : L < s₄.heap.objs.size := a₄.ns.lt
  refine wpAny_pyIter_gen hgen ?_
  have hne : ∀ {b : Nat}, b < 20 → b ≠ L := fun hb => by omega
  refine chk_loop (s₀ := s) (x := x) (Lg := s₄.heap.objs.size) (Lc := L) (N0 := 0) (u := s₃.toks) (m := _) (cm := _) hR1.hh hR1.room hLg hga ?_ (hne low_cs) B.lim ?_ ?_ a₅ rfl ⟨hgen, B₅.lim, _, hgs, fun s'' h'' => ⟨rfl, ?_⟩⟩
  · have := a₄.kp.gens
    rcases Nat.lt_or_ge s₄.gens.size s.gens.size with hh | hh
    · exfalso
      obtain ⟨gv, hgv⟩ : ∃ gv, s.gens[s₄.gens.size]? = some gv := ⟨_, Array.getElem?_eq_getElem hh⟩
      have := this _ _ hgv
      rw [Array.getElem?_eq_none (Nat.le_refl _)] at this; cases this
    · exact hh
  · intro s' k' o m' cm' u' a' hm' ho
    refine wpAny_execs_cons (wpAny_Return_some (wpAny_Compare1 (Nm.eval (a'.local rfl hm') (wpAny_Constant_int (PyProof.Rows.eq_int ?_)))))
    rw [ho]
    exact h _ (k'.toks _)
  · intro s' k' hf
    show Q (.bool false) s'
    rw [← hf]; exact h _ k'
  · have B₆ : s''.heap.Ns mainGlobals mg := B₅.gl.at' fun o e => h'' _ o (hne low_mg) e
    have B₇ : s''.heap.Ns builtinsNs mb := B₅.bi.at' fun o e => h'' _ o (hne low_bn) e
    have hb := B₅.bis _ (List.mem_of_getElem? (i := 0) rfl)
    have hgen' := hgen
    obtain ⟨og, _, _, hog, _⟩ := hgen'
    refine gen_seg (A := (A.deeper (cEnv L cd)).in1) (mg := mg) (mb := mb) hR1.hh hasc hno hga hLg (hgn.at' fun o e => h'' _ o (Nat.ne_of_gt hLg) e) hgm B₆ B₇ hb.1 hb.2 (Heap.lt_size (h'' _ _ (Nat.ne_of_gt (Nat.lt_trans hLg hga)) hog)) ?_ ?_
    · exact Nat.ne_of_lt (Nat.lt_trans (Nat.lt_trans low_mg (by decide : 20 < 73)) (Nat.lt_trans hzL hLg))
    · exact Nat.ne_of_lt (Nat.lt_trans (Nat.lt_trans low_bn (by decide : 20 < 73)) (Nat.lt_trans hzL hLg))
end
end Mine
end partGn8

section partCm
open PySem PySem.W PyProof.Rows
set_option maxRecDepth 100000
set_option autoImplicit false
namespace Mine

/-- what a for or a comprehension goes through: n items, the i-th has P i; xs: the objects that it lies in -/
noncomputable def Src (prog : Program) (w : World) (s₁ : Shared) (xv : Value) (n : Nat) (P : Nat → Value → Prop) (xs : List Addr) : Prop :=
  ∀ (A : Around) (Q : Value → Shared → Prop) (E : Value → Shared → Prop), A.handled = none →
    (∀ (I : Addr) (fp : List Addr) (St : Nat → Heap → Prop) (s₂ : Shared), Kp s₁ s₂ → s₁.heap.get? I = none → (∀ b ∈ fp, b < s₂.heap.objs.size) → (∀ b ∈ fp, b = I ∨ b ∈ xs) → (∀ i h, St i h → ∀ b ∈ fp, ∃ o, Solid o ∧ h.get? b = some o) →
      (∀ A' : Around, A'.handled = none → Walks prog w A' I fp [I] n P St) → St 0 s₂.heap → Q (.ref I) s₂) →
      wpAny (model prog w) A (pyIter xv) Q E s₁

noncomputable abbrev cellObj : Obj := { cls := .type "cell", data := .cell none }

section
variable {M : Model} {A : Around} {E : Value → Shared → Prop} {s : Shared} {env : Env}

theorem newCompEnv {scope : Scope} {globals : Addr} {cl : List (Str × Addr)} {qual : Str} {Q : Env → Shared → Prop}
    (h : Q { scope, locals := s.heap.objs.size, globals, cells := cellsFrom (s.heap.objs.size + 1) scope.names cl, qual, func := none, code := env.code, frame := env.frame, builtins := env.builtins }
      { s with heap := pushCells (s.heap.push { cls := .type "dict", data := .dict #[] }) scope.names }) : wpAny M A (newFunctionEnv scope globals cl [] qual none .none (some env)) Q E s := by
  simp only [newFunctionEnv, Option.isSome_some, if_true]
  refine wpAny_bind (wpAny_alloc ?_)
  refine wpAny_bind (wpAny_layCells _ (fun name kind cells => by cases hkc : kind == NameKind.cell <;> simp [hkc]) _ _ _ _ ?_)
  rw [show ({ s with heap := s.heap.push { cls := .type "dict", data := .dict #[] } } : Shared).heap.objs.size = s.heap.objs.size + 1 from Heap.size_push ..]
  exact wpAny_pure h
end

section
variable {prog : Program} {w : World} {A : Around} {E : Value → Shared → Prop} {env : Env}

theorem comp_core {elt iter : Expr} {x : Str} {px : Pos} {ifs : List Expr} {scope : Scope} {cl : List (Str × Addr)} {pos : Pos} {s₁ s₂ : Shared} {I : Addr} {fp wr : List Addr} {n : Nat} {P : Nat → Value → Prop} {St : Nat → Heap → Prop}
    (W : Walks prog w A I fp wr n P St) (hsz : n ≤ sizeLine) (p : Nat → Bool) (F : Nat → Value → Prop) {RR : Value → Addr → Result → Shared → Prop} (isC : Bool) (cells : Addr → List (Str × Addr))
    (hcells : ∀ C, cellsFrom (C + 1) scope.names cl = cells C) (hpush : ∀ h, pushCells h scope.names = if isC = true then h.push cellObj else h)
    (hkx : ∀ C, (compEnvC scope (cells C) C env).kindOf x = some (if isC = true then .cell else .local)) (hlk : isC = true → ∀ C, (cells C).lookup x = some (C + 1)) (hkind : scope.kind = .function)
    (k₁ : Kp s₁ s₂) (hw : ∀ b ∈ wr, s₁.heap.get? b = none) (hst : St 0 s₂.heap) (hfp : ∀ b ∈ fp, b < s₂.heap.objs.size)
    (turn : ∀ C i v s₃ E', i < n → P i v → Kp s₁ s₃ → Nm s₃.heap (compEnvC scope (cells C) C env) x v →
      wpAny (model prog w) A (forIn ifs true fun c r => if r = true then do let ok ← isTrue c (compEnvC scope (cells C) C env) (eval c (compEnvC scope (cells C) C env)); pure (ForInStep.yield ok) else pure (ForInStep.yield r)) (fun ok s₄ => ok = p i ∧ Kp s₃ s₄) E' s₃ ∧
      (p i = true → wpAny (model prog w) A (eval elt (compEnvC scope (cells C) C env)) (fun y s₄ => F i y ∧ Kp s₃ s₄) E' s₃))
    (hRR : ∀ D C s' m' ys, s₁.heap.get? D = none → s₁.heap.get? C = none → D ≠ C → s'.heap.Ns C m' → s'.heap.PlainList D ys → Paired F ((List.range n).filter p) ys.toList → Kp s₁ s' → RR (.ref D) C (.ok .next) s') :
    wpAny (model prog w) A (newList []) (fun acc s₃ => wpAny (model prog w) A (newFunctionEnv scope env.globals cl [] env.qual none .none (some env)) (fun cenv s₄ =>
      codeAny (model prog w) A (.compStart (.ListComp elt [⟨.Name x px, iter, ifs, 0⟩] scope pos) 0 (.ref I) acc { cenv with scope := relabel scope env }) (RR acc cenv.locals) s₄) E s₃) E s₂ := by
  refine wpAny_newObj_type (newCompEnv ?_)
  dsimp only
  rw [hpush, hcells]
  have hzD : s₂.heap.objs.size + 1 = (s₂.heap.push { cls := .type "list", dict := none, data := .seq ([] : List Value).toArray }).objs.size := (Heap.size_push ..).symm
  generalize hH2 : s₂.heap.push { cls := .type "list", dict := none, data := .seq ([] : List Value).toArray } = H2 at hzD ⊢
  generalize hD : s₂.heap.objs.size = D at *
  generalize hC : H2.objs.size = C at *
  have hDC : D < C := by omega
  have fresh : ∀ a, D ≤ a → s₁.heap.get? a = none := fun a ha => by
    cases e : s₁.heap.get? a with
    | none => rfl
    | some o => have := Heap.lt_size (k₁.keep _ _ e); rw [hD] at this; exact absurd this (Nat.not_lt.mpr ha)
  have up2 : ∀ b o, s₂.heap.get? b = some o → H2.get? b = some o := fun b o e => hH2 ▸ Heap.get?_push_of_some _ e
  have hDpl : H2.PlainList D #[] := ⟨0, by rw [← hH2, ← hD]; exact Heap.get?_push_size _ rfl⟩
  generalize hH3 : (if isC = true then (H2.push { cls := .type "dict", data := .dict #[] }).push cellObj else H2.push { cls := .type "dict", data := .dict #[] }) = H3
  have up3 : ∀ b o, H2.get? b = some o → H3.get? b = some o := fun b o e => by
    rw [← hH3]; split
    · exact Heap.get?_push_of_some _ (Heap.get?_push_of_some _ e)
    · exact Heap.get?_push_of_some _ e
  have hns3 : H3.Ns C fun _ => none := by
    rw [← hH3, ← hC]; split
    · exact (Heap.Ns.new H2 (.type "dict")).push _
    · exact Heap.Ns.new H2 (.type "dict")
  have hcell3 : isC = true → H3.IsCell (C + 1) none := fun hc => by
    rw [← hH3, if_pos hc]
    refine ⟨cellObj, ?_, rfl⟩
    have := Heap.get?_push_size (H2.push { cls := .type "dict", data := .dict #[] }) (o := cellObj) rfl
    rw [Heap.size_push, hC] at this; exact this
  have hfD : ∀ b ∈ fp, b < D := hfp
  have hwD : ∀ b ∈ wr, b < D := fun b hb => hfD b (W.sub b hb)
  have nw : ∀ b, D ≤ b → b ∉ wr := fun b hb hm => absurd (hwD b hm) (Nat.not_lt.mpr hb)
  have nf : ∀ b, D ≤ b → b ∉ fp := fun b hb hm => absurd (hfD b hm) (Nat.not_lt.mpr hb)
  have hst3 : St 0 H3 := W.frame _ _ _ hst fun b _ o e => up3 b o (up2 b o e)
  have k3 : Kp s₁ { s₂ with heap := H3 } := ⟨fun b o e => up3 b o (up2 b o (k₁.keep b o e)), k₁.os, k₁.gens, k₁.bare⟩
  have loop : ∀ s₃ : Shared, s₃ = { s₂ with heap := H3 } →
      codeAny (model prog w) A (.compLoop (.ListComp elt [⟨.Name x px, iter, ifs, 0⟩] scope pos) 0 (.ref I) (.ref D) (compEnvC scope (cells C) C env)) (RR (.ref D) C) s₃ := by
    rintro s₃ rfl
    refine codeAny_compLoop_tests (fun k s' => ∃ i ys m', k = n + 1 - i ∧ i ≤ n ∧ St i s'.heap ∧ s'.heap.PlainList D ys ∧ s'.heap.Ns C m' ∧ (isC = true → ∃ v, s'.heap.IsCell (C + 1) v) ∧ Paired F ((List.range i).filter p) ys.toList ∧ Kp s₁ s') ?_
      (n + 1) ⟨0, #[], _, rfl, Nat.zero_le _, hst3, hDpl.at fun o e => up3 _ o e, hns3, fun hc => ⟨_, hcell3 hc⟩, by simpa using Paired.nil, k3⟩
    rintro k σ ⟨i, ys, m', rfl, hi, hstσ, hplσ, hnsσ, hcσ, hpr, kσ⟩
    by_cases hlt : i < n
    · refine W.item i σ _ _ hlt hstσ fun v h₁ tk₁ hPv hst₁ hk₁ => ?_
      obtain ⟨σ₁, hσ₁⟩ : ∃ σ₁ : Shared, σ₁ = { σ with heap := h₁, toks := tk₁ } := ⟨_, rfl⟩
      rw [← hσ₁]
      have hh₁ : h₁ = σ₁.heap := by rw [hσ₁]
      have k₁' : Kp s₁ σ₁ := by rw [hσ₁]; exact ⟨fun b o e => hk₁ b o (fun hb => by rw [hw b hb] at e; cases e) (kσ.keep b o e), kσ.os, kσ.gens, kσ.bare⟩
      have hpl₁ : σ₁.heap.PlainList D ys := hh₁ ▸ hplσ.at fun o e => hk₁ _ o (nw D (Nat.le_refl _)) e
      have hns₁ : σ₁.heap.Ns C m' := hh₁ ▸ hnsσ.at' fun o e => hk₁ _ o (nw C (Nat.le_of_lt hDC)) e
      have hc₁ : isC = true → ∃ v, σ₁.heap.IsCell (C + 1) v := fun hc => let ⟨v, o, ho, hd⟩ := hcσ hc; ⟨v, o, hh₁ ▸ hk₁ _ _ (nw (C + 1) (Nat.le_succ_of_le (Nat.le_of_lt hDC))) ho, hd⟩
      rw [hh₁] at hst₁
      clear hk₁ hh₁ hσ₁ hplσ hnsσ hcσ kσ hstσ
      have store : ∀ E', wpAny (model prog w) A (assign (.Name x px) (compEnvC scope (cells C) C env) v) (fun _ σ₂ => Nm σ₂.heap (compEnvC scope (cells C) C env) x v ∧ Kp s₁ σ₂ ∧ σ₂.heap.PlainList D ys ∧ (∃ m'', σ₂.heap.Ns C m'') ∧
          (isC = true → ∃ v, σ₂.heap.IsCell (C + 1) v) ∧ St (i + 1) σ₂.heap) E' σ₁ := by
        intro E'
        refine wpAny_assign_Name ?_
        cases hic : isC with
        | false =>
          refine wpAny_storeName_local (by rw [hkx, hic]; rfl) hns₁ (fun h₂ hn₂ hs₂ => ?_) (by simp [compEnvC, relabel, hkind])
          replace hs₂ : Heap.SameBut C σ₁.heap h₂ := hs₂
          exact ⟨.loc (by rw [hkx, hic]; rfl) hn₂ (by simp), ⟨fun b o e => hs₂.extBut b o (by rintro rfl; rw [fresh _ (Nat.le_of_lt hDC)] at e; cases e) (k₁'.keep b o e), k₁'.os, k₁'.gens, k₁'.bare⟩,
            hpl₁.at fun o e => hs₂.extBut _ o (Nat.ne_of_lt hDC) e, ⟨_, hn₂⟩, (fun h => by cases h), W.frame _ _ _ hst₁ fun b hb o e => hs₂.extBut b o (by rintro rfl; exact nf _ (Nat.le_of_lt hDC) hb) e⟩
        | true =>
          obtain ⟨v₀, hv₀⟩ := hc₁ hic
          refine wpAny_storeName_cell (by simp [compEnvC, relabel, hkind]) (by rw [hkx, hic]; rfl) (hlk hic C) hv₀ fun h₂ hv₂ hs₂ => ?_
          replace hs₂ : Heap.SameBut (C + 1) σ₁.heap h₂ := hs₂
          have hDC1 : D ≤ C + 1 := Nat.le_succ_of_le (Nat.le_of_lt hDC)
          exact ⟨.cel (by rw [hkx, hic]; rfl) (hlk hic C) hv₂, ⟨fun b o e => hs₂.extBut b o (by rintro rfl; rw [fresh _ hDC1] at e; cases e) (k₁'.keep b o e), k₁'.os, k₁'.gens, k₁'.bare⟩,
            hpl₁.at fun o e => hs₂.extBut _ o (Nat.ne_of_lt (Nat.lt_succ_of_lt hDC)) e, ⟨_, hns₁.at' fun o e => hs₂.extBut _ o (Nat.ne_of_lt (Nat.lt_succ_self _)) e⟩, fun _ => ⟨_, hv₂⟩, W.frame _ _ _ hst₁ fun b hb o e => hs₂.extBut b o (by rintro rfl; exact nf _ hDC1 hb) e⟩
      refine wpAny_mono (store _) (fun _ σ₂ h₂ => ?_) fun _ _ e => e
      obtain ⟨hnm, k₂, hpl₂, ⟨m₂, hns₂⟩, hc₂, hst₂⟩ := h₂
      obtain ⟨tst, el⟩ := turn C i v σ₂ (notedBy (model prog w) A (compEnvC scope (cells C) C env) fun e s' => RR (.ref D) C (.error e) s') hlt hPv k₂ hnm
      refine wpAny_mono tst (fun ok σ₃ h₃ => ?_) fun _ _ e => e
      obtain ⟨rfl, k₃⟩ := h₃
      cases hp : p i with
      | false =>
        rw [if_neg (by decide)]
        refine ⟨n + 1 - (i + 1), by omega, i + 1, ys, m₂, rfl, hlt, W.frame _ _ _ hst₂ fun b _ o e => k₃.keep b o e, hpl₂.at fun o e => k₃.keep _ o e, hns₂.keeps k₃.keep, fun hc => let ⟨v, hv⟩ := hc₂ hc; ⟨v, hv.keeps k₃.keep⟩, ?_, k₂.trans k₃⟩
        rw [List.range_succ, List.filter_append]; simpa [hp] using hpr
      | true =>
        rw [if_pos rfl]
        refine wpAny_mono ((turn C i v σ₃ (notedBy (model prog w) A (compEnvC scope (cells C) C env) fun e s' => RR (.ref D) C (.error e) s') hlt hPv (k₂.trans k₃) (hnm.keeps k₃.keep)).2 hp) (fun y σ₄ h₄ => ?_) fun _ _ e => e
        obtain ⟨hF, k₄⟩ := h₄
        have hle : ys.size ≤ sizeLine := by
          have e1 := hpr.length
          have e2 : ((List.range i).filter p).length ≤ i := by simpa using List.length_filter_le p (List.range i)
          have e4 : ys.toList.length = ys.size := by simp
          omega
        have hpl₄ : σ₄.heap.PlainList D ys := hpl₂.at fun o e => k₄.keep _ o (k₃.keep _ o e)
        refine wpAny_list_append_plain (hsz := hle) hpl₄ fun h₅ hl₅ hs₅ => ?_
        have k' : Kp σ₂ σ₄ := k₃.trans k₄
        refine ⟨n + 1 - (i + 1), by omega, i + 1, ys.push y, m₂, rfl, hlt, W.frame _ _ _ hst₂ fun b hb o e => hs₅.extBut b o (by rintro rfl; exact nf _ (Nat.le_refl _) hb) (k'.keep b o e), hl₅, (hns₂.keeps k'.keep).sameBut hs₅ (Nat.ne_of_gt hDC), fun hc => ?_, ?_, ?_⟩
        · obtain ⟨v, o, ho, hd⟩ := hc₂ hc
          exact ⟨v, o, hs₅.extBut _ o (Nat.ne_of_gt (Nat.lt_succ_of_lt hDC)) (k'.keep _ o ho), hd⟩
        · rw [List.range_succ, List.filter_append]; simpa [hp] using Paired.snoc hpr hF
        · exact ⟨fun b o e => hs₅.extBut b o (by rintro rfl; rw [fresh _ (Nat.le_refl _)] at e; cases e) (k'.keep b o (k₂.keep b o e)), (k₂.trans k').os, (k₂.trans k').gens, (k₂.trans k').bare⟩
    · have hin : i = n := by omega
      subst hin
      refine W.done σ _ _ hstσ fun h₁ tk₁ hk₁ => ?_
      exact hRR D C _ m' ys (fresh D (Nat.le_refl _)) (fresh C (Nat.le_of_lt hDC)) (Nat.ne_of_lt hDC) (hnsσ.at' fun o e => hk₁ _ o (nw C (Nat.le_of_lt hDC)) e) (hplσ.at fun o e => hk₁ _ o (nw D (Nat.le_refl _)) e) hpr
        ⟨fun b o e => hk₁ b o (fun hb => by rw [hw b hb] at e; cases e) (kσ.keep b o e), kσ.os, kσ.gens, kσ.bare⟩
  exact codeAny_compStart_list (loop _ rfl) (W.self 0 _ _ _ hst3 (loop _ rfl))
end
end Mine
end partCm

section partCm2
open PySem PySem.W PyProof.Rows
set_option maxRecDepth 100000
set_option autoImplicit false
namespace Mine

/-- a list of ints -/
noncomputable def IL (h : Heap) (a : Addr) (ns : List Int) : Prop := ∃ vs n, IsL h a (List.toArray vs) n ∧ IntsAre vs ns
theorem IL.keeps {h h' : Heap} {a : Addr} {ns : List Int} (x : IL h a ns) (hk : ∀ b o, h.get? b = some o → h'.get? b = some o) : IL h' a ns := let ⟨vs, n, h1, h2⟩ := x; ⟨vs, n, hk _ _ h1, h2⟩
theorem IL.keepX {h h' : Heap} {a X : Addr} {ns : List Int} (x : IL h a ns) (hk : ∀ b o, b ≠ X → h.get? b = some o → h'.get? b = some o) (hne : a ≠ X) : IL h' a ns := let ⟨vs, n, h1, h2⟩ := x; ⟨vs, n, hk _ _ hne h1, h2⟩
theorem IL.gr {s s' : Shared} {a : Addr} {ns : List Int} (x : IL s.heap a ns) (k : Gr s s') : IL s'.heap a ns := let ⟨vs, n, h1, h2⟩ := x; ⟨vs, n, k.solid _ _ ⟨(fun _ _ e => by cases e), (fun _ e => by cases e)⟩ h1, h2⟩
theorem IL.lt {h : Heap} {a : Addr} {ns : List Int} (x : IL h a ns) : a < h.objs.size := let ⟨_, _, h1, _⟩ := x; Heap.lt_size h1

theorem IL.ne {h : Heap} {a I : Addr} {ns : List Int} (x : IL h a ns) (hI : h.get? I = none) : a ≠ I := by
  rintro rfl; obtain ⟨vs, n, h1, _⟩ := x
  have h2 : h.get? a = some _ := h1
  rw [hI] at h2; cases h2
theorem ne_of_none {h : Heap} {a I : Addr} {o : Obj} (x : h.get? a = none) (hI : h.get? I = some o) : a ≠ I := by
  rintro rfl; rw [hI] at x; cases x
theorem none_of {s s' : Shared} {D : Addr} (k : Kp s s') (h : s'.heap.get? D = none) : s.heap.get? D = none := by
  cases e : s.heap.get? D with
  | none => rfl
  | some o => have := k.keep _ _ e; rw [h] at this; cases this

theorem ints_of_paired {f : Nat → Int} : ∀ {l : List Nat} {ys : List Value}, Paired (fun i y => ∃ t, y = Value.int (f i) t) l ys → IntsAre ys (l.map f)
  | _, _, .nil => .nil
  | _, _, .cons ⟨t, e⟩ r => by subst e; exact .cons _ t (ints_of_paired r)
theorem IL.of_plain {h : Heap} {D : Addr} {ys : Array Value} {ns : List Int} (hp : h.PlainList D ys) (hi : IntsAre ys.toList ns) : IL h D ns := by
  obtain ⟨n, ho⟩ := hp
  exact ⟨ys.toList, n, by simpa using ho, hi⟩

section
variable {prog : Program} {w : World} {A : Around} {E : Value → Shared → Prop} {env : Env} {s : Shared}

/-- what is asked of a comprehension's turns -/
noncomputable def Turns (prog : Program) (w : World) (A : Around) (env : Env) (elt : Expr) (x : Str) (ifs : List Expr) (scope : Scope) (cells : Addr → List (Str × Addr)) (s₁ : Shared) (n : Nat) (P : Nat → Value → Prop) (p : Nat → Bool) (F : Nat → Value → Prop) : Prop :=
  ∀ C i v s₃ E', i < n → P i v → Kp s₁ s₃ → Nm s₃.heap (compEnvC scope (cells C) C env) x v →
      wpAny (model prog w) A (forIn ifs true fun c r => if r = true then do let ok ← isTrue c (compEnvC scope (cells C) C env) (eval c (compEnvC scope (cells C) C env)); pure (ForInStep.yield ok) else pure (ForInStep.yield r)) (fun ok s₄ => ok = p i ∧ Kp s₃ s₄) E' s₃ ∧
      (p i = true → wpAny (model prog w) A (eval elt (compEnvC scope (cells C) C env)) (fun y s₄ => F i y ∧ Kp s₃ s₄) E' s₃)

theorem ev_comp {elt iter : Expr} {x : Str} {px : Pos} {ifs : List Expr} {scope : Scope} {cl : List (Str × Addr)} {pos : Pos} {Q : Value → Shared → Prop} (isC : Bool) (cells : Addr → List (Str × Addr))
    (hh : A.handled = none) (hclos : closureFor scope env = pure cl)
    (h : wpAny (model prog w) A (eval iter env) (fun xv s₁ => ∃ n P p F xs, Src prog w s₁ xv n P xs ∧ n ≤ sizeLine ∧ Turns prog w A env elt x ifs scope cells s₁ n P p F ∧
      (∀ D ys s', s₁.heap.get? D = none → Kp s₁ s' → s'.heap.PlainList D ys → Paired F ((List.range n).filter p) ys.toList → Q (.ref D) s')) E s)
    (hcells : ∀ C, cellsFrom (C + 1) scope.names cl = cells C := by intro _; rfl) (hpush : ∀ h, pushCells h scope.names = if isC = true then h.push cellObj else h := by intro _; rfl)
    (hkx : ∀ C, (compEnvC scope (cells C) C env).kindOf x = some (if isC = true then .cell else .local) := by intro _; rfl) (hlk : isC = true → ∀ C, (cells C).lookup x = some (C + 1) := by intros; first | rfl | contradiction) (hkind : scope.kind = .function := by rfl)
    (hnames : ∀ y ∈ scope.names, y.2 = .local → scope.names.lookup y.1 = some .local := by decide) (hs : ∀ x, foldedSetIterable iter env x = pure x := by intro _; rfl) :
    wpAny (model prog w) A (eval (.ListComp elt [⟨.Name x px, iter, ifs, 0⟩] scope pos) env) Q E s := by
  rw [eval_ListComp]
  refine wpAny_comprehension_free (use := none) rfl hs hclos hkind hnames (wpAny_mono h (fun xv s₁ h₁ => ?_) fun _ _ e => e)
  obtain ⟨n, P, p, F, xs, src, hn, turn, fin⟩ := h₁
  refine src A _ _ hh fun I fp St s₂ k₂ hw hfp _ _ W hst => ?_
  refine comp_core (RR := fun acc C => compPost (model prog w) A E none Q acc C) (W A hh) hn p F isC cells hcells hpush hkx hlk hkind k₂ (fun b hb => by rw [List.mem_singleton.mp hb]; exact hw) hst hfp turn ?_
  intro D C s' m' ys hD hC hDC hns hpl hpr k'
  exact ⟨m', hns, fun h'' hs'' => fin D ys _ hD ⟨fun b o e => hs''.extBut b o (by rintro rfl; rw [hC] at e; cases e) (k'.keep b o e), k'.os, k'.gens, k'.bare⟩ (hpl.at fun o e => hs''.extBut _ o hDC e) hpr⟩

theorem ex_compL {s₀ : Shared} {elt iter : Expr} {x y : Str} {px py : Pos} {ifs : List Expr} {scope : Scope} {cl : List (Str × Addr)} {pos spos : Pos} {Q : Flow → Shared → Prop} (isC : Bool) (cells : Addr → List (Str × Addr))
    (hh : A.handled = none) (hclos : closureFor scope env = pure cl)
    (h : wpAny (model prog w) A (eval iter env) (fun xv s₁ => ∃ n P p F xs m cm, Act s₀ s₁ env m cm ∧ Src prog w s₁ xv n P xs ∧ n ≤ sizeLine ∧ Turns prog w A env elt x ifs scope cells s₁ n P p F ∧
      (∀ D ys s', s₁.heap.get? D = none → Act s₀ s' env (fun z => if z = y then some (.ref D) else m z) cm → KpX env.locals s₁ s' → s'.heap.PlainList D ys → Paired F ((List.range n).filter p) ys.toList → Q .next s')) E s)
    (hsw : swapsWith (.ListComp elt [⟨.Name x px, iter, ifs, 0⟩] scope pos) (some (.Name y py)) spos.line env = pure true := by rfl)
    (hcells : ∀ C, cellsFrom (C + 1) scope.names cl = cells C := by intro _; rfl) (hpush : ∀ h, pushCells h scope.names = if isC = true then h.push cellObj else h := by intro _; rfl)
    (hkx : ∀ C, (compEnvC scope (cells C) C env).kindOf x = some (if isC = true then .cell else .local) := by intro _; rfl) (hlk : isC = true → ∀ C, (cells C).lookup x = some (C + 1) := by intros; first | rfl | contradiction) (hkind : scope.kind = .function := by rfl)
    (hnames : ∀ y ∈ scope.names, y.2 = .local → scope.names.lookup y.1 = some .local := by decide) (hs : ∀ x, foldedSetIterable iter env x = pure x := by intro _; rfl)
    (hk : env.scope.kind = .function := by rfl) (hl : env.kindOf y = some .local := by rfl) :
    wpAny (model prog w) A (exec (.Assign [.Name y py] (.ListComp elt [⟨.Name x px, iter, ifs, 0⟩] scope pos) spos) env) Q E s := by
  rw [exec_Assign_Name_used _ _ _ _ hsw]
  refine wpAny_bind (wpAny_standAt (wpAny_bind ?_))
  show wpAny _ A (do let _ ← comprehension (.ListComp elt [⟨.Name x px, iter, ifs, 0⟩] scope pos) scope env _ (newList []) false (eval iter env) (some (assign (.Name y py) env))) _ _ s
  refine wpAny_bind (wpAny_mono (wpAny_comprehension_free (use := some (assign (.Name y py) env)) (Q := fun _ s' => Q .next s') rfl hs hclos hkind hnames
    (wpAny_mono h (fun xv s₁ h₁ => ?_) fun _ _ e => e)) (fun _ s' hq => wpAny_pure (wpAny_pure hq)) fun _ _ e => e)
  obtain ⟨n, P, p, F, xs, m, cm, ac, src, hn, turn, fin⟩ := h₁
  refine src A _ _ hh fun I fp St s₂ k₂ hw hfp _ _ W hst => ?_
  refine comp_core (RR := fun acc C => compPost (model prog w) A E (some (assign (.Name y py) env)) (fun _ s' => Q .next s') acc C) (W A hh) hn p F isC cells hcells hpush hkx hlk hkind k₂ (fun b hb => by rw [List.mem_singleton.mp hb]; exact hw) hst hfp turn ?_
  intro D C s' m' ys hD hC hDC hns hpl hpr k'
  have ac' := ac.go k'
  have hLC : env.locals ≠ C := by rintro rfl; obtain ⟨o, _, _, ho, _⟩ := ac.ns; rw [hC] at ho; cases ho
  have hLD : env.locals ≠ D := by rintro rfl; obtain ⟨o, _, _, ho, _⟩ := ac.ns; rw [hD] at ho; cases ho
  show wpAny _ A (assign (.Name y py) env (.ref D)) _ _ _
  refine wpAny_assign_Name (Act.stL ac' (fun s'' ac'' _ kx => ⟨m', hns.at' fun o e => kx.keep _ o (Ne.symm hLC) e, fun h₃ hs₃ => ?_⟩) hk hl)
  have up : ∀ b o, b ≠ env.locals → s₁.heap.get? b = some o → h₃.get? b = some o := fun b o hb e => hs₃.extBut b o (by rintro rfl; rw [hC] at e; cases e) (kx.keep b o hb (k'.keep b o e))
  have hcC : ∀ n c, env.cells.lookup n = some c → c ≠ C := fun n c e => by
    rintro rfl; obtain ⟨o, ho, _⟩ := ac.cell n _ e; rw [hC] at ho; cases ho
  have hold : ∀ b o, s₀.heap.get? b = some o → h₃.get? b = some o := fun b o e => hs₃.extBut b o (by rintro rfl; have := ac.kp.keep _ _ e; rw [hC] at this; cases this) (ac''.kp.keep b o e)
  refine fin D ys _ hD ⟨⟨hold, ac''.kp.os, ac''.kp.gens, ac''.kp.bare⟩, ac''.ns.at' fun o e => hs₃.extBut _ o hLC e, fun n c e => let ⟨o, ho, hd⟩ := ac''.cell n c e; ⟨o, hs₃.extBut c o (hcC n c e) ho, hd⟩, ac''.apart, ac''.lo, ac''.above⟩
    ⟨up, kx.os.trans k'.os, fun i g e => kx.gens i g (k'.gens i g e), fun e => kx.bare (k'.bare e)⟩ ((hpl.at fun o e => kx.keep _ o (Ne.symm hLD) e).at fun o e => hs₃.extBut _ o hDC e) hpr

theorem Act.cellV {s₀ s₁ : Shared} {m₁ cm₁ : Str → Option Value} {c : Addr} {v : Value} (a : Act s₀ s₁ env m₁ cm₁) (n : Str) (hc : env.cells.lookup n = some c) (hv : cm₁ n = some v) : s₁.heap.IsCell c (some v) := hv ▸ a.cell n c hc
theorem Act.grL {s₀ s₁ s₂ : Shared} {m₁ cm₁ : Str → Option Value} (a : Act s₀ s₁ env m₁ cm₁) (k : KpX env.locals s₁ s₂) : Gr s₁ s₂ := ⟨fun b o hs e => k.keep b o (by
  rintro rfl
  obtain ⟨o', _, _, ho, hd, _⟩ := a.ns
  rw [e] at ho; cases ho; exact hs.1 _ _ hd) e⟩
theorem Act.ilNe {s₀ s₁ : Shared} {m₁ cm₁ : Str → Option Value} {b : Addr} {ns : List Int} (a : Act s₀ s₁ env m₁ cm₁) (hx : IL s₁.heap b ns) : b ≠ env.locals := by
  rintro rfl
  obtain ⟨o, _, _, ho, hd, _⟩ := a.ns
  obtain ⟨vs, n, h1, _⟩ := hx
  have h2 : s₁.heap.get? env.locals = some _ := h1
  rw [ho] at h2; cases h2; cases hd
theorem IL.stepL {s₀ s₁ s₂ : Shared} {m₁ cm₁ : Str → Option Value} {b : Addr} {ns : List Int} (hx : IL s₁.heap b ns) (a : Act s₀ s₁ env m₁ cm₁) (k : KpX env.locals s₁ s₂) : IL s₂.heap b ns := hx.keepX k.keep (a.ilNe hx)
theorem Act.neL {s₀ s₁ : Shared} {m₁ cm₁ : Str → Option Value} {I : Addr} (a₁ : Act s₀ s₁ env m₁ cm₁) (hI : s₁.heap.get? I = none) : I ≠ env.locals := by
  rintro rfl; obtain ⟨o, _, _, ho, _⟩ := a₁.ns; rw [hI] at ho; cases ho
theorem Act.stepX {s₀ s₁ σ σ' : Shared} {m₁ cm₁ m cm : Str → Option Value} {I : Addr} (a₁ : Act s₀ s₁ env m₁ cm₁) (hI : s₁.heap.get? I = none) (a : Act s₀ σ env m cm) (k : KpX I σ σ') : Act s₀ σ' env m cm := by
  have h1 : env.locals ≠ I := by rintro rfl; obtain ⟨o, _, _, ho, _⟩ := a₁.ns; rw [hI] at ho; cases ho
  have h2 : ∀ n c, env.cells.lookup n = some c → c ≠ I := fun n c e => by rintro rfl; obtain ⟨o, ho, _⟩ := a₁.cell n _ e; rw [hI] at ho; cases ho
  refine ⟨⟨fun b o e => k.keep b o ?_ (a.kp.keep b o e), k.os.trans a.kp.os, fun i g e => k.gens i g (a.kp.gens i g e), fun e => k.bare (a.kp.bare e)⟩, a.ns.at' fun o e => k.keep _ o h1 e, fun n c e => let ⟨o, ho, hd⟩ := a.cell n c e; ⟨o, k.keep _ o (h2 n c e) ho, hd⟩, a.apart, a.lo, a.above⟩
  rintro rfl
  have := a₁.kp.keep _ _ e
  rw [hI] at this; cases this

/-- solid objects stay, but those in X -/
noncomputable def GrX (X : List Addr) (s s' : Shared) : Prop := ∀ b o, Solid o → b ∉ X → s.heap.get? b = some o → s'.heap.get? b = some o
theorem Gr.toX {s s' : Shared} (k : Gr s s') (X : List Addr) : GrX X s s' := fun b o h _ e => k.solid b o h e
theorem Kp.grX {s s' : Shared} (k : Kp s s') (X : List Addr) : GrX X s s' := k.gr.toX X
theorem GrX.trans {X : List Addr} {a b c : Shared} (x : GrX X a b) (y : GrX X b c) : GrX X a c := fun p o h n e => y p o h n (x p o h n e)

theorem ex_for {target iter : Expr} {body : List Stmt} {pos : Pos} {Q : Flow → Shared → Prop} (hh : A.handled = none)
    (h : wpAny (model prog w) A (eval iter env) (fun xv s₁ => ∃ n P xs, ∃ X : List Addr, ∃ J : Addr → Nat → Shared → Prop, Src prog w s₁ xv n P xs ∧ (∀ b ∈ X, b ∉ xs ∧ ∃ o, s₁.heap.get? b = some o) ∧
      (∀ I σ, s₁.heap.get? I = none → Kp s₁ σ → J I 0 σ) ∧ (∀ I i σ σ', s₁.heap.get? I = none → J I i σ → KpX I σ σ' → J I i σ') ∧
      (∀ I i v σ E', s₁.heap.get? I = none → (∃ o, Solid o ∧ σ.heap.get? I = some o) → i < n → P i v → J I i σ → wpAny (model prog w) A (assign target env v) (fun _ σ₁ => wpAny (model prog w) A (execs body env) (fun f σ₂ => match f with
        | .next | .cont => J I (i + 1) σ₂ ∧ GrX X σ σ₂
        | .brk => False
        | .ret v => Q (.ret v) σ₂) E' σ₁) E' σ) ∧ (∀ I σ, s₁.heap.get? I = none → J I n σ → Q .next σ)) E s)
    (ht : ∀ it v, letOwnedTupleGo target it v = pure () := by intro _ _; rfl) (hs : ∀ x, foldedSetIterable iter env x = pure x := by intro _; rfl) :
    wpAny (model prog w) A (exec (.For target iter body [] pos) env) Q E s := by
  refine wpAny_For (wpAny_mono h (fun xv s₁ h₁ => ?_) fun _ _ e => e) hs
  obtain ⟨n, P, xs, X, J, src, hX, hJ0, hJs, step, fin⟩ := h₁
  refine src A _ _ hh fun I fp St s₂ k₂ hI hfp hfx hsol W hst => ?_
  have W := W A hh
  have hIf : I ∈ fp := W.sub I (by simp)
  refine codeAny_forLoop (fun k σ => ∃ i, k = n + 1 - i ∧ i ≤ n ∧ St i σ.heap ∧ J I i σ) ?_ (n + 1) ⟨0, rfl, Nat.zero_le _, hst, hJ0 I s₂ hI k₂⟩ (ht _)
  rintro k σ ⟨i, rfl, hi, hstσ, hJ⟩
  have kx : ∀ h' tk, (∀ b o, b ∉ [I] → σ.heap.get? b = some o → h'.get? b = some o) → KpX I σ { σ with heap := h', toks := tk } := fun h' tk hk => ⟨fun b o hb e => hk b o (by simpa using hb) e, rfl, fun _ _ e => e, fun e => e⟩
  by_cases hlt : i < n
  · refine W.item i σ _ _ hlt hstσ fun v h₁ tk₁ hPv hst₁ hk₁ => ?_
    obtain ⟨oI, hsI, hoI⟩ := hsol _ _ hst₁ I hIf
    refine wpAny_mono (step I i v _ _ hI ⟨oI, hsI, hoI⟩ hlt hPv (hJs I i σ _ hI hJ (kx h₁ tk₁ hk₁))) (fun _ σ₁ hb => wpAny_mono hb (fun f σ₂ hf => ?_) fun _ _ e => e) fun _ _ e => e
    have fin' : J I (i + 1) σ₂ ∧ GrX X { σ with heap := h₁, toks := tk₁ } σ₂ → ∃ m, m < n + 1 - i ∧ ∃ i, m = n + 1 - i ∧ i ≤ n ∧ St i σ₂.heap ∧ J I i σ₂ := fun ⟨hj, hg⟩ =>
      ⟨n + 1 - (i + 1), by omega, i + 1, rfl, hlt, W.frame _ _ _ hst₁ fun b hb o e => by
        obtain ⟨o', hso, ho'⟩ := hsol _ _ hst₁ b hb
        rw [e] at ho'; cases ho'
        refine hg b o hso (fun hbX => ?_) e
        obtain ⟨hbx, o', ho'⟩ := hX b hbX
        rcases hfx b hb with rfl | hbx'
        · rw [hI] at ho'; cases ho'
        · exact hbx hbx', hj⟩
    cases f with
    | next => exact fin' hf
    | cont => exact fin' hf
    | brk => exact hf.elim
    | ret v => exact hf
  · have hin : i = n := by omega
    subst hin
    refine W.done σ _ _ hstσ fun h₁ tk₁ hk₁ => wpAny_execs_nil ?_
    exact fin I _ hI (hJs I i σ _ hI hJ (kx h₁ tk₁ hk₁))
end
end Mine
end partCm2

section partOps
open PySem PySem.W PyProof.Rows
set_option maxRecDepth 100000
set_option autoImplicit false
namespace Mine

theorem IL.isList {h : Heap} {a : Addr} {ns : List Int} (x : IL h a ns) : ∃ vs, h.IsList a (List.toArray vs) ∧ IntsAre vs ns := let ⟨vs, n, h1, h2⟩ := x; ⟨vs, ⟨_, h1, rfl, n, rfl⟩, h2⟩
theorem intsAre_len {vs : List Value} {ns : List Int} (h : IntsAre vs ns) : vs.length = ns.length := h.length
theorem intsAre_get : ∀ {vs : List Value} {ns : List Int}, IntsAre vs ns → ∀ (i : Nat) (k : Int), ns[i]? = some k → ∃ t, vs[i]? = some (.int k t)
  | _, _, .cons n t r, 0, k, e => ⟨t, by simpa using e⟩
  | _, _, .cons n t r, i + 1, k, e => by simpa using intsAre_get r i k (by simpa using e)
theorem intsAre_get' : ∀ {vs : List Value} {ns : List Int}, IntsAre vs ns → ∀ (i : Nat) (v : Value), vs[i]? = some v → ∃ k t, ns[i]? = some k ∧ v = .int k t
  | _, _, .cons n t r, 0, v, e => ⟨n, t, rfl, by simpa using e.symm⟩
  | _, _, .cons n t r, i + 1, v, e => by simpa using intsAre_get' r i v (by simpa using e)
theorem intsAre_app : ∀ {vs us : List Value} {ns ms : List Int}, IntsAre vs ns → IntsAre us ms → IntsAre (vs ++ us) (ns ++ ms)
  | _, _, _, _, .nil, h => h
  | _, _, _, _, .cons n t r, h => .cons n t (intsAre_app r h)

section
variable {prog : Program} {w : World} {A : Around} {E : Value → Shared → Prop} {s : Shared}

theorem Src.list {a : Addr} {items : Array Value} (hl : s.heap.IsList a items) : Src prog w s (.ref a) items.size (fun i v => items[i]? = some v) [a] := by
  intro A Q E hh h
  have hne : a ≠ s.heap.objs.size := by obtain ⟨o, ho, _⟩ := hl; exact Nat.ne_of_lt (Heap.lt_size ho)
  refine wpAny_pyIter_list hl ?_
  refine h s.heap.objs.size [s.heap.objs.size, a] _ _ ((Kp.refl s).push _) (Heap.get?_none_of_le (Nat.le_refl _)) ?_ (fun b hb => by simpa using hb) ?_ (fun A' hA => Walks.list hA _ a hne items) ⟨⟨_, Heap.get?_push_size _ rfl, rfl, rfl⟩, ?_⟩
  · intro b hb
    show b < (s.heap.push _).objs.size
    rw [Heap.size_push]
    rcases List.mem_cons.mp hb with rfl | hb
    · exact Nat.lt_succ_self _
    · rw [List.mem_singleton.mp hb]; obtain ⟨o, ho, _⟩ := hl; exact Nat.lt_succ_of_lt (Heap.lt_size ho)
  · rintro i h' ⟨⟨o1, ho1, _, hd1⟩, ⟨o2, ho2, _, n2, hd2⟩⟩ b hb
    rcases List.mem_cons.mp hb with rfl | hb
    · exact ⟨o1, ⟨(fun _ _ e => by rw [hd1] at e; cases e), (fun _ e => by rw [hd1] at e; cases e)⟩, ho1⟩
    · rw [List.mem_singleton.mp hb]
      exact ⟨o2, ⟨(fun _ _ e => by rw [hd2] at e; cases e), (fun _ e => by rw [hd2] at e; cases e)⟩, ho2⟩
  · obtain ⟨o, ho, r⟩ := hl; exact ⟨o, Heap.get?_push_of_some _ ho, r⟩

theorem Src.weaken {xv : Value} {n : Nat} {P P' : Nat → Value → Prop} {xs : List Addr} (x : Src prog w s xv n P xs) (hP : ∀ i v, P i v → P' i v) : Src prog w s xv n P' xs :=
  fun A Q E hh h => x A Q E hh fun I fp St s₂ a b c e f W d => h I fp St s₂ a b c e f (fun A' hA => (W A' hA).weaken hP) d

theorem Src.il {a : Addr} {ns : List Int} (hl : IL s.heap a ns) : Src prog w s (.ref a) ns.length (fun i v => ∃ k t, ns[i]? = some k ∧ v = .int k t) [a] := by
  obtain ⟨vs, hv, hi⟩ := hl.isList
  have := (Src.list (prog := prog) (w := w) hv).weaken (P' := fun i v => ∃ k t, ns[i]? = some k ∧ v = .int k t) fun i v e => intsAre_get' hi i v (by simpa using e)
  rw [List.size_toArray, hi.length] at this
  exact this

theorem small_of {a b c : Int} (ha : 0 ≤ a) (ha2 : a < 2 ^ 40) (hb : -2 ^ 40 ≤ b) (hb2 : b < 2 ^ 40) (hc : 1 ≤ c) (hc2 : c < 100) (hr : 0 ≤ Builtin.Range.rangeSize a b c) (hr2 : Builtin.Range.rangeSize a b c < 2 ^ 50) : Builtin.Range.small a b c = true := by
  have f : ∀ x : Int, -2 ^ 60 ≤ x → x < 2 ^ 60 → Builtin.Range.rangeFitsLong x = true := fun x h1 h2 => by
    unfold Builtin.Range.rangeFitsLong; simp; omega
  unfold Builtin.Range.small
  rw [f a (by omega) (by omega), f b (by omega) (by omega), f c (by omega) (by omega), f _ (by omega) (by omega), if_pos (by omega), f (b + (c - 1)) (by omega) (by omega)]
  simp

theorem Src.range {r : Addr} {a b c : Int} {t u v : Tok} (hr : IsRange s.heap r a b c t u v) (hsm : Builtin.Range.small a b c = true) {n : Nat} (hn : Builtin.Range.rangeSize a b c = n) :
    Src prog w s (.ref r) n (fun i v => ∃ t, v = .int (a + i * c) t) [] := by
  intro A Q E hh h
  refine wpAny_pyIter_range hr hsm ?_
  refine h s.heap.objs.size [s.heap.objs.size] _ _ ((Kp.refl s).push _) (Heap.get?_none_of_le (Nat.le_refl _)) ?_ (fun b hb => by simpa using hb) ?_ (fun A' hA => Walks.range hA _ a c n) ?_
  · intro b hb
    show b < (s.heap.push _).objs.size
    rw [Heap.size_push, List.mem_singleton.mp hb]
    exact Nat.lt_succ_self _
  · intro i h' st b hb
    rw [List.mem_singleton.mp hb]
    exact ⟨_, ⟨fun _ _ e => (by cases e), fun _ e => (by cases e)⟩, st⟩
  · have := Heap.get?_push_size s.heap (o := { cls := .type "range_iterator", data := .fields #[rawInt a, rawInt (Builtin.Range.rangeSize a b c), rawInt c] }) rfl
    rw [hn] at this ⊢
    simpa using this

theorem rng1 {n : Int} {t : Tok} {Q : Value → Shared → Prop} (h0 : 0 ≤ n) (h1 : n < 2 ^ 40) (h : ∀ s' r, Kp s s' → Src prog w s' (.ref r) n.toNat (fun i v => ∃ t, v = .int i t) [] → Q (.ref r) s') :
    wpAny (model prog w) A (call (.type "range") [.int n t]) Q E s := by
  have e : Builtin.Range.rangeSize 0 n 1 = (n.toNat : Int) := by rw [rangeSize_one]; split <;> omega
  refine call_range_1 (h _ _ (((Kp.refl s).push _).toks _) ?_)
  have := Src.range (prog := prog) (w := w) (s := { s with heap := s.heap.push { cls := .type "range", data := .fields #[.int 0 s.toks, .int n t, .int 1 (s.toks + 1)] }, toks := s.toks + 1 + 1 }) (IsRange.new s.heap 0 n 1 s.toks t (s.toks + 1)) (small_of (by omega) (by omega) (by omega) (by omega) (by omega) (by omega) (by rw [e]; omega) (by rw [e]; omega)) e
  exact this.weaken fun i v ⟨t, ht⟩ => ⟨t, by rw [ht]; congr 1; omega⟩

theorem rng2 {a b : Int} {t u : Tok} {Q : Value → Shared → Prop} (h0 : 0 ≤ a) (h1 : a < 2 ^ 40) (hb : 0 ≤ b) (hb2 : b < 2 ^ 40) (h : ∀ s' r, Kp s s' → Src prog w s' (.ref r) (b - a).toNat (fun i v => ∃ t, v = .int (a + i) t) [] → Q (.ref r) s') :
    wpAny (model prog w) A (call (.type "range") [.int a t, .int b u]) Q E s := by
  have e : Builtin.Range.rangeSize a b 1 = ((b - a).toNat : Int) := by rw [rangeSize_one]; split <;> omega
  refine call_range_2 (h _ _ (((Kp.refl s).push _).toks _) ?_)
  have := Src.range (prog := prog) (w := w) (s := { s with heap := s.heap.push { cls := .type "range", data := .fields #[.int a t, .int b u, .int 1 s.toks] }, toks := s.toks + 1 }) (IsRange.new s.heap a b 1 t u s.toks) (small_of (by omega) (by omega) (by omega) (by omega) (by omega) (by omega) (by rw [e]; omega) (by rw [e]; omega)) e
  exact this.weaken fun i v ⟨t, ht⟩ => ⟨t, by rw [ht]; congr 1; omega⟩

theorem len_il {a : Addr} {ns : List Int} {Q : Value → Shared → Prop} (hl : IL s.heap a ns) (hz : ns.length < 2 ^ 40) (h : ∀ tk n', Q (.int ns.length tk) { s with toks := n' }) : wpAny (model prog w) A (call (.builtin "len") [.ref a]) Q E s := by
  obtain ⟨vs, hv, hi⟩ := hl.isList
  refine len_list hv (by simp [hi.length]; omega) ?_
  rw [List.size_toArray, hi.length]; exact h _ _

theorem in_il {a : Addr} {ns : List Int} {k : Int} {t : Tok} {Q : Value → Shared → Prop} (hl : IL s.heap a ns) (h : Q (.bool (ns.contains k)) s) : wpAny (model prog w) A (compareOp .In (.int k t) (.ref a)) Q E s := by
  obtain ⟨vs, hv, hi⟩ := hl.isList
  refine in_list_ints hv hi ?_
  rw [show ns.any (· == k) = ns.contains k from by
    rw [Bool.eq_iff_iff, List.any_eq_true, List.contains_iff_mem]
    exact ⟨fun ⟨x, hx, e⟩ => by rw [← eq_of_beq e]; exact hx, fun hx => ⟨k, hx, by simp⟩⟩]
  exact h

theorem eq_il {a b : Addr} {ns ms : List Int} {Q : Value → Shared → Prop} (ha : IL s.heap a ns) (hb : IL s.heap b ms) (hu : A.units + 64 < cLine) (h : Q (.bool (decide (ns = ms))) s) : wpAny (model prog w) A (compareOp .Eq (.ref a) (.ref b)) Q E s := by
  obtain ⟨vs, hv, hi⟩ := ha.isList
  obtain ⟨us, hu', hj⟩ := hb.isList
  exact ke_eq_ints hv hu' hi hj hu h
theorem ne_il {a b : Addr} {ns ms : List Int} {Q : Value → Shared → Prop} (ha : IL s.heap a ns) (hb : IL s.heap b ms) (hu : A.units + 64 < cLine) (h : Q (.bool (!decide (ns = ms))) s) : wpAny (model prog w) A (compareOp .NotEq (.ref a) (.ref b)) Q E s := by
  obtain ⟨vs, hv, hi⟩ := ha.isList
  obtain ⟨us, hu', hj⟩ := hb.isList
  exact ke_ne_ints hv hu' hi hj hu h

theorem add_il {a b : Addr} {ns ms : List Int} {Q : Value → Shared → Prop} (ha : IL s.heap a ns) (hb : IL s.heap b ms) (hz : ns.length + ms.length ≤ 1000) (h : ∀ s' D, Kp s s' → s.heap.get? D = none → IL s'.heap D (ns ++ ms) → Q (.ref D) s') :
    wpAny (model prog w) A (binaryOp .Add (.ref a) (.ref b)) Q E s := by
  obtain ⟨vs, n, hv, hi⟩ := ha
  obtain ⟨us, n', hu', hj⟩ := hb
  refine P.add_list hv hu' (h _ _ ((Kp.refl s).push _) (Heap.get?_none_of_le (Nat.le_refl _)) ⟨vs ++ us, 0, ?_, intsAre_app hi hj⟩) (by rw [sizeLine_eq]; simp [hi.length, hj.length]; omega)
  show (s.heap.push _).get? _ = _
  rw [Heap.get?_push_size _ rfl]; simp

theorem ev_list {env : Env} {elts : List Expr} {pos : Pos} {Q : Value → Shared → Prop}
    (h : wpAny (model prog w) A (spliced (backTo pos (starEach elts env))) (fun vs s₁ => ∃ ns, IntsAre vs ns ∧ vs.length ≤ 1000 ∧ ∀ s' D, Kp s₁ s' → s₁.heap.get? D = none → IL s'.heap D ns → Q (.ref D) s') E s) :
    wpAny (model prog w) A (eval (.List elts pos) env) Q E s :=
  wpAny_List (wpAny_mono h (fun vs s₁ ⟨ns, hi, hz, hq⟩ => ⟨by rw [sizeLine_eq]; omega, hq _ _ ((Kp.refl s₁).push _) (Heap.get?_none_of_le (Nat.le_refl _)) ⟨vs, 0, Heap.get?_push_size _ rfl, hi⟩⟩) fun _ _ e => e)
end
end Mine
end partOps

section partOps2
open PySem PySem.W PyProof.Rows
set_option maxRecDepth 100000
set_option autoImplicit false
namespace Mine

/-- a cut of a list, bounds as in Python -/
noncomputable def cut (ns : List Int) (lo hi : Option Int) : List Int := (ns.drop (kms_lo lo ns.length)).take (kms_hi hi ns.length - kms_lo lo ns.length)
theorem cut_to {ns : List Int} {k : Int} (h : 0 ≤ k) : cut ns none (some k) = ns.take k.toNat := by
  unfold cut kms_lo kms_hi
  simp only [show ¬ k < 0 by omega, if_false, List.drop_zero, Nat.sub_zero]
  rcases Nat.le_total k.toNat ns.length with h1 | h1
  · rw [Nat.min_eq_left h1]
  · rw [Nat.min_eq_right h1, List.take_of_length_le (Nat.le_refl _), List.take_of_length_le h1]
theorem cut_from {ns : List Int} {k : Int} (h : 0 ≤ k) : cut ns (some k) none = ns.drop k.toNat := by
  unfold cut kms_lo kms_hi
  simp only [show ¬ k < 0 by omega, if_false]
  rcases Nat.le_total k.toNat ns.length with h1 | h1
  · rw [Nat.min_eq_left h1, List.take_of_length_le (by simp)]
  · rw [Nat.min_eq_right h1, List.drop_of_length_le (Nat.le_refl _), List.drop_of_length_le h1]; simp

theorem mem_any_of_ints {vs : List Value} {ns : List Int} (h : IntsAre vs ns) : ∀ v ∈ vs, ∃ k t, v = .int k t := by
  induction h with
  | nil => intro v hv; cases hv
  | cons n t _ ih => intro v hv; rcases List.mem_cons.mp hv with rfl | hv; exact ⟨_, _, rfl⟩; exact ih v hv

section
variable {prog : Program} {w : World} {A : Around} {E : Value → Shared → Prop} {s : Shared} {env : Env}

theorem item_il {value slice : Expr} {a : Addr} {ns : List Int} {k x : Int} {u : Tok} {Q : Value → Shared → Prop} (hl : IL s.heap a ns) (h0 : 0 ≤ k) (hk : k < 2 ^ 40) (hx : ns[k.toNat]? = some x) (h : ∀ t, Q (.int x t) s)
    (hs : subscripted slice false (.ref a) (.int k u) = operate [.ref a, .int k u] (getItem (.ref a) (.int k u)) := by with_unfolding_all rfl) :
    wpAny (model prog w) A (subscriptTail value slice (.ref a) (.int k u)) Q E s := by
  obtain ⟨vs, hv, hi⟩ := hl.isList
  obtain ⟨t, ht⟩ := intsAre_get hi _ _ hx
  exact tail_any hv.typeIs slot_list_getitem.lookup (wpAny_getItem_list hv h0 (by omega) (by simpa using ht) (h t)) hs

theorem item_il_last {value slice : Expr} {a : Addr} {ns : List Int} {x : Int} {u : Tok} {Q : Value → Shared → Prop} (hl : IL s.heap a (ns ++ [x])) (h : ∀ t, Q (.int x t) s)
    (hs : subscripted slice false (.ref a) (.int (-1) u) = operate [.ref a, .int (-1) u] (getItem (.ref a) (.int (-1) u)) := by with_unfolding_all rfl) :
    wpAny (model prog w) A (subscriptTail value slice (.ref a) (.int (-1) u)) Q E s := by
  obtain ⟨vs, hv, hi⟩ := hl.isList
  have hlen : vs.length = ns.length + 1 := by rw [hi.length]; simp
  obtain ⟨t, ht⟩ := intsAre_get hi ns.length x (by simp)
  refine tail_any hv.typeIs slot_list_getitem.lookup (wpAny_getItem_list_neg hv (by omega) (by simp; omega) (by omega) ?_ (h t)) hs
  have : ((-1 : Int) + (vs.toArray.size : Nat)).toNat = ns.length := by rw [List.size_toArray, hlen]; omega
  rw [this]; simpa using ht

/-- xs[lo:hi] of a list of ints -/
theorem ev_cut {value : Expr} {lower upper : Option Expr} {p pos : Pos} {Q : Value → Shared → Prop}
    (h : wpAny (model prog w) A (eval value env) (fun o s₁ => wpAny (model prog w) A (evalPart lower env) (fun vl s₂ => wpAny (model prog w) A (evalPart upper env) (fun vu s₃ =>
      ∃ l vs ns lo hi, o = .ref l ∧ s₃.heap.IsList l (List.toArray vs) ∧ IntsAre vs ns ∧ ns.length ≤ 1000 ∧ IsPart vl lo ∧ IsPart vu hi ∧ ∀ s' D, Kp s₃ s' → s₃.heap.get? D = none → IL s'.heap D (cut ns lo hi) → Q (.ref D) s') E s₂) E s₁) E s)
    (ht : ∀ o r, letTemporaryGo value o r = pure () := by intro _ _; rfl) :
    wpAny (model prog w) A (eval (.Subscript value (.Slice lower upper none p) pos) env) Q E s := by
  refine wpAny_Subscript_list_slice (wpAny_mono h (fun o s₁ h₁ => wpAny_mono h₁ (fun vl s₂ h₂ => wpAny_mono h₂ (fun vu s₃ h₃ => ?_) fun _ _ e => e) fun _ _ e => e) fun _ _ e => e) ht
  obtain ⟨l, vs, ns, lo, hi, rfl, hl, hi', hz, pl, pu, hq⟩ := h₃
  have hsz : vs.toArray.size ≤ sizeLine := by rw [sizeLine_eq, List.size_toArray, hi'.length]; omega
  refine ⟨l, _, lo, hi, rfl, hl, hsz, pl, pu, hq _ _ (((Kp.refl s₃).push _).push _) (Heap.get?_none_of_le (Nat.le_succ _)) ⟨(slicePick vs.toArray lo hi none).toList, 0, ?_, kssn_any hi'⟩⟩
  have := Heap.get?_push_size (s₃.heap.push { cls := .type "slice", data := .fields #[vl, vu, .none] }) (o := { cls := .type "list", data := .seq (slicePick vs.toArray lo hi none) }) rfl
  rw [Heap.size_push] at this
  show Heap.get? _ _ = _
  rw [this]

/-- xs[::-1] of a list of ints -/
theorem ev_rev {value st : Expr} {p pos : Pos} {Q : Value → Shared → Prop}
    (h : wpAny (model prog w) A (eval value env) (fun o s₁ => wpAny (model prog w) A (eval st env) (fun vk s₃ =>
      ∃ l ns t, o = .ref l ∧ IL s₃.heap l ns ∧ ns.length ≤ 1000 ∧ vk = .int (-1) t ∧ ∀ s' D, Kp s₃ s' → s₃.heap.get? D = none → IL s'.heap D ns.reverse → Q (.ref D) s') E s₁) E s)
    (ht : ∀ o r, letTemporaryGo value o r = pure () := by intro _ _; rfl) :
    wpAny (model prog w) A (eval (.Subscript value (.Slice none none (some st) p) pos) env) Q E s := by
  refine wpAny_Subscript_Slice_step (T := "list") list_getitem_lookup (wpAny_mono h (fun o s₁ h₁ => wpAny_Slice ?_) fun _ _ e => e) ht
  rw [evalPart_none]
  refine wpAny_pure (wpAny_pure ?_)
  rw [evalPart_some]
  refine wpAny_mono h₁ (fun vk s₃ h₃ => ?_) fun _ _ e => e
  obtain ⟨l, ns, t, rfl, hl, hz, rfl, hq⟩ := h₃
  obtain ⟨vs, hv, hi⟩ := hl.isList
  have hsz : vs.toArray.size ≤ sizeLine := by rw [sizeLine_eq, List.size_toArray, hi.length]; omega
  refine ⟨(hv.push _).typeIs, wpAny_getItem_list_slice (hv.push _) (Heap.IsSliceOf.new ..) .none .none (.int _ _) (by simp) ?_ hsz⟩
  refine hq _ _ (((Kp.refl s₃).push _).push _) (Heap.get?_none_of_le (by rw [Heap.size_push]; exact Nat.le_succ _)) ⟨vs.reverse, 0, ?_, ?_⟩
  · show Heap.get? _ _ = _
    rw [Heap.get?_push_size _ rfl, krv_pick]
  · have rev : ∀ {vs : List Value} {ns : List Int}, IntsAre vs ns → IntsAre vs.reverse ns.reverse := by
      intro vs ns h
      induction h with
      | nil => exact .nil
      | cons n t _ ih => rw [List.reverse_cons, List.reverse_cons]; exact intsAre_app ih (.cons n t .nil)
    exact rev hi

/-- a list's method -/
theorem meth_il {name : Str} {id : String} {pl : Sem Bool} {a : Addr} {ns : List Int} {Q : Value × List Value → Shared → Prop} (hl : IL s.heap a ns) (slot : Slot "list" name id) (hty : typeOf (.builtin id) = pure (.type "method_descriptor")) (h : Q (.builtin id, [.ref a]) s) :
    wpAny (model prog w) A (getMethod (.ref a) name pl) Q E s := by
  obtain ⟨vs, n, hv, hi⟩ := hl
  exact getMethod_list_of slot hty ⟨_, hv, rfl, n, rfl⟩ ⟨_, hv, rfl⟩ h
end
end Mine
end partOps2

section partOps3
open PySem PySem.W PyProof.Rows
set_option maxRecDepth 100000
set_option autoImplicit false
namespace Mine
section
variable {prog : Program} {w : World} {A : Around} {E : Value → Shared → Prop} {s : Shared} {env : Env}

theorem min_il {a : Addr} {ns : List Int} {Q : Value → Shared → Prop} (hh : A.handled = none) (hl : IL s.heap a ns) (hne : 0 < ns.length) (h : ∀ s' M t, Kp s s' → M ∈ ns → (∀ x ∈ ns, M ≤ x) → Q (.int M t) s') :
    wpAny (model prog w) A (call (.builtin "min") [.ref a]) Q E s := by
  refine call_min_walk (Src.il hl A.in1 _ _ hh fun I fp St s₂ k₂ hI hfp _ _ W hst => ⟨I, fp, [I], _, _, St, _, rfl, W _ hh, hst, hfp, hne, CmpOf.ints_lt (fun i => ns.getD i 0) (fun i v ⟨k, t, e, hv⟩ => ⟨t, by rw [hv]; congr 1; simp [List.getD_eq_getElem?_getD, e]⟩), fun v h' tk hP hk => ?_⟩)
  obtain ⟨k, t, e, rfl⟩ := hP
  obtain ⟨h1, h2⟩ := argBest_lt (fun i => ns.getD i 0) (ns.length - 1)
  have hk' : k = (fun i => ns.getD i 0) (argBest (fun i j => decide ((fun i => ns.getD i 0) i < (fun i => ns.getD i 0) j)) (ns.length - 1)) := by
    show k = ns.getD _ 0
    rw [List.getD_eq_getElem?_getD, e]; rfl
  refine h _ k t ⟨fun b o e' => hk b o (fun hb => by rw [List.mem_singleton.mp hb, hI] at e'; cases e') (k₂.keep b o e'), k₂.os, k₂.gens, k₂.bare⟩ (List.mem_of_getElem? e) fun x hx => ?_
  obtain ⟨j, hj, rfl⟩ := List.mem_iff_getElem.mp hx
  have := h2 j (by omega)
  have hk'' : k = ns.getD (argBest (fun i j => decide (ns.getD i 0 < ns.getD j 0)) (ns.length - 1)) 0 := hk'
  rw [← hk''] at this
  simpa [List.getD_eq_getElem?_getD, List.getElem?_eq_getElem hj] using this

theorem ex_append {o e : Expr} {apos pos epos : Pos} {pl : Sem Bool} {Q : Flow → Shared → Prop}
    (h : wpAny (model prog w) A (eval o env) (fun ov s₁ => ∃ a ns, ov = .ref a ∧ IL s₁.heap a ns ∧ wpAny (model prog w) A (eval e env) (fun v s₂ => ∃ k t, v = .int k t ∧ IL s₂.heap a ns ∧ ns.length ≤ 1000 ∧ ∀ s', KpX a s₂ s' → IL s'.heap a (ns ++ [k]) → Q .next s') E s₁) E s)
    (he : eval (.Call (.Attribute o "append" apos) [e] [] pos) env = (do
      let ov ← eval o env
      standAt apos.atName
      let (f, first) ← holding [ov] (getMethod ov "append" pl)
      callWith pos f first (backTo pos (starEach [e] env)) []) := by rfl)
    (hst : starEach [e] env = [(false, eval e env)] := by rfl)
    (hi : interactive env = false := by rfl) (hs : swapsWith (.Call (.Attribute o "append" apos) [e] [] pos) none epos.line env = pure false := by rfl) :
    wpAny (model prog w) A (exec (.Expr (.Call (.Attribute o "append" apos) [e] [] pos) epos) env) Q E s := by
  refine wpAny_Expr (MethodCall_ (wpAny_mono h (fun ov s₁ h₁ => ?_) fun _ _ e => e) he) hi hs
  obtain ⟨a, ns, rfl, hl, h₁⟩ := h₁
  refine meth_il hl F.slot_list_append F.type_list_append ?_
  rw [hst]
  refine P.append_list (wpAny_mono h₁ (fun v s₂ h₂ => ?_) fun _ _ e => e)
  obtain ⟨k, t, rfl, ⟨vs, n, hv, hi⟩, hz, hq⟩ := h₂
  refine ⟨_, n, by rw [sizeLine_eq, List.size_toArray, hi.length]; omega, hv, ?_⟩
  refine hq _ ⟨fun b o' hb e' => by rw [show (s₂.heap.update a _).get? b = s₂.heap.get? b from Heap.get?_update_ne _ _ _ _ hb]; exact e', rfl, fun _ _ e => e, fun e => e⟩ ⟨vs ++ [.int k t], n + 1, ?_, intsAre_app hi (.cons k t .nil)⟩
  have := hv.update (fun xs => xs.push (Value.int k t))
  simpa using this
end
end Mine
end partOps3

section partL1
open PySem PySem.W PyProof.Rows
set_option maxRecDepth 100000
set_option autoImplicit false
namespace Mine

noncomputable def turnedP (w : List Int) (t : Int) (lone : List Int) (many : Int) : List Int :=
  (List.range w.length).map fun (k : Nat) => if (lone.take many.toNat).contains (k : Int) then t else if lone.contains (k : Int) then t + 1 else w.getD k 0

theorem getD_some {ns : List Int} {k : Nat} (h : k < ns.length) : ns[k]? = some (ns.getD k 0) := by
  simp [List.getD_eq_getElem?_getD, List.getElem?_eq_getElem h]

section
variable {prog : Program} {w : World} {A : Around} {E : Value → Shared → Prop} {s : Shared} {mg mb : Str → Option Value}

theorem turned_call (B : Bs mg mb s.heap) (hR : Rm A 1) {aw al : Addr} {word lone : List Int} {t many : Int} {tt tm : Tok} {Q : Value → Shared → Prop} (hw : IL s.heap aw word) (hl : IL s.heap al lone) (hwz : word.length ≤ 100) (hlz : lone.length ≤ 1000) (hm : 0 ≤ many)
    (h : ∀ s' D, Kp s s' → s.heap.get? D = none → IL s'.heap D (turnedP word t lone many) → Q (.ref D) s') : wpAny (model prog w) A (call (.ref 91) [.ref aw, .int t tt, .ref al, .int many tm]) Q E s := by
  refine call_def (binds := [(("word" : Str), Value.ref aw), (("t" : Str), .int t tt), (("lone" : Str), .ref al), (("many" : Str), .int many tm)]) hR.room B.lim (B.fn 9) (fun _ _ _ _ _ => .of_eq rfl) rfl ?_
  intro L cd s₁ hL a
  have hR1 := hR.deeper (envF "_law_turned" 17 L 91 cd)
  have hl₁ := hl.keeps a.kp.keep
  obtain ⟨vl, hvl, hil⟩ := hl₁.isList
  refine wpAny_execs_cons (wpAny_Assign_Name (ev_cut (Nm.eval (a.celled rfl rfl rfl) (wpAny_pure (Nm.eval (a.local rfl rfl) ⟨al, vl, lone, none, some many, rfl, hvl, hil, hlz, .none, .int _ _, fun s₂ D k₂ _ hD => ?_⟩)))))
  rw [cut_to hm] at hD
  have a₂ := a.go k₂
  refine Act.stC a₂ rfl fun s₃ a₃ g₃ _ => ?_
  have hw₃ := hw.keeps a₃.kp.keep
  have hl₃ := hl.keeps a₃.kp.keep
  have hD₃ := hD.gr g₃
  have B₃ := B.keeps a₃.kp.keep
  refine wpAny_execs_cons (wpAny_Return_some (ev_comp false (fun _ => _) hR1.hh (by with_unfolding_all rfl) ?_))
  refine ev_callT (a₃.nB B 2) (args_cons (ev_callB (a₃.nB B 1) (args_cons (Nm.eval (a₃.celled rfl rfl rfl) (args_nil (len_il hw₃ (by omega) fun tk n' => args_nil ?_))))))
  refine rng1 (by omega) (by omega) fun s₄ r k₄ src => ?_
  rw [Int.toNat_natCast] at src
  refine ⟨word.length, _, fun _ => true, fun i y => ∃ t', y = Value.int (if (lone.take many.toNat).contains (i : Int) then t else if lone.contains (i : Int) then t + 1 else word.getD i 0) t', _, src, by rw [sizeLine_eq]; omega, ?_, ?_⟩
  · intro C i v s₅ E' hi hv k₅ hnm
    obtain ⟨tv, rfl⟩ := hv
    have kk : Kp s₃ s₅ := (((Kp.refl s₃).toks _).trans k₄).trans k₅
    have a₅ := a₃.go kk
    refine ⟨wpAny_pure ⟨rfl, Kp.refl _⟩, fun _ => ?_⟩
    refine wpAny_IfExp (wpAny_isTrue_Compare1 (hnm.eval (Nm.eval (.cel rfl rfl (a₅.cell "low" _ rfl)) (in_il (hD₃.keeps kk.keep) (wpAny_truthy_bool ?_)))))
    cases h1 : (lone.take many.toNat).contains (i : Int) with
    | true =>
      rw [if_pos rfl]
      refine Nm.eval (.cel rfl rfl (a₅.cell "t" _ rfl)) ⟨⟨_, by rw [h1]; rfl⟩, Kp.refl _⟩
    | false =>
      rw [if_neg (by decide)]
      refine wpAny_IfExp (wpAny_isTrue_Compare1 (hnm.eval (Nm.eval (.cel rfl rfl (a₅.cell "lone" _ rfl)) (in_il (hl₃.keeps kk.keep) (wpAny_truthy_bool ?_)))))
      cases h2 : lone.contains (i : Int) with
      | true =>
        rw [if_pos rfl]
        refine wpAny_BinOp (Nm.eval (.cel rfl rfl (a₅.cell "t" _ rfl)) (wpAny_Constant_int (PyProof.Rows.add_int ⟨⟨_, by rw [h1, h2]; rfl⟩, ((Kp.refl _).toks _).toks _⟩)))
      | false =>
        rw [if_neg (by decide)]
        refine Subscript_ (Nm.eval (.cel rfl rfl (a₅.cell "word" _ rfl)) (hnm.eval (item_il (x := word.getD i 0) (hw₃.keeps kk.keep) (by omega) (by omega) ?_ fun t' => ⟨⟨t', by rw [h1, h2]; rfl⟩, Kp.refl _⟩)))
        rw [Int.toNat_natCast]; exact getD_some hi
  · intro D' ys s' hD' k' hpl hpr
    refine h s' D' (a₃.kp.trans ((((Kp.refl s₃).toks _).trans k₄).trans k')) ?_ (.of_plain hpl ?_)
    · cases e : s.heap.get? D' with
      | none => rfl
      | some o => have := k₄.keep _ _ (a₃.kp.keep _ _ e); rw [hD'] at this; cases this
    · have := ints_of_paired hpr
      rw [List.filter_eq_self.mpr (fun _ _ => rfl)] at this
      exact this
end
end Mine
end partL1

section partL2
open PySem PySem.W PyProof.Rows
set_option maxRecDepth 100000
set_option autoImplicit false
namespace Mine

noncomputable def fallsP (w : List Int) : List Int := ((List.range (w.length - 1)).filter fun (k : Nat) => decide (w.getD k 0 > w.getD (k + 1) 0)).map fun (k : Nat) => (k : Int)
noncomputable def swapP (th : List Int) (t : Int) : List Int := th.take t.toNat ++ [th.getD (t + 1).toNat 0, th.getD t.toNat 0] ++ th.drop (t + 2).toNat
noncomputable def ledP (row : List Int) : List Int := row.foldl swapP [0, 1, 2, 3]

theorem swapP_len {th : List Int} {t : Int} (h0 : 0 ≤ t) (h1 : t + 1 < th.length) : (swapP th t).length = th.length := by
  unfold swapP
  simp
  omega

section
variable {prog : Program} {w : World} {A : Around} {E : Value → Shared → Prop} {s : Shared} {mg mb : Str → Option Value}

theorem one_if {M : Model} {env : Env} {c : Expr} {Q : Bool → Shared → Prop} (h : wpAny M A (isTrue c env (eval c env)) Q E s) :
    wpAny M A (forIn [c] true fun c r => if r = true then do let ok ← isTrue c env (eval c env); pure (ForInStep.yield ok) else pure (ForInStep.yield r)) Q E s := by
  rw [List.forIn_cons]
  refine wpAny_bind ?_
  rw [if_pos rfl]
  refine wpAny_bind (wpAny_mono h (fun b s' hb => wpAny_pure ?_) fun _ _ e => e)
  exact wpAny_pure hb

theorem falls_call (B : Bs mg mb s.heap) (hR : Rm A 1) {aw : Addr} {word : List Int} {Q : Value → Shared → Prop} (hw : IL s.heap aw word) (hwz : word.length ≤ 100) (hw1 : 1 ≤ word.length)
    (h : ∀ s' D, Kp s s' → s.heap.get? D = none → IL s'.heap D (fallsP word) → Q (.ref D) s') : wpAny (model prog w) A (call (.ref 118) [.ref aw]) Q E s := by
  refine call_def (binds := [(("word" : Str), Value.ref aw)]) hR.room B.lim (B.fn 14) (fun _ _ _ _ _ => .of_eq rfl) rfl ?_
  intro L cd s₁ hL a
  have hR1 := hR.deeper (envF "_law_falls" 22 L 118 cd)
  have hw₁ := hw.keeps a.kp.keep
  refine wpAny_execs_cons (wpAny_Return_some (ev_comp false (fun _ => _) hR1.hh (by with_unfolding_all rfl) ?_))
  refine ev_callT (a.nB B 2) (args_cons (wpAny_BinOp (ev_callB (a.nB B 1) (args_cons (Nm.eval (a.celled rfl rfl rfl) (args_nil (len_il hw₁ (by omega) fun tk n' => wpAny_Constant_int (PyProof.Rows.sub_int (args_nil ?_)))))))))
  refine rng1 (by omega) (by omega) fun s₄ r k₄ src => ?_
  rw [show ((word.length : Int) - 1).toNat = word.length - 1 by omega] at src
  refine ⟨word.length - 1, _, fun k => decide (word.getD k 0 > word.getD (k + 1) 0), fun i y => ∃ t', y = Value.int (i : Int) t', _, src, by rw [sizeLine_eq]; omega, ?_, ?_⟩
  · intro C i v s₅ E' hi hv k₅ hnm
    obtain ⟨tv, rfl⟩ := hv
    have kk : Kp s₁ s₅ := (((((Kp.refl s₁).toks _).toks _).toks _).trans k₄).trans k₅
    have a₅ := a.go kk
    have hw₅ := hw₁.keeps kk.keep
    refine ⟨one_if (wpAny_isTrue_Compare1 (Subscript_ (Nm.eval (.cel rfl rfl (a₅.cell "word" _ rfl)) (hnm.eval (item_il (x := word.getD i 0) hw₅ (by omega) (by omega) ?_ fun t1 => ?_))))), fun _ => hnm.eval ⟨⟨_, rfl⟩, Kp.refl _⟩⟩
    · rw [Int.toNat_natCast]; exact getD_some (by omega)
    · refine Subscript_ (Nm.eval (.cel rfl rfl (a₅.cell "word" _ rfl)) (wpAny_BinOp (hnm.eval (wpAny_Constant_int (PyProof.Rows.add_int (item_il (x := word.getD (i + 1) 0) (hw₅.keeps (((Kp.refl s₅).toks _).toks _).keep) (by omega) (by omega) ?_ fun t2 => ?_)))))) 
      · rw [show ((i : Int) + 1).toNat = i + 1 by omega]; exact getD_some (by omega)
      · exact PyProof.Rows.gt_int (wpAny_truthy_bool ⟨by simp only [gt_iff_lt], ((Kp.refl _).toks _).toks _⟩)
  · intro D' ys s' hD' k' hpl hpr
    refine h s' D' (a.kp.trans ((((((Kp.refl s₁).toks _).toks _).toks _).trans k₄).trans k')) ?_ (.of_plain hpl (ints_of_paired hpr))
    exact none_of (a.kp.trans (((((Kp.refl s₁).toks _).toks _).toks _).trans k₄)) hD'

theorem led_call (B : Bs mg mb s.heap) (hR : Rm A 1) {ar : Addr} {row : List Int} {Q : Value → Shared → Prop} (hw : IL s.heap ar row) (hwz : row.length ≤ 100) (hrow : ∀ t ∈ row, 0 ≤ t ∧ t < 3)
    (h : ∀ s' D, Kp s s' → s.heap.get? D = none → IL s'.heap D (ledP row) → Q (.ref D) s') : wpAny (model prog w) A (call (.ref 108) [.ref ar]) Q E s := by
  refine call_def (binds := [(("row" : Str), Value.ref ar)]) hR.room B.lim (B.fn 12) (fun _ _ _ _ _ => .of_eq rfl) rfl ?_
  intro L cd s₁ hL a
  have hR1 := hR.deeper (envF "_law_led" 20 L 108 cd)
  refine wpAny_execs_cons (wpAny_Assign_Name (ev_list (wpAny_items_cons (wpAny_Constant_int (wpAny_items_cons (wpAny_Constant_int (wpAny_items_cons (wpAny_Constant_int (wpAny_items_cons (wpAny_Constant_int (wpAny_items_nil
    ⟨[0, 1, 2, 3], .cons _ _ (.cons _ _ (.cons _ _ (.cons _ _ .nil))), Nat.le_of_ble_eq_true rfl, fun s₂ D k₂ hDn hD => ?_⟩)))))))))))
  have a₂ := a.go ((((((Kp.refl s₁).toks _).toks _).toks _).toks _).trans k₂)
  refine Act.stL a₂ fun s₃ a₃ g₃ _ => ?_
  have hD₃ := hD.gr g₃
  have hr₃ := hw.keeps a₃.kp.keep
  refine wpAny_execs_cons (ex_for hR1.hh (Nm.eval (a₃.local rfl rfl) ⟨row.length, _, [ar], [], fun I i σ => ∃ th a m, Act s σ (envF "_law_led" 20 L 108 cd) m (bindC (envF "_law_led" 20 L 108 cd).kindOf [(("row" : Str), Value.ref ar)] fun _ => none) ∧ m "things" = some (.ref a) ∧ IL σ.heap a th ∧ a ≠ I ∧ th.length = 4 ∧ th = (row.take i).foldl swapP [0, 1, 2, 3] ∧ s.heap.get? a = none, Src.il hr₃, by simp, ?_, ?_, ?_, ?_⟩))
  · intro I σ hI kσ
    refine ⟨[0, 1, 2, 3], D, _, a₃.go kσ, rfl, hD₃.keeps kσ.keep, ?_, rfl, rfl, ?_⟩
    · exact hD₃.ne hI
    · exact none_of a.kp hDn
  · rintro I i σ σ' hI ⟨th, b, m, ac, hm, hb, hbI, h4, hth, hbn⟩ k
    exact ⟨th, b, m, a₃.stepX hI ac k, hm, hb.keepX k.keep hbI, hbI, h4, hth, hbn⟩
  · rintro I i v σ E' hI ⟨oI, _, hoI⟩ hi ⟨t, tk, hit, rfl⟩ ⟨th, b, m, ac, hm, hb, hbI, h4, hth, hbn⟩
    obtain ⟨ht0, ht3⟩ := hrow t (List.mem_of_getElem? hit)
    refine wpAny_assign_Name (Act.stL ac fun σ₁ ac₁ g₁ x₁ => ?_)
    have hb₁ := hb.gr g₁
    have hm₁ : (fun y => if y = Str.ofString "t" then some (Value.int t tk) else m y) "things" = some (.ref b) := hm
    obtain ⟨vb, hvb, hib⟩ := hb₁.isList
    refine wpAny_execs_cons (wpAny_Assign_Name (wpAny_BinOp (wpAny_BinOp (ev_cut (Nm.eval (ac₁.local rfl hm₁) (wpAny_pure (Nm.eval (ac₁.local rfl rfl) ⟨b, vb, th, none, some t, rfl, hvb, hib, by omega, .none, .int _ _, fun σ₂ D₁ k₂ hD₁n hD₁ => ?_⟩)))))))
    rw [cut_to ht0] at hD₁
    have ac₂ := ac₁.go k₂
    have hb₂ := hb₁.keeps k₂.keep
    refine ev_list (wpAny_items_cons (Subscript_ (Nm.eval (ac₂.local rfl hm₁) (wpAny_BinOp (Nm.eval (ac₂.local rfl rfl) (wpAny_Constant_int (PyProof.Rows.add_int (item_il (x := th.getD (t + 1).toNat 0) (hb₂.keeps (((Kp.refl σ₂).toks _).toks _).keep) (by omega) (by omega) ?_ fun t1 => ?_))))))))
    · exact getD_some (by omega)
    have ac₃ := (ac₂.toks (σ₂.toks + 1)).toks (σ₂.toks + 1 + 1)
    refine wpAny_items_cons (Subscript_ (Nm.eval (ac₃.local rfl hm₁) (Nm.eval (ac₃.local rfl rfl) (item_il (x := th.getD t.toNat 0) (hb₂.keeps (((Kp.refl σ₂).toks _).toks _).keep) (by omega) (by omega) ?_ fun t2 => ?_))))
    · exact getD_some (by omega)
    refine wpAny_items_nil ⟨_, .cons _ _ (.cons _ _ .nil), Nat.le_of_ble_eq_true rfl, fun σ₄ D₂ k₄ hD₂n hD₂ => ?_⟩
    have ac₄ := ac₃.go k₄
    have kk : Kp σ₂ σ₄ := (((Kp.refl σ₂).toks _).toks _).trans k₄
    refine add_il (hD₁.keeps kk.keep) hD₂ (by simp; omega) fun σ₅ D₃ k₅ hD₃n hD₃ => ?_
    have ac₅ := ac₄.go k₅
    have hb₅ := (hb₂.keeps kk.keep).keeps k₅.keep
    obtain ⟨vb', hvb', hib'⟩ := hb₅.isList
    refine ev_cut (Nm.eval (ac₅.local rfl hm₁) ?_)
    refine wpAny_BinOp (Nm.eval (ac₅.local rfl rfl) (wpAny_Constant_int (PyProof.Rows.add_int (wpAny_pure ⟨b, vb', th, some (t + 2), none, rfl, hvb', hib', by omega, .int _ _, .none, fun σ₆ D₄ k₆ hD₄n hD₄ => ?_⟩))))
    rw [cut_from (by omega)] at hD₄
    have kk₆ : Kp σ₅ σ₆ := (((Kp.refl σ₅).toks _).toks _).trans k₆
    refine add_il (hD₃.keeps kk₆.keep) hD₄ (by simp; omega) fun σ₇ D₅ k₇ hD₅n hD₅ => ?_
    have kall : Kp σ₁ σ₇ := k₂.trans (kk.trans (k₅.trans (kk₆.trans k₇)))
    refine Act.stL (ac₁.go kall) fun σ₈ ac₈ g₈ _ => ?_
    have g : GrX [] σ σ₈ := (g₁.toX _).trans ((kall.grX _).trans (g₈.toX _))
    refine wpAny_execs_nil ⟨⟨swapP th t, D₅, _, ac₈, rfl, hD₅.gr g₈, ?_, ?_, ?_, ?_⟩, g⟩
    · exact ne_of_none hD₅n ((k₂.trans (kk.trans (k₅.trans kk₆))).keep _ _ (x₁.keep _ _ (a₃.neL hI) hoI))
    · rw [swapP_len ht0 (by omega)]; exact h4
    · rw [List.take_add_one, hit, Option.toList_some, List.foldl_append, ← hth]; rfl
    · exact none_of (ac₁.kp.trans (k₂.trans (kk.trans (k₅.trans kk₆)))) hD₅n
  · rintro I σ hI ⟨th, b, m, ac, hm, hb, hbI, h4, hth, hbn⟩
    refine wpAny_execs_cons (wpAny_Return_some (Nm.eval (ac.local rfl hm) ?_))
    refine h _ _ ac.kp hbn ?_
    rw [List.take_of_length_le (Nat.le_refl _)] at hth
    unfold ledP; rw [← hth]; exact hb
end
end Mine
end partL2

section partP1
set_option maxRecDepth 100000
set_option autoImplicit false
namespace Mine
noncomputable def falls3 (th : List Int) : List Int := ((List.range 3).filter fun (k : Nat) => decide (th.getD k 0 > th.getD (k + 1) 0)).map fun (k : Nat) => (k : Int)
noncomputable def perms : List (List Int) := [[0,1,2,3],[0,1,3,2],[0,2,1,3],[0,2,3,1],[0,3,1,2],[0,3,2,1],[1,0,2,3],[1,0,3,2],[1,2,0,3],[1,2,3,0],[1,3,0,2],[1,3,2,0],[2,0,1,3],[2,0,3,1],[2,1,0,3],[2,1,3,0],[2,3,0,1],[2,3,1,0],[3,0,1,2],[3,0,2,1],[3,1,0,2],[3,1,2,0],[3,2,0,1],[3,2,1,0]]
noncomputable def invN (th : List Int) : Nat := ((List.range 4).flatMap fun i => (List.range i).filter fun j => decide (th.getD j 0 > th.getD i 0)).length
noncomputable def shortP : Nat → List Int → List Int
  | 0, _ => []
  | n + 1, th => match falls3 th with
    | [] => []
    | t :: _ => shortP n (swapP th t) ++ [t]
theorem perms_swap : ∀ th ∈ perms, ∀ t ∈ [(0 : Int), 1, 2], swapP th t ∈ perms := by decide +kernel
theorem perms_len : ∀ th ∈ perms, th.length = 4 := by decide +kernel
theorem perms_short : ∀ th ∈ perms, (falls3 th = [] → shortP 7 th = []) ∧ ∀ t ∈ (falls3 th).take 1, shortP 7 th = shortP 7 (swapP th t) ++ [t] ∧ invN (swapP th t) < invN th ∧ 0 ≤ t ∧ t < 3 ∧ swapP th t ∈ perms := by decide +kernel
theorem perms_rows : ∀ th ∈ perms, ∀ t ∈ shortP 7 th, 0 ≤ t ∧ t < 3 := by decide +kernel
theorem perms_rlen : ∀ th ∈ perms, (shortP 7 th).length ≤ 6 := by decide +kernel
theorem led_perm {row : List Int} (h : ∀ t ∈ row, 0 ≤ t ∧ t < 3) : ledP row ∈ perms := by
  have key : ∀ (row : List Int) (th : List Int), (∀ t ∈ row, 0 ≤ t ∧ t < 3) → th ∈ perms → row.foldl swapP th ∈ perms := by
    intro row
    induction row with
    | nil => intro th _ h; exact h
    | cons t r ih =>
      intro th h ht
      refine ih _ (fun t' h' => h t' (List.mem_cons_of_mem _ h')) (perms_swap th ht t ?_)
      have := h t (List.mem_cons_self ..)
      have : t = 0 ∨ t = 1 ∨ t = 2 := by omega
      simpa using this
  exact key row _ h (by decide)
end Mine
end partP1

section partL3
open PySem PySem.W PyProof.Rows
set_option maxRecDepth 100000
set_option autoImplicit false
namespace Mine
section
variable {prog : Program} {w : World} {A : Around} {E : Value → Shared → Prop} {s : Shared} {mg mb : Str → Option Value}

noncomputable abbrev eS (L : Addr) (cd : Value) : Env := envF "_law_shortest" 21 L 113 cd

theorem shortest_call (B : Bs mg mb s.heap) (hR : Rm A 1) {ath : Addr} {th₀ : List Int} {Q : Value → Shared → Prop} (hw : IL s.heap ath th₀) (hp : th₀ ∈ perms)
    (h : ∀ s' D, Kp s s' → s.heap.get? D = none → IL s'.heap D (shortP 7 th₀) → Q (.ref D) s') : wpAny (model prog w) A (call (.ref 113) [.ref ath]) Q E s := by
  refine call_def (binds := [(("things" : Str), Value.ref ath)]) hR.room B.lim (B.fn 13) (fun _ _ _ _ _ => .of_eq rfl) rfl ?_
  intro L cd s₁ hL a
  have hR1 := hR.deeper (eS L cd)
  refine wpAny_execs_cons (wpAny_Assign_Name (ev_list (wpAny_items_nil ⟨[], .nil, Nat.zero_le _, fun s₂ D k₂ hDn hD => ?_⟩)))
  have a₂ := a.go k₂
  refine Act.stL a₂ fun s₃ a₃ g₃ _ => ?_
  have hD₃ := hD.gr g₃
  have hth₃ := hw.keeps a₃.kp.keep
  have h4 := perms_len _ hp
  refine wpAny_execs_cons (ex_compL (s₀ := s) false (fun _ => _) hR1.hh (by with_unfolding_all rfl) ?_)
  refine ev_callT (a₃.nB B 2) (args_cons (wpAny_Constant_int (args_nil ?_)))
  refine rng1 (by decide) (by decide) fun s₄ r k₄ src => ?_
  have kk₄ : Kp s₃ s₄ := ((Kp.refl s₃).toks _).trans k₄
  have a₄ := a₃.go kk₄
  refine ⟨3, _, fun k => decide (th₀.getD k 0 > th₀.getD (k + 1) 0), fun i y => ∃ t', y = Value.int (i : Int) t', _, _, _, a₄, src, by rw [sizeLine_eq]; omega, ?_, ?_⟩
  · intro C i v s₅ E' hi hv k₅ hnm
    obtain ⟨tv, rfl⟩ := hv
    have a₅ := a₄.go k₅
    have hw₅ := hw.keeps a₅.kp.keep
    refine ⟨one_if (wpAny_isTrue_Compare1 (Subscript_ (Nm.eval (.cel rfl rfl (a₅.cell "things" _ rfl)) (hnm.eval (item_il (x := th₀.getD i 0) hw₅ (by omega) (by omega) ?_ fun t1 => ?_))))), fun _ => hnm.eval ⟨⟨_, rfl⟩, Kp.refl _⟩⟩
    · rw [Int.toNat_natCast]; exact getD_some (by omega)
    · refine Subscript_ (Nm.eval (.cel rfl rfl (a₅.cell "things" _ rfl)) (wpAny_BinOp (hnm.eval (wpAny_Constant_int (PyProof.Rows.add_int (item_il (x := th₀.getD (i + 1) 0) (hw₅.keeps (((Kp.refl s₅).toks _).toks _).keep) (by omega) (by omega) ?_ fun t2 => ?_))))))
      · rw [show ((i : Int) + 1).toNat = i + 1 by omega]; exact getD_some (by omega)
      · exact PyProof.Rows.gt_int (wpAny_truthy_bool ⟨by simp only [gt_iff_lt], ((Kp.refl _).toks _).toks _⟩)
  intro F ys s₅ hFn a₅ x₅ hpl hpr
  have hF : IL s₅.heap F (falls3 th₀) := .of_plain hpl (ints_of_paired hpr)
  have hD₅ : IL s₅.heap D [] := (hD₃.keeps kk₄.keep).stepL a₄ x₅
  refine wpAny_execs_cons (wpAny_While ?_)
  refine codeAny_whileLoop (fun k σ => ∃ th row at' F D m cm, k = invN th ∧ th ∈ perms ∧ Act s σ (eS L cd) m cm ∧ cm "things" = some (.ref at') ∧ m "row" = some (.ref D) ∧ m "falls" = some (.ref F) ∧ IL σ.heap at' th ∧ IL σ.heap D row ∧ IL σ.heap F (falls3 th) ∧ s.heap.get? D = none ∧ row.length + invN th ≤ 20 ∧ shortP 7 th ++ row = shortP 7 th₀)
    ?_ (invN th₀) ⟨th₀, [], ath, F, D, _, _, rfl, hp, a₅, rfl, rfl, rfl, hw.keeps a₅.kp.keep, hD₅, hF, none_of (a.kp) hDn, ?_, List.append_nil _⟩
  · rintro k σ ⟨th, row, at', F, D, m, cm, rfl, hth, ac, hc, hmr, hmf, hat, hDr, hFf, hDn, hlen, heq⟩
    have h4 := perms_len _ hth
    obtain ⟨hnil, hcons⟩ := perms_short _ hth
    refine wpAny_isTrue_Compare1 (Nm.eval (ac.local rfl hmf) (ev_list (wpAny_items_nil ⟨[], .nil, Nat.zero_le _, fun σ₁ Z k₁ hZn hZ => ?_⟩)))
    refine ne_il (hFf.keeps k₁.keep) hZ (by have := hR1.un; omega) (wpAny_truthy_bool ?_)
    have ac₁ := ac.go k₁
    cases hf : falls3 th with
    | nil =>
      rw [show (!decide (([] : List Int) = [])) = false from rfl, if_neg (by decide)]
      refine wpAny_execs_nil (wpAny_execs_cons (wpAny_Return_some (Nm.eval (ac₁.local rfl hmr) ?_)))
      refine h _ _ ac₁.kp hDn ?_
      rw [← heq, hnil hf, List.nil_append]
      exact hDr.keeps k₁.keep
    | cons t rest =>
      rw [show (!decide (t :: rest = [])) = true from by simp, if_pos rfl]
      obtain ⟨hsh, hinv, ht0, ht3, hpm⟩ := hcons t (by rw [hf]; simp)
      rw [hf] at hFf
      refine wpAny_execs_cons (wpAny_Assign_Name (Subscript_ (Nm.eval (ac₁.local rfl hmf) (wpAny_Constant_int (item_il (x := t) ((hFf.keeps k₁.keep).keeps ((Kp.refl σ₁).toks _).keep) (by decide) (by decide) rfl fun t1 => ?_)))))
      refine Act.stL (ac₁.toks _) fun σ₂ ac₂ g₂ _ => ?_
      have hb₂ : IL σ₂.heap at' th := ((hat.keeps k₁.keep).keeps ((Kp.refl σ₁).toks _).keep).gr g₂
      have hr₂ : IL σ₂.heap D row := ((hDr.keeps k₁.keep).keeps ((Kp.refl σ₁).toks _).keep).gr g₂
      obtain ⟨vb, hvb, hib⟩ := hb₂.isList
      refine wpAny_execs_cons (wpAny_Assign_Name (wpAny_BinOp (wpAny_BinOp (ev_cut (Nm.eval (ac₂.celled rfl rfl hc) (wpAny_pure (Nm.eval (ac₂.local rfl rfl) ⟨at', vb, th, none, some t, rfl, hvb, hib, by omega, .none, .int _ _, fun σ₃ D₁ k₃ hD₁n hD₁ => ?_⟩)))))))
      rw [cut_to ht0] at hD₁
      have ac₃ := ac₂.go k₃
      have hb₃ := hb₂.keeps k₃.keep
      refine ev_list (wpAny_items_cons (Subscript_ (Nm.eval (ac₃.celled rfl rfl hc) (wpAny_BinOp (Nm.eval (ac₃.local rfl rfl) (wpAny_Constant_int (PyProof.Rows.add_int (item_il (x := th.getD (t + 1).toNat 0) (hb₃.keeps (((Kp.refl σ₃).toks _).toks _).keep) (by omega) (by omega) ?_ fun t2 => ?_))))))))
      · exact getD_some (by omega)
      have ac₃' := (ac₃.toks (σ₃.toks + 1)).toks (σ₃.toks + 1 + 1)
      refine wpAny_items_cons (Subscript_ (Nm.eval (ac₃'.celled rfl rfl hc) (Nm.eval (ac₃'.local rfl rfl) (item_il (x := th.getD t.toNat 0) (hb₃.keeps (((Kp.refl σ₃).toks _).toks _).keep) (by omega) (by omega) ?_ fun t3 => ?_))))
      · exact getD_some (by omega)
      refine wpAny_items_nil ⟨_, .cons _ _ (.cons _ _ .nil), Nat.le_of_ble_eq_true rfl, fun σ₄ D₂ k₄ hD₂n hD₂ => ?_⟩
      have kk : Kp σ₃ σ₄ := (((Kp.refl σ₃).toks _).toks _).trans k₄
      refine add_il (hD₁.keeps kk.keep) hD₂ (by simp; omega) fun σ₅ D₃ k₅ hD₃n hD₃ => ?_
      have ac₅ := (ac₃.go kk).go k₅
      have hb₅ := (hb₃.keeps kk.keep).keeps k₅.keep
      obtain ⟨vb', hvb', hib'⟩ := hb₅.isList
      refine ev_cut (Nm.eval (ac₅.celled rfl rfl hc) ?_)
      refine wpAny_BinOp (Nm.eval (ac₅.local rfl rfl) (wpAny_Constant_int (PyProof.Rows.add_int (wpAny_pure ⟨at', vb', th, some (t + 2), none, rfl, hvb', hib', by omega, .int _ _, .none, fun σ₆ D₄ k₆ hD₄n hD₄ => ?_⟩))))
      rw [cut_from (by omega)] at hD₄
      have kk₆ : Kp σ₅ σ₆ := (((Kp.refl σ₅).toks _).toks _).trans k₆
      refine add_il (hD₃.keeps kk₆.keep) hD₄ (by simp; omega) fun σ₇ D₅ k₇ hD₅n hD₅ => ?_
      have kall : Kp σ₂ σ₇ := k₃.trans (kk.trans (k₅.trans (kk₆.trans k₇)))
      refine Act.stC (ac₂.go kall) rfl fun σ₈ ac₈ g₈ _ => ?_
      have hth₈ : IL σ₈.heap D₅ (swapP th t) := hD₅.gr g₈
      have hr₈ : IL σ₈.heap D row := (hr₂.keeps kall.keep).gr g₈
      refine wpAny_execs_cons (wpAny_Assign_Name (wpAny_BinOp (ev_list (wpAny_items_cons (Nm.eval (ac₈.local rfl rfl) (wpAny_items_nil ⟨[t], .cons _ _ .nil, Nat.le_of_ble_eq_true rfl, fun σ₉ D₆ k₉ hD₆n hD₆ => ?_⟩))))))
      have ac₉ := ac₈.go k₉
      refine Nm.eval (ac₉.local rfl hmr) (add_il hD₆ (hr₈.keeps k₉.keep) (by simp; omega) fun σ₁₀ D₇ k₁₀ hD₇n hD₇ => ?_)
      refine Act.stL (ac₉.go k₁₀) fun σ₁₁ ac₁₁ g₁₁ _ => ?_
      have hth₁₁ : IL σ₁₁.heap D₅ (swapP th t) := ((hth₈.keeps k₉.keep).keeps k₁₀.keep).gr g₁₁
      have hr₁₁ : IL σ₁₁.heap D₇ (t :: row) := hD₇.gr g₁₁
      have hs4 := perms_len _ hpm
      refine wpAny_execs_cons (ex_compL (s₀ := s) false (fun _ => _) hR1.hh (by with_unfolding_all rfl) ?_)
      refine ev_callT (ac₁₁.nB B 2) (args_cons (wpAny_Constant_int (args_nil ?_)))
      refine rng1 (by decide) (by decide) fun s₄ r k₄ src => ?_
      have kk₄ : Kp σ₁₁ s₄ := ((Kp.refl σ₁₁).toks _).trans k₄
      have a₄ := ac₁₁.go kk₄
      have hth₄ := hth₁₁.keeps kk₄.keep
      refine ⟨3, _, fun k => decide ((swapP th t).getD k 0 > (swapP th t).getD (k + 1) 0), fun i y => ∃ t', y = Value.int (i : Int) t', _, _, _, a₄, src, by rw [sizeLine_eq]; omega, ?_, ?_⟩
      · intro C i v s₅ E' hi hv k₅ hnm
        obtain ⟨tv, rfl⟩ := hv
        have a₅ := a₄.go k₅
        have hw₅ := hth₄.keeps k₅.keep
        refine ⟨one_if (wpAny_isTrue_Compare1 (Subscript_ (Nm.eval (.cel rfl rfl (a₅.cell "things" _ rfl)) (hnm.eval (item_il (x := (swapP th t).getD i 0) hw₅ (by omega) (by omega) ?_ fun t1 => ?_))))), fun _ => hnm.eval ⟨⟨_, rfl⟩, Kp.refl _⟩⟩
        · rw [Int.toNat_natCast]; exact getD_some (by omega)
        · refine Subscript_ (Nm.eval (.cel rfl rfl (a₅.cell "things" _ rfl)) (wpAny_BinOp (hnm.eval (wpAny_Constant_int (PyProof.Rows.add_int (item_il (x := (swapP th t).getD (i + 1) 0) (hw₅.keeps (((Kp.refl s₅).toks _).toks _).keep) (by omega) (by omega) ?_ fun t2 => ?_))))))
          · rw [show ((i : Int) + 1).toNat = i + 1 by omega]; exact getD_some (by omega)
          · exact PyProof.Rows.gt_int (wpAny_truthy_bool ⟨by simp only [gt_iff_lt], ((Kp.refl _).toks _).toks _⟩)
      intro F' ys s₅ hFn a₅ x₅ hpl hpr
      have hF : IL s₅.heap F' (falls3 (swapP th t)) := .of_plain hpl (ints_of_paired hpr)
      refine wpAny_execs_nil ⟨invN (swapP th t), hinv, swapP th t, t :: row, D₅, F', D₇, _, _, rfl, hpm, a₅, rfl, rfl, rfl, hth₄.stepL a₄ x₅, (hr₁₁.keeps kk₄.keep).stepL a₄ x₅, hF, none_of (ac₉.kp) hD₇n, by simp; omega, ?_⟩
      rw [← heq, hsh]; simp
  · have : ∀ th ∈ perms, invN th ≤ 20 := by decide +kernel
    simpa using this _ hp
end
end Mine
end partL3

section partL4
open PySem PySem.W PyProof.Rows
set_option maxRecDepth 100000
set_option autoImplicit false
namespace Mine

noncomputable def stepH (t x : Int) : Int := if x == t + 1 then 1 else if x == t then -1 else 0
noncomputable def scanH (t : Int) : Int → List Int → List Int
  | h, [] => [h]
  | h, x :: r => h :: scanH t (h + stepH t x) r
noncomputable def hsum (t : Int) : Int → List Int → Int
  | h, [] => h
  | h, x :: r => hsum t (h + stepH t x) r
theorem hsum_snoc (t : Int) (x : Int) : ∀ (l : List Int) (h : Int), hsum t h (l ++ [x]) = hsum t h l + stepH t x
  | [], _ => rfl
  | _ :: r, h => hsum_snoc t x r _
theorem scanH_snoc (t : Int) (x : Int) : ∀ (l : List Int) (h : Int), scanH t h (l ++ [x]) = scanH t h l ++ [hsum t h l + stepH t x]
  | [], _ => rfl
  | y :: r, h => by
    show h :: scanH t (h + stepH t y) (r ++ [x]) = h :: (scanH t (h + stepH t y) r ++ _)
    rw [scanH_snoc t x r]; rfl
theorem scanH_last (t : Int) : ∀ (l : List Int) (h : Int), ∃ pre, scanH t h l = pre ++ [hsum t h l]
  | [], h => ⟨[], rfl⟩
  | y :: r, h => let ⟨pre, e⟩ := scanH_last t r (h + stepH t y); ⟨h :: pre, by show h :: scanH t _ r = h :: pre ++ _; rw [e]; rfl⟩
theorem scanH_len (t : Int) : ∀ (l : List Int) (h : Int), (scanH t h l).length = l.length + 1
  | [], _ => rfl
  | _ :: r, h => by show (scanH t _ r).length + 1 = _; rw [scanH_len t r]; rfl

noncomputable def shutHP (w : List Int) (t : Int) (k : Nat) : Bool := (w.getD k 0 == t) && (((scanH t 0 w).take (k + 1)).all fun a => decide ((scanH t 0 w).getD (k + 1) 0 < a))
noncomputable def waitHP (w : List Int) (t : Int) (k : Nat) : Bool := (w.getD k 0 == t + 1) && (((scanH t 0 w).drop (k + 1)).all fun a => decide ((scanH t 0 w).getD k 0 < a))
noncomputable def posP (n : Nat) (p : Nat → Bool) : List Int := ((List.range n).filter p).map fun (k : Nat) => (k : Int)
theorem posP_len (n : Nat) (p : Nat → Bool) : (posP n p).length ≤ n := by
  unfold posP; rw [List.length_map]; simpa using List.length_filter_le p (List.range n)
noncomputable def stepP (w : List Int) (t : Int) (p q : Nat → Bool) : List Int := turnedP w t (posP w.length p ++ posP w.length q) (posP w.length q).length
noncomputable def hstepP (w : List Int) (t : Int) : List Int := stepP w t (shutHP w t) (waitHP w t)
theorem turnedP_len (w : List Int) (t : Int) (l : List Int) (m : Int) : (turnedP w t l m).length = w.length := by unfold turnedP; simp
theorem stepP_len (w : List Int) (t : Int) (p q : Nat → Bool) : (stepP w t p q).length = w.length := turnedP_len ..

theorem lt_min_all {l : List Int} {M x : Int} (h1 : M ∈ l) (h2 : ∀ a ∈ l, M ≤ a) : decide (x < M) = l.all fun a => decide (x < a) := by
  rw [Bool.eq_iff_iff, decide_eq_true_eq, List.all_eq_true]
  exact ⟨fun h a ha => decide_eq_true (by have := h2 a ha; omega), fun h => of_decide_eq_true (h M h1)⟩

noncomputable abbrev eH (L : Addr) (cd : Value) : Env := envF "_law_by_heights" 19 L 101 cd
section
variable {prog : Program} {w : World} {A : Around} {E : Value → Shared → Prop} {s : Shared} {mg mb : Str → Option Value}

theorem heights_call (B : Bs mg mb s.heap) (hR : Rm A 2) {aw₀ ar : Addr} {w₀ row : List Int} {Q : Value → Shared → Prop} (hw : IL s.heap aw₀ w₀) (hrow : IL s.heap ar row) (hwz : w₀.length ≤ 100) (hrz : row.length ≤ 100)
    (h : ∀ s' D, Kp s s' → IL s'.heap D (row.foldl hstepP w₀) → Q (.ref D) s') : wpAny (model prog w) A (call (.ref 101) [.ref aw₀, .ref ar]) Q E s := by
  refine call_def (binds := [(("word" : Str), Value.ref aw₀), (("row" : Str), .ref ar)]) hR.room B.lim (B.fn 11) (fun _ _ _ _ _ => .of_eq rfl) rfl ?_
  intro L cd s₁ hL a
  have hR1 := hR.deeper (eH L cd)
  refine wpAny_execs_cons (ex_for hR1.hh (Nm.eval (a.local rfl rfl) ⟨row.length, _, [ar], [], fun I i σ => ∃ wd aw m cm, Act s σ (eH L cd) m cm ∧ cm "word" = some (.ref aw) ∧ IL σ.heap aw wd ∧ aw ≠ I ∧ wd.length = w₀.length ∧ wd = (row.take i).foldl hstepP w₀, Src.il (hrow.keeps a.kp.keep), by simp, ?_, ?_, ?_, ?_⟩))
  · intro I σ hI kσ
    exact ⟨w₀, aw₀, _, _, a.go kσ, rfl, (hw.keeps a.kp.keep).keeps kσ.keep, (hw.keeps a.kp.keep).ne hI, rfl, rfl⟩
  · rintro I i σ σ' hI ⟨wd, aw, m, cm, ac, hc, hl, hne, hz, he⟩ k
    exact ⟨wd, aw, m, cm, a.stepX hI ac k, hc, hl.keepX k.keep hne, hne, hz, he⟩
  · rintro I i v σ E' hI ⟨oI, hsI, hoI⟩ hi ⟨t, tk, hit, rfl⟩ ⟨wd, aw, m, cm, ac, hc, hl, hne, hz, he⟩
    refine wpAny_assign_Name (Act.stC ac rfl fun σ₁ ac₁ g₁ x₁ => ?_)
    have hl₁ := hl.gr g₁
    refine wpAny_execs_cons (wpAny_Assign_Name (ev_list (wpAny_items_cons (wpAny_Constant_int (wpAny_items_nil ⟨[0], .cons _ _ .nil, Nat.le_of_ble_eq_true rfl, fun σ₂ H k₂ hHn hH => ?_⟩)))))
    have kk₂ : Kp σ₁ σ₂ := ((Kp.refl σ₁).toks _).trans k₂
    refine Act.stC (ac₁.go kk₂) rfl fun σ₃ ac₃ g₃ x₃ => ?_
    have hl₃ : IL σ₃.heap aw wd := (hl₁.keeps kk₂.keep).gr g₃
    have hH₃ : IL σ₃.heap H (scanH t 0 []) := hH.gr g₃
    have haH : aw ≠ H := (hl₁.ne hHn)
    refine wpAny_execs_cons (ex_for hR1.hh (Nm.eval (ac₃.celled rfl rfl hc) ⟨wd.length, _, [aw], [H], fun I' j τ => ∃ m', Act s τ (eH L cd) m' (fun y => if y = Str.ofString "heights" then some (Value.ref H) else if y = Str.ofString "t" then some (Value.int t tk) else cm y) ∧ IL τ.heap H (scanH t 0 (wd.take j)) ∧ H ≠ I' ∧ GrX [H] σ₃ τ,
      Src.il hl₃, (fun b hb => by rw [List.mem_singleton.mp hb]; exact ⟨fun hm => haH (List.mem_singleton.mp hm).symm, let ⟨vs, n, h1, _⟩ := hH₃; ⟨_, h1⟩⟩), ?_, ?_, ?_, ?_⟩))
    · intro I' τ hI' kτ
      exact ⟨_, ac₃.go kτ, hH₃.keeps kτ.keep, hH₃.ne hI', kτ.grX _⟩
    · rintro I' j τ τ' hI' ⟨m', ac', hh', hne', hg'⟩ k
      refine ⟨m', ac₃.stepX hI' ac' k, hh'.keepX k.keep hne', hne', fun b o hs hb e => k.keep b o ?_ (hg' b o hs hb e)⟩
      rintro rfl; rw [hI'] at e; cases e
    · rintro I' j v τ E'' hI' ⟨oI', _, hoI'⟩ hj ⟨x, tx, hjx, rfl⟩ ⟨m', ac', hh', hne', hg'⟩
      refine wpAny_assign_Name (Act.stL ac' fun τ₁ ac₁' g₁' x₁' => ?_)
      have hh₁ := hh'.gr g₁'
      obtain ⟨pre, hpre⟩ := scanH_last t (wd.take j) 0
      refine wpAny_execs_cons (ex_append (Nm.eval (ac₁'.celled rfl rfl rfl) ⟨H, _, rfl, hh₁, wpAny_BinOp (Subscript_ (Nm.eval (ac₁'.celled rfl rfl rfl) (wpAny_UnaryOp (wpAny_Constant_int (PyProof.Rows.neg_int ?_)))))⟩))
      refine item_il_last (ns := pre) (x := hsum t 0 (wd.take j)) (hpre ▸ hh₁) fun t1 => ?_
      have ac₂' := (ac₁'.toks (τ₁.toks + 1)).toks (τ₁.toks + 1 + 1)
      have kk₂' : Kp τ₁ { { τ₁ with toks := τ₁.toks + 1 } with toks := τ₁.toks + 1 + 1 } := ((Kp.refl τ₁).toks _).toks _
      refine wpAny_mono (Q := fun v s' => ∃ u, v = .int (stepH t x) u ∧ Kp τ₁ s') ?_ (fun v τ₃ hv => ?_) fun _ _ e => e
      · refine wpAny_IfExp (wpAny_isTrue_Compare1 (Nm.eval (ac₂'.local rfl rfl) (wpAny_BinOp (Nm.eval (ac₂'.celled rfl rfl rfl) (wpAny_Constant_int (PyProof.Rows.add_int (PyProof.Rows.eq_int (wpAny_truthy_bool ?_))))))))
        cases h1 : (x == t + 1) with
        | true =>
          rw [if_pos rfl]
          exact wpAny_Constant_int ⟨_, by unfold stepH; rw [h1]; rfl, ((kk₂'.toks _).toks _).toks _⟩
        | false =>
          rw [if_neg (by decide)]
          have ac₃' := (ac₂'.toks (τ₁.toks + 1 + 1 + 1)).toks (τ₁.toks + 1 + 1 + 1 + 1)
          refine wpAny_IfExp (wpAny_isTrue_Compare1 (Nm.eval (ac₃'.local rfl rfl) (Nm.eval (ac₃'.celled rfl rfl rfl) (PyProof.Rows.eq_int (wpAny_truthy_bool ?_)))))
          cases h2 : (x == t) with
          | true =>
            rw [if_pos rfl]
            exact wpAny_UnaryOp (wpAny_Constant_int (PyProof.Rows.neg_int ⟨_, by unfold stepH; rw [h1, h2]; rfl, ((((kk₂'.toks _).toks _).toks _).toks _)⟩))
          | false =>
            rw [if_neg (by decide)]
            exact wpAny_Constant_int ⟨_, by unfold stepH; rw [h1, h2]; rfl, ((kk₂'.toks _).toks _).toks _⟩
      · obtain ⟨u, rfl, k₃'⟩ := hv
        refine PyProof.Rows.add_int ⟨_, _, rfl, hh₁.keeps (k₃'.toks _).keep, by rw [scanH_len, List.length_take]; omega, fun τ₄ k₄ hl₄ => ?_⟩
        have ac₃' := (ac₁'.go k₃').toks (τ₃.toks + 1)
        have ac₄' := ac₁.stepX hHn ac₃' k₄
        have g₄ : GrX [H] τ τ₄ := (g₁'.toX _).trans ((k₃'.grX _).trans fun b o hs hb e => k₄.keep b o (by simpa using hb) e)
        refine wpAny_execs_nil ⟨⟨_, ac₄', ?_, hne', hg'.trans g₄⟩, g₄⟩
        rw [List.take_add_one, hjx, Option.toList_some, scanH_snoc]
        exact hl₄
    · rintro I' τ hI' ⟨m', ac', hh', hne', hg'⟩
      rw [List.take_of_length_le (Nat.le_refl _)] at hh'
      have hl' : IL τ.heap aw wd := by
        obtain ⟨vs, n, h1, h2⟩ := hl₃
        exact ⟨vs, n, hg' _ _ ⟨(fun _ _ e => by cases e), (fun _ e => by cases e)⟩ (by simpa using haH) h1, h2⟩
      have hzs : (scanH t 0 wd).length = wd.length + 1 := scanH_len ..
      refine wpAny_execs_cons (wpAny_Assign_Name (ev_callB (ac'.nB B 1) (args_cons (Nm.eval (ac'.celled rfl rfl hc) (args_nil (len_il hl' (by omega) fun tk1 n1 => Act.stL (ac'.toks _) fun τ₁ ac₁' g₁' x₁' => ?_))))))
      have g₁'' : Gr τ τ₁ := ((Kp.refl τ).toks n1).gr.trans g₁'
      have hl₁' := hl'.gr g₁''
      have hh₁' := hh'.gr g₁''
      refine wpAny_execs_cons (ex_compL (s₀ := s) false (fun _ => _) hR1.hh (by with_unfolding_all rfl) ?_)
      refine ev_callT (ac₁'.nB B 2) (args_cons (Nm.eval (ac₁'.local rfl rfl) (args_nil (rng1 (by omega) (by omega) fun τ₂ r k₂' src => ?_))))
      rw [Int.toNat_natCast] at src
      have ac₂' := ac₁'.go k₂'
      refine ⟨wd.length, _, shutHP wd t, fun i y => ∃ t', y = Value.int (i : Int) t', _, _, _, ac₂', src, by rw [sizeLine_eq]; omega, ?_, ?_⟩
      · intro C k v τ₃ E₃ hk hv k₃' hnm
        obtain ⟨tv, rfl⟩ := hv
        have kk : Kp τ₁ τ₃ := k₂'.trans k₃'
        have ac₃' := ac₁'.go kk
        have hl₃' := hl₁'.keeps kk.keep
        have hh₃' := hh₁'.keeps kk.keep
        have B₃ := B.keeps ac₃'.kp.keep
        refine ⟨one_if (wpAny_isTrue_BoolOp (wpAny_allTrue_And_cons (wpAny_isTrue_Compare1 (Subscript_ (Nm.eval (.cel rfl rfl (ac₃'.cellV "word" rfl hc)) (hnm.eval (item_il (x := wd.getD k 0) hl₃' (by omega) (by omega) ?_ fun t1 => ?_))))))), fun _ => hnm.eval ⟨⟨_, rfl⟩, Kp.refl _⟩⟩
        · rw [Int.toNat_natCast]; exact getD_some hk
        · refine Nm.eval (.cel rfl rfl (ac₃'.cell "t" _ rfl)) (PyProof.Rows.eq_int (wpAny_truthy_bool ?_))
          cases h1 : (wd.getD k 0 == t) with
          | false => rw [if_neg (by decide)]; exact ⟨by unfold shutHP; rw [h1]; rfl, Kp.refl _⟩
          | true =>
            rw [if_pos rfl]
            refine wpAny_allTrue_And_cons (wpAny_isTrue_Compare1 (Subscript_ (Nm.eval (.cel rfl rfl (ac₃'.cell "heights" _ rfl)) (wpAny_BinOp (hnm.eval (wpAny_Constant_int (PyProof.Rows.add_int (item_il (x := (scanH t 0 wd).getD (k + 1) 0) (hh₃'.keeps (((Kp.refl τ₃).toks _).toks _).keep) (by omega) (by omega) ?_ fun t2 => ?_))))))))
            · rw [show ((k : Int) + 1).toNat = k + 1 by omega]; exact getD_some (by omega)
            · have ac₄' := (ac₃'.toks (τ₃.toks + 1)).toks (τ₃.toks + 1 + 1)
              have kk₄ : Kp τ₃ { { τ₃ with toks := τ₃.toks + 1 } with toks := τ₃.toks + 1 + 1 } := ((Kp.refl τ₃).toks _).toks _
              have hh₄' := hh₃'.keeps kk₄.keep
              obtain ⟨vh, hvh, hih⟩ := hh₄'.isList
              have hnm₄ := hnm.keeps kk₄.keep
              refine ev_callB (hnm₄.nB (B₃.keeps kk₄.keep) 8) (args_cons (ev_cut (Nm.eval (.cel rfl rfl (ac₄'.cell "heights" _ rfl)) (wpAny_pure (wpAny_BinOp (hnm₄.eval (wpAny_Constant_int (PyProof.Rows.add_int ⟨H, vh, scanH t 0 wd, none, some ((k : Int) + 1), rfl, hvh, hih, by omega, .none, .int _ _, fun τ₅ Z k₅ hZn hZ => args_nil ?_⟩))))))))
              rw [cut_to (by omega), show ((k : Int) + 1).toNat = k + 1 by omega] at hZ
              refine min_il hR1.hh hZ (by simp; omega) fun τ₆ M tM k₆ hM1 hM2 => PyProof.Rows.lt_int (wpAny_truthy_bool ?_)
              have kk₆ : Kp τ₃ τ₆ := kk₄.trans ((((Kp.refl _).toks _).toks _).trans (k₅.trans k₆))
              rw [lt_min_all hM1 hM2]
              cases h2 : (((scanH t 0 wd).take (k + 1)).all fun a => decide ((scanH t 0 wd).getD (k + 1) 0 < a)) with
              | true => rw [if_pos rfl]; exact wpAny_allTrue_And_nil ⟨by unfold shutHP; rw [h1, h2]; rfl, kk₆⟩
              | false => rw [if_neg (by decide)]; exact ⟨by unfold shutHP; rw [h1, h2]; rfl, kk₆⟩
      · intro S ys τ₃ hSn ac₃' x₃' hpl hpr
        have hS : IL τ₃.heap S (posP wd.length (shutHP wd t)) := .of_plain hpl (ints_of_paired hpr)
        have hl₃' := (hl₁'.keeps k₂'.keep).stepL ac₂' x₃'
        have hh₃' := (hh₁'.keeps k₂'.keep).stepL ac₂' x₃'
        refine wpAny_execs_cons (ex_compL (s₀ := s) false (fun _ => _) hR1.hh (by with_unfolding_all rfl) ?_)
        refine ev_callT (ac₃'.nB B 2) (args_cons (Nm.eval (ac₃'.local rfl rfl) (args_nil (rng1 (by omega) (by omega) fun τ₄ r' k₄' src' => ?_))))
        rw [Int.toNat_natCast] at src'
        have ac₄' := ac₃'.go k₄'
        have hl₄' := hl₃'.keeps k₄'.keep
        have hh₄' := hh₃'.keeps k₄'.keep
        refine ⟨wd.length, _, waitHP wd t, fun i y => ∃ t', y = Value.int (i : Int) t', _, _, _, ac₄', src', by rw [sizeLine_eq]; omega, ?_, ?_⟩
        · intro C k v τ₅ E₅ hk hv k₅' hnm
          obtain ⟨tv, rfl⟩ := hv
          have ac₅' := ac₄'.go k₅'
          have hl₅' := hl₄'.keeps k₅'.keep
          have hh₅' := hh₄'.keeps k₅'.keep
          have B₅ := B.keeps ac₅'.kp.keep
          refine ⟨one_if (wpAny_isTrue_BoolOp (wpAny_allTrue_And_cons (wpAny_isTrue_Compare1 (Subscript_ (Nm.eval (.cel rfl rfl (ac₅'.cellV "word" rfl hc)) (hnm.eval (item_il (x := wd.getD k 0) hl₅' (by omega) (by omega) ?_ fun t1 => ?_))))))), fun _ => hnm.eval ⟨⟨_, rfl⟩, Kp.refl _⟩⟩
          · rw [Int.toNat_natCast]; exact getD_some hk
          · refine wpAny_BinOp (Nm.eval (.cel rfl rfl (ac₅'.cell "t" _ rfl)) (wpAny_Constant_int (PyProof.Rows.add_int (PyProof.Rows.eq_int (wpAny_truthy_bool ?_)))))
            have kk₆ : Kp τ₅ { { τ₅ with toks := τ₅.toks + 1 } with toks := τ₅.toks + 1 + 1 } := ((Kp.refl τ₅).toks _).toks _
            cases h1 : (wd.getD k 0 == t + 1) with
            | false => rw [if_neg (by decide)]; exact ⟨by unfold waitHP; rw [h1]; rfl, kk₆⟩
            | true =>
              rw [if_pos rfl]
              have ac₆' := ac₅'.go kk₆
              have hh₆' := hh₅'.keeps kk₆.keep
              have hnm₆ := hnm.keeps kk₆.keep
              refine wpAny_allTrue_And_cons (wpAny_isTrue_Compare1 (Subscript_ (Nm.eval (.cel rfl rfl (ac₆'.cell "heights" _ rfl)) (hnm₆.eval (item_il (x := (scanH t 0 wd).getD k 0) hh₆' (by omega) (by omega) ?_ fun t2 => ?_)))))
              · rw [Int.toNat_natCast]; exact getD_some (by omega)
              · obtain ⟨vh, hvh, hih⟩ := hh₆'.isList
                refine ev_callB (hnm₆.nB (B₅.keeps kk₆.keep) 8) (args_cons (ev_cut (Nm.eval (.cel rfl rfl (ac₆'.cell "heights" _ rfl)) (wpAny_BinOp (hnm₆.eval (wpAny_Constant_int (PyProof.Rows.add_int (wpAny_pure ⟨H, vh, scanH t 0 wd, some ((k : Int) + 1), none, rfl, hvh, hih, by omega, .int _ _, .none, fun τ₇ Z k₇ hZn hZ => args_nil ?_⟩))))))))
                rw [cut_from (by omega), show ((k : Int) + 1).toNat = k + 1 by omega] at hZ
                refine min_il hR1.hh hZ (by simp; omega) fun τ₈ M tM k₈ hM1 hM2 => PyProof.Rows.lt_int (wpAny_truthy_bool ?_)
                have kk₈ : Kp τ₅ τ₈ := kk₆.trans ((((Kp.refl _).toks _).toks _).trans (k₇.trans k₈))
                rw [lt_min_all hM1 hM2]
                cases h2 : (((scanH t 0 wd).drop (k + 1)).all fun a => decide ((scanH t 0 wd).getD k 0 < a)) with
                | true => rw [if_pos rfl]; exact wpAny_allTrue_And_nil ⟨by unfold waitHP; rw [h1, h2]; rfl, kk₈⟩
                | false => rw [if_neg (by decide)]; exact ⟨by unfold waitHP; rw [h1, h2]; rfl, kk₈⟩
        · intro W ys' τ₅ hWn ac₅' x₅' hpl' hpr'
          have hW : IL τ₅.heap W (posP wd.length (waitHP wd t)) := .of_plain hpl' (ints_of_paired hpr')
          have hS₅ := (hS.keeps k₄'.keep).stepL ac₄' x₅'
          have hl₅' := hl₄'.stepL ac₄' x₅'
          have B₅ := B.keeps ac₅'.kp.keep
          have hz1 := posP_len wd.length (shutHP wd t)
          have hz2 := posP_len wd.length (waitHP wd t)
          refine wpAny_execs_cons (wpAny_Assign_Name (ev_callF (ac₅'.nF B 9) (B₅.fn 9) (args_cons (Nm.eval (ac₅'.celled rfl rfl hc) (args_cons (Nm.eval (ac₅'.celled rfl rfl rfl) (args_cons (wpAny_BinOp (Nm.eval (ac₅'.local rfl rfl) (Nm.eval (ac₅'.local rfl rfl) (add_il hS₅ hW (by omega) fun τ₆ Z k₆ hZn hZ => ?_)))))))))))
          have ac₆' := ac₅'.go k₆
          refine args_cons (ev_callB (ac₆'.nB B 1) (args_cons (Nm.eval (ac₆'.local rfl rfl) (args_nil (len_il (hW.keeps k₆.keep) (by omega) fun tk2 n2 => args_nil ⟨k₆.trans ((Kp.refl τ₆).toks _), ?_⟩)))))
          have ac₇' := ac₆'.toks n2
          refine turned_call (B.keeps ac₇'.kp.keep) (hR1.le (by decide)) (hl₅'.keeps k₆.keep) hZ (by omega) (by simp; omega) (by omega) fun τ₈ Y k₈ hYn hY => ?_
          refine Act.stC (ac₇'.go k₈) rfl fun τ₉ ac₉' g₉ x₉ => ?_
          have gA : GrX [] σ { τ₆ with toks := n2 } := by
            intro b o hsb _ e
            have e1 : σ₁.heap.get? b = some o := g₁.solid b o hsb e
            have hbH : b ≠ H := by rintro rfl; have e2 : σ₁.heap.get? b = none := hHn; rw [e1] at e2; cases e2
            have e3 := hg' b o hsb (by simpa using hbH) (g₃.solid b o hsb (kk₂.keep b o e1))
            exact k₆.keep b o ((ac₄'.grL x₅').solid b o hsb (k₄'.keep b o ((ac₂'.grL x₃').solid b o hsb (k₂'.keep b o (g₁''.solid b o hsb e3)))))
          have gB : GrX [] σ τ₉ := gA.trans ((k₈.grX _).trans (g₉.toX _))
          refine wpAny_execs_nil ⟨⟨hstepP wd t, Y, _, _, ac₉', rfl, hY.gr g₉, ne_of_none hYn (gA I oI hsI (by simp) hoI), ?_, ?_⟩, gB⟩
          · unfold hstepP; rw [stepP_len]; exact hz
          · rw [List.take_add_one, hit, Option.toList_some, List.foldl_append, ← he]; rfl
  · rintro I σ hI ⟨wd, aw, m, cm, ac, hc, hl, hne, hz, he⟩
    refine wpAny_execs_cons (wpAny_Return_some (Nm.eval (ac.celled rfl rfl hc) (h _ _ ac.kp ?_)))
    rw [List.take_of_length_le (Nat.le_refl _)] at he
    rw [← he]; exact hl
end
end Mine
end partL4

section partB1
open PySem PySem.W PyProof.Rows
set_option maxRecDepth 100000
set_option autoImplicit false
namespace Mine
section
variable {prog : Program} {w : World} {A : Around} {E : Value → Shared → Prop} {s : Shared} {mg mb : Str → Option Value}

theorem buffer_call (B : Bs mg mb s.heap) (hR : Rm A 1) {b : Array UInt8} {t : Tok} {Q : Value → Shared → Prop} (h : ∀ s', Kp s s' → Q (.bytes b t) s') : wpAny (model prog w) A (call (.ref 49) [.bytes b t]) Q E s := by
  refine call_def (binds := [(("data" : Str), Value.bytes b t)]) hR.room B.lim (B.fn 3) (fun _ _ _ _ _ => .of_eq rfl) rfl ?_
  intro L cd s₁ hL a
  refine wpAny_execs_cons (wpAny_Assign_Name (ev_callT (a.nB B 3) (args_cons (Nm.eval (a.local rfl rfl) (args_nil (call_type_of (typeIs_bytes _ b t) (by decide) ?_))))))
  refine Act.stL a fun s₂ a₂ _ _ => ?_
  refine wpAny_execs_cons (wpAny_If (wpAny_isTrue_Compare1 (Nm.eval (a₂.local rfl rfl) (Nm.eval (a₂.nB B 4) (wpAny_is_self rfl (wpAny_truthy_bool ?_))))))
  rw [if_pos rfl]
  exact wpAny_execs_cons (wpAny_Return_some (Nm.eval (a₂.local rfl rfl) (h _ a₂.kp)))

theorem truth_call (B : Bs mg mb s.heap) (hR : Rm A 1) {Q : Value → Shared → Prop} (h : ∀ s', Kp s s' → Q (.bool false) s') : wpAny (model prog w) A (call (.ref 56) [.bool false]) Q E s := by
  refine call_def (binds := [(("x" : Str), Value.bool false)]) hR.room B.lim (B.fn 4) (fun _ _ _ _ _ => .of_eq rfl) rfl ?_
  intro L cd s₁ hL a
  refine wpAny_execs_cons (wpAny_Assign_Name (ev_callT (a.nB B 3) (args_cons (Nm.eval (a.local rfl rfl) (args_nil (call_type_of (PySem.typeIs_bool _ false) (by decide) ?_))))))
  refine Act.stL a fun s₂ a₂ _ _ => ?_
  refine wpAny_execs_cons (wpAny_If (wpAny_isTrue_BoolOp (wpAny_allTrue_Or_cons (wpAny_isTrue_Compare1 (Nm.eval (a₂.local rfl rfl) (wpAny_Constant_none (is_bool_none (wpAny_truthy_bool ?_))))))))
  rw [if_neg (by decide)]
  refine wpAny_allTrue_Or_cons (wpAny_isTrue_Compare1 (Nm.eval (a₂.local rfl rfl) (Nm.eval (a₂.nB B 5) (wpAny_is_self rfl (wpAny_truthy_bool ?_)))))
  rw [if_pos rfl, if_pos rfl]
  refine wpAny_execs_cons (wpAny_Return_some (wpAny_IfExp (wpAny_isTrue_value (Nm.eval (a₂.local rfl rfl) (wpAny_truthy_bool ?_)))))
  rw [if_neg (by decide)]
  exact wpAny_Constant_bool (h _ a₂.kp)

/-- bytes are gone through -/
theorem Src.bytes {b : Array UInt8} {t : Tok} : Src prog w s (.bytes b t) b.size (fun i v => ∃ c u, b[i]? = some c ∧ v = .int (c.toNat : Int) u) [] := by
  intro A Q E hh h
  refine KBw.pyIter_bytes ?_
  refine h s.heap.objs.size [s.heap.objs.size] _ _ ((Kp.refl s).push _) (Heap.get?_none_of_le (Nat.le_refl _)) ?_ (fun b hb => by simpa using hb) ?_ (fun A' hA => KBw.walks hA _ b t) ⟨_, Heap.get?_push_size _ rfl, rfl, rfl⟩
  · intro b hb
    show b < (s.heap.push _).objs.size
    rw [Heap.size_push, List.mem_singleton.mp hb]
    exact Nat.lt_succ_self _
  · rintro i h' ⟨o1, ho1, _, hd1⟩ b hb
    rw [List.mem_singleton.mp hb]
    exact ⟨o1, ⟨(fun _ _ e => by rw [hd1] at e; cases e), (fun _ e => by rw [hd1] at e; cases e)⟩, ho1⟩

theorem bytes_il {a : Addr} {ns : List Int} {Q : Value → Shared → Prop} (hh : A.handled = none) (hl : IL s.heap a ns) (hr : ∀ n ∈ ns, 0 ≤ n ∧ n < 256) (hz : ns.length ≤ 1000) (h : ∀ s' t, Kp s s' → Q (.bytes (byteArr ns) t) s') :
    wpAny (model prog w) A (call (.type "bytes") [.ref a]) Q E s := by
  obtain ⟨vs, hv, hi⟩ := hl.isList
  exact call_bytes_ints hv hi hr (by rw [sizeLine_eq, hi.length]; omega) hh fun h' t k hk => h _ _ (Kp.heap hk)
end
end Mine
end partB1

section partB2
open PySem PySem.W PyProof.Rows
set_option maxRecDepth 100000
set_option autoImplicit false
namespace Mine

theorem bitOr_low {x : Int} {b : Int} (hx : 0 ≤ x) (h0 : 0 ≤ b) (h1 : b < 256) : Builtin.bitOr (x * 256) b = x * 256 + b := by
  unfold Builtin.bitOr
  have e1 : Builtin.bitNot (x * 256) = -(x * 256) - 1 := rfl
  have e2 : Builtin.bitNot b = -b - 1 := rfl
  have e3 : ∀ y, Builtin.bitNot (Builtin.bitNot y) = y := fun y => by show -(-y - 1) - 1 = y; omega
  unfold Builtin.bitAnd
  rw [decide_eq_false (show ¬ 0 ≤ Builtin.bitNot (x * 256) by rw [e1]; omega), decide_eq_false (show ¬ 0 ≤ Builtin.bitNot b by rw [e2]; omega)]
  simp only [e3]
  obtain ⟨n, rfl⟩ := Int.eq_ofNat_of_zero_le hx
  obtain ⟨k, rfl⟩ := Int.eq_ofNat_of_zero_le h0
  have : ((n : Int) * 256).toNat = n <<< 8 := by rw [Nat.shiftLeft_eq]; omega
  rw [this, Int.toNat_natCast, ← Nat.shiftLeft_add_eq_or_of_lt (by omega : k < 2 ^ 8), Nat.shiftLeft_eq]
  push_cast; omega

noncomputable def b64At (k : Int) : Int := (KBw.bInts b64Bytes).getD k.toNat 0
theorem b64At_in (k : Int) : 0 ≤ b64At k ∧ b64At k < 256 := KBw.getD_in fun _ h => KBw.ints_in h
noncomputable def stB (st : Int × Nat × List Int) (b : Int) : Int × Nat × List Int :=
  ((st.1 * 256 + b) % 65536, (st.2.1 + 8) % 6, st.2.2 ++ (List.range ((st.2.1 + 8) / 6)).map fun q => b64At (((st.1 * 256 + b) % 65536).fdiv (2 ^ (st.2.1 + 8 - 6 * q - 6)) % 64))
theorem stB_inv {st : Int × Nat × List Int} {b : Int} : 0 ≤ (stB st b).1 ∧ (stB st b).1 < 65536 ∧ (stB st b).2.1 < 6 := by
  refine ⟨?_, ?_, ?_⟩ <;> simp only [stB] <;> omega
theorem fold_inv : ∀ (l : List Int) (st : Int × Nat × List Int), 0 ≤ st.1 ∧ st.1 < 65536 ∧ st.2.1 < 6 ∧ (∀ n ∈ st.2.2, 0 ≤ n ∧ n < 256) →
    0 ≤ (l.foldl stB st).1 ∧ (l.foldl stB st).1 < 65536 ∧ (l.foldl stB st).2.1 < 6 ∧ (∀ n ∈ (l.foldl stB st).2.2, 0 ≤ n ∧ n < 256) ∧ (l.foldl stB st).2.2.length ≤ st.2.2.length + 2 * l.length
  | [], st, h => ⟨h.1, h.2.1, h.2.2.1, h.2.2.2, Nat.le_refl _⟩
  | b :: r, st, h => by
    have h1 := @stB_inv st b
    have hz : (stB st b).2.2.length ≤ st.2.2.length + 2 := by
      simp only [stB, List.length_append, List.length_map, List.length_range]
      have := h.2.2.1; omega
    obtain ⟨a1, a2, a3, a4, a5⟩ := fold_inv r (stB st b) ⟨h1.1, h1.2.1, h1.2.2, fun n hn => by
      simp only [stB, List.mem_append, List.mem_map] at hn
      rcases hn with hn | ⟨q, _, rfl⟩
      · exact h.2.2.2 n hn
      · exact b64At_in _⟩
    exact ⟨a1, a2, a3, a4, by simp only [List.foldl_cons, List.length_cons]; omega⟩
noncomputable abbrev runB (l : List Int) : Int × Nat × List Int := l.foldl stB (0, 0, [])

noncomputable abbrev eB (L : Addr) (cd : Value) : Env := envF "b2a_base64" 9 L 64 cd
section
variable {prog : Program} {w : World} {A : Around} {E : Value → Shared → Prop} {s : Shared} {mg mb : Str → Option Value}

theorem b2a_call (B : Bs mg mb s.heap) (hR : Rm A 2) {b : Array UInt8} {t : Tok} {Q : Value → Shared → Prop} (hz : b.size ≤ 100) (hlb : (runB (KBw.bInts b)).2.1 = 0)
    (h : ∀ s' t', Kp s s' → Q (.bytes (byteArr (runB (KBw.bInts b)).2.2) t') s') :
    wpAny (model prog w) A (call (.ref 64) [.bytes b t] [("newline", .bool false)]) Q E s := by
  refine call_def (binds := [(("data" : Str), Value.bytes b t), (("newline" : Str), .bool false)]) hR.room B.lim (B.fn 5) (fun _ _ _ _ _ => .of_eq rfl) rfl ?_
  intro L cd s₁ hL a
  have hR1 := hR.deeper (eB L cd)
  have B₁ := B.keeps a.kp.keep
  obtain ⟨t64, hb64⟩ := B.b64
  refine wpAny_execs_cons (wpAny_Assign_Name (ev_callF (a.nF B 3) (B₁.fn 3) (args_cons (Nm.eval (a.local rfl rfl) (args_nil ⟨Kp.refl _, buffer_call B₁ (hR1.le (by decide)) fun s₂ k₂ => ?_⟩)))))
  refine Act.stL (a.go k₂) fun s₃ a₃ _ _ => ?_
  have B₃ := B.keeps a₃.kp.keep
  refine wpAny_execs_cons (wpAny_Assign_Name (ev_callF (a₃.nF B 4) (B₃.fn 4) (args_cons (Nm.eval (a₃.local rfl rfl) (args_nil ⟨Kp.refl _, truth_call B₃ (hR1.le (by decide)) fun s₄ k₄ => ?_⟩)))))
  refine Act.stL (a₃.go k₄) fun s₅ a₅ _ _ => ?_
  refine wpAny_execs_cons (wpAny_Assign_Name (ev_list (wpAny_items_nil ⟨[], .nil, Nat.zero_le _, fun s₆ D k₆ hDn hD => ?_⟩)))
  refine Act.stL (a₅.go k₆) fun s₇ a₇ g₇ _ => ?_
  refine wpAny_execs_cons (wpAny_Assign_Name (wpAny_Constant_int (Act.stL (a₇.toks _) fun s₈ a₈ g₈ _ => ?_)))
  refine wpAny_execs_cons (wpAny_Assign_Name (wpAny_Constant_int (Act.stL (a₈.toks _) fun s₉ a₉ g₉ _ => ?_)))
  have hD₉ : IL s₉.heap D [] := (((hD.gr g₇).keeps ((Kp.refl s₇).toks _).keep).gr g₈ |>.keeps ((Kp.refl s₈).toks _).keep).gr g₉
  refine wpAny_execs_cons (ex_for hR1.hh (Nm.eval (a₉.local rfl rfl) ⟨b.size, _, [], [D], fun I i σ => ∃ m cm st u1 u2, Act s σ (eB L cd) m cm ∧ st = runB ((KBw.bInts b).take i) ∧ m "leftchar" = some (.int st.1 u1) ∧ m "leftbits" = some (.int (st.2.1 : Int) u2) ∧ m "out" = some (.ref D) ∧ m "newline" = some (.bool false) ∧ IL σ.heap D st.2.2 ∧ D ≠ I,
      Src.bytes, (fun x hx => by rw [List.mem_singleton.mp hx]; exact ⟨by simp, let ⟨vs, n, h1, _⟩ := hD₉; ⟨_, h1⟩⟩), ?_, ?_, ?_, ?_⟩))
  · intro I σ hI kσ
    exact ⟨_, _, _, _, _, a₉.go kσ, rfl, rfl, rfl, rfl, rfl, hD₉.keeps kσ.keep, hD₉.ne hI⟩
  · rintro I i σ σ' hI ⟨m, cm, st, u1, u2, ac, rfl, h1, h2, h3, h4, hl, hne⟩ k
    exact ⟨m, cm, _, u1, u2, a₉.stepX hI ac k, rfl, h1, h2, h3, h4, hl.keepX k.keep hne, hne⟩
  · rintro I i v σ E' hI ⟨oI, hsI, hoI⟩ hi ⟨c, uc, hc, rfl⟩ ⟨m, cm, st, u1, u2, ac, hst, h1, h2, h3, h4, hl, hne⟩
    obtain ⟨i1, i2, i3, i4, i5⟩ := fold_inv ((KBw.bInts b).take i) (0, 0, []) ⟨by decide, by decide, by decide, by simp⟩
    rw [show List.foldl stB (0, 0, []) (List.take i (KBw.bInts b)) = st from hst.symm] at i1 i2 i3 i4 i5
    have i5' : st.2.2.length ≤ 200 := by
      have : (List.take i (KBw.bInts b)).length ≤ 100 := by rw [List.length_take, KBw.ints_length]; omega
      simp at i5; omega
    have hc8 : (c.toNat : Int) < 256 := by have := c.toNat_lt; omega
    refine wpAny_assign_Name (Act.stL ac fun σ₁ ac₁ g₁ _ => ?_)
    refine wpAny_execs_cons (wpAny_Assign_Name (wpAny_BinOp (wpAny_BinOp (wpAny_BinOp (Nm.eval (ac₁.local rfl h1) (wpAny_Constant_int (lshift_int_small (by decide) (by decide) (by omega) (Nm.eval (((ac₁.toks (σ₁.toks + 1)).toks (σ₁.toks + 1 + 1)).local rfl rfl) (PyProof.Rows.or_int (wpAny_Constant_int (PyProof.Rows.and_int ?_)))))))))))
    rw [show (2 : Int) ^ Int.toNat 8 = 256 from rfl, bitOr_low i1 (by omega) hc8, bitAnd_m16]
    refine Act.stL (((((ac₁.toks _).toks _).toks _).toks _).toks _) fun σ₂ ac₂ g₂ _ => ?_
    refine wpAny_execs_cons (wpAny_Assign_Name (wpAny_BinOp (Nm.eval (ac₂.local rfl h2) (wpAny_Constant_int (PyProof.Rows.add_int (Act.stL ((ac₂.toks _).toks _) fun σ₃ ac₃ g₃ _ => ?_))))))
    have hl₃ : IL σ₃.heap D st.2.2 := by
      have e1 := hl.gr g₁
      have e2 : IL σ₂.heap D st.2.2 := IL.gr (s := { { { { { σ₁ with toks := σ₁.toks + 1 } with toks := σ₁.toks + 1 + 1 } with toks := σ₁.toks + 1 + 1 + 1 } with toks := σ₁.toks + 1 + 1 + 1 + 1 } with toks := σ₁.toks + 1 + 1 + 1 + 1 + 1 }) e1 g₂
      exact IL.gr (s := { { σ₂ with toks := σ₂.toks + 1 } with toks := σ₂.toks + 1 + 1 }) e2 g₃
    generalize hlc : (st.1 * 256 + (c.toNat : Int)) % 65536 = lc at *
    have hlc0 : 0 ≤ lc ∧ lc < 65536 := by omega
    have gx₃ : GrX [D] σ σ₃ := ((g₁.toX _).trans (GrX.trans (b := { { { { { σ₁ with toks := σ₁.toks + 1 } with toks := σ₁.toks + 1 + 1 } with toks := σ₁.toks + 1 + 1 + 1 } with toks := σ₁.toks + 1 + 1 + 1 + 1 } with toks := σ₁.toks + 1 + 1 + 1 + 1 + 1 }) (((Kp.refl σ₁).toks _).grX _) (g₂.toX _))).trans (GrX.trans (b := { { σ₂ with toks := σ₂.toks + 1 } with toks := σ₂.toks + 1 + 1 }) (((Kp.refl σ₂).toks _).grX _) (g₃.toX _))
    refine wpAny_execs_cons (wpAny_While ?_)
    refine codeAny_whileLoop (fun k τ => ∃ q m cm u1 u2, k = (st.2.1 + 8) / 6 - q ∧ q ≤ (st.2.1 + 8) / 6 ∧ Act s τ (eB L cd) m cm ∧ m "leftchar" = some (.int lc u1) ∧ m "leftbits" = some (.int (st.2.1 + 8 - 6 * q : Int) u2) ∧ m "out" = some (.ref D) ∧ m "newline" = some (.bool false) ∧
        IL τ.heap D (st.2.2 ++ (List.range q).map fun q => b64At (lc.fdiv (2 ^ (st.2.1 + 8 - 6 * q - 6)) % 64)) ∧ GrX [D] σ τ)
      ?_ ((st.2.1 + 8) / 6) ⟨0, _, _, _, _, rfl, Nat.zero_le _, ac₃, rfl, by exact congrArg some (congrArg (Value.int · _) (by omega)), h3, h4, by simpa using hl₃, gx₃⟩
    rintro k τ ⟨q, m', cm', v1, v2, rfl, hq, at', k1, k2, k3, k4, hl', gx'⟩
    refine wpAny_isTrue_Compare1 (Nm.eval (at'.local rfl k2) (wpAny_Constant_int (PyProof.Rows.ge_int (wpAny_truthy_bool ?_))))
    by_cases hge : q < (st.2.1 + 8) / 6
    · rw [decide_eq_true (by omega), if_pos rfl]
      have at1 := at'.toks (τ.toks + 1)
      have at2 := (at1.toks (τ.toks + 1 + 1)).toks (τ.toks + 1 + 1 + 1)
      refine wpAny_execs_cons (ex_append (Nm.eval (at1.local rfl k3) ⟨D, _, rfl, hl'.keeps ((Kp.refl τ).toks _).keep, ?_⟩))
      refine Subscript_ (Nm.eval (.glo rfl (B.keeps at1.kp.keep).gl hb64) (wpAny_BinOp (wpAny_BinOp (Nm.eval (at1.local rfl k1) (wpAny_BinOp (Nm.eval (at1.local rfl k2) (wpAny_Constant_int (PyProof.Rows.sub_int (PyProof.Rows.rshift_int (by omega) (wpAny_Constant_int (PyProof.Rows.and_int ?_)))))))))))
      rw [bitAnd_m6, show ((st.2.1 : Int) + 8 - 6 * q - 6).toNat = st.2.1 + 8 - 6 * q - 6 by omega]
      have hlt := Int.emod_lt_of_pos (lc.fdiv (2 ^ (st.2.1 + 8 - 6 * q - 6))) (by decide : (0 : Int) < 64)
      have hge0 := Int.emod_nonneg (lc.fdiv (2 ^ (st.2.1 + 8 - 6 * q - 6))) (by decide : (64 : Int) ≠ 0)
      refine KBw.item_K (ks := KBw.bInts b64Bytes) rfl (by decide) hge0 (by exact hlt) fun t' k' _ _ => ?_
      refine ⟨_, _, rfl, hl'.keeps ((Kp.refl τ).toks _).keep, by simp; omega, fun τ₁ kx hl₁ => ?_⟩
      have at3 := a₅.stepX hDn ((at'.toks k')) kx
      refine wpAny_execs_cons (wpAny_Assign_Name (wpAny_BinOp (Nm.eval (at3.local rfl k2) (wpAny_Constant_int (PyProof.Rows.sub_int (Act.stL ((at3.toks _).toks _) fun τ₂ at4 g4 _ => ?_))))))
      refine wpAny_execs_nil ⟨(st.2.1 + 8) / 6 - (q + 1), by omega, q + 1, _, _, v1, τ₁.toks + 1, rfl, hge, at4, k1, ?_, k3, k4, ?_, ?_⟩
      · exact congrArg some (congrArg (Value.int · _) (by omega))
      · rw [List.range_succ, List.map_append, ← List.append_assoc]
        exact IL.gr (s := { { τ₁ with toks := τ₁.toks + 1 } with toks := τ₁.toks + 1 + 1 }) hl₁ g4
      · refine gx'.trans (GrX.trans (b := τ₁) (fun x o hs hx e => kx.keep x o (by simpa using hx) e) (GrX.trans (b := { { τ₁ with toks := τ₁.toks + 1 } with toks := τ₁.toks + 1 + 1 }) (((Kp.refl τ₁).toks _).grX _) (g4.toX _)))
    · rw [decide_eq_false (by omega), if_neg (by decide)]
      have hqq : q = (st.2.1 + 8) / 6 := by omega
      refine wpAny_execs_nil (wpAny_execs_nil ⟨⟨m', cm', stB st c.toNat, v1, v2, at'.toks _, ?_, ?_, ?_, k3, k4, ?_, hne⟩, gx'.trans (((Kp.refl τ).toks _).grX _)⟩)
      · show stB st c.toNat = ((KBw.bInts b).take (i + 1)).foldl stB (0, 0, [])
        rw [List.take_add_one, KBw.ints_get hc, Option.toList_some, List.foldl_append, hst]; rfl
      · rw [k1]; simp only [stB, hlc]
      · rw [k2]; simp only [stB, hqq]; congr 2; omega
      · subst hqq; rw [← hlc] at hl'; exact hl'
  · rintro I σ hI ⟨m, cm, st, u1, u2, ac, hst, h1, h2, h3, h4, hl, hne⟩
    rw [List.take_of_length_le (by rw [KBw.ints_length]; exact Nat.le_refl _)] at hst
    have hlb0 : st.2.1 = 0 := by rw [hst]; exact hlb
    obtain ⟨i1, i2, i3, i4, i5⟩ := fold_inv (KBw.bInts b) (0, 0, []) ⟨by decide, by decide, by decide, by simp⟩
    rw [show List.foldl stB (0, 0, []) (KBw.bInts b) = st from hst.symm] at i1 i2 i3 i4 i5
    rw [hlb0] at h2
    refine wpAny_execs_cons (wpAny_If (wpAny_isTrue_Compare1 (Nm.eval (ac.local rfl h2) (wpAny_Constant_int (PyProof.Rows.eq_int (wpAny_truthy_bool ?_))))))
    rw [if_neg (by decide)]
    refine wpAny_execs_cons (wpAny_If (wpAny_isTrue_Compare1 (Nm.eval ((ac.toks _).local rfl h2) (wpAny_Constant_int (PyProof.Rows.eq_int (wpAny_truthy_bool ?_))))))
    rw [if_neg (by decide)]
    refine wpAny_execs_nil (wpAny_execs_nil ?_)
    have ac2 := (ac.toks (σ.toks + 1)).toks (σ.toks + 1 + 1)
    refine wpAny_execs_cons (wpAny_If (wpAny_isTrue_value (Nm.eval (ac2.local rfl h4) (wpAny_truthy_bool ?_))))
    rw [if_neg (by decide)]
    refine wpAny_execs_nil ?_
    refine wpAny_execs_cons (wpAny_Return_some (ev_callT (ac2.nB B 4) (args_cons (Nm.eval (ac2.local rfl h3) (args_nil (bytes_il hR1.hh (hl.keeps ((Kp.refl σ).toks _).keep) i4 (by have := KBw.ints_length b; simp at i5; omega) fun s' t' k' => ?_))))))
    rw [hst]
    exact h _ _ (ac2.kp.trans k')
end
end Mine
end partB2

section partMt
open PySem PySem.W PyProof.Rows
set_option maxRecDepth 100000
set_option autoImplicit false
namespace Mine
section
variable {M : Model} {A : Around} {E : Value → Shared → Prop} {s : Shared} {env : Env}
/-- a method's call on a name -/
theorem ev_meth {o : Expr} {name : Str} {apos pos : Pos} {args : List Expr} {Q : Value → Shared → Prop}
    (h : wpAny M A (eval o env) (fun ov s₁ => wpAny M A (getMethod ov name (do return (← importBound o env).getD true)) (fun fx s₂ => wpAny M A (callWith pos fx.1 fx.2 (backTo pos (starEach args env)) []) Q E s₂) E s₁) E s)
    (hf : methodCallForm args.length (backTo pos (starEach args env)) [] = true := by rfl) (hp : (apos.endLine == pos.line) = true := by rfl) (ha : attributeBase o name env (eval o env) = eval o env := by rfl) :
    wpAny M A (eval (.Call (.Attribute o name apos) args [] pos) env) Q E s := by
  rw [arm_eval_Call]
  refine wpAny_bind ?_
  rw [ha]
  refine wpAny_mono h (fun ov s₁ h₁ => wpAny_bind (wpAny_standAt ?_)) fun _ _ e => e
  show wpAny M A (methodCall o name apos pos env ov args.length (backTo pos (starEach args env)) []) _ _ _
  unfold methodCall calleeOf methodCallPos
  rw [hf, hp]
  refine wpAny_bind (wpAny_holding (wpAny_mono h₁ (fun fx s₂ h₂ => ?_) fun _ _ e => e))
  exact wpAny_bind (wpAny_pure h₂)
end
end Mine
end partMt

section partB3
open PySem PySem.W PyProof.Rows
set_option maxRecDepth 100000
set_option autoImplicit false
namespace Mine
theorem mt_check (a b : Value) : checkBuiltinCall "bytes.maketrans" ⟨[a, b], []⟩ = pure () := by kernel_rfl
theorem mt_plain : plainId "bytes.maketrans" = true := by decide +kernel
theorem mt_entry : entryFor table "bytes.maketrans" = some Builtin.«bytes.maketrans» := entryFor_of_tree (by kernel_rfl)
theorem tr_slot : Slot "bytes" "translate" "bytes.translate" :=
  .of (owner := "bytes") (n := "translate") (by rw [typeLookup_type, builtinLookup_eq_fast]; kernel_rfl) (by decide +kernel) (by decide +kernel) (by decide +kernel)
    (by first | exact .inl (by decide +kernel) | exact .inr (by decide +kernel)) (by rw [isSubtype_type]; kernel_rfl)
theorem tr_type : typeOf (.builtin "bytes.translate") = pure (.type "method_descriptor") := by show builtinType _ = _; rw [builtinType_eq_fast]; kernel_rfl
theorem tr_entry : entryFor table "bytes.translate" = some Builtin.«bytes.translate» := entryFor_of_tree (by kernel_rfl)
theorem tr_args (a b : Value) : argsOk "bytes.translate" ⟨[a, b], []⟩ := by unfold argsOk; kernel_rfl
theorem mt_find : findCls [] (.type "bytes") (.type "type") "maketrans" = some (.val (.builtin "bytes.maketrans")) := by kernel_rfl
theorem mt_hand : handedIn (.builtin "bytes.maketrans") = true := by decide +kernel
theorem bt_type : typeOf (.type "bytes") = pure (.type "type") := by rfl
theorem bt_stub : Manifest.isStub "bytes" = false := by decide +kernel

noncomputable def trTab : Array UInt8 := ((([43, 47] : List UInt8).toArray.toList.zip ([40, 41] : List UInt8).toArray.toList).foldl (fun t (f, x) => t.setIfInBounds f.toNat x) ((Array.range 256).map (·.toUInt8)))
theorem trTab_size : trTab.size = 256 := by decide +kernel

section
variable {prog : Program} {w : World} {A : Around} {E : Value → Shared → Prop} {s : Shared}
theorem mt_call {t u : Tok} {Q : Value → Shared → Prop} (h : ∀ t' k, Q (.bytes trTab t') { s with toks := k }) : wpAny (model prog w) A (call (.builtin "bytes.maketrans") [.bytes ([43, 47] : List UInt8).toArray t, .bytes ([40, 41] : List UInt8).toArray u]) Q E s := by
  refine wpAny_call (codeAny_call_builtin mt_plain mt_entry ?_)
  rw [mt_check]
  refine wpAny_pure ?_
  show wpAny _ _ (Builtin.Bytes.bytesLike "bytes.maketrans" (.bytes ([43, 47] : List UInt8).toArray t) >>= _) _ _ s
  refine wpAny_bind ?_
  unfold Builtin.Bytes.bytesLike
  refine wpAny_bind (wpAny_of_eq KBy.buffer_eq (wpAny_pure ?_))
  refine wpAny_bind (wpAny_bind (wpAny_of_eq (a := some ([40, 41] : List UInt8).toArray) KBy.buffer_eq (wpAny_pure ?_)))
  refine wpAny_bind (wpAny_mkBytes ?_ (by show trTab.size ≤ sizeLine; rw [trTab_size, sizeLine_eq]; decide))
  exact wpAny_pure (h _ _)

theorem tr_call {b : Array UInt8} {t u : Tok} {Q : Value → Shared → Prop} (hz : b.size ≤ 1000) (h : ∀ t' k, Q (.bytes (b.map fun c => trTab.getD c.toNat c) t') { s with toks := k }) : wpAny (model prog w) A (call (.builtin "bytes.translate") [.bytes b t, .bytes trTab u]) Q E s := by
  refine wpAny_call_entry tr_slot (typeIs_bytes _ b t) tr_entry ?_ (tr_args _ _)
  unfold Builtin.«bytes.translate» Builtin.Bytes.translateM
  dsimp only
  rw [if_neg (show ¬ (([Value.bytes trTab u].length + ([] : List (Str × Value)).length) > 2) from by simp), if_neg (by simp), if_neg (show ¬ ((Value.bytes trTab u == Value.none) = true) from Bool.false_ne_true)]
  refine wpAny_bind ?_
  unfold Builtin.Bytes.bytesLike
  refine wpAny_bind (wpAny_of_eq KBy.buffer_eq (wpAny_pure ?_))
  rw [if_neg (by rw [trTab_size]; decide)]
  refine wpAny_bind (wpAny_pure ?_)
  refine wpAny_bind (wpAny_pure ?_)
  refine wpAny_bind (wpAny_of_eq (a := b) rfl ?_)
  have e : (b.filter (fun x => !(#[] : Array UInt8).contains x)) = b := by simp
  rw [e]
  by_cases hs : (b.map (fun c => trTab.getD c.toNat c) == b) = true
  · rw [if_pos hs]
    refine wpAny_bind (wpAny_rule ?_)
    refine wpAny_bind (wpAny_of_eq (a := Value.bytes b t) rfl ?_)
    have e2 := eq_of_beq hs
    refine wpAny_pure ⟨_, rfl, ?_⟩
    have := h t s.toks
    rw [e2] at this
    exact this
  · rw [if_neg hs]
    refine wpAny_bind (wpAny_mkBytes ?_ (by rw [Array.size_map, sizeLine_eq]; omega))
    exact wpAny_pure ⟨_, rfl, h _ _⟩
end

section
variable {prog : Program} {w : World} {A : Around} {E : Value → Shared → Prop} {s : Shared}
theorem tr_method {M : Model} {b : Array UInt8} {t : Tok} {pl : Sem Bool} {Q : Value × List Value → Shared → Prop} (h : Q (.builtin "bytes.translate", [.bytes b t]) s) : wpAny M A (getMethod (.bytes b t) "translate" pl) Q E s := by
  with_reducible exact KBd.method_of (.bytes b t) (typeIs_bytes _ _ _) tr_slot tr_type (fun _ e => by cases e) h
theorem mt_method {s₀ : Shared} {env : Env} {m cm : Str → Option Value} {pl : Sem Bool} {Q : Value × List Value → Shared → Prop} (a : Act s₀ s env m cm) (h : Q (.builtin "bytes.maketrans", []) { s with toks := s.toks + 1 }) : wpAny (model prog w) A (getMethod (.type "bytes") "maketrans" pl) Q E s := by
  have X : Frag.In [] s₀.heap := fun _ _ e => by cases e
  with_reducible exact method_type (K := []) (h₀ := s₀.heap) (L := env.locals) ⟨a.ns, a.kp.keep, a.lo⟩ X bt_type bt_stub mt_find mt_hand h
end
noncomputable abbrev e64 (L : Addr) (cd : Value) : Env := envF "b64encode" 11 L 72 cd
section
variable {prog : Program} {w : World} {A : Around} {E : Value → Shared → Prop} {s : Shared} {mg mb : Str → Option Value}

theorem b64_call (B : Bs mg mb s.heap) (hR : Rm A 3) {b : Array UInt8} {t u : Tok} {Q : Value → Shared → Prop} (hz : b.size ≤ 100) (hlb : (runB (KBw.bInts b)).2.1 = 0)
    (h : ∀ s' t', Kp s s' → Q (.bytes ((byteArr (runB (KBw.bInts b)).2.2).map fun c => trTab.getD c.toNat c) t') s') :
    wpAny (model prog w) A (call (.ref 72) [.bytes b t, .bytes ([40, 41] : List UInt8).toArray u]) Q E s := by
  refine call_def (binds := [(("s" : Str), Value.bytes b t), (("altchars" : Str), .bytes ([40, 41] : List UInt8).toArray u)]) hR.room B.lim (B.fn 6) (fun _ _ _ _ _ => .of_defaults rfl B.d65 rfl rfl rfl) rfl ?_
  intro L cd s₁ hL a
  have hR1 := hR.deeper (e64 L cd)
  have B₁ := B.keeps a.kp.keep
  obtain ⟨o, doc, pm, an, cdv, ct, ho, hdat, _⟩ := B₁.fn 5
  refine wpAny_execs_cons (wpAny_Assign_Name (wpAny_Call_Name_kw (Nm.eval (a.nF B 5) (callWith_function_kw (o := o) (fd := fnOf "b2a_base64" "b2a_base64" (fnA 9) (fnB 9) (fnS 9) .none (.ref 57) doc pm an cdv ct) (evalArgs_kw rfl (args_cons (Nm.eval (a.local rfl rfl) (args_nil (wpAny_evalAll_cons (wpAny_bind (wpAny_Constant_bool ?_)))))))))))
  refine wpAny_bind (wpAny_standAt ?_)
  refine wpAny_pure ?_
  refine wpAny_evalAll_nil ⟨⟨ho, hdat⟩, ?_⟩
  refine b2a_call B₁ (hR1.le (by decide)) hz hlb fun s₂ t₂ k₂ => ?_
  have hout5 : (runB (KBw.bInts b)).2.2.length ≤ 200 := by
    obtain ⟨_, _, _, _, i5⟩ := fold_inv (KBw.bInts b) (0, 0, []) ⟨by decide, by decide, by decide, by simp⟩
    have := KBw.ints_length b
    simp at i5; show (List.foldl stB (0, 0, []) (KBw.bInts b)).2.2.length ≤ 200; omega
  generalize hout : (runB (KBw.bInts b)).2.2 = out at *
  refine Act.stL (a.go k₂) fun s₃ a₃ _ _ => ?_
  refine wpAny_execs_cons (wpAny_If (wpAny_isTrue_Compare1 (Nm.eval (a₃.local rfl rfl) (wpAny_Constant_none (wpAny_isNot_other rfl (by intro e; cases e) (wpAny_truthy_bool ?_))))))
  rw [if_pos rfl]
  refine wpAny_execs_cons (wpAny_Assert_holds (wpAny_isTrue_Compare1 (ev_callB (a₃.nB B 1) (args_cons (Nm.eval (a₃.local rfl rfl) (args_nil (KBw.len_K rfl (by decide) (wpAny_Constant_int (PyProof.Rows.eq_int (wpAny_truthy_bool ?_))))))))))
  refine ⟨rfl, ?_⟩
  have a₄ := (a₃.toks (s₃.toks + 1 + 1)).toks (s₃.toks + 1 + 1 + 1)
  refine wpAny_execs_cons (wpAny_Return_some (ev_meth (Nm.eval (a₄.local rfl rfl) (tr_method ?_))))
  refine callWith_method1 (args_cons (ev_meth (Nm.eval (a₄.nB B 4) (mt_method a₄ ?_))))
  have a₅ := (a₄.toks (s₃.toks + 1 + 1 + 1 + 1)).toks (s₃.toks + 1 + 1 + 1 + 1 + 1)
  refine callWith_method1 (args_cons (Constant_bytes (args_cons (Nm.eval (a₅.local rfl rfl) (args_nil (mt_call fun t' k => args_nil (tr_call ?_ fun t'' k' => ?_)))))))
  · rw [byteArr_size]; exact Nat.le_trans hout5 (by decide)
  · exact h _ _ ((a₅.kp.toks _).toks _)
end
end Mine
end partB3

section partB4
open PySem PySem.W PyProof.Rows
set_option maxRecDepth 100000
set_option autoImplicit false
namespace Mine

noncomputable def fillP (ns : List Int) : List Int := ns ++ (List.replicate ((-(ns.length : Int)).fmod 4).toNat [(0 : Int)]).flatten
theorem fill_len (ns : List Int) : ∃ k, (fillP ns).length = 4 * k ∧ 4 * k < ns.length + 4 := by
  have e : (fillP ns).length = ns.length + ((-(ns.length : Int)).fmod 4).toNat := by
    unfold fillP; rw [List.length_append, KM.len_rep]; simp
  rw [Int.fmod_eq_emod_of_nonneg _ (by decide)] at e
  exact ⟨(fillP ns).length / 4, by omega, by omega⟩
theorem fill_in {ns : List Int} (hr : ∀ x ∈ ns, 0 ≤ x ∧ x < 64) : ∀ x ∈ fillP ns, 0 ≤ x ∧ x < 64 := by
  intro x hx
  unfold fillP at hx
  rcases List.mem_append.mp hx with h | h
  · exact hr x h
  · obtain ⟨l, hl, h⟩ := List.mem_flatten.mp h
    rw [List.eq_of_mem_replicate hl, List.mem_singleton] at h
    rw [h]; decide
noncomputable def triP (a b c d : Int) : List Int := [(a * 262144 + b * 4096 + c * 64 + d) / 65536, (a * 262144 + b * 4096 + c * 64 + d) / 256 % 256, (a * 262144 + b * 4096 + c * 64 + d) % 256]
noncomputable def octP (f : List Int) (i : Nat) : List Int := (List.range i).flatMap fun g => triP (f.getD (4 * g) 0) (f.getD (4 * g + 1) 0) (f.getD (4 * g + 2) 0) (f.getD (4 * g + 3) 0)

theorem stB_0 (lc : Int) (out : List Int) (o : Int) : stB (lc, 0, out) o = ((lc * 256 + o) % 65536, 2, out ++ [b64At ((lc * 256 + o) % 65536 / 4 % 64)]) := by
  simp only [stB]
  rw [show (0 + 8) / 6 = 1 from rfl]
  simp only [List.range_succ, List.range_zero, List.nil_append, List.map_cons, List.map_nil]
  rw [show (2 : Int) ^ (0 + 8 - 6 * 0 - 6) = 4 from rfl, Int.fdiv_eq_ediv_of_nonneg _ (by decide)]
theorem stB_2 (lc : Int) (out : List Int) (o : Int) : stB (lc, 2, out) o = ((lc * 256 + o) % 65536, 4, out ++ [b64At ((lc * 256 + o) % 65536 / 16 % 64)]) := by
  simp only [stB]
  rw [show (2 + 8) / 6 = 1 from rfl]
  simp only [List.range_succ, List.range_zero, List.nil_append, List.map_cons, List.map_nil]
  rw [show (2 : Int) ^ (2 + 8 - 6 * 0 - 6) = 16 from rfl, Int.fdiv_eq_ediv_of_nonneg _ (by decide)]
theorem stB_4 (lc : Int) (out : List Int) (o : Int) : stB (lc, 4, out) o = ((lc * 256 + o) % 65536, 0, out ++ [b64At ((lc * 256 + o) % 65536 / 64 % 64), b64At ((lc * 256 + o) % 65536 % 64)]) := by
  simp only [stB]
  rw [show (4 + 8) / 6 = 2 from rfl]
  simp only [List.range_succ, List.range_zero, List.nil_append, List.map_cons, List.map_nil, List.map_append, List.cons_append]
  rw [show (2 : Int) ^ (4 + 8 - 6 * 0 - 6) = 64 from rfl, show (2 : Int) ^ (4 + 8 - 6 * 1 - 6) = 1 from rfl, Int.fdiv_eq_ediv_of_nonneg _ (by decide), Int.fdiv_eq_ediv_of_nonneg _ (by decide), Int.ediv_one]

theorem run_tri {a b c d : Int} (ha : 0 ≤ a ∧ a < 64) (hb : 0 ≤ b ∧ b < 64) (hc : 0 ≤ c ∧ c < 64) (hd : 0 ≤ d ∧ d < 64) (lc : Int) (out : List Int) :
    ∃ lc', (triP a b c d).foldl stB (lc, 0, out) = (lc', 0, out ++ [b64At a, b64At b, b64At c, b64At d]) := by
  unfold triP
  simp only [List.foldl_cons, List.foldl_nil, stB_0, stB_2, stB_4]
  refine ⟨_, congrArg (Prod.mk _) (congrArg (Prod.mk _) ?_)⟩
  simp only [List.append_assoc, List.cons_append, List.nil_append]
  generalize hx : a * 262144 + b * 4096 + c * 64 + d = x
  have e1 : (lc * 256 + x / 65536) % 65536 / 4 % 64 = a := by omega
  have e2 : ((lc * 256 + x / 65536) % 65536 * 256 + x / 256 % 256) % 65536 / 16 % 64 = b := by omega
  have e3 : (((lc * 256 + x / 65536) % 65536 * 256 + x / 256 % 256) % 65536 * 256 + x % 256) % 65536 / 64 % 64 = c := by omega
  have e4 : (((lc * 256 + x / 65536) % 65536 * 256 + x / 256 % 256) % 65536 * 256 + x % 256) % 65536 % 64 = d := by omega
  rw [e1, e2, e3, e4]

theorem getD_range {f : List Int} (hr : ∀ x ∈ f, 0 ≤ x ∧ x < 64) (i : Nat) : 0 ≤ f.getD i 0 ∧ f.getD i 0 < 64 := by
  rw [List.getD_eq_getElem?_getD]
  cases h : f[i]? with
  | none => exact ⟨by decide, by decide⟩
  | some x => exact hr x (List.mem_of_getElem? h)

theorem run_oct {f : List Int} (hr : ∀ x ∈ f, 0 ≤ x ∧ x < 64) : ∀ i : Nat, 4 * i ≤ f.length → ∃ lc, runB (octP f i) = (lc, 0, (f.take (4 * i)).map b64At)
  | 0, _ => ⟨0, rfl⟩
  | i + 1, h => by
    obtain ⟨lc, e⟩ := run_oct hr i (by omega)
    have r := getD_range hr
    obtain ⟨lc', e'⟩ := run_tri (r (4 * i)) (r (4 * i + 1)) (r (4 * i + 2)) (r (4 * i + 3)) lc ((f.take (4 * i)).map b64At)
    refine ⟨lc', ?_⟩
    unfold octP runB at e ⊢
    rw [List.range_succ, List.flatMap_append, List.foldl_append, e, List.flatMap_cons, List.flatMap_nil, List.append_nil, e']
    have g : ∀ j, j < f.length → f[j]? = some (f.getD j 0) := fun j hj => getD_some hj
    rw [show 4 * (i + 1) = 4 * i + 1 + 1 + 1 + 1 by omega, List.take_add_one, List.take_add_one, List.take_add_one, List.take_add_one,
      g (4 * i) (by omega), g (4 * i + 1) (by omega), g (4 * i + 1 + 1) (by omega), g (4 * i + 1 + 1 + 1) (by omega)]
    simp
theorem octP_in (f : List Int) (hr : ∀ x ∈ f, 0 ≤ x ∧ x < 64) (i : Nat) : ∀ n ∈ octP f i, 0 ≤ n ∧ n < 256 := by
  intro n hn
  unfold octP at hn
  obtain ⟨g, _, h⟩ := List.mem_flatMap.mp hn
  have a := getD_range hr (4 * g)
  have b := getD_range hr (4 * g + 1)
  have c := getD_range hr (4 * g + 2)
  have d := getD_range hr (4 * g + 3)
  unfold triP at h
  simp only [List.mem_cons, List.not_mem_nil, or_false] at h
  rcases h with rfl | rfl | rfl <;> omega
theorem octP_len (f : List Int) (i : Nat) : (octP f i).length = 3 * i := by
  induction i with
  | zero => rfl
  | succ i ih =>
    unfold octP at ih ⊢
    rw [List.range_succ, List.flatMap_append, List.length_append, ih]
    simp [triP]; omega
noncomputable def chrS (x : Int) : Nat := (trTab.getD ((b64At x).toNat.toUInt8).toNat ((b64At x).toNat.toUInt8)).toNat
theorem tr_out (l : List Int) : (((byteArr (l.map b64At)).map fun c => trTab.getD c.toNat c).toList.map fun c => c.toNat) = l.map chrS := by
  simp [byteArr, chrS]
end Mine
end partB4

section partB5
open PySem PySem.W PyProof.Rows
set_option maxRecDepth 100000
set_option autoImplicit false
namespace Mine
section
variable {prog : Program} {w : World} {A : Around} {E : Value → Shared → Prop} {s : Shared} {env : Env}

/-- a list of ints, so many times, in a frame without cells -/
theorem mul_act {s₀ : Shared} {m cm : Str → Option Value} {l : Addr} {ns : List Int} {x : Int} {u : Tok} {Q : Value → Shared → Prop} (a : Act s₀ s env m cm) (hc : env.cells = []) (hl : IL s.heap l ns) (h0 : 0 ≤ x) (h1 : x ≤ 100) (hz : ns.length ≤ 100)
    (h : ∀ s' D, Act s₀ s' env m cm → IL s'.heap D (List.replicate x.toNat ns).flatten → Q (.ref D) s') : wpAny (model prog w) A (binaryOp .Mult (.ref l) (.int x u)) Q E s := by
  obtain ⟨vs, hv, hi⟩ := hl.isList
  have hm : vs.length * x.toNat ≤ 100 * 100 := Nat.mul_le_mul (by rw [hi.length]; exact hz) (by omega)
  refine KM.mul (h₀ := s₀.heap) (L := env.locals) (m := m) (news := []) ⟨a.ns, a.kp.keep, a.lo⟩ News.nil hv hi (by omega) (by omega) (by omega) fun D h' F' N' _ hi' _ _ _ _ _ => ?_
  refine h _ D ⟨⟨F'.keep, a.kp.os, a.kp.gens, a.kp.bare⟩, F'.ns, (fun n c e => by rw [hc] at e; cases e), a.apart, a.lo, a.above⟩ ⟨_, 0, ?_, hi'⟩
  exact News.get N' (.head _)

theorem rng3 {n : Int} {k : Nat} {t u v : Tok} {Q : Value → Shared → Prop} (hk : n = 4 * (k : Int)) (h1 : k < 1000) (h : ∀ s' r, Kp s s' → Src prog w s' (.ref r) k (fun i v => ∃ t, v = .int (4 * (i : Int)) t) [] → Q (.ref r) s') :
    wpAny (model prog w) A (call (.type "range") [.int 0 t, .int n u, .int 4 v]) Q E s := by
  have e : Builtin.Range.rangeSize 0 n 4 = (k : Int) := by unfold Builtin.Range.rangeSize; simp; split <;> omega
  refine call_range_3 (by decide) (h _ _ (((Kp.refl s).push _).toks _) ?_) (Or.inl (PyProof.noPylong_small (by omega)))
  have := Src.range (prog := prog) (w := w) (s := { s with heap := s.heap.push { cls := .type "range", data := .fields #[.int 0 t, .int n u, .int 4 v] }, toks := s.toks }) (IsRange.new s.heap 0 n 4 t u v) (small_of (by omega) (by omega) (by omega) (by omega) (by omega) (by omega) (by rw [e]; omega) (by rw [e]; omega)) e
  exact this.weaken fun i v ⟨t, ht⟩ => ⟨t, by rw [ht]; congr 1; omega⟩

theorem ex_extend {o e : Expr} {apos pos epos : Pos} {Q : Flow → Shared → Prop}
    (h : wpAny (model prog w) A (eval o env) (fun ov s₁ => ∃ a ns, ov = .ref a ∧ IL s₁.heap a ns ∧ wpAny (model prog w) A (eval e env) (fun v s₂ => ∃ b ms, v = .ref b ∧ IL s₂.heap a ns ∧ IL s₂.heap b ms ∧ ns.length + ms.length ≤ 1000 ∧ ∀ s', KpX a s₂ s' → IL s'.heap a (ns ++ ms) → Q .next s') E s₁) E s)
    (hf : methodCallForm 1 (backTo pos (starEach [e] env)) [] = true := by rfl) (hp : (apos.endLine == pos.line) = true := by rfl) (ha : attributeBase o "extend" env (eval o env) = eval o env := by rfl)
    (hst : starEach [e] env = [(false, eval e env)] := by rfl)
    (hi : interactive env = false := by rfl) (hs : swapsWith (.Call (.Attribute o "extend" apos) [e] [] pos) none epos.line env = pure false := by rfl) :
    wpAny (model prog w) A (exec (.Expr (.Call (.Attribute o "extend" apos) [e] [] pos) epos) env) Q E s := by
  refine wpAny_Expr (ev_meth (wpAny_mono h (fun ov s₁ h₁ => ?_) fun _ _ e => e) hf hp ha) hi hs
  obtain ⟨a, ns, rfl, hl, h₁⟩ := h₁
  refine meth_il hl F.slot_list_extend F.type_list_extend ?_
  rw [hst]
  refine P.extend_list (wpAny_mono h₁ (fun v s₂ h₂ => ?_) fun _ _ e => e)
  obtain ⟨b, ms, rfl, ⟨vs, n, hv, hi⟩, ⟨us, n', hu, hj⟩, hz, hq⟩ := h₂
  refine ⟨b, _, _, n, n', by rw [sizeLine_eq, List.size_toArray, hi.length]; omega, by rw [sizeLine_eq, List.size_toArray, List.size_toArray, hi.length, hj.length]; omega, ?_, rfl, hv, hu, ?_⟩
  · rw [show Builtin.List.listTooLong (vs.toArray.size + us.toArray.size) = false from by
      simp [Builtin.List.listTooLong, sizeLine_eq, hi.length, hj.length]; omega]
    simp
  refine hq _ ⟨fun b o' hb e' => by rw [show (s₂.heap.update a _).get? b = s₂.heap.get? b from Heap.get?_update_ne _ _ _ _ hb]; exact e', rfl, fun _ _ e => e, fun e => e⟩ ⟨vs ++ us, if us = [] then n else n + 1, ?_, intsAre_app hi hj⟩
  have := hv.update (fun xs => xs ++ us.toArray)
  simpa using this
end
end Mine
end partB5

section partB6
open PySem PySem.W PyProof.Rows
set_option maxRecDepth 100000
set_option autoImplicit false
namespace Mine
theorem strs_of_paired {f : Nat → Str} : ∀ {l : List Nat} {ys : List Value}, Paired (fun i y => ∃ t, y = Value.str (f i) t) l ys → StrsAre ys (l.map f)
  | _, _, .nil => .nil
  | _, _, .cons ⟨t, e⟩ r => by subst e; exact .cons _ t (strs_of_paired r)
theorem join_ones : ∀ (l : List Nat), Txt.join { cps := #[] } (l.map fun c => ({ cps := #[c] } : Str)) = { cps := l.toArray } := by
  have fold : ∀ (l acc : List Nat), (l.map fun c => ({ cps := #[c] } : Str)).foldl (fun (a : Array Nat) p => a ++ (#[] : Array Nat) ++ p.cps) acc.toArray = (acc ++ l).toArray := by
    intro l
    induction l with
    | nil => intro acc; simp
    | cons c r ih =>
      intro acc
      rw [List.map_cons, List.foldl_cons]
      have := ih (acc ++ [c])
      rw [show acc.toArray ++ (#[] : Array Nat) ++ (({ cps := #[c] } : Str).cps) = (acc ++ [c]).toArray by simp, this]
      simp
  intro l
  unfold Txt.join Builtin.Str.glued
  cases l with
  | nil => rfl
  | cons c r =>
    show ({ cps := _ } : Str) = _
    congr 1
    have := fold r [c]
    simpa using this
noncomputable abbrev eT (L : Addr) (cd : Value) : Env := envF "_law_text" 16 L 86 cd
section
variable {prog : Program} {w : World} {A : Around} {E : Value → Shared → Prop} {s : Shared} {mg mb : Str → Option Value}

set_option maxHeartbeats 2000000 in
theorem text_call (B : Bs mg mb s.heap) (hR : Rm A 4) {al : Addr} {ns : List Int} {Q : Value → Shared → Prop} (hl : IL s.heap al ns) (hz : ns.length ≤ 100) (hr : ∀ x ∈ ns, 0 ≤ x ∧ x < 64)
    (h : ∀ s' t, Kp s s' → Q (.str ⟨((fillP ns).map chrS).toArray⟩ t) s') : wpAny (model prog w) A (call (.ref 86) [.ref al]) Q E s := by
  refine call_def (binds := [(("sixes" : Str), Value.ref al)]) hR.room B.lim (B.fn 8) (fun _ _ _ _ _ => .of_eq rfl) rfl ?_
  intro L cd s₁ hL a
  have hR1 := hR.deeper (eT L cd)
  have hl₁ := hl.keeps a.kp.keep
  obtain ⟨K, hK, hK2⟩ := fill_len ns
  have hfr := fill_in hr
  refine wpAny_execs_cons (wpAny_Assign_Name (wpAny_BinOp (Nm.eval (a.local rfl rfl) (wpAny_BinOp (ev_list (wpAny_items_cons (wpAny_Constant_int (wpAny_items_nil ⟨[0], .cons _ _ .nil, Nat.le_of_ble_eq_true rfl, fun s₂ Z k₂ hZn hZ => ?_⟩))))))))
  have a₂ := (a.toks (s₁.toks + 1)).go k₂
  refine wpAny_BinOp (wpAny_UnaryOp (ev_callB (a₂.nB B 1) (args_cons (Nm.eval (a₂.local rfl rfl) (args_nil (len_il (hl.keeps a₂.kp.keep) (by omega) fun tk n' => PyProof.Rows.neg_int (wpAny_Constant_int (PyProof.Rows.mod_int (by decide) ?_))))))))
  have a₃ := ((a₂.toks n').toks (n' + 1 + 1)).toks (n' + 1 + 1 + 1)
  have e4 := Int.fmod_eq_emod_of_nonneg (-(ns.length : Int)) (by decide : (0 : Int) ≤ 4)
  refine mul_act (cm := _) a₃ rfl hZ (by omega) (by omega) (by decide) fun s₄ Y a₄ hY => ?_
  refine add_il (hl.keeps a₄.kp.keep) hY (by rw [KM.len_rep]; simp; omega) fun s₅ D k₅ hDn hD => ?_
  change IL s₅.heap D (fillP ns) at hD
  generalize hff : fillP ns = f at *
  refine Act.stL (a₄.go k₅) fun s₆ a₆ g₆ _ => ?_
  have hD₆ := hD.gr g₆
  refine wpAny_execs_cons (wpAny_Assign_Name (ev_list (wpAny_items_nil ⟨[], .nil, Nat.zero_le _, fun s₇ O k₇ hOn hO => ?_⟩)))
  refine Act.stL (a₆.go k₇) fun s₈ a₈ g₈ _ => ?_
  have hO₈ := hO.gr g₈
  have hD₈ : IL s₈.heap D f := (hD₆.keeps k₇.keep).gr g₈
  have hDO : D ≠ O := hD₆.ne hOn
  have hOs : s.heap.get? O = none := none_of a₆.kp hOn
  refine wpAny_execs_cons (ex_for hR1.hh (ev_callT (a₈.nB B 2) (args_cons (wpAny_Constant_int (args_cons (ev_callB ((a₈.toks _).nB B 1) (args_cons (Nm.eval ((a₈.toks _).local rfl rfl) (args_nil (len_il (hD₈.keeps ((Kp.refl s₈).toks _).keep) (by omega) fun tk n1 => args_cons (wpAny_Constant_int (args_nil (rng3 (k := K) (by omega) (by omega) fun s₉ r k₉ src => ?_)))))))))))))
  have kk₉ : Kp s₈ s₉ := ((((Kp.refl s₈).toks _).toks _).toks _).trans k₉
  have a₉ := a₈.go kk₉
  have hO₉ := hO₈.keeps kk₉.keep
  have hD₉ := hD₈.keeps kk₉.keep
  refine ⟨K, _, [], [O], fun I i σ => ∃ m cm, Act s σ (eT L cd) m cm ∧ m "filled" = some (.ref D) ∧ m "octets" = some (.ref O) ∧ IL σ.heap D f ∧ IL σ.heap O (octP f i) ∧ O ≠ I ∧ D ≠ I, src, (fun x hx => by rw [List.mem_singleton.mp hx]; exact ⟨by simp, let ⟨vs, n, h1, _⟩ := hO₉; ⟨_, h1⟩⟩), ?_, ?_, ?_, ?_⟩
  · intro I σ hI kσ
    exact ⟨_, _, a₉.go kσ, rfl, rfl, hD₉.keeps kσ.keep, hO₉.keeps kσ.keep, hO₉.ne hI, hD₉.ne hI⟩
  · rintro I i σ σ' hI ⟨m, cm, ac, h1, h2, hd, ho, hne, hne2⟩ k
    exact ⟨m, cm, a₉.stepX hI ac k, h1, h2, hd.keepX k.keep hne2, ho.keepX k.keep hne, hne, hne2⟩
  · rintro I i v σ E' hI ⟨oI, hsI, hoI⟩ hi ⟨tv, rfl⟩ ⟨m, cm, ac, h1, h2, hd, ho, hne, hne2⟩
    refine wpAny_assign_Name (Act.stL ac fun σ₁ ac₁ g₁ _ => ?_)
    have hd₁ := hd.gr g₁
    have g0 := getD_range hfr
    have git : ∀ j : Nat, j < 4 → f[(4 * (i : Int) + j).toNat]? = some (f.getD (4 * i + j) 0) := fun j hj => by
      rw [show (4 * (i : Int) + j).toNat = 4 * i + j by omega]; exact getD_some (by omega)
    refine wpAny_execs_cons (wpAny_Assign_Name (wpAny_mono (Q := fun v τ => ∃ t, v = .int (f.getD (4 * i) 0 * 262144 + f.getD (4 * i + 1) 0 * 4096 + f.getD (4 * i + 2) 0 * 64 + f.getD (4 * i + 3) 0) t ∧ Kp σ₁ τ) ?_ (fun v τ hv => ?_) fun _ _ e => e))
    · refine wpAny_BinOp (wpAny_BinOp (wpAny_BinOp (wpAny_BinOp (Subscript_ (Nm.eval (ac₁.local rfl h1) (Nm.eval (ac₁.local rfl rfl) (item_il (x := f.getD (4 * i) 0) hd₁ (by omega) (by omega) (by have := git 0 (by decide); simpa using this) fun t1 => ?_)))))))
      refine wpAny_Constant_int (PyProof.Rows.mul_int (wpAny_BinOp (Subscript_ (Nm.eval (ac₁.local rfl h1) (wpAny_BinOp (Nm.eval (ac₁.local rfl rfl) (wpAny_Constant_int (PyProof.Rows.add_int (item_il (x := f.getD (4 * i + 1) 0) hd₁ (by omega) (by omega) (git 1 (by decide)) fun t2 => ?_)))))))))
      refine wpAny_Constant_int (PyProof.Rows.mul_int (PyProof.Rows.add_int (wpAny_BinOp (Subscript_ (Nm.eval (ac₁.local rfl h1) (wpAny_BinOp (Nm.eval (ac₁.local rfl rfl) (wpAny_Constant_int (PyProof.Rows.add_int (item_il (x := f.getD (4 * i + 2) 0) hd₁ (by omega) (by omega) (git 2 (by decide)) fun t3 => ?_))))))))))
      refine wpAny_Constant_int (PyProof.Rows.mul_int (PyProof.Rows.add_int (Subscript_ (Nm.eval (ac₁.local rfl h1) (wpAny_BinOp (Nm.eval (ac₁.local rfl rfl) (wpAny_Constant_int (PyProof.Rows.add_int (item_il (x := f.getD (4 * i + 3) 0) hd₁ (by omega) (by omega) (git 3 (by decide)) fun t4 => ?_)))))))))
      exact PyProof.Rows.add_int ⟨_, rfl, (Kp.refl σ₁).toks _⟩
    · obtain ⟨tw, rfl, kτ⟩ := hv
      refine Act.stL (ac₁.go kτ) fun σ₂ ac₂ g₂ _ => ?_
      have ho₂ : IL σ₂.heap O (octP f i) := ((ho.gr g₁).keeps kτ.keep).gr g₂
      refine wpAny_execs_cons (ex_extend (Nm.eval (ac₂.local rfl h2) ⟨O, _, rfl, ho₂, ev_list (wpAny_items_cons (wpAny_BinOp (Nm.eval (ac₂.local rfl rfl) (wpAny_Constant_int (PyProof.Rows.floordiv_int (by decide) ?_)))))⟩))
      refine wpAny_items_cons (wpAny_BinOp (wpAny_BinOp (Nm.eval (ac₂.local rfl rfl) (wpAny_Constant_int (PyProof.Rows.floordiv_int (by decide) (wpAny_Constant_int (PyProof.Rows.mod_int (by decide) ?_)))))))
      refine wpAny_items_cons (wpAny_BinOp (Nm.eval (ac₂.local rfl rfl) (wpAny_Constant_int (PyProof.Rows.mod_int (by decide) (wpAny_items_nil ⟨triP (f.getD (4 * i) 0) (f.getD (4 * i + 1) 0) (f.getD (4 * i + 2) 0) (f.getD (4 * i + 3) 0), ?_, Nat.le_of_ble_eq_true rfl, fun σ₃ T k₃ hTn hT => ?_⟩)))))
      · rw [Int.fdiv_eq_ediv_of_nonneg _ (by decide), Int.fdiv_eq_ediv_of_nonneg _ (by decide), Int.fmod_eq_emod_of_nonneg _ (by decide), Int.fmod_eq_emod_of_nonneg _ (by decide)]
        exact .cons _ _ (.cons _ _ (.cons _ _ .nil))
      · have kk₃ : Kp σ₂ σ₃ := ((Kp.refl σ₂).toks _).trans k₃
        refine ⟨T, _, rfl, ho₂.keeps kk₃.keep, hT, by rw [octP_len]; simp [triP]; omega, fun σ₄ k₄ hO₄ => ?_⟩
        have ac₄ := a₆.stepX hOn (ac₂.go kk₃) k₄
        refine wpAny_execs_nil ⟨⟨_, _, ac₄, h1, h2, ((((hd₁.keeps kτ.keep).gr g₂).keeps kk₃.keep).keepX k₄.keep hDO), ?_, hne, hne2⟩, ?_⟩
        · unfold octP at hO₄ ⊢
          rw [List.range_succ, List.flatMap_append, List.flatMap_cons, List.flatMap_nil, List.append_nil]
          exact hO₄
        · exact (g₁.toX _).trans ((kτ.grX _).trans ((g₂.toX _).trans ((kk₃.grX _).trans fun b o hs hb e => k₄.keep b o (by simpa using hb) e)))
  · rintro I σ hI ⟨m, cm, ac, h1, h2, hd, ho, hne, hne2⟩
    obtain ⟨lc, hrun⟩ := run_oct hfr K (by omega)
    rw [List.take_of_length_le (by omega)] at hrun
    have hin := octP_in f hfr K
    have hmk : KBw.bInts (byteArr (octP f K)) = octP f K := KBa.ints_make hin
    refine wpAny_execs_cons (wpAny_Return_some (ev_meth ?_))
    refine wpAny_Constant_str ?_
    with_reducible refine GM.join ?_
    have ac1 := ac.toks (σ.toks + 1)
    have B1 := B.keeps ac1.kp.keep
    refine callWith_method1 (args_cons (ev_comp false (fun _ => _) hR1.hh (by with_unfolding_all rfl) ?_))
    refine ev_callF (ac1.nF B 6) (B1.fn 6) (args_cons (ev_callT (ac1.nB B 4) (args_cons (Nm.eval (ac1.local rfl h2) (args_nil (bytes_il hR1.hh ho hin (by rw [octP_len]; omega) fun s' t' k' => args_cons (Constant_bytes (args_nil ⟨k'.toks _, ?_⟩))))))))
    refine b64_call (B1.keeps (k'.toks _).keep) (hR1.le (by decide)) (by rw [byteArr_size, octP_len]; omega) (by rw [hmk, hrun]) fun s'' t'' k'' => ?_
    rw [hmk, hrun]
    generalize hbs : (byteArr (f.map b64At)).map (fun c => trTab.getD c.toNat c) = bs
    have hbs' : (bs.toList.map fun c => c.toNat) = f.map chrS := by rw [← hbs]; exact tr_out f
    have hbz : bs.size = f.length := by have := congrArg List.length hbs'; simpa using this
    refine ⟨bs.size, _, fun _ => true, fun i y => ∃ t, y = Value.str ⟨#[(f.map chrS).getD i 0]⟩ t, _, Src.bytes, by rw [sizeLine_eq]; omega, ?_, ?_⟩
    · rintro C i v s₃ E' hi ⟨c, uc, hc, rfl⟩ k₃ hnm
      have B3 := (B1.keeps (k'.toks (s'.toks + 1)).keep).keeps (k''.trans k₃).keep
      refine ⟨wpAny_pure ⟨rfl, Kp.refl _⟩, fun _ => ev_callB (hnm.nB B3 7) (args_cons (hnm.eval (args_nil (chr_of_range (by omega) (by have := c.toNat_lt; omega) ⟨⟨s₃.toks, ?_⟩, (Kp.refl _).toks _⟩))))⟩
      congr 3
      rw [← hbs', List.getD_eq_getElem?_getD, List.getElem?_map]
      have : bs.toList[i]? = some c := by simpa using hc
      rw [this]; simp
    · intro D' ys s₅ hD' k₅ hpl hpr
      obtain ⟨n₅, hpl'⟩ := hpl
      have hst := strs_of_paired hpr
      have hlist : (List.map (fun i => ({ cps := #[(f.map chrS).getD i 0] } : Str)) (List.filter (fun _ => true) (List.range bs.size))) = (f.map chrS).map fun c => ({ cps := #[c] } : Str) := by
        rw [List.filter_eq_self.mpr (fun _ _ => rfl)]
        apply List.ext_getElem?
        intro j
        rw [List.getElem?_map, List.getElem?_map]
        by_cases hj : j < bs.size
        · rw [List.getElem?_range hj, Option.map_some, List.getD_eq_getElem?_getD, List.getElem?_eq_getElem (by rw [List.length_map]; omega)]; rfl
        · rw [List.getElem?_eq_none (by rw [List.length_range]; omega), List.getElem?_eq_none (by rw [List.length_map]; omega)]; rfl
      rw [hlist] at hst
      refine args_nil (join_listW (ys := (f.map chrS).map fun c => ({ cps := #[c] } : Str)) ⟨_, hpl', rfl, _, rfl⟩ hst (by decide) ?_ fun t₆ k₆ => ?_)
      · have e1 : (((f.map chrS).map fun c => ({ cps := #[c] } : Str)).map (·.length)).sum = f.length := by
          have : ∀ l : List Nat, ((l.map fun c => ({ cps := #[c] } : Str)).map (·.length)).sum = l.length := by
            intro l; induction l with
            | nil => rfl
            | cons c r ih => rw [List.map_cons, List.map_cons, List.sum_cons, ih, List.length_cons]; show 1 + _ = _; omega
          rw [this, List.length_map]
        rw [e1, List.length_map, List.length_map]; omega
      · rw [show (Str.ofString "") = { cps := #[] } from rfl, join_ones]
        exact h _ _ (((((ac1.kp.trans k').toks _).trans k'').trans k₅).toks _)
end
end Mine
end partB6

section partL5
open PySem PySem.W PyProof.Rows
set_option maxRecDepth 100000
set_option autoImplicit false
namespace Mine

noncomputable def sixP (t x : Int) : Int := if x == t + 1 then 62 else if x == t then 63 else x
noncomputable def txtP (w : List Int) (t : Int) : List Nat := (fillP (w.map (sixP t))).map chrS
noncomputable def segP (l : List Nat) (i j : Nat) : List Nat := (l.drop i).take (j - i)
noncomputable def shutBP (w : List Int) (t : Int) (k : Nat) : Bool := (w.getD k 0 == t) && (List.range k).all fun i => !chkP (segP (txtP w t) i (k + 1)) 0
noncomputable def waitBP (w : List Int) (t : Int) (k : Nat) : Bool := (w.getD k 0 == t + 1) && (List.range (w.length - (k + 1))).all fun j => !chkP (segP (txtP w t) k (k + 1 + j + 1)) 0
noncomputable def turnP (w : List Int) (t : Int) : List Int := stepP w t (shutBP w t) (waitBP w t)
noncomputable def okC (c : Nat) : Bool := c == 40 || c == 41 || (decide (65 ≤ c) && decide (c ≤ 68))
theorem okC_of {c : Nat} (h : okC c = true) : c < 128 ∧ c ≠ 92 ∧ c ≠ 34 := by
  unfold okC at h
  simp only [Bool.or_eq_true, Bool.and_eq_true, beq_iff_eq, decide_eq_true_eq] at h
  omega
noncomputable def Lets (w : List Int) : Prop := ∀ x ∈ w, 0 ≤ x ∧ x < 4
theorem six_in {t x : Int} (hx : 0 ≤ x ∧ x < 4) : (0 ≤ sixP t x ∧ sixP t x < 64) ∧ okC (chrS (sixP t x)) = true := by
  have tab : ∀ y ∈ ([0, 1, 2, 3, 62, 63] : List Int), (0 ≤ y ∧ y < 64) ∧ okC (chrS y) = true := by decide +kernel
  apply tab
  unfold sixP
  split
  · simp
  · split
    · simp
    · have : x = 0 ∨ x = 1 ∨ x = 2 ∨ x = 3 := by omega
      simp; omega
theorem txt_ok {w : List Int} {t : Int} (hw : Lets w) : ∀ c ∈ txtP w t, okC c = true := by
  intro c hc
  unfold txtP fillP at hc
  obtain ⟨x, hx, rfl⟩ := List.mem_map.mp hc
  rcases List.mem_append.mp hx with h | h
  · obtain ⟨y, hy, rfl⟩ := List.mem_map.mp h
    exact (six_in (hw y hy)).2
  · obtain ⟨l, hl, h⟩ := List.mem_flatten.mp h
    rw [List.eq_of_mem_replicate hl, List.mem_singleton] at h
    rw [h]; decide +kernel
theorem txt_len (w : List Int) (t : Int) : w.length ≤ (txtP w t).length ∧ (txtP w t).length < w.length + 4 := by
  obtain ⟨k, h1, h2⟩ := fill_len (w.map (sixP t))
  have h3 : w.length ≤ (fillP (w.map (sixP t))).length := by unfold fillP; rw [List.length_append, List.length_map]; omega
  unfold txtP; rw [List.length_map]
  rw [List.length_map] at h2
  omega
theorem none_all (n : Nat) (q : Nat → Bool) (f : Nat → Int) : decide (((List.range n).filter q).map f = []) = (List.range n).all fun i => !q i := by
  rw [Bool.eq_iff_iff, decide_eq_true_eq, List.map_eq_nil_iff, List.filter_eq_nil_iff, List.all_eq_true]
  simp

theorem Nm.cellOf {h : Heap} {env : Env} {x : Str} {v : Value} {c : Addr} (n : Nm h env x v) (hk : env.kindOf x = some .cell) (hc : env.cells.lookup x = some c) : h.IsCell c (some v) := by
  cases n with
  | loc a b d => rw [hk] at a; cases a
  | cel a b d => rw [hc] at b; cases b; exact d
  | fre a b d e => rw [hk] at a; cases a
  | glo a b d => rw [hk] at a; cases a
  | bui a b d e f => rw [hk] at a; cases a

noncomputable abbrev eW (L : Addr) (cd : Value) : Env := envF "_law_turn" 18 L 96 cd
section
variable {prog : Program} {w : World} {A : Around} {E : Value → Shared → Prop} {s : Shared} {env : Env} {mg mb : Str → Option Value}
theorem ev_strcut {value lower upper : Expr} {p pos : Pos} {Q : Value → Shared → Prop}
    (h : wpAny (model prog w) A (eval value env) (fun o s₁ => wpAny (model prog w) A (eval lower env) (fun vl s₂ => wpAny (model prog w) A (eval upper env) (fun vu s₃ =>
      ∃ x t i j ui uj, o = .str x t ∧ vl = .int i ui ∧ vu = .int j uj ∧ 0 ≤ i ∧ i ≤ j ∧ j ≤ x.cps.toList.length ∧ x.length ≤ 1000 ∧ ∀ s' t', Kp s₃ s' → Q (.str ⟨((x.cps.toList.drop i.toNat).take (j - i).toNat).toArray⟩ t') s') E s₂) E s₁) E s)
    (ht : ∀ o r, letTemporaryGo value o r = pure () := by intro _ _; rfl) :
    wpAny (model prog w) A (eval (.Subscript value (.Slice (some lower) (some upper) none p) pos) env) Q E s := by
  refine wpAny_Subscript_str_slice (wpAny_mono h (fun o s₁ h₁ => ?_) fun _ _ e => e) ht
  rw [evalPart_some]
  refine wpAny_mono h₁ (fun vl s₂ h₂ => ?_) fun _ _ e => e
  rw [evalPart_some]
  refine wpAny_mono h₂ (fun vu s₃ h₃ => ?_) fun _ _ e => e
  obtain ⟨x, t, i, j, ui, uj, rfl, rfl, rfl, h0, hij, hj, hz, hq⟩ := h₃
  have e := eq_of_beq (slice_closes (x := x) ⟨h0, hij, hj⟩)
  refine ⟨x, t, some (i, ui), some (j, uj), rfl, rfl, rfl, ?_⟩
  unfold sliceMade
  refine post_val_or_str ⟨?_, fun t' k => ?_⟩
  · exact Nat.le_trans (Txt.slice_le x (some i) (some j)) (by rw [sizeLine_eq]; omega)
  · have := hq { s₃ with heap := s₃.heap.push { cls := .type "slice", data := .fields #[.int i ui, .int j uj, .none] }, toks := k } t' (((Kp.refl s₃).push _).toks k)
    rw [← e] at this
    exact this
end
end Mine
end partL5

section partL6
open PySem PySem.W PyProof.Rows
set_option maxRecDepth 100000
set_option autoImplicit false
namespace Mine
section
variable {prog : Program} {w : World} {A : Around} {E : Value → Shared → Prop} {s : Shared} {mg mb : Str → Option Value}

theorem seg_ok {l : List Nat} (h : ∀ c ∈ l, okC c = true) (i n : Nat) : (((l.drop i).take n).toArray.all (· < 128)) = true ∧ (∀ c ∈ ((l.drop i).take n).toArray.toList, c ≠ 92) ∧ 34 ∉ ((l.drop i).take n).toArray.toList := by
  have m : ∀ c ∈ (l.drop i).take n, okC c = true := fun c hc => h c (List.mem_of_mem_drop (List.mem_of_mem_take hc))
  refine ⟨?_, fun c hc => (okC_of (m c (by simpa using hc))).2.1, fun hc => (okC_of (m 34 (by simpa using hc))).2.2 rfl⟩
  simp only [List.all_toArray, List.all_eq_true, decide_eq_true_eq]
  exact fun c hc => (okC_of (m c hc)).1

set_option maxHeartbeats 2000000 in
theorem turn_call (B : Bs mg mb s.heap) (hR : Rm A 5) {aw : Addr} {word : List Int} {t : Int} {tt : Tok} {Q : Value → Shared → Prop} (hw : IL s.heap aw word) (hwz : word.length ≤ 100) (hlt : Lets word)
    (h : ∀ s' D, Kp s s' → s.heap.get? D = none → IL s'.heap D (turnP word t) → Q (.ref D) s') : wpAny (model prog w) A (call (.ref 96) [.ref aw, .int t tt]) Q E s := by
  refine call_def (binds := [(("word" : Str), Value.ref aw), (("t" : Str), .int t tt)]) hR.room B.lim (B.fn 10) (fun _ _ _ _ _ => .of_eq rfl) rfl ?_
  intro L cd s₁ hL a
  have hR1 := hR.deeper (eW L cd)
  have hu : (A.deeper (eW L cd)).units + 64 < cLine := by have := hR1.un; omega
  have hw₁ := hw.keeps a.kp.keep
  have B₁ := B.keeps a.kp.keep
  refine wpAny_execs_cons (wpAny_Assign_Name (ev_callF (a.nF B 8) (B₁.fn 8) (args_cons (ev_comp false (fun _ => _) hR1.hh (by with_unfolding_all rfl) (Nm.eval (a.celled rfl rfl rfl) ⟨word.length, _, fun _ => true, fun i y => ∃ t', y = Value.int (sixP t (word.getD i 0)) t', _, Src.il hw₁, by rw [sizeLine_eq]; omega, ?_, ?_⟩)))))
  · rintro C i v s₅ E' hi ⟨x, tx, hix, rfl⟩ k₅ hnm
    have a₅ := a.go k₅
    obtain rfl : word.getD i 0 = x := by rw [List.getD_eq_getElem?_getD, hix]; rfl
    refine ⟨wpAny_pure ⟨rfl, Kp.refl _⟩, fun _ => ?_⟩
    refine wpAny_IfExp (wpAny_isTrue_Compare1 (hnm.eval (wpAny_BinOp (Nm.eval (.cel rfl rfl (a₅.cell "t" _ rfl)) (wpAny_Constant_int (PyProof.Rows.add_int (PyProof.Rows.eq_int (wpAny_truthy_bool ?_))))))))
    cases h1 : (word.getD i 0 == t + 1) with
    | true => rw [if_pos rfl]; exact wpAny_Constant_int ⟨⟨_, by unfold sixP; rw [h1]; rfl⟩, (Kp.refl _).toks _⟩
    | false =>
      rw [if_neg (by decide)]
      refine wpAny_IfExp (wpAny_isTrue_Compare1 ((hnm.keeps (((Kp.refl s₅).toks (s₅.toks + 1)).toks (s₅.toks + 1 + 1)).keep).eval (Nm.eval (.cel rfl rfl ((a₅.cell "t" _ rfl))) (PyProof.Rows.eq_int (wpAny_truthy_bool ?_)))))
      cases h2 : (word.getD i 0 == t) with
      | true => rw [if_pos rfl]; exact wpAny_Constant_int ⟨⟨_, by unfold sixP; rw [h1, h2]; rfl⟩, (Kp.refl _).toks _⟩
      | false => rw [if_neg (by decide)]; exact (hnm.keeps (((Kp.refl s₅).toks (s₅.toks + 1)).toks (s₅.toks + 1 + 1)).keep).eval ⟨⟨_, by unfold sixP; rw [h1, h2]; rfl⟩, (Kp.refl _).toks _⟩
  intro D ys s₂ hDn k₂ hpl hpr
  have hD : IL s₂.heap D (word.map (sixP t)) := by
    refine .of_plain hpl ?_
    have := ints_of_paired hpr
    rw [List.filter_eq_self.mpr (fun _ _ => rfl)] at this
    have e : (List.range word.length).map (fun i => sixP t (word.getD i 0)) = word.map (sixP t) := by
      apply List.ext_getElem?
      intro j
      rw [List.getElem?_map, List.getElem?_map]
      by_cases hj : j < word.length
      · rw [List.getElem?_range hj, Option.map_some, getD_some hj]; rfl
      · rw [List.getElem?_eq_none (by rw [List.length_range]; omega), List.getElem?_eq_none (by omega)]; rfl
    rw [e] at this; exact this
  refine args_nil ⟨k₂, text_call (B₁.keeps k₂.keep) (hR1.le (by decide)) hD (by rw [List.length_map]; exact hwz) (fun y hy => by obtain ⟨x, hx, rfl⟩ := List.mem_map.mp hy; exact (six_in (hlt x hx)).1) fun s₃ t₃ k₃ => ?_⟩
  change wpAny _ _ (storeName _ _ (Value.str ⟨(txtP word t).toArray⟩ t₃)) _ _ _
  have hok := txt_ok (t := t) hlt
  have htl := txt_len word t
  obtain ⟨txt, htxt⟩ : ∃ txt, txt = txtP word t := ⟨_, rfl⟩
  rw [← htxt] at hok htl ⊢
  refine Act.stC ((a.go k₂).go k₃) rfl fun s₄ a₄ g₄ _ => ?_
  have hw₄ := hw.keeps a₄.kp.keep
  refine wpAny_execs_cons (wpAny_Assign_Name (ev_callB (a₄.nB B 1) (args_cons (Nm.eval (a₄.celled rfl rfl rfl) (args_nil (len_il hw₄ (by omega) fun tk n1 => ?_))))))
  refine Act.stC (a₄.toks _) rfl fun s₅ a₅ g₅ _ => ?_
  have hw₅ := hw.keeps a₅.kp.keep
  refine wpAny_execs_cons (ex_compL (s₀ := s) true (fun C => ("k", C + 1) :: _) hR1.hh (by with_unfolding_all rfl) ?_)
  refine ev_callT (a₅.nB B 2) (args_cons (Nm.eval (a₅.celled rfl rfl rfl) (args_nil (rng1 (by omega) (by omega) fun s₆ r k₆ src => ?_))))
  rw [Int.toNat_natCast] at src
  have a₆ := a₅.go k₆
  have hw₆ := hw.keeps a₆.kp.keep
  refine ⟨word.length, _, shutBP word t, fun i y => ∃ t', y = Value.int (i : Int) t', _, _, _, a₆, src, by rw [sizeLine_eq]; omega, ?_, ?_⟩
  · intro C k v τ E₃ hk hv kτ hnm
    obtain ⟨tv, rfl⟩ := hv
    have aτ := a₆.go kτ
    have hwτ := hw.keeps aτ.kp.keep
    have Bτ := B.keeps aτ.kp.keep
    refine ⟨one_if (wpAny_isTrue_BoolOp (wpAny_allTrue_And_cons (wpAny_isTrue_Compare1 (Subscript_ (Nm.eval (.cel rfl rfl (aτ.cell "word" _ rfl)) (hnm.eval (item_il (x := word.getD k 0) hwτ (by omega) (by omega) ?_ fun t1 => ?_))))))), fun _ => hnm.eval ⟨⟨_, rfl⟩, Kp.refl _⟩⟩
    · rw [Int.toNat_natCast]; exact getD_some hk
    · refine Nm.eval (.cel rfl rfl (aτ.cell "t" _ rfl)) (PyProof.Rows.eq_int (wpAny_truthy_bool ?_))
      cases h1 : (word.getD k 0 == t) with
      | false => rw [if_neg (by decide)]; exact ⟨by unfold shutBP; rw [h1]; rfl, Kp.refl _⟩
      | true =>
        rw [if_pos rfl]
        refine wpAny_allTrue_And_cons (wpAny_isTrue_Compare1 (ev_comp false (fun _ => _) hR1.hh (by with_unfolding_all rfl) ?_))
        refine ev_callT (hnm.nB Bτ 2) (args_cons (hnm.eval (args_nil (rng1 (by omega) (by omega) fun τ₁ r₁ k₁ src₁ => ?_))))
        rw [Int.toNat_natCast] at src₁
        refine ⟨k, _, fun i => chkP (segP txt i (k + 1)) 0, fun i y => ∃ t', y = Value.int (i : Int) t', _, src₁, by rw [sizeLine_eq]; omega, ?_, ?_⟩
        · intro C₂ i v₂ τ₂ E₄ hi hv₂ k₂ hnm₂
          obtain ⟨ti, rfl⟩ := hv₂
          have kk : Kp τ τ₂ := k₁.trans k₂
          have a₂ := aτ.go kk
          have B₂ := Bτ.keeps kk.keep
          refine ⟨one_if ?_, fun _ => hnm₂.eval ⟨⟨_, rfl⟩, Kp.refl _⟩⟩
          refine wpAny_isTrue_value (ev_callF (hnm₂.nF B₂ 2) (B₂.fn 2) (args_cons (ev_strcut (Nm.eval (.cel rfl rfl (a₂.cell "text" _ rfl)) (hnm₂.eval (wpAny_BinOp (Nm.eval (.cel rfl rfl ((hnm.keeps kk.keep).cellOf rfl rfl)) (wpAny_Constant_int (PyProof.Rows.add_int ?_)))))))))
          refine ⟨_, _, _, _, _, _, rfl, rfl, rfl, by omega, by omega, by simp; omega, by simp [Str.length]; omega, fun τ₃ t₃' k₃' => args_nil ⟨?_, ?_⟩⟩
          · exact (((Kp.refl τ₂).toks _).toks _).trans k₃'
          · have hs := seg_ok hok i (k + 1 - i)
            rw [show ((k : Int) + 1 - i).toNat = k + 1 - i by omega, Int.toNat_natCast]
            refine chk_call (B₂.keeps ((((Kp.refl τ₂).toks _).toks _).trans k₃').keep) (hR1.le (by decide)) hs.1 hs.2.1 hs.2.2 fun τ₄ k₄ => wpAny_truthy_bool ⟨rfl, ?_⟩
            exact ((((Kp.refl τ₂).toks _).toks _).trans k₃').trans k₄
        · intro D₂ ys₂ τ₂ hD₂n k₂ hpl₂ hpr₂
          have hD₂ : IL τ₂.heap D₂ _ := .of_plain hpl₂ (ints_of_paired hpr₂)
          refine ev_list (wpAny_items_nil ⟨[], .nil, Nat.zero_le _, fun τ₃ Z k₃ hZn hZ => ?_⟩)
          refine eq_il (hD₂.keeps k₃.keep) hZ hu (wpAny_truthy_bool ?_)
          rw [none_all]
          have kk : Kp τ τ₃ := k₁.trans (k₂.trans k₃)
          cases h2 : ((List.range k).all fun i => !chkP (segP txt i (k + 1)) 0) with
          | true => rw [if_pos rfl]; exact wpAny_allTrue_And_nil ⟨by unfold shutBP; rw [h1, ← htxt, h2]; rfl, kk⟩
          | false => rw [if_neg (by decide)]; exact ⟨by unfold shutBP; rw [h1, ← htxt, h2]; rfl, kk⟩
  · intro S ys₃ s₇ hSn a₇ x₇ hpl₃ hpr₃
    have hS : IL s₇.heap S (posP word.length (shutBP word t)) := .of_plain hpl₃ (ints_of_paired hpr₃)
    have hw₇ := hw.keeps a₇.kp.keep
    refine wpAny_execs_cons (ex_compL (s₀ := s) true (fun C => ("k", C + 1) :: _) hR1.hh (by with_unfolding_all rfl) ?_)
    refine ev_callT (a₇.nB B 2) (args_cons (Nm.eval (a₇.celled rfl rfl rfl) (args_nil (rng1 (by omega) (by omega) fun s₈ r₈ k₈ src₈ => ?_))))
    rw [Int.toNat_natCast] at src₈
    have a₈ := a₇.go k₈
    refine ⟨word.length, _, waitBP word t, fun i y => ∃ t', y = Value.int (i : Int) t', _, _, _, a₈, src₈, by rw [sizeLine_eq]; omega, ?_, ?_⟩
    · intro C k v τ E₃ hk hv kτ hnm
      obtain ⟨tv, rfl⟩ := hv
      have aτ := a₈.go kτ
      have hwτ := hw.keeps aτ.kp.keep
      have Bτ := B.keeps aτ.kp.keep
      refine ⟨one_if (wpAny_isTrue_BoolOp (wpAny_allTrue_And_cons (wpAny_isTrue_Compare1 (Subscript_ (Nm.eval (.cel rfl rfl (aτ.cell "word" _ rfl)) (hnm.eval (item_il (x := word.getD k 0) hwτ (by omega) (by omega) ?_ fun t1 => ?_))))))), fun _ => hnm.eval ⟨⟨_, rfl⟩, Kp.refl _⟩⟩
      · rw [Int.toNat_natCast]; exact getD_some hk
      · refine wpAny_BinOp (Nm.eval (.cel rfl rfl (aτ.cell "t" _ rfl)) (wpAny_Constant_int (PyProof.Rows.add_int (PyProof.Rows.eq_int (wpAny_truthy_bool ?_)))))
        have kτ' : Kp τ { { τ with toks := τ.toks + 1 } with toks := τ.toks + 1 + 1 } := ((Kp.refl τ).toks _).toks _
        cases h1 : (word.getD k 0 == t + 1) with
        | false => rw [if_neg (by decide)]; exact ⟨by unfold waitBP; rw [h1]; rfl, kτ'⟩
        | true =>
          rw [if_pos rfl]
          have hnm' := hnm.keeps kτ'.keep
          have Bτ' := Bτ.keeps kτ'.keep
          have aτ' := aτ.go kτ'
          refine wpAny_allTrue_And_cons (wpAny_isTrue_Compare1 (ev_comp false (fun _ => _) hR1.hh (by with_unfolding_all rfl) ?_))
          refine ev_callT (hnm'.nB Bτ' 2) (args_cons (wpAny_BinOp (hnm'.eval (wpAny_Constant_int (PyProof.Rows.add_int (args_cons (Nm.eval (.cel rfl rfl (aτ.cell "size" _ rfl)) (args_nil (rng2 (by omega) (by omega) (by omega) (by omega) fun τ₁ r₁ k₁ src₁ => ?_)))))))))
          rw [show ((word.length : Int) - (k + 1)).toNat = word.length - (k + 1) by omega] at src₁
          refine ⟨word.length - (k + 1), _, fun j => chkP (segP txt k (k + 1 + j + 1)) 0, fun i y => ∃ t', y = Value.int ((k : Int) + 1 + i) t', _, src₁, by rw [sizeLine_eq]; omega, ?_, ?_⟩
          · intro C₂ i v₂ τ₂ E₄ hi hv₂ k₂ hnm₂
            obtain ⟨ti, rfl⟩ := hv₂
            have kk : Kp τ τ₂ := kτ'.trans ((((Kp.refl _).toks _).toks _).trans (k₁.trans k₂))
            have a₂ := aτ.go kk
            have B₂ := Bτ.keeps kk.keep
            refine ⟨one_if ?_, fun _ => hnm₂.eval ⟨⟨_, rfl⟩, Kp.refl _⟩⟩
            refine wpAny_isTrue_value (ev_callF (hnm₂.nF B₂ 2) (B₂.fn 2) (args_cons (ev_strcut (Nm.eval (.cel rfl rfl (a₂.cell "text" _ rfl)) (Nm.eval (.cel rfl rfl ((hnm.keeps kk.keep).cellOf rfl rfl)) (wpAny_BinOp (hnm₂.eval (wpAny_Constant_int (PyProof.Rows.add_int ?_)))))))))
            refine ⟨_, _, _, _, _, _, rfl, rfl, rfl, by omega, by omega, by simp; omega, by simp [Str.length]; omega, fun τ₃ t₃' k₃' => args_nil ⟨?_, ?_⟩⟩
            · exact (((Kp.refl τ₂).toks _).toks _).trans k₃'
            · have hs := seg_ok hok k (k + 1 + i + 1 - k)
              rw [show ((k : Int) + 1 + i + 1 - k).toNat = k + 1 + i + 1 - k by omega, Int.toNat_natCast]
              refine chk_call (B₂.keeps ((((Kp.refl τ₂).toks _).toks _).trans k₃').keep) (hR1.le (by decide)) hs.1 hs.2.1 hs.2.2 fun τ₄ k₄ => wpAny_truthy_bool ⟨rfl, ?_⟩
              exact ((((Kp.refl τ₂).toks _).toks _).trans k₃').trans k₄
          · intro D₂ ys₂ τ₂ hD₂n k₂ hpl₂ hpr₂
            have hD₂ : IL τ₂.heap D₂ _ := .of_plain hpl₂ (ints_of_paired hpr₂)
            refine ev_list (wpAny_items_nil ⟨[], .nil, Nat.zero_le _, fun τ₃ Z k₃ hZn hZ => ?_⟩)
            refine eq_il (hD₂.keeps k₃.keep) hZ hu (wpAny_truthy_bool ?_)
            rw [none_all]
            have kk : Kp τ τ₃ := kτ'.trans ((((Kp.refl _).toks _).toks _).trans (k₁.trans (k₂.trans k₃)))
            cases h2 : ((List.range (word.length - (k + 1))).all fun j => !chkP (segP txt k (k + 1 + j + 1)) 0) with
            | true => rw [if_pos rfl]; exact wpAny_allTrue_And_nil ⟨by unfold waitBP; rw [h1, ← htxt, h2]; rfl, kk⟩
            | false => rw [if_neg (by decide)]; exact ⟨by unfold waitBP; rw [h1, ← htxt, h2]; rfl, kk⟩
    · intro W ys₄ s₉ hWn a₉ x₉ hpl₄ hpr₄
      have hW : IL s₉.heap W (posP word.length (waitBP word t)) := .of_plain hpl₄ (ints_of_paired hpr₄)
      have hS₉ := (hS.keeps k₈.keep).stepL a₈ x₉
      have hw₉ := hw.keeps a₉.kp.keep
      have B₉ := B.keeps a₉.kp.keep
      have hz1 := posP_len word.length (shutBP word t)
      have hz2 := posP_len word.length (waitBP word t)
      refine wpAny_execs_cons (wpAny_Return_some (ev_callF (a₉.nF B 9) (B₉.fn 9) (args_cons (Nm.eval (a₉.celled rfl rfl rfl) (args_cons (Nm.eval (a₉.celled rfl rfl rfl) (args_cons (wpAny_BinOp (Nm.eval (a₉.local rfl rfl) (Nm.eval (a₉.local rfl rfl) (add_il hS₉ hW (by omega) fun τ₆ Z k₆ hZn hZ => ?_)))))))))))
      have a₁₀ := a₉.go k₆
      refine args_cons (ev_callB (a₁₀.nB B 1) (args_cons (Nm.eval (a₁₀.local rfl rfl) (args_nil (len_il (hW.keeps k₆.keep) (by omega) fun tk2 n2 => args_nil ⟨k₆.trans ((Kp.refl τ₆).toks _), ?_⟩)))))
      have a₁₁ := a₁₀.toks n2
      refine turned_call (B.keeps a₁₁.kp.keep) (hR1.le (by decide)) (hw₉.keeps k₆.keep) hZ (by omega) (by simp; omega) (by omega) fun τ₈ Y k₈' hYn hY => ?_
      exact h _ _ (a₁₁.kp.trans k₈') (none_of a₁₁.kp hYn) hY
end
end Mine
end partL6

section partL7
open PySem PySem.W PyProof.Rows
set_option maxRecDepth 100000
set_option autoImplicit false
namespace Mine
theorem turnedP_lets {w l : List Int} {t m : Int} (hw : Lets w) (h0 : 0 ≤ t) (h1 : t < 3) : Lets (turnedP w t l m) := by
  intro x hx
  unfold turnedP at hx
  obtain ⟨k, hk, rfl⟩ := List.mem_map.mp hx
  rw [List.mem_range] at hk
  split
  · omega
  · split
    · omega
    · rw [List.getD_eq_getElem?_getD, List.getElem?_eq_getElem hk]
      exact hw _ (List.getElem_mem hk)
theorem turnP_lets {w : List Int} {t : Int} (hw : Lets w) (h0 : 0 ≤ t) (h1 : t < 3) : Lets (turnP w t) := turnedP_lets hw h0 h1
theorem turnP_len (w : List Int) (t : Int) : (turnP w t).length = w.length := stepP_len ..

noncomputable abbrev eRd (L : Addr) (cd : Value) : Env := envF "reduce" 14 L 81 cd
section
variable {prog : Program} {w : World} {A : Around} {E : Value → Shared → Prop} {s : Shared} {mg mb : Str → Option Value}

theorem reduce_call (B : Bs mg mb s.heap) (hR : Rm A 6) {ar aw₀ : Addr} {row w₀ : List Int} {Q : Value → Shared → Prop} (hrow : IL s.heap ar row) (hw : IL s.heap aw₀ w₀) (hwz : w₀.length ≤ 100) (hlt : Lets w₀) (hrt : ∀ t ∈ row, 0 ≤ t ∧ t < 3)
    (h : ∀ s' D, Kp s s' → IL s'.heap D (row.foldl turnP w₀) → Q (.ref D) s') : wpAny (model prog w) A (call (.ref 81) [.ref 96, .ref ar, .ref aw₀]) Q E s := by
  refine call_def (binds := [(("function" : Str), Value.ref 96), (("sequence" : Str), .ref ar), (("initial" : Str), .ref aw₀)]) hR.room B.lim (B.fn 7) (fun _ _ _ _ _ => .of_defaults rfl B.d74 rfl rfl rfl) rfl ?_
  intro L cd s₁ hL a
  have hR1 := hR.deeper (eRd L cd)
  have B₁ := B.keeps a.kp.keep
  refine wpAny_execs_cons (wpAny_Assign_Name (ev_callB (a.nB B 6) (args_cons (Nm.eval (a.local rfl rfl) (args_nil (Calls.call_function_entry (by decide +kernel) (by decide +kernel) kdk_entry_iter (kdk_args_iter _) ?_))))))
  unfold Builtin.«iter»
  refine wpAny_bind (m := someArgs "iter" 1 2 _) (wpAny_of_eq (a := [Value.ref ar]) (by rfl) ?_)
  show wpAny _ _ (pyIter (.ref ar) >>= _) _ _ _
  refine wpAny_bind (Src.il (hrow.keeps a.kp.keep) _ _ _ hR1.hh fun I fp St s₂ k₂ hI hfp hfx hsol W hst => wpAny_pure ⟨_, rfl, ?_⟩)
  have W := W (A.deeper (eRd L cd)) hR1.hh
  have hIf : I ∈ fp := W.sub I (by simp)
  have hfr : ∀ σ σ' : Shared, ∀ i, St i σ.heap → Gr σ σ' → St i σ'.heap := fun σ σ' i st g => W.frame _ _ _ st fun b hb o e => by
    obtain ⟨o', hso, ho'⟩ := hsol _ _ st b hb
    rw [e] at ho'; cases ho'
    exact g.solid b o hso e
  refine Act.stL (a.go k₂) fun s₃ a₃ g₃ _ => ?_
  have hst₃ := hfr _ _ _ hst g₃
  have hw₃ := hw.keeps a₃.kp.keep
  obtain ⟨vs₀, n₀, hv₀, _⟩ := id hw₃
  refine wpAny_execs_cons (wpAny_If (wpAny_isTrue_Compare1 (Nm.eval (a₃.local rfl rfl) (Nm.eval (.glo rfl (B.keeps a₃.kp.keep).gl B.ini) (wpAny_is_ref_other ?_ hv₀ (B.keeps a₃.kp.keep).o73 (by show Value.type "list" ≠ Value.type "tuple"; decide) (wpAny_truthy_bool ?_))))))
  · rintro rfl
    obtain ⟨vs, n, hv, _⟩ := hw
    have e : s.heap.get? 73 = _ := hv
    rw [B.o73] at e
    exact absurd (congrArg Obj.cls (Option.some.inj e)) (by show Value.type "object" ≠ Value.type "list"; decide)
  rw [if_neg (by decide)]
  refine wpAny_execs_cons (wpAny_Assign_Name (Nm.eval (a₃.local rfl rfl) (Act.stL a₃ fun s₄ a₄ g₄ _ => ?_)))
  refine wpAny_execs_nil ?_
  have hst₄ := hfr _ _ _ hst₃ g₄
  refine wpAny_execs_cons (wpAny_For (Nm.eval (a₄.local rfl rfl) (W.self 0 _ _ _ hst₄ ?_)) (by intro _; rfl))
  have hwI : aw₀ ≠ I := (hw.keeps a.kp.keep).ne hI
  refine codeAny_forLoop (fun k σ => ∃ i wd aw m cm, k = row.length + 1 - i ∧ i ≤ row.length ∧ St i σ.heap ∧ Act s σ (eRd L cd) m cm ∧ m "value" = some (.ref aw) ∧ m "function" = some (.ref 96) ∧ IL σ.heap aw wd ∧ aw ≠ I ∧ wd = (row.take i).foldl turnP w₀ ∧ Lets wd ∧ wd.length = w₀.length) ?_ (row.length + 1)
    ⟨0, w₀, aw₀, _, _, rfl, Nat.zero_le _, hst₄, a₄, rfl, rfl, hw.keeps a₄.kp.keep, hwI, rfl, hlt, rfl⟩ (by intro _; rfl)
  rintro k σ ⟨i, wd, aw, m, cm, rfl, hi, hstσ, ac, hv, hf, hl, hne, he, hle, hze⟩
  have kx : ∀ h' tk, (∀ b o, b ∉ [I] → σ.heap.get? b = some o → h'.get? b = some o) → KpX I σ { σ with heap := h', toks := tk } := fun h' tk hk => ⟨fun b o hb e => hk b o (by simpa using hb) e, rfl, fun _ _ e => e, fun e => e⟩
  by_cases hlt' : i < row.length
  · refine W.item i σ _ _ hlt' hstσ fun v h₁ tk₁ hPv hst₁ hk₁ => ?_
    obtain ⟨t, tt, hit, rfl⟩ := hPv
    have x₁ := kx h₁ tk₁ hk₁
    have ac₁ := a.stepX hI ac x₁
    obtain ⟨σ₁, hσ₁⟩ : ∃ σ₁ : Shared, σ₁ = { σ with heap := h₁, toks := tk₁ } := ⟨_, rfl⟩
    have hh₁ : h₁ = σ₁.heap := by rw [hσ₁]
    rw [← hσ₁] at ac₁ x₁ ⊢
    rw [hh₁] at hst₁
    have hl₁ : IL σ₁.heap aw wd := hl.keepX x₁.keep hne
    obtain ⟨oI, hsI, hoI⟩ := hsol _ _ hst₁ I hIf
    refine wpAny_assign_Name (Act.stL ac₁ fun σ₂ ac₂ g₂ _ => ?_)
    have B₂ := B.keeps ac₂.kp.keep
    have ht := hrt t (List.mem_of_getElem? hit)
    refine wpAny_execs_cons (wpAny_Assign_Name (ev_callF (Nm.loc rfl ac₂.ns hf) (B₂.fn 10) (args_cons (Nm.eval (ac₂.local rfl hv) (args_cons (Nm.eval (ac₂.local rfl rfl) (args_nil ⟨Kp.refl _, ?_⟩)))))))
    refine turn_call B₂ (hR1.le (by decide)) (hl₁.gr g₂) (by omega) hle fun σ₃ D k₃ hDn hD => ?_
    refine Act.stL (ac₂.go k₃) fun σ₄ ac₄ g₄ _ => ?_
    refine wpAny_execs_nil ⟨row.length + 1 - (i + 1), by omega, i + 1, _, D, _, _, rfl, hlt', ?_, ac₄, rfl, hf, hD.gr g₄, ne_of_none hDn (g₂.solid _ _ hsI hoI), ?_, turnP_lets hle ht.1 ht.2, (turnP_len wd t).trans hze⟩
    · exact hfr _ _ _ (hfr _ _ _ (hfr _ _ _ hst₁ g₂) k₃.gr) g₄
    · rw [List.take_add_one, hit, Option.toList_some, List.foldl_append, ← he]; rfl
  · have hin : i = row.length := by omega
    subst hin
    refine W.done σ _ _ hstσ fun h₁ tk₁ hk₁ => wpAny_execs_nil ?_
    have x₁ := kx h₁ tk₁ hk₁
    have ac₁ := a.stepX hI ac x₁
    rw [List.take_of_length_le (Nat.le_refl _)] at he
    refine wpAny_execs_cons (wpAny_Return_some (Nm.eval (ac₁.local rfl hv) (h _ _ ac₁.kp ?_)))
    rw [← he]
    exact hl.keepX x₁.keep hne
end
end Mine
end partL7

section partL9
open PySem PySem.W PyProof.Rows
set_option maxRecDepth 100000
set_option autoImplicit false
namespace Mine

/-- what is left to show, without a program -/
structure PL (first turns : List Int) : Prop where
  ht : turns.foldl turnP first = turns.foldl hstepP first
  sh : turns.foldl turnP first = (shortP 7 (ledP turns)).foldl turnP first
  cn : ∀ x : Nat, x < 4 → (turns.foldl turnP first).count (x : Int) = first.count ((ledP turns).getD x 0)
  fa : fallsP (turns.foldl turnP first) = fallsP first
  bk : turns.reverse.foldl turnP (turns.foldl turnP first) = first

noncomputable def drawsP (script : List Int) : List Int := [4, 1, 5] ++ script.take 6
noncomputable def firstP (script : List Int) : List Int := (drawsP script).map fun x => x.fmod 4
noncomputable def turnsP (script : List Int) : List Int := (drawsP script).map fun x => (x.fdiv 4).fmod 3
theorem draws_len (script : List Int) : 3 ≤ (drawsP script).length ∧ (drawsP script).length ≤ 9 := by
  unfold drawsP; simp; omega
theorem first_lets (script : List Int) : Lets (firstP script) := by
  intro x hx
  obtain ⟨y, _, rfl⟩ := List.mem_map.mp hx
  rw [Int.fmod_eq_emod_of_nonneg _ (by decide)]; omega
theorem turns_in (script : List Int) : ∀ t ∈ turnsP script, 0 ≤ t ∧ t < 3 := by
  intro x hx
  obtain ⟨y, _, rfl⟩ := List.mem_map.mp hx
  rw [Int.fmod_eq_emod_of_nonneg _ (by decide)]; omega
theorem map_range (l : List Int) (f : Int → Int) : (List.range l.length).map (fun i => f (l.getD i 0)) = l.map f := by
  apply List.ext_getElem?
  intro j
  rw [List.getElem?_map, List.getElem?_map]
  by_cases hj : j < l.length
  · rw [List.getElem?_range hj, Option.map_some, getD_some hj]; rfl
  · rw [List.getElem?_eq_none (by rw [List.length_range]; omega), List.getElem?_eq_none (by omega)]; rfl
theorem foldl_turn : ∀ (row w : List Int), Lets w → (∀ t ∈ row, 0 ≤ t ∧ t < 3) → Lets (row.foldl turnP w) ∧ (row.foldl turnP w).length = w.length
  | [], w, h, _ => ⟨h, rfl⟩
  | t :: r, w, h, ht => by
    have h1 := ht t (List.mem_cons_self ..)
    obtain ⟨a, b⟩ := foldl_turn r (turnP w t) (turnP_lets h h1.1 h1.2) fun t' h' => ht t' (List.mem_cons_of_mem _ h')
    exact ⟨a, b.trans (turnP_len w t)⟩

noncomputable abbrev eLw (L fa : Addr) (cd : Value) : Env := envF "law" 23 L fa cd
section
variable {prog : Program} {w : World} {A : Around} {s : Shared} {mg mb : Str → Option Value}

set_option maxHeartbeats 2000000 in
theorem law_code (B : Bs mg mb s.heap) (hR : Rm A 7) {fa l : Addr} (hf : FnAt s.heap "law" 23 fa .none .none) {script : List Int} {vl : List Value} {R : Result → Shared → Prop} (hl : s.heap.IsList l vl.toArray) (hil : IntsAre vl script) (hz : script.length ≤ 1000) (pl : PL (firstP script) (turnsP script))
    (h : ∀ s', Kp s s' → R (.ok (.ret (.bool true))) s') : codeAny (model prog w) A (.call (.ref fa) ⟨[.ref l], []⟩) R s := by
  refine enter (binds := [(("script" : Str), Value.ref l)]) hR.room B.lim hf (fun _ _ _ _ _ => .of_eq rfl) rfl ?_
  intro L cd s₁ hL a
  have hR1 := hR.deeper (eLw L fa cd)
  have hu : (A.deeper (eLw L fa cd)).units + 64 < cLine := by have := hR1.un; omega
  refine wpAny_execs_cons (wpAny_Assign_Name (wpAny_BinOp (ev_list (wpAny_items_cons (wpAny_Constant_int (wpAny_items_cons (wpAny_Constant_int (wpAny_items_cons (wpAny_Constant_int (wpAny_items_nil ⟨[4, 1, 5], .cons _ _ (.cons _ _ (.cons _ _ .nil)), Nat.le_of_ble_eq_true rfl, fun s₂ Z k₂ hZn hZ => ?_⟩))))))))))
  have kk₂ : Kp s₁ s₂ := ((((Kp.refl s₁).toks _).toks _).toks _).trans k₂
  have a₂ := a.go kk₂
  have hvl : s₂.heap.IsList l vl.toArray := let ⟨o, ho, r⟩ := hl; ⟨o, kk₂.keep _ _ (a.kp.keep _ _ ho), r⟩
  refine ev_cut (Nm.eval (a₂.local rfl rfl) (wpAny_pure ?_))
  rw [evalPart_some]
  refine wpAny_Constant_int ⟨l, vl, script, none, some 6, rfl, hvl, hil, hz, .none, .int _ _, fun s₃ Y k₃ hYn hY => ?_⟩
  rw [cut_to (by decide)] at hY
  have kk₃ : Kp s₂ s₃ := ((Kp.refl s₂).toks _).trans k₃
  refine add_il (hZ.keeps kk₃.keep) hY (by simp; omega) fun s₄ D k₄ hDn hD => ?_
  change IL s₄.heap D (drawsP script) at hD
  have hdl := draws_len script
  have hfl := first_lets script
  have hti := turns_in script
  refine Act.stL (a₂.go (kk₃.trans k₄)) fun s₅ a₅ g₅ _ => ?_
  have hD₅ := hD.gr g₅
  -- first
  refine wpAny_execs_cons (wpAny_Assign_Name (ev_comp false (fun _ => _) hR1.hh (by with_unfolding_all rfl) (Nm.eval (a₅.local rfl rfl) ⟨(drawsP script).length, _, fun _ => true, fun i y => ∃ t', y = Value.int (((drawsP script).getD i 0).fmod 4) t', _, Src.il hD₅, by rw [sizeLine_eq]; omega, ?_, ?_⟩)))
  · rintro C i v s₆ E' hi ⟨x, tx, hix, rfl⟩ k₆ hnm
    obtain rfl : (drawsP script).getD i 0 = x := by rw [List.getD_eq_getElem?_getD, hix]; rfl
    exact ⟨wpAny_pure ⟨rfl, Kp.refl _⟩, fun _ => wpAny_BinOp (hnm.eval (wpAny_Constant_int (PyProof.Rows.mod_int (by decide) ⟨⟨_, rfl⟩, ((Kp.refl _).toks _).toks _⟩)))⟩
  intro Fa ys s₆' hFn k₆' hpl hpr
  have hF' : IL s₆'.heap Fa (firstP script) := by
    refine .of_plain hpl ?_
    have := ints_of_paired hpr
    rw [List.filter_eq_self.mpr (fun _ _ => rfl), map_range (drawsP script) fun x => x.fmod 4] at this
    exact this
  refine Act.stC (a₅.go k₆') rfl fun s₆ a₆ g₆ _ => ?_
  have hF := hF'.gr g₆
  have hD₆ := (hD₅.keeps k₆'.keep).gr g₆
  have hfn : (firstP script).length = (drawsP script).length := List.length_map ..
  have htn : (turnsP script).length = (drawsP script).length := List.length_map ..
  -- turns
  refine wpAny_execs_cons (ex_compL (s₀ := s) false (fun _ => _) hR1.hh (by with_unfolding_all rfl) (Nm.eval (a₆.local rfl rfl) ⟨(drawsP script).length, _, fun _ => true, fun i y => ∃ t', y = Value.int ((((drawsP script).getD i 0).fdiv 4).fmod 3) t', _, _, _, a₆, Src.il hD₆, by rw [sizeLine_eq]; omega, ?_, ?_⟩))
  · rintro C i v s₇ E' hi ⟨x, tx, hix, rfl⟩ k₇ hnm
    obtain rfl : (drawsP script).getD i 0 = x := by rw [List.getD_eq_getElem?_getD, hix]; rfl
    exact ⟨wpAny_pure ⟨rfl, Kp.refl _⟩, fun _ => wpAny_BinOp (wpAny_BinOp (hnm.eval (wpAny_Constant_int (PyProof.Rows.floordiv_int (by decide) (wpAny_Constant_int (PyProof.Rows.mod_int (by decide) ⟨⟨_, rfl⟩, ((((Kp.refl _).toks _).toks _).toks _).toks _⟩))))))⟩
  intro T ys₂ s₇ hTn a₇ x₇ hpl₂ hpr₂
  have hT : IL s₇.heap T (turnsP script) := by
    refine .of_plain hpl₂ ?_
    have := ints_of_paired hpr₂
    rw [List.filter_eq_self.mpr (fun _ _ => rfl), map_range (drawsP script) fun x => (x.fdiv 4).fmod 3] at this
    exact this
  have hF₇ := hF.stepL a₆ x₇
  generalize hfe : firstP script = first at *
  generalize hte : turnsP script = turns at *
  -- led
  have B₇ := B.keeps a₇.kp.keep
  refine wpAny_execs_cons (wpAny_Assign_Name (ev_callF (a₇.nF B 12) (B₇.fn 12) (args_cons (Nm.eval (a₇.local rfl rfl) (args_nil ⟨Kp.refl _, led_call B₇ (hR1.le (by decide)) hT (by omega) hti fun s₈ Ld k₈ hLn hLd => ?_⟩)))))
  refine Act.stC (a₇.go k₈) rfl fun s₉ a₉ g₉ _ => ?_
  have hT₉ := (hT.keeps k₈.keep).gr g₉
  have hF₉ := (hF₇.keeps k₈.keep).gr g₉
  have hLd₉ := hLd.gr g₉
  have hpm := led_perm hti
  -- came
  have B₉ := B.keeps a₉.kp.keep
  refine wpAny_execs_cons (wpAny_Assign_Name (ev_callF (a₉.nF B 7) (B₉.fn 7) (args_cons (Nm.eval (a₉.nF B 10) (args_cons (Nm.eval (a₉.local rfl rfl) (args_cons (Nm.eval (a₉.celled rfl rfl rfl) (args_nil ⟨Kp.refl _, reduce_call B₉ (hR1.le (by decide)) hT₉ hF₉ (by omega) hfl hti fun s₁₀ Cm k₁₀ hCm => ?_⟩)))))))))
  obtain ⟨hcl, hcn⟩ := foldl_turn turns first hfl hti
  generalize hce : turns.foldl turnP first = came at *
  refine Act.stC (a₉.go k₁₀) rfl fun s₁₁ a₁₁ g₁₁ _ => ?_
  have hT₁₁ := (hT₉.keeps k₁₀.keep).gr g₁₁
  have hF₁₁ := (hF₉.keeps k₁₀.keep).gr g₁₁
  have hLd₁₁ := (hLd₉.keeps k₁₀.keep).gr g₁₁
  have hC₁₁ := hCm.gr g₁₁
  have B₁₁ := B.keeps a₁₁.kp.keep
  -- heights
  refine wpAny_execs_cons (wpAny_If (wpAny_isTrue_Compare1 (Nm.eval (a₁₁.celled rfl rfl rfl) (ev_callF (a₁₁.nF B 11) (B₁₁.fn 11) (args_cons (Nm.eval (a₁₁.celled rfl rfl rfl) (args_cons (Nm.eval (a₁₁.local rfl rfl) (args_nil ⟨Kp.refl _, heights_call B₁₁ (hR1.le (by decide)) hF₁₁ hT₁₁ (by omega) (by omega) fun s₁₂ H k₁₂ hH => ?_⟩)))))))))
  rw [← pl.ht, hce] at hH
  refine ne_il (hC₁₁.keeps k₁₂.keep) hH hu (wpAny_truthy_bool ?_)
  rw [decide_eq_true rfl, if_neg (by decide)]
  refine wpAny_execs_nil ?_
  have a₁₂ := a₁₁.go k₁₂
  have B₁₂ := B.keeps a₁₂.kp.keep
  -- shortest
  refine wpAny_execs_cons (wpAny_If (wpAny_isTrue_Compare1 (Nm.eval (a₁₂.celled rfl rfl rfl) (ev_callF (a₁₂.nF B 7) (B₁₂.fn 7) (args_cons (Nm.eval (a₁₂.nF B 10) (args_cons (ev_callF (a₁₂.nF B 13) (B₁₂.fn 13) (args_cons (Nm.eval (a₁₂.celled rfl rfl rfl) (args_nil ⟨Kp.refl _, shortest_call B₁₂ (hR1.le (by decide)) (hLd₁₁.keeps k₁₂.keep) hpm fun s₁₃ Sh k₁₃ hSn hSh => ?_⟩)))))))))))
  have a₁₃ := a₁₂.go k₁₃
  have B₁₃ := B.keeps a₁₃.kp.keep
  have kk₁₃ : Kp s₁₁ s₁₃ := k₁₂.trans k₁₃
  refine args_cons (Nm.eval (a₁₃.celled rfl rfl rfl) (args_nil ⟨k₁₃, reduce_call B₁₃ (hR1.le (by decide)) hSh (hF₁₁.keeps kk₁₃.keep) (by omega) hfl (perms_rows _ hpm) fun s₁₄ C2 k₁₄ hC2 => ?_⟩))
  rw [← pl.sh, hce] at hC2
  have kk₁₄ : Kp s₁₁ s₁₄ := kk₁₃.trans k₁₄
  refine ne_il (hC₁₁.keeps kk₁₄.keep) hC2 hu (wpAny_truthy_bool ?_)
  rw [decide_eq_true rfl, if_neg (by decide)]
  refine wpAny_execs_nil ?_
  have a₁₄ := a₁₁.go kk₁₄
  have B₁₄ := B.keeps a₁₄.kp.keep
  have hC₁₄ := hC₁₁.keeps kk₁₄.keep
  have hF₁₄ := hF₁₁.keeps kk₁₄.keep
  have hLd₁₄ := hLd₁₁.keeps kk₁₄.keep
  have hT₁₄ := hT₁₁.keeps kk₁₄.keep
  -- counts
  refine wpAny_execs_cons (wpAny_If (wpAny_isTrue_Compare1 (ev_comp false (fun _ => _) hR1.hh (by with_unfolding_all rfl) ?_)))
  refine ev_callT (a₁₄.nB B 2) (args_cons (wpAny_Constant_int (args_nil (rng1 (by decide) (by decide) fun s₁₅ r₁₅ k₁₅ src₁₅ => ?_))))
  refine ⟨4, _, fun _ => true, fun i y => ∃ t', y = Value.int (came.count (i : Int) : Nat) t', _, src₁₅, by rw [sizeLine_eq]; omega, ?_, ?_⟩
  · rintro C i v τ E' hi ⟨tv, rfl⟩ kτ hnm
    have kk : Kp s₁₄ τ := (((Kp.refl _).toks _).trans k₁₅).trans kτ
    have aτ := a₁₄.go kk
    obtain ⟨vc, hvc, hic⟩ := (hC₁₄.keeps kk.keep).isList
    refine ⟨wpAny_pure ⟨rfl, Kp.refl _⟩, fun _ => ev_meth (Nm.eval (.cel rfl rfl (aτ.cell "came" _ rfl)) (meth_il (hC₁₄.keeps kk.keep) F.slot_list_count F.type_list_count ?_))⟩
    exact callWith_method1 (args_cons (hnm.eval (args_nil (count_list_ints hvc hic ⟨⟨_, rfl⟩, (Kp.refl _).toks _⟩))))
  intro D1 ys₃ s₁₆ hD1n k₁₆ hpl₃ hpr₃
  have hD1 : IL s₁₆.heap D1 _ := .of_plain hpl₃ (ints_of_paired (f := fun i => (came.count (i : Int) : Nat)) hpr₃)
  have kk₁₆ : Kp s₁₄ s₁₆ := (((Kp.refl _).toks _).trans k₁₅).trans k₁₆
  have a₁₆ := a₁₄.go kk₁₆
  refine ev_comp false (fun _ => _) hR1.hh (by with_unfolding_all rfl) ?_
  refine ev_callT (a₁₆.nB B 2) (args_cons (wpAny_Constant_int (args_nil (rng1 (by decide) (by decide) fun s₁₇ r₁₇ k₁₇ src₁₇ => ?_))))
  refine ⟨4, _, fun _ => true, fun i y => ∃ t', y = Value.int (first.count ((ledP turns).getD i 0) : Nat) t', _, src₁₇, by rw [sizeLine_eq]; omega, ?_, ?_⟩
  · rintro C i v τ E' hi ⟨tv, rfl⟩ kτ hnm
    have kk : Kp s₁₄ τ := kk₁₆.trans ((((Kp.refl _).toks _).trans k₁₇).trans kτ)
    have aτ := a₁₄.go kk
    obtain ⟨vc, hvc, hic⟩ := (hF₁₄.keeps kk.keep).isList
    refine ⟨wpAny_pure ⟨rfl, Kp.refl _⟩, fun _ => ev_meth (Nm.eval (.cel rfl rfl (aτ.cell "first" _ rfl)) (meth_il (hF₁₄.keeps kk.keep) F.slot_list_count F.type_list_count ?_))⟩
    refine callWith_method1 (args_cons (Subscript_ (Nm.eval (.cel rfl rfl (aτ.cell "led" _ rfl)) (hnm.eval (item_il (x := (ledP turns).getD i 0) (hLd₁₄.keeps kk.keep) (by omega) (by omega) ?_ fun t1 => ?_)))))
    · rw [Int.toNat_natCast]; exact getD_some (by have := perms_len _ hpm; omega)
    · exact args_nil (count_list_ints hvc hic ⟨⟨_, rfl⟩, (Kp.refl _).toks _⟩)
  intro D2 ys₄ s₁₈ hD2n k₁₈ hpl₄ hpr₄
  have hD2 : IL s₁₈.heap D2 _ := .of_plain hpl₄ (ints_of_paired (f := fun i => (first.count ((ledP turns).getD i 0) : Nat)) hpr₄)
  have kk₁₈ : Kp s₁₆ s₁₈ := (((Kp.refl _).toks _).trans k₁₇).trans k₁₈
  refine ne_il (hD1.keeps kk₁₈.keep) hD2 hu (wpAny_truthy_bool ?_)
  have hcount : (List.map (fun i : Nat => ((came.count (i : Int) : Nat) : Int)) (List.filter (fun _ => true) (List.range 4))) = List.map (fun i : Nat => ((first.count ((ledP turns).getD i 0) : Nat) : Int)) (List.filter (fun _ => true) (List.range 4)) := by
    apply List.map_congr_left
    intro i hi
    have : i < 4 := by simpa using hi
    have := pl.cn i this
    rw [hce] at this
    rw [this]
  rw [decide_eq_true hcount, if_neg (by decide)]
  refine wpAny_execs_nil ?_
  have kk₁₉ : Kp s₁₄ s₁₈ := kk₁₆.trans kk₁₈
  have a₁₈ := a₁₄.go kk₁₉
  have B₁₈ := B.keeps a₁₈.kp.keep
  -- falls, back
  refine wpAny_execs_cons (wpAny_Return_some (wpAny_And2 (wpAny_Compare1 (ev_callF (a₁₈.nF B 14) (B₁₈.fn 14) (args_cons (Nm.eval (a₁₈.celled rfl rfl rfl) (args_nil ⟨Kp.refl _, falls_call B₁₈ (hR1.le (by decide)) (hC₁₄.keeps kk₁₉.keep) (by omega) (by omega) fun s₁₉ G1 k₁₉ hG1n hG1 => ?_⟩)))))))
  have a₁₉ := a₁₈.go k₁₉
  have B₁₉ := B.keeps a₁₉.kp.keep
  have kk₂₀ : Kp s₁₄ s₁₉ := kk₁₉.trans k₁₉
  refine ev_callF (a₁₉.nF B 14) (B₁₉.fn 14) (args_cons (Nm.eval (a₁₉.celled rfl rfl rfl) (args_nil ⟨Kp.refl _, falls_call B₁₉ (hR1.le (by decide)) (hF₁₄.keeps kk₂₀.keep) (by omega) (by omega) fun s₂₀ G2 k₂₀ hG2n hG2 => ?_⟩)))
  refine eq_il (hG1.keeps k₂₀.keep) hG2 hu ?_
  have hfa := pl.fa
  rw [hce] at hfa
  rw [decide_eq_true hfa]
  refine wpAny_truthy_bool ?_
  rw [if_pos rfl]
  have a₂₀ := a₁₉.go k₂₀
  have B₂₀ := B.keeps a₂₀.kp.keep
  have kk₂₁ : Kp s₁₄ s₂₀ := kk₂₀.trans k₂₀
  refine wpAny_Compare1 (ev_callF (a₂₀.nF B 7) (B₂₀.fn 7) (args_cons (Nm.eval (a₂₀.nF B 10) (args_cons (ev_rev (Nm.eval (a₂₀.local rfl rfl) (wpAny_UnaryOp (wpAny_Constant_int (PyProof.Rows.neg_int ⟨T, turns, _, rfl, hT₁₄.keeps kk₂₁.keep, by omega, rfl, fun s₂₁ Rv k₂₁ hRn hRv => ?_⟩)))))))))
  have kk₂₂ : Kp s₂₀ s₂₁ := (((Kp.refl s₂₀).toks _).toks _).trans k₂₁
  have a₂₁ := a₂₀.go kk₂₂
  have B₂₁ := B.keeps a₂₁.kp.keep
  have kk₂₃ : Kp s₁₄ s₂₁ := kk₂₁.trans kk₂₂
  refine args_cons (Nm.eval (a₂₁.celled rfl rfl rfl) (args_nil ⟨kk₂₂, reduce_call B₂₁ (hR1.le (by decide)) hRv (hC₁₄.keeps kk₂₃.keep) (by omega) hcl (fun t ht => hti t (List.mem_reverse.mp ht)) fun s₂₂ Bk k₂₂ hBk => ?_⟩))
  have hbk := pl.bk
  rw [hce] at hbk
  rw [hbk] at hBk
  have a₂₂ := a₂₁.go k₂₂
  refine Nm.eval (a₂₂.celled rfl rfl rfl) (eq_il hBk ((hF₁₄.keeps kk₂₃.keep).keeps k₂₂.keep) hu ?_)
  rw [decide_eq_true rfl]
  exact h _ a₂₂.kp
end
end Mine
end partL9

section partTop1
open PySem PySem.W PyProof.Rows
set_option maxRecDepth 100000
set_option maxHeartbeats 8000000
namespace Mine
open_top hd for PySem.Challenge.rw_om0007_01
end Mine
end partTop1

section partL10
open PySem PySem.W PyProof.Rows
set_option maxRecDepth 100000
set_option autoImplicit false
namespace Mine
noncomputable def FnIn (K : Frag) (r : FnRow) : Prop := ∃ o doc pm an cdv ct, K.lookup r.a = some o ∧ o.data = .func (fnOf r.nm r.nm (fnA r.i) (fnB r.i) (fnS r.i) r.dV r.kV doc pm an cdv ct) ∧ codeIn K cdv r.nm = true ∧ nsIn K mainGlobals r.nm = some (some (.ref r.a))
theorem FnIn.at {K : Frag} {r : FnRow} {h : Heap} {mg : Str → Option Value} (x : FnIn K r) (X : K.In h) (G : h.Ns mainGlobals mg) : mg r.nm = some (.ref r.a) ∧ FnAt h r.nm r.i r.a r.dV r.kV :=
  let ⟨o, doc, pm, an, cdv, ct, h1, h2, h3, h4⟩ := x
  ⟨mg_of X G h4, o, doc, pm, an, cdv, ct, X _ _ h1, h2, codeRec_of X h3⟩
theorem fns_in (P : Params) : ∀ r ∈ fnTab, FnIn (hd.heap_39 P) r := by
  unfold fnTab
  refine List.forall_mem_cons.mpr ⟨⟨_, _, _, _, _, _, rfl, rfl, rfl, rfl⟩, ?_⟩
  refine List.forall_mem_cons.mpr ⟨⟨_, _, _, _, _, _, rfl, rfl, rfl, rfl⟩, ?_⟩
  refine List.forall_mem_cons.mpr ⟨⟨_, _, _, _, _, _, rfl, rfl, rfl, rfl⟩, ?_⟩
  refine List.forall_mem_cons.mpr ⟨⟨_, _, _, _, _, _, rfl, rfl, rfl, rfl⟩, ?_⟩
  refine List.forall_mem_cons.mpr ⟨⟨_, _, _, _, _, _, rfl, rfl, rfl, rfl⟩, ?_⟩
  refine List.forall_mem_cons.mpr ⟨⟨_, _, _, _, _, _, rfl, rfl, rfl, rfl⟩, ?_⟩
  refine List.forall_mem_cons.mpr ⟨⟨_, _, _, _, _, _, rfl, rfl, rfl, rfl⟩, ?_⟩
  refine List.forall_mem_cons.mpr ⟨⟨_, _, _, _, _, _, rfl, rfl, rfl, rfl⟩, ?_⟩
  refine List.forall_mem_cons.mpr ⟨⟨_, _, _, _, _, _, rfl, rfl, rfl, rfl⟩, ?_⟩
  refine List.forall_mem_cons.mpr ⟨⟨_, _, _, _, _, _, rfl, rfl, rfl, rfl⟩, ?_⟩
  refine List.forall_mem_cons.mpr ⟨⟨_, _, _, _, _, _, rfl, rfl, rfl, rfl⟩, ?_⟩
  refine List.forall_mem_cons.mpr ⟨⟨_, _, _, _, _, _, rfl, rfl, rfl, rfl⟩, ?_⟩
  refine List.forall_mem_cons.mpr ⟨⟨_, _, _, _, _, _, rfl, rfl, rfl, rfl⟩, ?_⟩
  refine List.forall_mem_cons.mpr ⟨⟨_, _, _, _, _, _, rfl, rfl, rfl, rfl⟩, ?_⟩
  refine List.forall_mem_cons.mpr ⟨⟨_, _, _, _, _, _, rfl, rfl, rfl, rfl⟩, ?_⟩
  exact List.forall_mem_nil _
end Mine
end partL10

section partL11
open PySem PySem.W PyProof.Rows
set_option maxRecDepth 100000
set_option autoImplicit false
namespace Mine
theorem law_in (P : Params) : FnIn (hd.heap_39 P) ⟨"law", 23, 123, .none, .none⟩ := ⟨_, _, _, _, _, _, rfl, rfl, rfl, rfl⟩
theorem bi_in (P : Params) : ∀ p ∈ biTab, nsIn (hd.heap_39 P) mainGlobals p.1 = some none := by
  unfold biTab
  repeat (refine List.forall_mem_cons.mpr ⟨rfl, ?_⟩)
  exact List.forall_mem_nil _
theorem boot_in : ∀ p ∈ biTab, p.1 ≠ "__name__" ∧ bootBuiltins p.1 = some p.2 := by
  unfold biTab
  refine List.forall_mem_cons.mpr ⟨⟨by decide, by dsimp only; boot_by_name⟩, ?_⟩
  refine List.forall_mem_cons.mpr ⟨⟨by decide, by dsimp only; boot_by_name⟩, ?_⟩
  refine List.forall_mem_cons.mpr ⟨⟨by decide, by dsimp only; boot_by_name⟩, ?_⟩
  refine List.forall_mem_cons.mpr ⟨⟨by decide, by dsimp only; boot_by_name⟩, ?_⟩
  refine List.forall_mem_cons.mpr ⟨⟨by decide, by dsimp only; boot_by_name⟩, ?_⟩
  refine List.forall_mem_cons.mpr ⟨⟨by decide, by dsimp only; boot_by_name⟩, ?_⟩
  refine List.forall_mem_cons.mpr ⟨⟨by decide, by dsimp only; boot_by_name⟩, ?_⟩
  refine List.forall_mem_cons.mpr ⟨⟨by decide, by dsimp only; boot_by_name⟩, ?_⟩
  refine List.forall_mem_cons.mpr ⟨⟨by decide, by dsimp only; boot_by_name⟩, ?_⟩
  exact List.forall_mem_nil _
theorem bs_of {w : World} {p : Program} {loose : List Str} {mean : ExcName → Option Value} {mg mb : Str → Option Value} {h : Heap} (X : (hd.heap_39 w.params).In h) (T : Top p loose mean mg mb h) : Bs mg mb h where
  lim := T.nolimit
  gl := T.g
  bi := T.b
  fns := fun r hr => (fns_in w.params r hr).at X T.g
  bis := fun q hq => ⟨mg_none_of X T.g (bi_in w.params q hq), (T.builtins _ (boot_in q hq).1).trans (boot_in q hq).2⟩
  b64 := ⟨_, mg_of X T.g (n := "_B64") (v := .bytes b64Bytes _) rfl⟩
  d65 := X _ _ rfl
  d74 := X _ _ rfl
  ini := mg_of X T.g rfl
  o73 := X _ _ rfl

theorem good_true {s₀ s₁ s' : Shared} {args : List WData} (hg : s₁.gens = #[]) (k : Kp s₁ s') (hp : Challenge.rw_om0007_01.row.claim.post args (.bool true) args = true) (hr : ∀ cls, Challenge.rw_om0007_01.row.claim.raises args cls = false) :
    GoodWG Challenge.rw_om0007_01.row.claim (classAt s₀.heap) (ExcName.means s₀.heap) args s₁ (.ok (.ret (.bool true))) s' :=
  ⟨.inl ⟨.bool true, .bool true, [], rfl, hr, .bool _, hp, fun _ => ⟨.nil, fun a ha => by cases ha⟩⟩, .of_keep k.keep, k.os, k.bare (.of_eq hg)⟩

theorem post_true (args : List WData) : Challenge.rw_om0007_01.row.claim.post args (.bool true) args = true := by
  show (WShape.has [] (.bool true) .bool && (WTm.eq .res (.lit (.bool true))).holds [] { args := args, res := some (.bool true), after := args }) = true
  rw [Bool.and_eq_true]
  refine ⟨by decide +kernel, ?_⟩
  unfold WTm.holds
  rw [w_eq_bool (w_res rfl) w_lit]
  rfl
theorem holds_of (pl : ∀ script : List Int, PL (firstP script) (turnsP script)) : PySem.Challenge.rw_om0007_01.Holds := by
  refine Mine.hd ?_
  intro w s₀ s₁ mg mb G Y fa o pm cd doc dV kV ho hd hcd hD hmg hg args vals as hpre hlay hrd hwl hlo
  have KX := kIn_of Y
  refine Ground.open G ?_
  intro T B D TE TW
  wrow_args hpre hlay hrd hwl hlo
  rename_i script _ _ _ _ _ _ _ l vs _ hL _ _ _ hI _ hcond _
  refine enter_call ?_
  have Bb := bs_of KX T
  have hlaw := (law_in w.params).at KX T.g
  have hfa : mg "law" = some (.ref fa) := hmg
  rw [hlaw.1] at hfa
  obtain rfl : (123 : Addr) = fa := by injection Option.some.inj hfa
  refine law_code Bb ⟨rfl, by decide, by decide⟩ hlaw.2 (script := script) hL hI ?_ (pl script) fun s' k => good_true hg k ?_ ?_
  · have h63 : ¬ ((63 : Nat) : Int) < (script.length : Nat) := hcond
    omega
  · exact post_true _
  · intro cls; rfl
end Mine
end partL11

section partC1
set_option maxRecDepth 100000
set_option autoImplicit false
namespace Mine

/-- and, or, xor and the all-one -/
structure Gt (α : Type) where
  an : α → α → α
  o : α → α → α
  x : α → α → α
  tt : α
section
variable {α : Type} (G : Gt α)
noncomputable def nt (a : α) : α := G.x a G.tt
/-- the letter is t -/
noncomputable def isL (t : Nat) (y : α × α) : α := match t with
  | 0 => nt G (G.o y.1 y.2)
  | 1 => G.an (nt G y.1) y.2
  | 2 => G.an y.1 (nt G y.2)
  | _ => G.an y.1 y.2
/-- one more, if p -/
noncomputable def incC (p : α) : α → List α → List α
  | prev, [] => [G.an p prev]
  | prev, y :: r => G.o y (G.an p prev) :: incC p y r
noncomputable def hdC (ff : α) : List α → α
  | [] => ff
  | y :: _ => y
/-- one less, if q -/
noncomputable def decC (ff q : α) : List α → List α
  | [] => []
  | y :: r => G.an y (G.o (nt G q) (hdC ff r)) :: decC ff q r
noncomputable def ff : α := G.x G.tt G.tt
/-- the lone ones of a scan -/
noncomputable def loneC (op cl : α × α → α) : List α → List (α × α) → List α
  | _, [] => []
  | u, y :: r => G.an (cl y) (nt G (hdC (ff G) u)) :: loneC op cl (decC G (ff G) (cl y) (incC G (op y) G.tt u)) r
noncomputable def cntC : List α → List α → List α
  | u, [] => u
  | u, y :: r => cntC (incC G y G.tt u) r
/-- the first so many -/
noncomputable def lowC : List α → List α → List α × List α
  | u, [] => ([], u)
  | u, y :: r => let p := lowC (decC G (ff G) y u) r; (G.an y (hdC (ff G) u) :: p.1, p.2)
/-- the letter anew: l1 or l2: t, else p or q: t + 1 -/
noncomputable def newC (t : Nat) (y : α × α) (p q l1 l2 : α) : α × α :=
  let low := G.o l1 l2
  let lone := G.o p q
  let z : α × α := match t with
    | 0 => (ff G, nt G low)
    | 1 => (nt G low, low)
    | _ => (G.tt, nt G low)
  let any := G.o low lone
  (G.o (G.an any z.1) (G.an (nt G any) y.1), G.o (G.an any z.2) (G.an (nt G any) y.2))
noncomputable def zipC (t : Nat) : List (α × α) → List α → List α → List α → List α → List (α × α)
  | y :: ys, p :: ps, q :: qs, a :: as, b :: bs => newC G t y p q a b :: zipC t ys ps qs as bs
  | _, _, _, _, _ => []
noncomputable def turnC (t : Nat) (w : List (α × α)) : List (α × α) :=
  let sh := loneC G (isL G (t + 1)) (isL G t) [] w
  let wt := (loneC G (isL G t) (isL G (t + 1)) [] w.reverse).reverse
  let l1 := lowC G (cntC G [] wt) sh
  let l2 := lowC G l1.2 wt
  zipC G t w sh wt l1.1 l2.1
end
noncomputable def natG (N : Nat) : Gt Nat := ⟨Nat.land, Nat.lor, Nat.xor, 2 ^ N - 1⟩
/-- the tables of the first m variables -/
noncomputable def tabs : Nat → List Nat
  | 0 => []
  | m + 1 => (tabs m).map (fun v => Nat.lor v (Nat.shiftLeft v (2 ^ m))) ++ [Nat.shiftLeft (2 ^ (2 ^ m) - 1) (2 ^ m)]
noncomputable def pairC {α : Type} : List α → List (α × α)
  | a :: b :: r => (a, b) :: pairC r
  | _ => []
noncomputable def eqC : List (Nat × Nat) → List (Nat × Nat) → Bool
  | [], [] => true
  | a :: r, b :: s => Nat.beq a.1 b.1 && (Nat.beq a.2 b.2 && eqC r s)
  | _, _ => false
noncomputable def eqL : List Nat → List Nat → Bool
  | [], [] => true
  | a :: r, b :: s => Nat.beq a b && eqL r s
  | _, _ => false
section
variable {α : Type} (G : Gt α)
noncomputable def gtC (y z : α × α) : α := G.o (G.an y.1 (nt G z.1)) (G.an (nt G (G.x y.1 z.1)) (G.an y.2 (nt G z.2)))
/-- where a word falls -/
noncomputable def faC : List (α × α) → List α
  | y :: z :: r => gtC G y z :: faC (z :: r)
  | _ => []
/-- how often a letter stands in a word -/
noncomputable def ctC (x : Nat) (w : List (α × α)) : List α := cntC G [] (w.map (isL G x))
end
noncomputable def swN (t x : Nat) : Nat := if x = t then t + 1 else if x = t + 1 then t else x
noncomputable def wordN (n : Nat) : List (Nat × Nat) := pairC (tabs (2 * n))
noncomputable def brN (n s t : Nat) : Bool := let G := natG (2 ^ (2 * n)); let w := wordN n; eqC (turnC G s (turnC G t (turnC G s w))) (turnC G t (turnC G s (turnC G t w)))
noncomputable def coN (n : Nat) : Bool := let G := natG (2 ^ (2 * n)); let w := wordN n; eqC (turnC G 0 (turnC G 2 w)) (turnC G 2 (turnC G 0 w))
noncomputable def onN (n t : Nat) : Bool :=
  let G := natG (2 ^ (2 * n)); let w := wordN n; let v := turnC G t w
  eqC (turnC G t v) w && (eqL (faC G v) (faC G w) && (eqL (ctC G 0 v) (ctC G (swN t 0) w) && (eqL (ctC G 1 v) (ctC G (swN t 1) w) && (eqL (ctC G 2 v) (ctC G (swN t 2) w) && eqL (ctC G 3 v) (ctC G (swN t 3) w)))))
end Mine
end partC1

section partC2
set_option maxRecDepth 100000
set_option autoImplicit false
namespace Mine
/-- a map that keeps the gates -/
structure Hm {α β : Type} (G : Gt α) (G' : Gt β) (φ : α → β) : Prop where
  an : ∀ a b, φ (G.an a b) = G'.an (φ a) (φ b)
  o : ∀ a b, φ (G.o a b) = G'.o (φ a) (φ b)
  x : ∀ a b, φ (G.x a b) = G'.x (φ a) (φ b)
  tt : φ G.tt = G'.tt
section
variable {α β : Type} {G : Gt α} {G' : Gt β} {φ : α → β} (H : Hm G G' φ)
include H
theorem Hm.nt (a : α) : φ (nt G a) = nt G' (φ a) := by unfold Mine.nt; rw [H.x, H.tt]
theorem Hm.ff : φ (ff G) = ff G' := by unfold Mine.ff; rw [H.x, H.tt]
theorem Hm.isL (t : Nat) (y : α × α) : φ (isL G t y) = isL G' t (φ y.1, φ y.2) := by
  unfold Mine.isL
  split <;> simp only [H.nt, H.an, H.o]
theorem Hm.inc (p : α) : ∀ (u : List α) (prev : α), (incC G p prev u).map φ = incC G' (φ p) (φ prev) (u.map φ)
  | [], prev => by simp [incC, H.an]
  | y :: r, prev => by simp only [incC, List.map_cons, H.o, H.an, Hm.inc p r y]
theorem Hm.hd (f : α) (u : List α) : φ (hdC f u) = hdC (φ f) (u.map φ) := by cases u <;> rfl
theorem Hm.dec (f q : α) : ∀ (u : List α), (decC G f q u).map φ = decC G' (φ f) (φ q) (u.map φ)
  | [] => rfl
  | y :: r => by simp only [decC, List.map_cons, H.an, H.o, H.nt, H.hd, Hm.dec f q r]
theorem Hm.lone {op cl : α × α → α} {op' cl' : β × β → β} (h1 : ∀ y, φ (op y) = op' (φ y.1, φ y.2)) (h2 : ∀ y, φ (cl y) = cl' (φ y.1, φ y.2)) :
    ∀ (w : List (α × α)) (u : List α), (loneC G op cl u w).map φ = loneC G' op' cl' (u.map φ) (w.map fun y => (φ y.1, φ y.2))
  | [], _ => rfl
  | y :: r, u => by simp only [loneC, List.map_cons, H.an, H.nt, H.hd, H.ff, h2, Hm.lone h1 h2 r, H.dec, H.inc, h1, H.tt]
theorem Hm.cnt : ∀ (l u : List α), (cntC G u l).map φ = cntC G' (u.map φ) (l.map φ)
  | [], _ => rfl
  | y :: r, u => by simp only [cntC, List.map_cons, Hm.cnt r, H.inc, H.tt]
theorem Hm.low : ∀ (l u : List α), (lowC G u l).1.map φ = (lowC G' (u.map φ) (l.map φ)).1 ∧ (lowC G u l).2.map φ = (lowC G' (u.map φ) (l.map φ)).2
  | [], _ => ⟨rfl, rfl⟩
  | y :: r, u => by
    have ih := Hm.low r (decC G (Mine.ff G) y u)
    rw [H.dec, H.ff] at ih
    simp only [lowC, List.map_cons, H.an, H.hd, H.ff, ih.1, ih.2, and_self]
theorem Hm.new (t : Nat) (y : α × α) (p q l1 l2 : α) : (fun y : α × α => (φ y.1, φ y.2)) (newC G t y p q l1 l2) = newC G' t (φ y.1, φ y.2) (φ p) (φ q) (φ l1) (φ l2) := by
  unfold newC
  dsimp only
  split <;> simp only [H.o, H.an, H.nt, H.ff, H.tt]
theorem Hm.zip (t : Nat) : ∀ (w : List (α × α)) (ps qs as bs : List α), (zipC G t w ps qs as bs).map (fun y => (φ y.1, φ y.2)) = zipC G' t (w.map fun y => (φ y.1, φ y.2)) (ps.map φ) (qs.map φ) (as.map φ) (bs.map φ)
  | [], _, _, _, _ => by simp [zipC]
  | _ :: _, [], _, _, _ => by simp [zipC]
  | _ :: _, _ :: _, [], _, _ => by simp [zipC]
  | _ :: _, _ :: _, _ :: _, [], _ => by simp [zipC]
  | _ :: _, _ :: _, _ :: _, _ :: _, [] => by simp [zipC]
  | y :: ys, p :: ps, q :: qs, a :: as, b :: bs => by
    simp only [zipC, List.map_cons, Hm.zip t ys ps qs as bs]
    exact congrArg (· :: _) (H.new t y p q a b)
theorem Hm.turn (t : Nat) (w : List (α × α)) : (turnC G t w).map (fun y => (φ y.1, φ y.2)) = turnC G' t (w.map fun y => (φ y.1, φ y.2)) := by
  unfold turnC
  dsimp only
  have e1 := H.lone (H.isL (t + 1)) (H.isL t) w []
  have e2 := H.lone (H.isL t) (H.isL (t + 1)) w.reverse []
  rw [H.zip, List.map_reverse, e1, e2, List.map_nil, List.map_reverse]
  have e3 := fun l u => (H.low l u).1
  have e4 := fun l u => (H.low l u).2
  simp only [e3, e4, e1, e2, H.cnt, List.map_reverse, List.map_nil]
end
end Mine
end partC2

section partC3
set_option maxRecDepth 100000
set_option autoImplicit false
namespace Mine
noncomputable def boolG : Gt Bool := ⟨and, or, xor, true⟩
theorem bnt (a : Bool) : nt boolG a = !a := by cases a <;> rfl
theorem bff : ff boolG = false := rfl
noncomputable def decB (y : Bool × Bool) : Int := (if y.1 then 2 else 0) + (if y.2 then 1 else 0)
theorem isL_dec (t : Nat) (ht : t < 4) (y : Bool × Bool) : isL boolG t y = (decB y == (t : Int)) := by
  obtain ⟨a, b⟩ := y
  match t, ht with
  | 0, _ => cases a <;> cases b <;> rfl
  | 1, _ => cases a <;> cases b <;> rfl
  | 2, _ => cases a <;> cases b <;> rfl
  | 3, _ => cases a <;> cases b <;> rfl

/-- the count c as a row of bits -/
noncomputable def Th (u : List Bool) (c : Nat) : Prop := ∀ j, u.getD j false = decide (j < c)
theorem inc_get (p : Bool) : ∀ (u : List Bool) (prev : Bool) (j : Nat), (incC boolG p prev u).getD j false = (u.getD j false || (p && (if j = 0 then prev else u.getD (j - 1) false)))
  | [], prev, 0 => by simp [incC, boolG]
  | [], prev, j + 1 => by simp [incC]
  | y :: r, prev, 0 => by simp [incC, boolG]
  | y :: r, prev, j + 1 => by
    have ih := inc_get p r y j
    simp only [incC, List.getD_cons_succ, ih]
    cases j <;> simp
theorem Th.inc {u : List Bool} {c : Nat} (h : Th u c) (p : Bool) : Th (incC boolG p true u) (if p then c + 1 else c) := by
  intro j
  rw [inc_get, h j]
  cases p
  · simp
  · cases j with
    | zero => simp
    | succ j =>
      have := h j
      simp only [Nat.succ_ne_zero, if_false, Nat.add_sub_cancel, this, Bool.true_and, if_true]
      rw [Bool.eq_iff_iff]; simp; omega
theorem dec_get (q : Bool) : ∀ (u : List Bool) (j : Nat), (decC boolG false q u).getD j false = (u.getD j false && (!q || u.getD (j + 1) false))
  | [], j => by simp [decC]
  | y :: r, 0 => by
    simp only [decC, List.getD_cons_zero, List.getD_cons_succ, bnt]
    cases r <;> rfl
  | y :: r, j + 1 => by
    have ih := dec_get q r j
    simp only [decC, List.getD_cons_succ, ih]
theorem Th.dec {u : List Bool} {c : Nat} (h : Th u c) (q : Bool) : Th (decC boolG false q u) (if q then c - 1 else c) := by
  intro j
  rw [dec_get, h j, h (j + 1)]
  cases q
  · simp
  · rw [Bool.eq_iff_iff]; simp; omega
theorem Th.hd {u : List Bool} {c : Nat} (h : Th u c) : hdC false u = decide (0 < c) := by
  rw [← h 0]; cases u <;> rfl
theorem Th.nil : Th [] 0 := fun j => by simp
theorem Th.eq {u : List Bool} {c d : Nat} (h : Th u c) (h' : Th u d) : c = d := by
  have a := (h c).symm.trans (h' c)
  have b := (h d).symm.trans (h' d)
  simp at a b
  omega

/-- the lone ones, with a counter -/
noncomputable def loneS {β : Type} (op cl : β → Bool) : Nat → List β → List Bool
  | _, [] => []
  | c, y :: r => (cl y && decide (c = 0)) :: loneS op cl (if cl y then (if op y then c + 1 else c) - 1 else if op y then c + 1 else c) r
theorem lone_eq {op cl : Bool × Bool → Bool} : ∀ (w : List (Bool × Bool)) (u : List Bool) (c : Nat), Th u c → loneC boolG op cl u w = loneS op cl c w
  | [], _, _, _ => rfl
  | y :: r, u, c, h => by
    have h1 := (h.inc (op y)).dec (cl y)
    have ih := lone_eq (op := op) (cl := cl) r _ _ h1
    simp only [loneC, loneS, bff]
    rw [show boolG.tt = true from rfl, ih, bnt, h.hd]
    congr 1
    show (cl y && !decide (0 < c)) = (cl y && decide (c = 0))
    congr 1
    rw [Bool.eq_iff_iff]; simp
theorem lone_map {β γ : Type} {op cl : γ → Bool} (f : β → γ) : ∀ (w : List β) (c : Nat), loneS op cl c (w.map f) = loneS (fun y => op (f y)) (fun y => cl (f y)) c w
  | [], _ => rfl
  | y :: r, c => by simp only [List.map_cons, loneS, lone_map f r]
theorem lone_len {β : Type} {op cl : β → Bool} : ∀ (w : List β) (c : Nat), (loneS op cl c w).length = w.length
  | [], _ => rfl
  | y :: r, c => by simp only [loneS, List.length_cons, lone_len r]
theorem cnt_th : ∀ (l u : List Bool) (c : Nat), Th u c → Th (cntC boolG u l) (c + l.count true)
  | [], u, c, h => by simpa [cntC] using h
  | y :: r, u, c, h => by
    have ih := cnt_th r _ _ (h.inc y)
    simp only [cntC]
    rw [show boolG.tt = true from rfl]
    cases y
    · simpa using ih
    · rw [List.count_cons_self]
      have e : c + (r.count true + 1) = (if true = true then c + 1 else c) + r.count true := by simp; omega
      rw [e]; exact ih
noncomputable def lowS : Nat → List Bool → List Bool
  | _, [] => []
  | m, b :: r => (b && decide (0 < m)) :: lowS (if b then m - 1 else m) r
theorem low_len : ∀ (l : List Bool) (m : Nat), (lowS m l).length = l.length
  | [], _ => rfl
  | b :: r, m => by simp only [lowS, List.length_cons, low_len r]
theorem low_eq : ∀ (l u : List Bool) (c : Nat), Th u c → (lowC boolG u l).1 = lowS c l ∧ Th (lowC boolG u l).2 (c - l.count true)
  | [], u, c, h => ⟨rfl, by simpa [lowC] using h⟩
  | y :: r, u, c, h => by
    have ih := low_eq r _ _ (h.dec y)
    simp only [lowC, lowS, bff]
    refine ⟨?_, ?_⟩
    · rw [ih.1, h.hd]; rfl
    · have e : c - (y :: r).count true = (if y = true then c - 1 else c) - r.count true := by
        cases y
        · simp
        · rw [List.count_cons_self]; simp; omega
      rw [e]; exact ih.2
theorem new_dec (t : Nat) (ht : t < 3) (y : Bool × Bool) (p q l1 l2 : Bool) : decB (newC boolG t y p q l1 l2) = if (l1 || l2) = true then (t : Int) else if (p || q) = true then (t : Int) + 1 else decB y := by
  obtain ⟨a, b⟩ := y
  match t, ht with
  | 0, _ => cases a <;> cases b <;> cases p <;> cases q <;> cases l1 <;> cases l2 <;> rfl
  | 1, _ => cases a <;> cases b <;> cases p <;> cases q <;> cases l1 <;> cases l2 <;> rfl
  | 2, _ => cases a <;> cases b <;> cases p <;> cases q <;> cases l1 <;> cases l2 <;> rfl
theorem zip_len (t : Nat) : ∀ (w : List (Bool × Bool)) (ps qs as bs : List Bool), ps.length = w.length → qs.length = w.length → as.length = w.length → bs.length = w.length → (zipC boolG t w ps qs as bs).length = w.length
  | [], _, _, _, _, _, _, _, _ => by simp [zipC]
  | y :: ys, p :: ps, q :: qs, a :: as, b :: bs, h1, h2, h3, h4 => by
    simp only [zipC, List.length_cons] at *
    rw [zip_len t ys ps qs as bs (by omega) (by omega) (by omega) (by omega)]
theorem zip_get (t : Nat) : ∀ (w : List (Bool × Bool)) (ps qs as bs : List Bool) (k : Nat) (d : Bool × Bool), ps.length = w.length → qs.length = w.length → as.length = w.length → bs.length = w.length → k < w.length →
    (zipC boolG t w ps qs as bs)[k]? = some (newC boolG t (w.getD k d) (ps.getD k false) (qs.getD k false) (as.getD k false) (bs.getD k false))
  | y :: ys, p :: ps, q :: qs, a :: as, b :: bs, 0, d, _, _, _, _, _ => by simp [zipC]
  | y :: ys, p :: ps, q :: qs, a :: as, b :: bs, k + 1, d, h1, h2, h3, h4, hk => by
    simp only [List.length_cons] at *
    simp only [zipC, List.getElem?_cons_succ, List.getD_cons_succ]
    exact zip_get t ys ps qs as bs k d (by omega) (by omega) (by omega) (by omega) (by omega)

/-- the turn on bits, with counters -/
noncomputable def turnS (t : Nat) (w : List (Bool × Bool)) : List (Bool × Bool) :=
  let sh := loneS (fun y => decB y == (t : Int) + 1) (fun y => decB y == (t : Int)) 0 w
  let wt := (loneS (fun y => decB y == (t : Int)) (fun y => decB y == (t : Int) + 1) 0 w.reverse).reverse
  zipC boolG t w sh wt (lowS (wt.count true) sh) (lowS (wt.count true - sh.count true) wt)
theorem turn_bool (t : Nat) (ht : t < 3) (w : List (Bool × Bool)) : turnC boolG t w = turnS t w := by
  unfold turnC turnS
  dsimp only
  have e1 : isL boolG (t + 1) = fun y => decB y == (t : Int) + 1 := by funext y; rw [isL_dec (t + 1) (by omega)]; rfl
  have e2 : isL boolG t = fun y => decB y == (t : Int) := by funext y; rw [isL_dec t (by omega)]
  rw [e1, e2, lone_eq w [] 0 Th.nil, lone_eq w.reverse [] 0 Th.nil]
  generalize loneS _ _ 0 w = sh
  generalize (loneS _ _ 0 w.reverse).reverse = wt
  have h1 := cnt_th wt [] 0 Th.nil
  rw [Nat.zero_add] at h1
  obtain ⟨h2, h3⟩ := low_eq sh _ _ h1
  obtain ⟨h4, _⟩ := low_eq wt _ _ h3
  rw [h2, h4]
end Mine
end partC3

section partC4
set_option maxRecDepth 100000
set_option autoImplicit false
namespace Mine
noncomputable def posL : Nat → List Bool → List Int
  | _, [] => []
  | i, b :: r => if b then (i : Int) :: posL (i + 1) r else posL (i + 1) r
theorem posL_eq : ∀ (bs : List Bool) (i : Nat), posL i bs = ((List.range' i bs.length).filter (fun k => bs.getD (k - i) false)).map fun (k : Nat) => (k : Int)
  | [], _ => rfl
  | b :: r, i => by
    have ih := posL_eq r (i + 1)
    have e : (List.range' (i + 1) r.length).filter (fun k => (b :: r).getD (k - i) false) = (List.range' (i + 1) r.length).filter (fun k => r.getD (k - (i + 1)) false) := by
      apply List.filter_congr
      intro k hk
      have : i + 1 ≤ k := by simp [List.mem_range'] at hk; omega
      rw [show k - i = (k - (i + 1)) + 1 by omega, List.getD_cons_succ]
    rw [List.length_cons, List.range'_succ, List.filter_cons, e]
    simp only [posL, Nat.sub_self, List.getD_cons_zero]
    cases b
    · simpa using ih
    · simp only [if_true, List.map_cons, ih]
theorem posL_lt : ∀ (bs : List Bool) (i : Nat), ∀ x ∈ posL i bs, (i : Int) ≤ x
  | [], _, x, h => by cases h
  | b :: r, i, x, h => by
    have ih := posL_lt r (i + 1)
    simp only [posL] at h
    cases b
    · have := ih x (by simpa using h); omega
    · rcases List.mem_cons.mp (by simpa using h) with rfl | h
      · omega
      · have := ih x h; omega
theorem posL_len : ∀ (bs : List Bool) (i : Nat), (posL i bs).length = bs.count true
  | [], _ => rfl
  | b :: r, i => by
    have ih := posL_len r (i + 1)
    cases b
    · simpa [posL] using ih
    · simp [posL, ih]
theorem low_zero : ∀ (bs : List Bool) (k : Nat), (lowS 0 bs).getD k false = false
  | [], k => by simp [lowS]
  | b :: r, 0 => by simp [lowS]
  | b :: r, k + 1 => by
    have := low_zero r k
    cases b <;> simpa [lowS] using this
theorem posL_take : ∀ (bs : List Bool) (i m k : Nat), ((posL i bs).take m).contains ((i + k : Nat) : Int) = (lowS m bs).getD k false
  | [], i, m, k => by simp [posL, lowS]
  | b :: r, i, m, k => by
    have ih := posL_take r (i + 1)
    have no : ∀ m, ((posL (i + 1) r).take m).contains ((i : Nat) : Int) = false := fun m => by
      rw [Bool.eq_false_iff]
      intro h
      have := posL_lt r (i + 1) _ (List.mem_of_mem_take (List.contains_iff_mem.mp h))
      omega
    cases b with
    | false =>
      simp only [posL, lowS, Bool.false_and, Bool.false_eq_true, if_false]
      cases k with
      | zero => exact no m
      | succ k => rw [show i + (k + 1) = i + 1 + k by omega, ih, List.getD_cons_succ]
    | true =>
      simp only [posL, lowS, Bool.true_and, if_true]
      cases m with
      | zero =>
        rw [List.take_zero]
        cases k with
        | zero => rfl
        | succ k => rw [List.getD_cons_succ, low_zero]; rfl
      | succ m =>
        rw [List.take_succ_cons, List.contains_cons]
        cases k with
        | zero => simp
        | succ k =>
          rw [List.getD_cons_succ, show i + (k + 1) = i + 1 + k by omega, ih, Nat.add_sub_cancel]
          have : (((i + 1 + k : Nat) : Int) == (i : Int)) = false := by rw [beq_eq_false_iff_ne]; omega
          rw [this, Bool.false_or]
theorem low_all : ∀ (bs : List Bool) (m k : Nat), bs.count true ≤ m → (lowS m bs).getD k false = bs.getD k false
  | [], _, k, _ => by simp [lowS]
  | b :: r, m, k, h => by
    cases b with
    | false =>
      rw [List.count_cons_of_ne (by decide)] at h
      cases k with
      | zero => simp [lowS]
      | succ k => simpa [lowS] using low_all r m k h
    | true =>
      rw [List.count_cons_self] at h
      cases k with
      | zero => simp [lowS]; omega
      | succ k => simpa [lowS] using low_all r (m - 1) k (by omega)
theorem posL_has (bs : List Bool) (k : Nat) : (posL 0 bs).contains (k : Int) = bs.getD k false := by
  have := posL_take bs 0 (bs.count true) k
  rw [List.take_of_length_le (by rw [posL_len]; exact Nat.le_refl _), Nat.zero_add, low_all _ _ _ (Nat.le_refl _)] at this
  exact this
theorem posP_L {n : Nat} {p : Nat → Bool} {ps : List Bool} (hl : ps.length = n) (hp : ∀ k, k < n → ps.getD k false = p k) : posP n p = posL 0 ps := by
  rw [posL_eq, hl]
  unfold posP
  rw [← List.range_eq_range']
  congr 1
  apply List.filter_congr
  intro k hk
  rw [Nat.sub_zero, hp k (List.mem_range.mp hk)]

theorem contains_app (l m : List Int) (x : Int) : (l ++ m).contains x = (l.contains x || m.contains x) := by
  rw [Bool.eq_iff_iff, Bool.or_eq_true]; simp only [List.contains_iff_mem, List.mem_append]
theorem step_eq (t : Nat) (ht : t < 3) (w : List (Bool × Bool)) {p q : Nat → Bool} {ps qs : List Bool} (hl : ps.length = w.length) (hm : qs.length = w.length) (hp : ∀ k, k < w.length → ps.getD k false = p k) (hq : ∀ k, k < w.length → qs.getD k false = q k) :
    stepP (w.map decB) (t : Int) p q = (zipC boolG t w ps qs (lowS (qs.count true) ps) (lowS (qs.count true - ps.count true) qs)).map decB := by
  unfold stepP turnedP
  rw [List.length_map, posP_L hl hp, posP_L hm hq, posL_len]
  have hz := zip_len t w ps qs (lowS (qs.count true) ps) (lowS (qs.count true - ps.count true) qs) hl hm (by rw [low_len, hl]) (by rw [low_len, hm])
  apply List.ext_getElem?
  intro k
  rw [List.getElem?_map, List.getElem?_map]
  by_cases hk : k < w.length
  · rw [List.getElem?_range hk, zip_get t w ps qs _ _ k (false, false) hl hm (by rw [low_len, hl]) (by rw [low_len, hm]) hk, Option.map_some, Option.map_some, new_dec t ht]
    congr 1
    rw [Int.toNat_natCast, List.take_append, contains_app, contains_app, posL_len]
    have a := posL_take ps 0 (qs.count true) k
    have b := posL_take qs 0 (qs.count true - ps.count true) k
    rw [Nat.zero_add] at a b
    rw [a, b, posL_has, posL_has]
    have c : (w.map decB).getD k 0 = decB (w.getD k (false, false)) := by
      rw [List.getD_eq_getElem?_getD, List.getElem?_map, List.getD_eq_getElem?_getD, List.getElem?_eq_getElem hk]; rfl
    rw [c]
  · rw [List.getElem?_eq_none (by rw [List.length_range]; omega), List.getElem?_eq_none (by omega)]; rfl
end Mine
end partC4

section partC5
set_option maxRecDepth 100000
set_option autoImplicit false
namespace Mine
noncomputable def hs (f : Int → Int) : List Int → Int
  | [] => 0
  | x :: r => f x + hs f r
theorem hs_app (f : Int → Int) : ∀ (l m : List Int), hs f (l ++ m) = hs f l + hs f m
  | [], m => by simp [hs]
  | x :: r, m => by simp only [List.cons_append, hs, hs_app f r m]; omega
theorem hs_rev (f : Int → Int) : ∀ l : List Int, hs f l.reverse = hs f l
  | [] => rfl
  | x :: r => by rw [List.reverse_cons, hs_app, hs_rev f r]; simp only [hs]; omega
theorem hs_neg {f g : Int → Int} (h : ∀ x, g x = - f x) : ∀ l : List Int, hs g l = - hs f l
  | [] => rfl
  | x :: r => by simp only [hs, hs_neg h r, h x]; omega
noncomputable def stP (op cl : Int → Bool) (x : Int) : Int := if op x = true then 1 else if cl x = true then -1 else 0

theorem lone_spec {op cl : Int → Bool} (hx : ∀ x, ¬ (op x = true ∧ cl x = true)) : ∀ (l : List Int) (c k : Nat), (loneS op cl c l).getD k false = true ↔
    k < l.length ∧ cl (l.getD k 0) = true ∧ (∀ j, j ≤ k → hs (stP op cl) (l.take (k + 1)) < hs (stP op cl) (l.take j)) ∧ hs (stP op cl) (l.take (k + 1)) + c < 0
  | [], c, k => by simp [loneS]
  | x :: r, c, 0 => by
    simp only [loneS, List.getD_cons_zero, List.take_succ_cons, List.take_zero, hs, Bool.and_eq_true, decide_eq_true_eq]
    constructor
    · rintro ⟨h1, rfl⟩
      have h2 : op x = false := by cases h : op x with | false => rfl | true => exact absurd ⟨h, h1⟩ (hx x)
      have : stP op cl x = -1 := by simp [stP, h1, h2]
      refine ⟨by simp, h1, fun j hj => ?_, by omega⟩
      obtain rfl : j = 0 := by omega
      simp only [List.take_zero, hs]; omega
    · rintro ⟨_, h1, _, h3⟩
      have h2 : op x = false := by cases h : op x with | false => rfl | true => exact absurd ⟨h, h1⟩ (hx x)
      have : stP op cl x = -1 := by simp [stP, h1, h2]
      exact ⟨h1, by omega⟩
  | x :: r, c, k + 1 => by
    have ih := lone_spec hx r (if cl x = true then (if op x = true then c + 1 else c) - 1 else if op x = true then c + 1 else c) k
    simp only [loneS, List.getD_cons_succ]
    rw [ih]
    simp only [List.take_succ_cons, hs, List.length_cons]
    have key : (∀ j, j ≤ k + 1 → stP op cl x + hs (stP op cl) (r.take (k + 1)) < hs (stP op cl) ((x :: r).take j)) ↔ (stP op cl x + hs (stP op cl) (r.take (k + 1)) < 0 ∧ ∀ j, j ≤ k → hs (stP op cl) (r.take (k + 1)) < hs (stP op cl) (r.take j)) := by
      constructor
      · intro h
        refine ⟨by simpa [hs] using h 0 (by omega), fun j hj => ?_⟩
        have := h (j + 1) (by omega)
        simp only [List.take_succ_cons, hs] at this
        omega
      · rintro ⟨h0, h⟩ j hj
        cases j with
        | zero => simpa [hs] using h0
        | succ j => have := h j (by omega); simp only [List.take_succ_cons, hs]; omega
    rw [key]
    have s0 : (∀ j, j ≤ k → hs (stP op cl) (r.take (k + 1)) < hs (stP op cl) (r.take j)) → hs (stP op cl) (r.take (k + 1)) < 0 := fun h => by simpa [hs] using h 0 (by omega)
    generalize hs (stP op cl) (r.take (k + 1)) = S at *
    have fx : (cl x = true ∧ op x = false ∧ stP op cl x = -1) ∨ (cl x = false ∧ op x = true ∧ stP op cl x = 1) ∨ (cl x = false ∧ op x = false ∧ stP op cl x = 0) := by
      cases h1 : cl x <;> cases h2 : op x <;> simp [stP, h1, h2]
      exact hx x ⟨h2, h1⟩
    rcases fx with ⟨h1, h2, h3⟩ | ⟨h1, h2, h3⟩ | ⟨h1, h2, h3⟩ <;> rw [h3, h1, h2] <;> simp only [if_true, Bool.false_eq_true, if_false] <;> constructor
    · rintro ⟨a, b, d, e⟩; have := s0 d; exact ⟨by omega, b, ⟨by omega, d⟩, by omega⟩
    · rintro ⟨a, b, ⟨d0, d⟩, e⟩; have := s0 d; exact ⟨by omega, b, d, by omega⟩
    · rintro ⟨a, b, d, e⟩; have := s0 d; exact ⟨by omega, b, ⟨by omega, d⟩, by omega⟩
    · rintro ⟨a, b, ⟨d0, d⟩, e⟩; have := s0 d; exact ⟨by omega, b, d, by omega⟩
    · rintro ⟨a, b, d, e⟩; have := s0 d; exact ⟨by omega, b, ⟨by omega, d⟩, by omega⟩
    · rintro ⟨a, b, ⟨d0, d⟩, e⟩; have := s0 d; exact ⟨by omega, b, d, by omega⟩

noncomputable abbrev hh (t : Int) (w : List Int) (j : Nat) : Int := hs (stepH t) (w.take j)
theorem scanH_get (t : Int) : ∀ (l : List Int) (h : Int) (j : Nat), j ≤ l.length → (scanH t h l)[j]? = some (h + hs (stepH t) (l.take j))
  | [], h, j, hj => by
    obtain rfl : j = 0 := by simpa using hj
    simp [scanH, hs]
  | x :: r, h, 0, _ => by simp [scanH, hs]
  | x :: r, h, j + 1, hj => by
    have := scanH_get t r (h + stepH t x) j (by simpa using hj)
    simp only [scanH, List.getElem?_cons_succ, this, List.take_succ_cons, hs]
    congr 1; omega
theorem scanH_getD (t : Int) (l : List Int) (j : Nat) (hj : j ≤ l.length) : (scanH t 0 l).getD j 0 = hh t l j := by
  rw [List.getD_eq_getElem?_getD, scanH_get t l 0 j hj]; simp
theorem shutH_iff {w : List Int} {t : Int} {k : Nat} (hk : k < w.length) : shutHP w t k = true ↔ (w.getD k 0 = t ∧ ∀ j, j ≤ k → hh t w (k + 1) < hh t w j) := by
  unfold shutHP
  rw [Bool.and_eq_true, beq_iff_eq, List.all_eq_true, scanH_getD t w (k + 1) (by omega)]
  refine and_congr_right fun _ => ⟨fun h j hj => ?_, fun h a ha => ?_⟩
  · have e := scanH_get t w 0 j (by omega)
    have m : hh t w j ∈ (scanH t 0 w).take (k + 1) := by
      rw [List.mem_iff_getElem?]
      exact ⟨j, by rw [List.getElem?_take, if_pos (by omega), e]; simp⟩
    exact of_decide_eq_true (h _ m)
  · rw [List.mem_iff_getElem?] at ha
    obtain ⟨j, hj⟩ := ha
    rw [List.getElem?_take] at hj
    split at hj
    · rename_i hjk
      rw [scanH_get t w 0 j (by omega)] at hj
      have := h j (by omega)
      have e : a = hh t w j := by have := Option.some.inj hj; rw [Int.zero_add] at this; exact this.symm
      rw [e]; exact decide_eq_true this
    · cases hj
theorem waitH_iff {w : List Int} {t : Int} {k : Nat} (hk : k < w.length) : waitHP w t k = true ↔ (w.getD k 0 = t + 1 ∧ ∀ j, k + 1 ≤ j → j ≤ w.length → hh t w k < hh t w j) := by
  unfold waitHP
  rw [Bool.and_eq_true, beq_iff_eq, List.all_eq_true, scanH_getD t w k (by omega)]
  refine and_congr_right fun _ => ⟨fun h j hj hj2 => ?_, fun h a ha => ?_⟩
  · have e := scanH_get t w 0 j hj2
    have m : hh t w j ∈ (scanH t 0 w).drop (k + 1) := by
      rw [List.mem_iff_getElem?]
      exact ⟨j - (k + 1), by rw [List.getElem?_drop, show k + 1 + (j - (k + 1)) = j by omega, e]; simp⟩
    exact of_decide_eq_true (h _ m)
  · rw [List.mem_iff_getElem?] at ha
    obtain ⟨j, hj⟩ := ha
    rw [List.getElem?_drop] at hj
    have hlt : k + 1 + j < (scanH t 0 w).length := by
      rcases Nat.lt_or_ge (k + 1 + j) (scanH t 0 w).length with h' | h'
      · exact h'
      · rw [List.getElem?_eq_none h'] at hj; cases hj
    rw [scanH_len] at hlt
    rw [scanH_get t w 0 _ (by omega)] at hj
    have := h (k + 1 + j) (by omega) (by omega)
    have e : a = hh t w (k + 1 + j) := by have := Option.some.inj hj; rw [Int.zero_add] at this; exact this.symm
    rw [e]; exact decide_eq_true this

theorem step_excl (t x : Int) : ¬ ((x == t + 1) = true ∧ (x == t) = true) := by simp; omega
theorem shut_lone {w : List Int} {t : Int} {k : Nat} (hk : k < w.length) : (loneS (fun x => x == t + 1) (fun x => x == t) 0 w).getD k false = shutHP w t k := by
  rw [Bool.eq_iff_iff, lone_spec (step_excl t), shutH_iff hk]
  have e : stP (fun x => x == t + 1) (fun x => x == t) = stepH t := by funext x; rfl
  rw [e]
  constructor
  · rintro ⟨_, h1, h2, _⟩; exact ⟨by simpa using h1, h2⟩
  · rintro ⟨h1, h2⟩
    refine ⟨hk, by simpa using h1, h2, ?_⟩
    have : hs (stepH t) (w.take (k + 1)) < hs (stepH t) (w.take 0) := h2 0 (by omega)
    rw [List.take_zero, show hs (stepH t) [] = 0 from rfl] at this
    omega
theorem wait_lone {w : List Int} {t : Int} {k : Nat} (hk : k < w.length) : ((loneS (fun x => x == t) (fun x => x == t + 1) 0 w.reverse).reverse).getD k false = waitHP w t k := by
  have hlen := lone_len (op := fun x => x == t) (cl := fun x => x == t + 1) w.reverse 0
  rw [List.length_reverse] at hlen
  rw [List.getD_eq_getElem?_getD, List.getElem?_reverse (by omega), hlen, ← List.getD_eq_getElem?_getD]
  rw [Bool.eq_iff_iff, lone_spec (fun x h => step_excl t x ⟨h.2, h.1⟩), waitH_iff hk, List.length_reverse]
  have e : ∀ x, stP (fun x => x == t) (fun x => x == t + 1) x = - stepH t x := fun x => by
    unfold stP stepH
    have b1 : ((x == t) = true) = (x = t) := by simp
    have b2 : ((x == t + 1) = true) = (x = t + 1) := by simp
    simp only [b1, b2]
    split <;> split <;> omega
  have hr : ∀ j, j ≤ w.length → hs (stP (fun x => x == t) (fun x => x == t + 1)) (w.reverse.take j) = hh t w (w.length - j) - hh t w w.length := fun j hj => by
    rw [List.take_reverse, hs_rev, hs_neg e]
    have := hs_app (stepH t) (w.take (w.length - j)) (w.drop (w.length - j))
    rw [List.take_append_drop] at this
    show _ = hs (stepH t) (w.take (w.length - j)) - hs (stepH t) (w.take w.length)
    rw [List.take_of_length_le (Nat.le_refl w.length)]
    omega
  have hg : w.reverse.getD (w.length - 1 - k) 0 = w.getD k 0 := by
    rw [List.getD_eq_getElem?_getD, List.getElem?_reverse (by omega), List.getD_eq_getElem?_getD, show w.length - 1 - (w.length - 1 - k) = k by omega]
  rw [hg]
  constructor
  · rintro ⟨_, h1, h2, _⟩
    refine ⟨by simpa using h1, fun j hj hj2 => ?_⟩
    have := h2 (w.length - j) (by omega)
    rw [hr _ (by omega), hr _ (by omega), show w.length - (w.length - 1 - k + 1) = k by omega, show w.length - (w.length - j) = j by omega] at this
    omega
  · rintro ⟨h1, h2⟩
    refine ⟨by omega, by simpa using h1, fun j hj => ?_, ?_⟩
    · rw [hr _ (by omega), hr _ (by omega), show w.length - (w.length - 1 - k + 1) = k by omega]
      have := h2 (w.length - j) (by omega) (by omega)
      omega
    · rw [hr _ (by omega), show w.length - (w.length - 1 - k + 1) = k by omega]
      have := h2 w.length (by omega) (by omega)
      omega
end Mine
end partC5

section partC6
set_option maxRecDepth 100000
set_option autoImplicit false
namespace Mine
noncomputable def brP (t x : Int) : Nat := chrS (sixP t x)
theorem br_of {t x : Int} (hx : 0 ≤ x ∧ x < 4) : (brP t x = 40 ∧ stepH t x = 1) ∨ (brP t x = 41 ∧ stepH t x = -1) ∨ (brP t x ≠ 40 ∧ brP t x ≠ 41 ∧ stepH t x = 0) := by
  have c62 : chrS 62 = 40 := by decide +kernel
  have c63 : chrS 63 = 41 := by decide +kernel
  have cx : ∀ y ∈ ([0, 1, 2, 3] : List Int), chrS y ≠ 40 ∧ chrS y ≠ 41 := by decide +kernel
  unfold brP sixP stepH
  by_cases h1 : (x == t + 1) = true
  · rw [if_pos h1, if_pos h1]; exact .inl ⟨c62, rfl⟩
  · by_cases h2 : (x == t) = true
    · rw [if_neg h1, if_pos h2, if_neg h1, if_pos h2]; exact .inr (.inl ⟨c63, rfl⟩)
    · rw [if_neg h1, if_neg h2, if_neg h1, if_neg h2]
      have := cx x (by simp; omega)
      exact .inr (.inr ⟨this.1, this.2, rfl⟩)
theorem chk_iff (t : Int) : ∀ (l : List Int) (o : Int), Lets l → 0 ≤ o → (chkP (l.map (brP t)) o = true ↔ (∀ m, m ≤ l.length → 0 ≤ o + hs (stepH t) (l.take m)) ∧ o + hs (stepH t) l = 0)
  | [], o, _, ho => by
    simp only [List.map_nil, chkP, beq_iff_eq, hs]
    constructor
    · intro h
      refine ⟨fun m hm => ?_, by omega⟩
      simp [hs]; omega
    · rintro ⟨_, h⟩; omega
  | x :: r, o, hl, ho => by
    have hx := hl x (List.mem_cons_self ..)
    have hr : Lets r := fun y hy => hl y (List.mem_cons_of_mem _ hy)
    have key : ∀ d : Int, stepH t x = d → ((∀ m, m ≤ (x :: r).length → 0 ≤ o + hs (stepH t) ((x :: r).take m)) ↔ ∀ m, m ≤ r.length → 0 ≤ (o + d) + hs (stepH t) (r.take m)) := fun d hd => by
      constructor
      · intro h m hm
        have := h (m + 1) (by simpa using hm)
        simp only [List.take_succ_cons, hs, hd] at this
        omega
      · intro h m hm
        cases m with
        | zero => simp [hs]; omega
        | succ m =>
          have := h m (by simpa using hm)
          simp only [List.take_succ_cons, hs, hd]
          omega
    simp only [List.map_cons, chkP]
    rcases br_of (t := t) hx with ⟨h1, h2⟩ | ⟨h1, h2⟩ | ⟨h1, h2, h3⟩
    · rw [if_pos h1, chk_iff t r (o + 1) hr (by omega), key 1 h2]
      simp only [hs, h2]
      exact and_congr_right fun _ => by omega
    · rw [if_neg (by omega), if_pos h1]
      by_cases ho1 : o - 1 < 0
      · rw [if_pos ho1, key (-1) h2]
        constructor
        · intro h; cases h
        · rintro ⟨h, _⟩
          have := h 0 (by omega)
          simp [hs] at this; omega
      · rw [if_neg ho1, chk_iff t r (o - 1) hr (by omega), key (-1) h2]
        simp only [hs, h2]
        exact and_congr_right fun _ => by omega
    · rw [if_neg h1, if_neg h2, chk_iff t r o hr ho, key 0 h3]
      simp only [hs, h3]
      exact and_congr (by simp) (by omega)

theorem seg_eq {w : List Int} {t : Int} {i j : Nat} (hij : i ≤ j) (hj : j ≤ w.length) : segP (txtP w t) i j = ((w.drop i).take (j - i)).map (brP t) := by
  unfold segP txtP fillP
  rw [List.map_append, List.map_map, List.drop_append_of_le_length (by rw [List.length_map]; omega), List.take_append_of_le_length (by rw [List.length_drop, List.length_map]; omega)]
  rw [← List.map_drop, ← List.map_take]
  rfl
theorem hh_seg (t : Int) (w : List Int) (i m : Nat) : hs (stepH t) ((w.drop i).take m) = hh t w (i + m) - hh t w i := by
  show _ = hs (stepH t) (w.take (i + m)) - hs (stepH t) (w.take i)
  rw [List.take_add, hs_app]; omega
theorem hh_step (t : Int) (w : List Int) (j : Nat) (hj : j < w.length) : hh t w (j + 1) = hh t w j + stepH t (w.getD j 0) := by
  show hs (stepH t) (w.take (j + 1)) = hs (stepH t) (w.take j) + _
  rw [List.take_add_one, getD_some hj, Option.toList_some, hs_app]; simp [hs]
theorem step_bd (t x : Int) : -1 ≤ stepH t x ∧ stepH t x ≤ 1 := by
  unfold stepH; split
  · omega
  · split <;> omega
theorem lets_sub {w : List Int} (h : Lets w) (i m : Nat) : Lets ((w.drop i).take m) := fun x hx => h x (List.mem_of_mem_drop (List.mem_of_mem_take hx))
theorem chk_seg {w : List Int} {t : Int} (hw : Lets w) {i j : Nat} (hij : i ≤ j) (hj : j ≤ w.length) : chkP (segP (txtP w t) i j) 0 = true ↔ (∀ m, i ≤ m → m ≤ j → hh t w i ≤ hh t w m) ∧ hh t w j = hh t w i := by
  rw [seg_eq hij hj, chk_iff t _ 0 (lets_sub hw _ _) (by omega), hh_seg, show i + (j - i) = j by omega]
  have hlen : ((w.drop i).take (j - i)).length = j - i := by rw [List.length_take, List.length_drop]; omega
  constructor
  · rintro ⟨h1, h2⟩
    refine ⟨fun m hm hm2 => ?_, by omega⟩
    have := h1 (m - i) (by rw [hlen]; omega)
    rw [List.take_take, Nat.min_eq_left (by omega), hh_seg, show i + (m - i) = m by omega] at this
    omega
  · rintro ⟨h1, h2⟩
    refine ⟨fun m hm => ?_, by omega⟩
    rw [hlen] at hm
    rw [List.take_take, Nat.min_eq_left (by omega), hh_seg]
    have := h1 (i + m) (by omega) (by omega)
    omega
theorem last_of {P : Nat → Prop} [DecidablePred P] : ∀ k : Nat, (∃ j, j ≤ k ∧ P j) → ∃ j, j ≤ k ∧ P j ∧ ∀ m, j < m → m ≤ k → ¬ P m
  | 0, ⟨j, hj, hp⟩ => ⟨j, hj, hp, fun m h1 h2 => by omega⟩
  | k + 1, ⟨j, hj, hp⟩ => by
    by_cases h : P (k + 1)
    · exact ⟨k + 1, Nat.le_refl _, h, fun m h1 h2 => by omega⟩
    · have hjk : j ≤ k := by
        rcases Nat.lt_or_ge k j with h' | h'
        · obtain rfl : j = k + 1 := by omega
          exact absurd hp h
        · exact h'
      obtain ⟨i, a, b, c⟩ := last_of k ⟨j, hjk, hp⟩
      refine ⟨i, by omega, b, fun m h1 h2 => ?_⟩
      rcases Nat.lt_or_ge k m with h' | h'
      · obtain rfl : m = k + 1 := by omega
        exact h
      · exact c m h1 h'
theorem first_of {P : Nat → Prop} [DecidablePred P] (a : Nat) : ∀ d : Nat, P (a + d) → ∃ j, a ≤ j ∧ j ≤ a + d ∧ P j ∧ ∀ m, a ≤ m → m < j → ¬ P m
  | 0, h => ⟨a, Nat.le_refl _, by omega, h, fun m h1 h2 => by omega⟩
  | d + 1, h => by
    by_cases hp : ∃ j, j ≤ d ∧ P (a + j)
    · obtain ⟨j, hj, hp⟩ := hp
      have : ∃ j, a ≤ j ∧ j ≤ a + d ∧ P j ∧ ∀ m, a ≤ m → m < j → ¬ P m := by
        obtain ⟨i, h1, h2, h3, h4⟩ := first_of a j hp
        exact ⟨i, h1, by omega, h3, h4⟩
      obtain ⟨i, h1, h2, h3, h4⟩ := this
      exact ⟨i, h1, by omega, h3, h4⟩
    · refine ⟨a + (d + 1), by omega, Nat.le_refl _, h, fun m h1 h2 hm => hp ⟨m - a, by omega, ?_⟩⟩
      rw [show a + (m - a) = m by omega]; exact hm
  termination_by d => d

theorem shut_br {w : List Int} {t : Int} {k : Nat} (hw : Lets w) (hk : k < w.length) : shutBP w t k = shutHP w t k := by
  rw [Bool.eq_iff_iff, shutH_iff hk]
  unfold shutBP
  rw [Bool.and_eq_true, beq_iff_eq, List.all_eq_true]
  refine and_congr_right fun h1 => ⟨fun h j hj => ?_, fun h i hi => ?_⟩
  · have hs1 : hh t w (k + 1) = hh t w k - 1 := by
      rw [hh_step t w k hk, h1]
      have : stepH t t = -1 := by unfold stepH; rw [if_neg (by simp; omega), if_pos (by simp)]
      omega
    rcases Int.lt_or_le (hh t w (k + 1)) (hh t w j) with h' | h'
    · exact h'
    · exfalso
      obtain ⟨i, a, b, c⟩ := last_of (P := fun j => hh t w j ≤ hh t w (k + 1)) k ⟨j, hj, h'⟩
      have hik : i < k := by
        rcases Nat.lt_or_ge i k with h2 | h2
        · exact h2
        · obtain rfl : i = k := by omega
          omega
      have hn := c (i + 1) (by omega) (by omega)
      have hst := hh_step t w i (by omega)
      have hbd := step_bd t (w.getD i 0)
      have hie : hh t w i = hh t w (k + 1) := by omega
      have := h i (List.mem_range.mpr hik)
      have hc : chkP (segP (txtP w t) i (k + 1)) 0 = true := by
        rw [chk_seg hw (by omega) (by omega)]
        refine ⟨fun m hm hm2 => ?_, hie.symm⟩
        by_cases hmi : m = i
        · rw [hmi]; exact Int.le_refl _
        · by_cases hmk : m = k + 1
          · rw [hmk]; omega
          · have := c m (by omega) (by omega); omega
      rw [hc] at this; cases this
  · have hik : i < k := List.mem_range.mp hi
    have := h i (by omega)
    cases hc : chkP (segP (txtP w t) i (k + 1)) 0 with
    | false => rfl
    | true =>
      rw [chk_seg hw (by omega) (by omega)] at hc
      omega
theorem wait_br {w : List Int} {t : Int} {k : Nat} (hw : Lets w) (hk : k < w.length) : waitBP w t k = waitHP w t k := by
  rw [Bool.eq_iff_iff, waitH_iff hk]
  unfold waitBP
  rw [Bool.and_eq_true, beq_iff_eq, List.all_eq_true]
  refine and_congr_right fun h1 => ⟨fun h j hj hj2 => ?_, fun h i hi => ?_⟩
  · have hs1 : hh t w (k + 1) = hh t w k + 1 := by
      rw [hh_step t w k hk, h1]
      have : stepH t (t + 1) = 1 := by unfold stepH; rw [if_pos (by simp)]
      omega
    rcases Int.lt_or_le (hh t w k) (hh t w j) with h' | h'
    · exact h'
    · exfalso
      obtain ⟨i, a, b, c, d⟩ := first_of (P := fun j => hh t w j ≤ hh t w k) (k + 1) (j - (k + 1)) (by rw [show k + 1 + (j - (k + 1)) = j by omega]; exact h')
      have hik : k + 1 < i := by
        rcases Nat.lt_or_ge (k + 1) i with h2 | h2
        · exact h2
        · obtain rfl : i = k + 1 := by omega
          omega
      have hn := d (i - 1) (by omega) (by omega)
      have hst := hh_step t w (i - 1) (by omega)
      rw [show i - 1 + 1 = i by omega] at hst
      have hbd := step_bd t (w.getD (i - 1) 0)
      have hie : hh t w i = hh t w k := by omega
      have := h (i - (k + 1) - 1) (List.mem_range.mpr (by omega))
      rw [show k + 1 + (i - (k + 1) - 1) + 1 = i by omega] at this
      have hc : chkP (segP (txtP w t) k i) 0 = true := by
        rw [chk_seg hw (by omega) (by omega)]
        refine ⟨fun m hm hm2 => ?_, hie⟩
        by_cases hmi : m = i
        · rw [hmi]; omega
        · by_cases hmk : m = k
          · rw [hmk]; exact Int.le_refl _
          · have := d m (by omega) (by omega); omega
      rw [hc] at this; cases this
  · have hik := List.mem_range.mp hi
    have := h (k + 1 + i + 1) (by omega) (by omega)
    cases hc : chkP (segP (txtP w t) k (k + 1 + i + 1)) 0 with
    | false => rfl
    | true =>
      rw [chk_seg hw (by omega) (by omega)] at hc
      omega

/-- the turn by brackets, by heights and by counters are one -/
theorem turn_heights {w : List Int} {t : Int} (hw : Lets w) : turnP w t = hstepP w t := by
  unfold turnP hstepP stepP
  have e1 : posP w.length (shutBP w t) = posP w.length (shutHP w t) := by
    unfold posP; congr 1; exact List.filter_congr fun k hk => shut_br hw (List.mem_range.mp hk)
  have e2 : posP w.length (waitBP w t) = posP w.length (waitHP w t) := by
    unfold posP; congr 1; exact List.filter_congr fun k hk => wait_br hw (List.mem_range.mp hk)
  rw [e1, e2]
theorem hstep_bits (t : Nat) (ht : t < 3) (b : List (Bool × Bool)) : hstepP (b.map decB) (t : Int) = (turnC boolG t b).map decB := by
  rw [turn_bool t ht]
  unfold hstepP turnS
  refine step_eq t ht b (lone_len _ _) (by rw [List.length_reverse, lone_len, List.length_reverse]) (fun k hk => ?_) (fun k hk => ?_)
  · have := shut_lone (w := b.map decB) (t := (t : Int)) (k := k) (by rw [List.length_map]; exact hk)
    rw [lone_map] at this; exact this
  · have := wait_lone (w := b.map decB) (t := (t : Int)) (k := k) (by rw [List.length_map]; exact hk)
    rw [← List.map_reverse, lone_map] at this; exact this
theorem decB_lets (b : List (Bool × Bool)) : Lets (b.map decB) := by
  intro x hx
  obtain ⟨⟨a, c⟩, _, rfl⟩ := List.mem_map.mp hx
  cases a <;> cases c <;> decide
theorem turn_bits (t : Nat) (ht : t < 3) (b : List (Bool × Bool)) : turnP (b.map decB) (t : Int) = (turnC boolG t b).map decB :=
  (turn_heights (decB_lets b)).trans (hstep_bits t ht b)
end Mine
end partC6

section partC7
set_option maxRecDepth 100000
set_option autoImplicit false
namespace Mine
theorem hom_nat {N i : Nat} (hi : i < N) : Hm (natG N) boolG (fun v => v.testBit i) where
  an := fun a b => by show (a &&& b).testBit i = _; rw [Nat.testBit_and]; rfl
  o := fun a b => by show (a ||| b).testBit i = _; rw [Nat.testBit_or]; rfl
  x := fun a b => by show (a ^^^ b).testBit i = _; rw [Nat.testBit_xor]; rfl
  tt := by show (2 ^ N - 1).testBit i = true; rw [Nat.testBit_two_pow_sub_one]; exact decide_eq_true hi
theorem tabs_lt : ∀ m : Nat, ∀ v ∈ tabs m, v < 2 ^ (2 ^ m)
  | 0, v, h => by cases h
  | m + 1, v, h => by
    have e : 2 ^ (2 ^ (m + 1)) = 2 ^ (2 ^ m) * 2 ^ (2 ^ m) := by rw [Nat.pow_succ 2 m, Nat.mul_two, Nat.pow_add]
    have hp : 0 < 2 ^ (2 ^ m) := Nat.two_pow_pos _
    simp only [tabs, List.mem_append, List.mem_map, List.mem_singleton] at h
    rcases h with ⟨u, hu, rfl⟩ | rfl
    · have := tabs_lt m u hu
      refine Nat.or_lt_two_pow (x := u) (y := u <<< 2 ^ m) ?_ ?_
      · exact Nat.lt_of_lt_of_le this (Nat.pow_le_pow_right (by decide) (Nat.pow_le_pow_right (by decide) (by omega)))
      · rw [Nat.shiftLeft_eq, e]; exact Nat.mul_lt_mul_of_pos_right this hp
    · show (2 ^ 2 ^ m - 1) <<< 2 ^ m < _
      rw [Nat.shiftLeft_eq, e]; exact Nat.mul_lt_mul_of_pos_right (by omega) hp
theorem tabs_bit : ∀ (m i : Nat), i < 2 ^ m → (tabs m).map (fun v => v.testBit i) = (List.range m).map fun j => i.testBit j
  | 0, _, _ => rfl
  | m + 1, i, hi => by
    rw [tabs, List.map_append, List.map_map, List.range_succ, List.map_append, List.map_singleton, List.map_singleton]
    have hl : ((2 ^ 2 ^ m - 1) <<< 2 ^ m).testBit i = i.testBit m := by
      rw [Nat.testBit_shiftLeft, Nat.testBit_two_pow_sub_one]
      rcases Nat.lt_or_ge i (2 ^ m) with h | h
      · rw [decide_eq_false (by omega), Bool.false_and, Nat.testBit_lt_two_pow h]
      · rw [decide_eq_true h, Bool.true_and]
        obtain ⟨x, rfl⟩ : ∃ x, i = 2 ^ m + x := ⟨i - 2 ^ m, by omega⟩
        have hx : x < 2 ^ m := by rw [Nat.pow_succ] at hi; omega
        rw [Nat.testBit_two_pow_add_eq, Nat.testBit_lt_two_pow hx, Nat.add_sub_cancel_left, decide_eq_true hx]; rfl
    congr 1
    · rcases Nat.lt_or_ge i (2 ^ m) with h | h
      · rw [← tabs_bit m i h]
        apply List.map_congr_left
        intro v hv
        show (v ||| v <<< 2 ^ m).testBit i = _
        rw [Nat.testBit_or, Nat.testBit_shiftLeft, decide_eq_false (by omega), Bool.false_and, Bool.or_false]
      · obtain ⟨x, rfl⟩ : ∃ x, i = 2 ^ m + x := ⟨i - 2 ^ m, by omega⟩
        have hx : x < 2 ^ m := by rw [Nat.pow_succ] at hi; omega
        have e : (List.range m).map (fun j => (2 ^ m + x).testBit j) = (List.range m).map fun j => x.testBit j := by
          apply List.map_congr_left
          intro j hj
          exact Nat.testBit_two_pow_add_gt (List.mem_range.mp hj) x
        rw [e, ← tabs_bit m x hx]
        apply List.map_congr_left
        intro v hv
        show (v ||| v <<< 2 ^ m).testBit (2 ^ m + x) = _
        have hv' : v < 2 ^ (2 ^ m + x) := Nat.lt_of_lt_of_le (tabs_lt m v hv) (Nat.pow_le_pow_right (by decide) (by omega))
        rw [Nat.testBit_or, Nat.testBit_shiftLeft, Nat.testBit_lt_two_pow hv', decide_eq_true (by omega), Nat.add_sub_cancel_left, Bool.true_and, Bool.false_or]
    · exact congrArg (fun b => [b]) hl
noncomputable def idx : List Bool → Nat
  | [] => 0
  | b :: r => b.toNat + 2 * idx r
theorem idx_lt : ∀ l : List Bool, idx l < 2 ^ l.length
  | [] => by simp [idx]
  | b :: r => by
    have := idx_lt r
    simp only [idx, List.length_cons, Nat.pow_succ]
    cases b <;> simp <;> omega
theorem idx_bit : ∀ l : List Bool, (List.range l.length).map (fun j => (idx l).testBit j) = l
  | [] => rfl
  | b :: r => by
    have ih := idx_bit r
    rw [List.length_cons, List.range_succ_eq_map, List.map_cons, List.map_map]
    congr 1
    · simp only [idx, Nat.testBit_zero]
      cases b <;> simp <;> omega
    · rw [← ih]
      rw [ih]
      have e : ∀ j, (idx (b :: r)).testBit (j + 1) = (idx r).testBit j := fun j => by
        rw [Nat.testBit_succ]
        congr 1
        simp only [idx]
        cases b <;> simp <;> omega
      have : ((fun j => (idx (b :: r)).testBit j) ∘ Nat.succ) = fun j => (idx r).testBit j := by funext j; exact e j
      rw [this, ih]
noncomputable def flatB : List (Bool × Bool) → List Bool
  | [] => []
  | y :: r => y.1 :: y.2 :: flatB r
theorem flat_len : ∀ b : List (Bool × Bool), (flatB b).length = 2 * b.length
  | [] => rfl
  | y :: r => by simp only [flatB, List.length_cons, flat_len r]; omega
theorem pair_flat : ∀ b : List (Bool × Bool), pairC (flatB b) = b
  | [] => rfl
  | y :: r => by simp only [flatB, pairC, pair_flat r]
theorem pair_map {α β : Type} (φ : α → β) : ∀ l : List α, (pairC l).map (fun y => (φ y.1, φ y.2)) = pairC (l.map φ)
  | [] => rfl
  | [_] => rfl
  | a :: b :: r => by simp only [pairC, List.map_cons, pair_map φ r]
/-- each word stands somewhere in the tables -/
theorem word_at {n : Nat} (b : List (Bool × Bool)) (hb : b.length = n) : ∃ i, i < 2 ^ (2 * n) ∧ (wordN n).map (fun y => (y.1.testBit i, y.2.testBit i)) = b := by
  have hl : (flatB b).length = 2 * n := by rw [flat_len, hb]
  refine ⟨idx (flatB b), hl ▸ idx_lt (flatB b), ?_⟩
  unfold wordN
  rw [pair_map (fun v : Nat => v.testBit (idx (flatB b))), tabs_bit _ _ (hl ▸ idx_lt (flatB b)), ← hl, idx_bit, pair_flat]
theorem eqC_sound : ∀ l m : List (Nat × Nat), eqC l m = true → l = m
  | [], [], _ => rfl
  | [], _ :: _, h => by cases h
  | _ :: _, [], h => by cases h
  | a :: r, b :: s, h => by
    simp only [eqC, Bool.and_eq_true] at h
    rw [eqC_sound r s h.2.2]
    have h1 : a.1 = b.1 := Nat.eq_of_beq_eq_true h.1
    have h2 : a.2 = b.2 := Nat.eq_of_beq_eq_true h.2.1
    congr 1
    exact Prod.ext h1 h2
theorem eqL_sound : ∀ l m : List Nat, eqL l m = true → l = m
  | [], [], _ => rfl
  | [], _ :: _, h => by cases h
  | _ :: _, [], h => by cases h
  | a :: r, b :: s, h => by
    simp only [eqL, Bool.and_eq_true] at h
    rw [eqL_sound r s h.2, Nat.eq_of_beq_eq_true h.1]
theorem Hm.fa {α β : Type} {G : Gt α} {G' : Gt β} {φ : α → β} (H : Hm G G' φ) : ∀ w : List (α × α), (faC G w).map φ = faC G' (w.map fun y => (φ y.1, φ y.2))
  | [] => rfl
  | [_] => rfl
  | y :: z :: r => by
    have ih := Hm.fa H (z :: r)
    simp only [List.map_cons] at ih
    simp only [faC, List.map_cons, ih]
    unfold gtC
    simp only [H.o, H.an, H.x, H.nt]
theorem Hm.ct {α β : Type} {G : Gt α} {G' : Gt β} {φ : α → β} (H : Hm G G' φ) (x : Nat) (w : List (α × α)) : (ctC G x w).map φ = ctC G' x (w.map fun y => (φ y.1, φ y.2)) := by
  unfold ctC
  rw [H.cnt, List.map_map, List.map_map, List.map_nil]
  congr 1
  apply List.map_congr_left
  intro y _
  exact H.isL x y

section
variable {n : Nat} {b : List (Bool × Bool)}
theorem br_bool {s t : Nat} (h : brN n s t = true) (hb : b.length = n) : turnC boolG s (turnC boolG t (turnC boolG s b)) = turnC boolG t (turnC boolG s (turnC boolG t b)) := by
  obtain ⟨i, hi, rfl⟩ := word_at b hb
  have H := hom_nat hi
  have e := congrArg (List.map fun y : Nat × Nat => (y.1.testBit i, y.2.testBit i)) (eqC_sound _ _ h)
  rw [H.turn, H.turn, H.turn, H.turn, H.turn, H.turn] at e
  exact e
theorem co_bool (h : coN n = true) (hb : b.length = n) : turnC boolG 0 (turnC boolG 2 b) = turnC boolG 2 (turnC boolG 0 b) := by
  obtain ⟨i, hi, rfl⟩ := word_at b hb
  have H := hom_nat hi
  have e := congrArg (List.map fun y : Nat × Nat => (y.1.testBit i, y.2.testBit i)) (eqC_sound _ _ h)
  rw [H.turn, H.turn, H.turn, H.turn] at e
  exact e
theorem on_bool {t : Nat} (h : onN n t = true) (hb : b.length = n) : turnC boolG t (turnC boolG t b) = b ∧ faC boolG (turnC boolG t b) = faC boolG b ∧ ∀ x, x < 4 → ctC boolG x (turnC boolG t b) = ctC boolG (swN t x) b := by
  obtain ⟨i, hi, rfl⟩ := word_at b hb
  have H := hom_nat hi
  simp only [onN, Bool.and_eq_true] at h
  obtain ⟨h1, h2, h3, h4, h5, h6⟩ := h
  have ct : ∀ x, eqL (ctC (natG (2 ^ (2 * n))) x (turnC (natG (2 ^ (2 * n))) t (wordN n))) (ctC (natG (2 ^ (2 * n))) (swN t x) (wordN n)) = true →
      ctC boolG x (turnC boolG t ((wordN n).map fun y => (y.1.testBit i, y.2.testBit i))) = ctC boolG (swN t x) ((wordN n).map fun y => (y.1.testBit i, y.2.testBit i)) := fun x hx => by
    have e := congrArg (List.map fun v : Nat => v.testBit i) (eqL_sound _ _ hx)
    rw [H.ct, H.ct, H.turn] at e
    exact e
  refine ⟨?_, ?_, fun x hx => ?_⟩
  · have e := congrArg (List.map fun y : Nat × Nat => (y.1.testBit i, y.2.testBit i)) (eqC_sound _ _ h1)
    rw [H.turn, H.turn] at e
    exact e
  · have e := congrArg (List.map fun v : Nat => v.testBit i) (eqL_sound _ _ h2)
    rw [H.fa, H.fa, H.turn] at e
    exact e
  · match x, hx with
    | 0, _ => exact ct 0 h3
    | 1, _ => exact ct 1 h4
    | 2, _ => exact ct 2 h5
    | 3, _ => exact ct 3 h6
end
end Mine
end partC7

section partC8
set_option maxRecDepth 100000
set_option autoImplicit false
namespace Mine
noncomputable def allN (n : Nat) : Bool := brN n 0 1 && (brN n 1 2 && (coN n && (onN n 0 && (onN n 1 && onN n 2))))
theorem all3 : allN 3 = true := by decide +kernel
theorem all4 : allN 4 = true := by decide +kernel
theorem all5 : allN 5 = true := by decide +kernel
theorem all6 : allN 6 = true := by decide +kernel
theorem all7 : allN 7 = true := by decide +kernel
theorem all8 : allN 8 = true := by decide +kernel
theorem br901 : brN 9 0 1 = true := by decide +kernel
theorem br912 : brN 9 1 2 = true := by decide +kernel
theorem co9 : coN 9 = true := by decide +kernel
theorem on90 : onN 9 0 = true := by decide +kernel
theorem on91 : onN 9 1 = true := by decide +kernel
theorem on92 : onN 9 2 = true := by decide +kernel
theorem all_n {n : Nat} (h3 : 3 ≤ n) (h9 : n ≤ 9) : allN n = true := by
  have : n = 3 ∨ n = 4 ∨ n = 5 ∨ n = 6 ∨ n = 7 ∨ n = 8 ∨ n = 9 := by omega
  rcases this with rfl | rfl | rfl | rfl | rfl | rfl | rfl
  · exact all3
  · exact all4
  · exact all5
  · exact all6
  · exact all7
  · exact all8
  · unfold allN; rw [br901, br912, co9, on90, on91, on92]; rfl

/-- a word that the law may meet -/
structure Wd (w : List Int) : Prop where
  lets : Lets w
  ge : 3 ≤ w.length
  le : w.length ≤ 9
theorem Wd.turn {w : List Int} {t : Int} (h : Wd w) (h0 : 0 ≤ t) (h1 : t < 3) : Wd (turnP w t) :=
  ⟨turnP_lets h.lets h0 h1, by rw [turnP_len]; exact h.ge, by rw [turnP_len]; exact h.le⟩
noncomputable def encB (x : Int) : Bool × Bool := (decide (2 ≤ x), decide (x = 1 ∨ x = 3))
theorem bits_of {w : List Int} (h : Lets w) : (w.map encB).map decB = w := by
  rw [List.map_map]
  have : ∀ x ∈ w, (decB ∘ encB) x = id x := fun x hx => by
    have := h x hx
    have hx4 : x = 0 ∨ x = 1 ∨ x = 2 ∨ x = 3 := by omega
    rcases hx4 with rfl | rfl | rfl | rfl <;> decide
  rw [List.map_congr_left this, List.map_id]
theorem fa_get : ∀ (b : List (Bool × Bool)) (k : Nat), k + 1 < b.length → (faC boolG b).getD k false = decide ((b.map decB).getD k 0 > (b.map decB).getD (k + 1) 0)
  | [], _, h => by simp at h
  | [_], _, h => by simp at h
  | y :: z :: r, 0, _ => by
    simp only [faC, List.getD_cons_zero, List.map_cons, List.getD_cons_succ]
    obtain ⟨a, b⟩ := y
    obtain ⟨c, d⟩ := z
    cases a <;> cases b <;> cases c <;> cases d <;> rfl
  | y :: z :: r, k + 1, h => by
    have := fa_get (z :: r) k (by simpa using h)
    simp only [faC, List.getD_cons_succ, List.map_cons] at this ⊢
    exact this
theorem falls_of {b c : List (Bool × Bool)} (hl : b.length = c.length) (h : faC boolG b = faC boolG c) : fallsP (b.map decB) = fallsP (c.map decB) := by
  unfold fallsP
  rw [List.length_map, List.length_map, hl]
  congr 1
  apply List.filter_congr
  intro k hk
  have hk' := List.mem_range.mp hk
  rw [← fa_get b k (by omega), ← fa_get c k (by omega), h]
theorem count_of (x : Nat) (hx : x < 4) : ∀ b : List (Bool × Bool), (b.map (isL boolG x)).count true = (b.map decB).count (x : Int)
  | [] => rfl
  | y :: r => by
    rw [List.map_cons, List.map_cons, List.count_cons, List.count_cons, count_of x hx r, isL_dec x hx]
    congr 1
    cases decB y == (x : Int) <;> rfl
theorem ct_th (x : Nat) (hx : x < 4) (b : List (Bool × Bool)) : Th (ctC boolG x b) ((b.map decB).count (x : Int)) := by
  have := cnt_th (b.map (isL boolG x)) [] 0 Th.nil
  rw [Nat.zero_add, count_of x hx] at this
  exact this

section
variable {w : List Int} (h : Wd w)
include h
theorem Wd.bits : ∃ b : List (Bool × Bool), b.map decB = w ∧ b.length = w.length ∧ allN w.length = true :=
  ⟨w.map encB, bits_of h.lets, List.length_map .., all_n h.ge h.le⟩
theorem Wd.on {t : Nat} (ht : t < 3) : turnP (turnP w (t : Int)) (t : Int) = w ∧ fallsP (turnP w (t : Int)) = fallsP w ∧ ∀ x : Nat, x < 4 → (turnP w (t : Int)).count (x : Int) = w.count ((swN t x : Nat) : Int) := by
  obtain ⟨b, hb, hl, ha⟩ := h.bits
  simp only [allN, Bool.and_eq_true] at ha
  have hon : onN w.length t = true := by
    match t, ht with
    | 0, _ => exact ha.2.2.2.1
    | 1, _ => exact ha.2.2.2.2.1
    | 2, _ => exact ha.2.2.2.2.2
  obtain ⟨h1, h2, h3⟩ := on_bool hon hl
  rw [← hb, turn_bits t ht, turn_bits t ht, h1]
  refine ⟨rfl, falls_of ?_ h2, fun x hx => ?_⟩
  · have := congrArg List.length (turn_bits t ht b)
    rw [turnP_len, List.length_map, List.length_map] at this
    exact this.symm
  · have e1 := ct_th x hx (turnC boolG t b)
    have hs : swN t x < 4 := by unfold swN; split <;> (try split) <;> omega
    have e2 := ct_th (swN t x) hs b
    rw [h3 x hx] at e1
    exact e1.eq e2
theorem Wd.br01 : turnP (turnP (turnP w 0) 1) 0 = turnP (turnP (turnP w 1) 0) 1 := by
  obtain ⟨b, hb, hl, ha⟩ := h.bits
  simp only [allN, Bool.and_eq_true] at ha
  have e := br_bool ha.1 hl
  have t0 := turn_bits 0 (by decide)
  have t1 := turn_bits 1 (by decide)
  have t0' : ∀ b, turnP (b.map decB) 0 = (turnC boolG 0 b).map decB := t0
  have t1' : ∀ b, turnP (b.map decB) 1 = (turnC boolG 1 b).map decB := t1
  rw [← hb, t0', t1', t0', t1', t0', t1', e]
theorem Wd.br12 : turnP (turnP (turnP w 1) 2) 1 = turnP (turnP (turnP w 2) 1) 2 := by
  obtain ⟨b, hb, hl, ha⟩ := h.bits
  simp only [allN, Bool.and_eq_true] at ha
  have e := br_bool ha.2.1 hl
  have t1' : ∀ b, turnP (b.map decB) 1 = (turnC boolG 1 b).map decB := turn_bits 1 (by decide)
  have t2' : ∀ b, turnP (b.map decB) 2 = (turnC boolG 2 b).map decB := turn_bits 2 (by decide)
  rw [← hb, t1', t2', t1', t2', t1', t2', e]
theorem Wd.co : turnP (turnP w 2) 0 = turnP (turnP w 0) 2 := by
  obtain ⟨b, hb, hl, ha⟩ := h.bits
  simp only [allN, Bool.and_eq_true] at ha
  have e := co_bool ha.2.2.1 hl
  have t0' : ∀ b, turnP (b.map decB) 0 = (turnC boolG 0 b).map decB := turn_bits 0 (by decide)
  have t2' : ∀ b, turnP (b.map decB) 2 = (turnC boolG 2 b).map decB := turn_bits 2 (by decide)
  rw [← hb, t2', t0', t0', t2', e]
end
end Mine
end partC8

section partC9
set_option maxRecDepth 100000
set_option autoImplicit false
namespace Mine
noncomputable def rulesP : List (List Int × List Int) := [([0,0],[]),([1,1],[]),([2,2],[]),([0,2],[2,0]),([2,0],[0,2]),([0,1,0],[1,0,1]),([1,0,1],[0,1,0]),([1,2,1],[2,1,2]),([2,1,2],[1,2,1])]
noncomputable def moveB (u v : List Int) : Bool := (List.range (u.length + 1)).any fun i => rulesP.any fun r => (u.drop i).take r.1.length == r.1 && v == u.take i ++ (r.2 ++ u.drop (i + r.1.length))
noncomputable def okT (u : List Int) : Bool := u.all fun t => decide (0 ≤ t) && decide (t < 3)
noncomputable def chainB : List (List Int) → Bool
  | u :: v :: r => okT u && (moveB u v && chainB (v :: r))
  | _ => true
noncomputable def certs : List (List Int × Int × List (List Int)) := [
  ([0,1,2,3], 0, [[0]]),
  ([0,1,2,3], 1, [[1]]),
  ([0,1,2,3], 2, [[2]]),
  ([0,1,3,2], 0, [[2,0]]),
  ([0,1,3,2], 1, [[2,1]]),
  ([0,1,3,2], 2, [[2,2], []]),
  ([0,2,1,3], 0, [[1,0]]),
  ([0,2,1,3], 1, [[1,1], []]),
  ([0,2,1,3], 2, [[1,2]]),
  ([0,2,3,1], 0, [[1,2,0]]),
  ([0,2,3,1], 1, [[1,2,1]]),
  ([0,2,3,1], 2, [[1,2,2], [1]]),
  ([0,3,1,2], 0, [[2,1,0]]),
  ([0,3,1,2], 1, [[2,1,1], [2]]),
  ([0,3,1,2], 2, [[2,1,2], [1,2,1]]),
  ([0,3,2,1], 0, [[1,2,1,0]]),
  ([0,3,2,1], 1, [[1,2,1,1], [1,2]]),
  ([0,3,2,1], 2, [[1,2,1,2], [2,1,2,2], [2,1]]),
  ([1,0,2,3], 0, [[0,0], []]),
  ([1,0,2,3], 1, [[0,1]]),
  ([1,0,2,3], 2, [[0,2], [2,0]]),
  ([1,0,3,2], 0, [[2,0,0], [2]]),
  ([1,0,3,2], 1, [[2,0,1]]),
  ([1,0,3,2], 2, [[2,0,2], [0,2,2], [0]]),
  ([1,2,0,3], 0, [[0,1,0]]),
  ([1,2,0,3], 1, [[0,1,1], [0]]),
  ([1,2,0,3], 2, [[0,1,2]]),
  ([1,2,3,0], 0, [[0,1,2,0]]),
  ([1,2,3,0], 1, [[0,1,2,1]]),
  ([1,2,3,0], 2, [[0,1,2,2], [0,1]]),
  ([1,3,0,2], 0, [[2,0,1,0]]),
  ([1,3,0,2], 1, [[2,0,1,1], [2,0]]),
  ([1,3,0,2], 2, [[2,0,1,2], [0,2,1,2], [0,1,2,1]]),
  ([1,3,2,0], 0, [[0,1,2,1,0]]),
  ([1,3,2,0], 1, [[0,1,2,1,1], [0,1,2]]),
  ([1,3,2,0], 2, [[0,1,2,1,2], [0,2,1,2,2], [2,0,1,2,2], [2,0,1]]),
  ([2,0,1,3], 0, [[1,0,0], [1]]),
  ([2,0,1,3], 1, [[1,0,1], [0,1,0]]),
  ([2,0,1,3], 2, [[1,0,2], [1,2,0]]),
  ([2,0,3,1], 0, [[1,2,0,0], [1,2]]),
  ([2,0,3,1], 1, [[1,2,0,1]]),
  ([2,0,3,1], 2, [[1,2,0,2], [1,0,2,2], [1,0]]),
  ([2,1,0,3], 0, [[0,1,0,0], [0,1]]),
  ([2,1,0,3], 1, [[0,1,0,1], [1,0,1,1], [1,0]]),
  ([2,1,0,3], 2, [[0,1,0,2], [0,1,2,0]]),
  ([2,1,3,0], 0, [[0,1,2,0,0], [0,1,2]]),
  ([2,1,3,0], 1, [[0,1,2,0,1]]),
  ([2,1,3,0], 2, [[0,1,2,0,2], [0,1,0,2,2], [0,1,0]]),
  ([2,3,0,1], 0, [[1,2,0,1,0]]),
  ([2,3,0,1], 1, [[1,2,0,1,1], [1,2,0]]),
  ([2,3,0,1], 2, [[1,2,0,1,2], [1,0,2,1,2], [1,0,1,2,1], [0,1,0,2,1], [0,1,2,0,1]]),
  ([2,3,1,0], 0, [[0,1,2,0,1,0]]),
  ([2,3,1,0], 1, [[0,1,2,0,1,1], [0,1,2,0]]),
  ([2,3,1,0], 2, [[0,1,2,0,1,2], [0,1,0,2,1,2], [1,0,1,2,1,2], [1,0,2,1,2,2], [1,2,0,1,2,2], [1,2,0,1]]),
  ([3,0,1,2], 0, [[2,1,0,0], [2,1]]),
  ([3,0,1,2], 1, [[2,1,0,1], [2,0,1,0]]),
  ([3,0,1,2], 2, [[2,1,0,2], [2,1,2,0], [1,2,1,0]]),
  ([3,0,2,1], 0, [[1,2,1,0,0], [1,2,1]]),
  ([3,0,2,1], 1, [[1,2,1,0,1], [1,2,0,1,0]]),
  ([3,0,2,1], 2, [[1,2,1,0,2], [2,1,2,0,2], [2,1,0,2,2], [2,1,0]]),
  ([3,1,0,2], 0, [[2,0,1,0,0], [2,0,1]]),
  ([3,1,0,2], 1, [[2,0,1,0,1], [2,1,0,1,1], [2,1,0]]),
  ([3,1,0,2], 2, [[2,0,1,0,2], [0,2,1,0,2], [0,2,1,2,0], [0,1,2,1,0]]),
  ([3,1,2,0], 0, [[0,1,2,1,0,0], [0,1,2,1]]),
  ([3,1,2,0], 1, [[0,1,2,1,0,1], [0,1,2,0,1,0]]),
  ([3,1,2,0], 2, [[0,1,2,1,0,2], [0,2,1,2,0,2], [2,0,1,2,0,2], [2,0,1,0,2,2], [2,0,1,0]]),
  ([3,2,0,1], 0, [[1,2,0,1,0,0], [1,2,0,1]]),
  ([3,2,0,1], 1, [[1,2,0,1,0,1], [1,2,1,0,1,1], [1,2,1,0]]),
  ([3,2,0,1], 2, [[1,2,0,1,0,2], [1,0,2,1,0,2], [1,0,2,1,2,0], [1,0,1,2,1,0], [0,1,0,2,1,0], [0,1,2,0,1,0]]),
  ([3,2,1,0], 0, [[0,1,2,0,1,0,0], [0,1,2,0,1]]),
  ([3,2,1,0], 1, [[0,1,2,0,1,0,1], [0,1,2,1,0,1,1], [0,1,2,1,0]]),
  ([3,2,1,0], 2, [[0,1,2,0,1,0,2], [0,1,0,2,1,0,2], [1,0,1,2,1,0,2], [1,0,2,1,2,0,2], [1,2,0,1,2,0,2], [1,2,0,1,0,2,2], [1,2,0,1,0]])]
noncomputable def certB (c : List Int × Int × List (List Int)) : Bool := c.2.2.head? == some (shortP 7 c.1 ++ [c.2.1]) && (c.2.2.getLast? == some (shortP 7 (swapP c.1 c.2.1)) && chainB c.2.2)
theorem certs_ok : certs.all certB = true := by decide +kernel
theorem certs_all : (perms.all fun th => [0, 1, 2].all fun t => certs.any fun c => c.1 == th && c.2.1 == t) = true := by decide +kernel

/-- two rows of turns do the same -/
noncomputable def Eqv (u v : List Int) : Prop := ∀ w, Wd w → u.foldl turnP w = v.foldl turnP w
theorem rules_ok : ∀ r ∈ rulesP, Eqv r.1 r.2 := by
  intro r hr w h
  have i0 : turnP (turnP w 0) 0 = w := (h.on (t := 0) (by decide)).1
  have i1 : turnP (turnP w 1) 1 = w := (h.on (t := 1) (by decide)).1
  have i2 : turnP (turnP w 2) 2 = w := (h.on (t := 2) (by decide)).1
  simp only [rulesP, List.mem_cons, List.not_mem_nil, or_false] at hr
  rcases hr with rfl | rfl | rfl | rfl | rfl | rfl | rfl | rfl | rfl
  · exact i0
  · exact i1
  · exact i2
  · exact h.co.symm
  · exact h.co
  · exact h.br01
  · exact h.br01.symm
  · exact h.br12
  · exact h.br12.symm
theorem okT_mem {u : List Int} (h : okT u = true) : ∀ t ∈ u, 0 ≤ t ∧ t < 3 := fun t ht => by
  have := List.all_eq_true.mp h t ht
  simpa using this
theorem Wd.fold : ∀ (u w : List Int), Wd w → (∀ t ∈ u, 0 ≤ t ∧ t < 3) → Wd (u.foldl turnP w)
  | [], _, h, _ => h
  | t :: r, w, h, ht => Wd.fold r _ (h.turn (ht t (List.mem_cons_self ..)).1 (ht t (List.mem_cons_self ..)).2) fun t' h' => ht t' (List.mem_cons_of_mem _ h')
theorem move_ok {u v : List Int} (hu : okT u = true) (h : moveB u v = true) : Eqv u v := by
  unfold moveB at h
  obtain ⟨i, _, h⟩ := List.any_eq_true.mp h
  obtain ⟨r, hr, h⟩ := List.any_eq_true.mp h
  rw [Bool.and_eq_true, beq_iff_eq, beq_iff_eq] at h
  obtain ⟨h1, rfl⟩ := h
  intro w hw
  have hu' : u = u.take i ++ (r.1 ++ u.drop (i + r.1.length)) := by
    have a := (List.take_append_drop i u).symm
    have b := (List.take_append_drop r.1.length (u.drop i)).symm
    rw [h1, List.drop_drop] at b
    rw [b] at a
    exact a
  have hw' : Wd ((u.take i).foldl turnP w) := Wd.fold _ _ hw fun t ht => okT_mem hu t (List.mem_of_mem_take ht)
  calc u.foldl turnP w = (u.take i ++ (r.1 ++ u.drop (i + r.1.length))).foldl turnP w := congrArg (fun l => List.foldl turnP w l) hu'
    _ = (u.take i ++ (r.2 ++ u.drop (i + r.1.length))).foldl turnP w := by
      rw [List.foldl_append, List.foldl_append, List.foldl_append, List.foldl_append, rules_ok r hr _ hw']
theorem chain_ok : ∀ (l : List (List Int)) (u v : List Int), chainB l = true → l.head? = some u → l.getLast? = some v → Eqv u v
  | [], _, _, _, h, _ => by cases h
  | [x], u, v, _, h1, h2 => by
    have a : x = u := by simpa using h1
    have b : x = v := by simpa using h2
    subst a; subst b
    exact fun _ _ => rfl
  | x :: y :: r, u, v, h, h1, h2 => by
    simp only [chainB, Bool.and_eq_true] at h
    obtain rfl : x = u := by simpa using h1
    have ih := chain_ok (y :: r) y v h.2.2 rfl (by simpa using h2)
    exact fun w hw => (move_ok h.1 h.2.1 w hw).trans (ih w hw)
theorem short_step {th : List Int} (hp : th ∈ perms) {t : Int} (h0 : 0 ≤ t) (h1 : t < 3) : Eqv (shortP 7 th ++ [t]) (shortP 7 (swapP th t)) := by
  have ht : t ∈ [(0 : Int), 1, 2] := by have : t = 0 ∨ t = 1 ∨ t = 2 := by omega
                                        simpa using this
  have := List.all_eq_true.mp (List.all_eq_true.mp certs_all th hp) t ht
  obtain ⟨c, hc, h⟩ := List.any_eq_true.mp this
  rw [Bool.and_eq_true, beq_iff_eq, beq_iff_eq] at h
  obtain ⟨rfl, rfl⟩ := h
  have hk := List.all_eq_true.mp certs_ok c hc
  simp only [certB, Bool.and_eq_true, beq_iff_eq] at hk
  exact chain_ok _ _ _ hk.2.2 hk.1 hk.2.1
theorem short_all : ∀ (row th w : List Int), th ∈ perms → (∀ t ∈ row, 0 ≤ t ∧ t < 3) → Wd w → row.foldl turnP ((shortP 7 th).foldl turnP w) = (shortP 7 (row.foldl swapP th)).foldl turnP w
  | [], _, _, _, _, _ => rfl
  | t :: r, th, w, hp, ht, hw => by
    have h := ht t (List.mem_cons_self ..)
    have e := short_step hp h.1 h.2 w hw
    rw [List.foldl_append] at e
    have ht3 : t ∈ [(0 : Int), 1, 2] := by
      have : t = 0 ∨ t = 1 ∨ t = 2 := by omega
      simpa using this
    have ih := short_all r (swapP th t) w (perms_swap th hp t ht3) (fun t' h' => ht t' (List.mem_cons_of_mem _ h')) hw
    rw [List.foldl_cons, List.foldl_cons, ← ih]
    exact congrArg (r.foldl turnP) e
theorem nat_of {t : Int} (h0 : 0 ≤ t) (h1 : t < 3) : ∃ n : Nat, n < 3 ∧ t = (n : Int) := ⟨t.toNat, by omega, by omega⟩
theorem swap_get : ∀ th ∈ perms, ∀ t ∈ [0, 1, 2], ∀ x ∈ [0, 1, 2, 3], (swapP th ((t : Nat) : Int)).getD x 0 = th.getD (swN t x) 0 := by decide +kernel
theorem count_all (w₀ : List Int) : ∀ (row th w : List Int), th ∈ perms → (∀ t ∈ row, 0 ≤ t ∧ t < 3) → Wd w → (∀ x : Nat, x < 4 → w.count (x : Int) = w₀.count (th.getD x 0)) →
    ∀ x : Nat, x < 4 → (row.foldl turnP w).count (x : Int) = w₀.count ((row.foldl swapP th).getD x 0)
  | [], _, _, _, _, _, h => h
  | t :: r, th, w, hp, ht, hw, h => by
    have h1 := ht t (List.mem_cons_self ..)
    have ht3 : t ∈ [(0 : Int), 1, 2] := by
      have : t = 0 ∨ t = 1 ∨ t = 2 := by omega
      simpa using this
    refine count_all w₀ r (swapP th t) (turnP w t) (perms_swap th hp t ht3) (fun t' h' => ht t' (List.mem_cons_of_mem _ h')) (hw.turn h1.1 h1.2) fun x hx => ?_
    obtain ⟨n, hn, rfl⟩ := nat_of h1.1 h1.2
    rw [(hw.on hn).2.2 x hx]
    have hs : swN n x < 4 := by unfold swN; split <;> (try split) <;> omega
    rw [h _ hs]
    have hn3 : n ∈ [0, 1, 2] := by have : n = 0 ∨ n = 1 ∨ n = 2 := by omega
                                   simpa using this
    have hx4 : x ∈ [0, 1, 2, 3] := by have : x = 0 ∨ x = 1 ∨ x = 2 ∨ x = 3 := by omega
                                      simpa using this
    rw [swap_get th hp n hn3 x hx4]
theorem falls_all : ∀ (row w : List Int), (∀ t ∈ row, 0 ≤ t ∧ t < 3) → Wd w → fallsP (row.foldl turnP w) = fallsP w
  | [], _, _, _ => rfl
  | t :: r, w, ht, hw => by
    have h1 := ht t (List.mem_cons_self ..)
    rw [List.foldl_cons, falls_all r _ (fun t' h' => ht t' (List.mem_cons_of_mem _ h')) (hw.turn h1.1 h1.2)]
    obtain ⟨n, hn, rfl⟩ := nat_of h1.1 h1.2
    exact (hw.on hn).2.1
theorem back_all : ∀ (row w : List Int), (∀ t ∈ row, 0 ≤ t ∧ t < 3) → Wd w → row.reverse.foldl turnP (row.foldl turnP w) = w
  | [], _, _, _ => rfl
  | t :: r, w, ht, hw => by
    have h1 := ht t (List.mem_cons_self ..)
    rw [List.foldl_cons, List.reverse_cons, List.foldl_append, back_all r _ (fun t' h' => ht t' (List.mem_cons_of_mem _ h')) (hw.turn h1.1 h1.2)]
    obtain ⟨n, hn, rfl⟩ := nat_of h1.1 h1.2
    exact (hw.on hn).1
theorem height_all : ∀ (row w : List Int), (∀ t ∈ row, 0 ≤ t ∧ t < 3) → Wd w → row.foldl turnP w = row.foldl hstepP w
  | [], _, _, _ => rfl
  | t :: r, w, ht, hw => by
    have h1 := ht t (List.mem_cons_self ..)
    rw [List.foldl_cons, List.foldl_cons, height_all r _ (fun t' h' => ht t' (List.mem_cons_of_mem _ h')) (hw.turn h1.1 h1.2), turn_heights hw.lets]
theorem plain_law (script : List Int) : PL (firstP script) (turnsP script) := by
  have hd := draws_len script
  have hw : Wd (firstP script) := ⟨first_lets script, by rw [firstP, List.length_map]; exact hd.1, by rw [firstP, List.length_map]; exact hd.2⟩
  have ht := turns_in script
  have h0 : ([0, 1, 2, 3] : List Int) ∈ perms := by decide
  refine ⟨height_all _ _ ht hw, ?_, ?_, falls_all _ _ ht hw, back_all _ _ ht hw⟩
  · have := short_all (turnsP script) [0, 1, 2, 3] (firstP script) h0 ht hw
    rw [show shortP 7 [0, 1, 2, 3] = [] from by decide +kernel] at this
    exact this
  · refine count_all (firstP script) (turnsP script) [0, 1, 2, 3] (firstP script) h0 ht hw fun x hx => ?_
    have : x = 0 ∨ x = 1 ∨ x = 2 ∨ x = 3 := by omega
    rcases this with rfl | rfl | rfl | rfl <;> rfl
theorem the_law : PySem.Challenge.rw_om0007_01.Holds := holds_of plain_law
end Mine
end partC9

theorem PySem.Challenge.cw_om0007_01_holds : PySem.Challenge.rw_om0007_01.Holds :=
  Mine.the_law
