import PyProof.Rows.All
import Wide.All
import OpenK.AllK
import Wide.FinOn
import PySem.Challenge.RW_ec5005_01

-- part B1
section
open PySem PySem.W PySem.Calls PyProof.Rows
set_option Elab.async false
set_option maxRecDepth 100000
set_option maxHeartbeats 1000000
namespace Mine

abbrev P : Program := PySem.Challenge.pw_ec5005_01
def stAt (i : Nat) : Stmt := P.main.body.getD i (.Pass ⟨0,0,0,0⟩)
def fBody : Stmt → List Stmt | .FunctionDef _ _ b _ _ _ _ _ _ _ => b | _ => []
def fScope : Stmt → Scope | .FunctionDef _ _ _ _ _ _ s _ _ _ => s | _ => default
def fArgs : Stmt → Arguments | .FunctionDef _ a _ _ _ _ _ _ _ _ => a | _ => default
def fName : Stmt → Str | .FunctionDef n _ _ _ _ _ _ _ _ _ => n | _ => default

/-- a plain def of the text stands at f -/
def FnAt (h : Heap) (f : Addr) (st : Stmt) (dV kV cd : Value) : Prop :=
  ∃ oc od sl doc pm an ct, h.get? f = some ⟨oc, od, .func (fnOf (fName st) (fName st) (fArgs st) (fBody st) (fScope st) dV kV doc pm an cd ct), sl⟩ ∧ h.CodeRec cd (fName st)

def Kept (h h' : Heap) : Prop := ∀ b o, h.get? b = some o → h'.get? b = some o
theorem Kept.refl (h : Heap) : Kept h h := fun _ _ e => e
theorem Kept.trans {h h' h'' : Heap} (a : Kept h h') (b : Kept h' h'') : Kept h h'' := fun x o e => b x o (a x o e)
theorem Kept.hide {h h' : Heap} {a : Addr} (k : Kept h h') : Kept (h.hide a) h' := fun b o e => k b o (Heap.of_hide e)

theorem FnAt.keeps {h h' : Heap} {f : Addr} {st : Stmt} {dV kV cd : Value} (x : FnAt h f st dV kV cd) (hk : Kept h h') : FnAt h' f st dV kV cd := by
  obtain ⟨oc, od, sl, doc, pm, an, ct, e, hc⟩ := x
  exact ⟨oc, od, sl, doc, pm, an, ct, hk _ _ e, hc.keeps hk⟩

structure GD where
  mg : Str → Option Value
  mb : Str → Option Value
  fi : Addr
  fr : Addr
  fl : Addr
  fw : Addr
  fy : Addr
  fa : Addr
  fu : Addr
  fh : Addr
  ci : Value
  cr : Value
  cl : Value
  cw : Value
  cy : Value
  ca : Value
  cu : Value
  ch : Value
  di : Addr
  dr : Addr
  dl : Addr
  ki : Addr
  kr : Addr
  kl : Addr

def DfAt (h : Heap) (d : Addr) : Prop := ∃ o n t, h.get? d = some o ∧ o.data = .seq #[.int 0 t, .none] n ∧ o.cls = .type "tuple"
def KdAt (h : Heap) (k : Addr) : Prop := ∃ m, h.Ns k m ∧ m "key" = some .none
theorem DfAt.keeps {h h' : Heap} {d : Addr} (x : DfAt h d) (hk : Kept h h') : DfAt h' d := by
  obtain ⟨o, n, t, a, b, c⟩ := x; exact ⟨o, n, t, hk _ _ a, b, c⟩
theorem KdAt.keeps {h h' : Heap} {d : Addr} (x : KdAt h d) (hk : Kept h h') : KdAt h' d := by
  obtain ⟨m, a, b⟩ := x; exact ⟨m, a.keeps hk, b⟩

def bNames : List (Str × Value) := [("abs", .builtin "abs"), ("len", .builtin "len"), ("list", .type "list"), ("range", .type "range"), ("sorted", .builtin "sorted"), ("max", .builtin "max"), ("sum", .builtin "sum")]

/-- what the text's functions need of the heap: names, defs, defaults -/
structure Glo (G : GD) (h : Heap) : Prop where
  g : h.Ns mainGlobals G.mg
  b : h.Ns builtinsNs G.mb
  nl : h.NoLimit
  ni : G.mg "insort_right" = some (.ref G.fi)
  nr : G.mg "bisect_right" = some (.ref G.fr)
  nL : G.mg "bisect_left" = some (.ref G.fl)
  nw : G.mg "_law_weight" = some (.ref G.fw)
  ny : G.mg "_law_lay" = some (.ref G.fy)
  na : G.mg "_law_all" = some (.ref G.fa)
  nu : G.mg "_law_unbeaten" = some (.ref G.fu)
  nh : G.mg "_law_halves" = some (.ref G.fh)
  nb : ∀ p ∈ bNames, G.mg p.1 = none ∧ G.mb p.1 = some p.2
  Fi : FnAt h G.fi (stAt 1) (.ref G.di) (.ref G.ki) G.ci
  Frr : FnAt h G.fr (stAt 2) (.ref G.dr) (.ref G.kr) G.cr
  Fl : FnAt h G.fl (stAt 3) (.ref G.dl) (.ref G.kl) G.cl
  Fw : FnAt h G.fw (stAt 5) .none .none G.cw
  Fy : FnAt h G.fy (stAt 6) .none .none G.cy
  Fa : FnAt h G.fa (stAt 7) .none .none G.ca
  Fu : FnAt h G.fu (stAt 8) .none .none G.cu
  Fh : FnAt h G.fh (stAt 9) .none .none G.ch
  Di : DfAt h G.di
  Dr : DfAt h G.dr
  Dl : DfAt h G.dl
  Ki : KdAt h G.ki
  Kr : KdAt h G.kr
  Kl : KdAt h G.kl

theorem Glo.keeps {G : GD} {h h' : Heap} (x : Glo G h) (hk : Kept h h') : Glo G h' :=
  { x with g := x.g.keeps hk, b := x.b.keeps hk, nl := x.nl.keeps hk, Fi := x.Fi.keeps hk, Frr := x.Frr.keeps hk, Fl := x.Fl.keeps hk, Fw := x.Fw.keeps hk, Fy := x.Fy.keeps hk, Fa := x.Fa.keeps hk, Fu := x.Fu.keeps hk, Fh := x.Fh.keeps hk, Di := x.Di.keeps hk, Dr := x.Dr.keeps hk, Dl := x.Dl.keeps hk, Ki := x.Ki.keeps hk, Kr := x.Kr.keeps hk, Kl := x.Kl.keeps hk }

/-- a list object, written out -/
def Lst (h : Heap) (D : Addr) (vs : List Value) : Prop := ∃ n, h.get? D = some (listOf vs.toArray n)
theorem Lst.isList {h : Heap} {D : Addr} {vs : List Value} (x : Lst h D vs) : h.IsList D vs.toArray := by
  obtain ⟨n, e⟩ := x; exact ⟨_, e, rfl, n, rfl⟩
theorem Lst.keeps {h h' : Heap} {D : Addr} {vs : List Value} (x : Lst h D vs) (hk : Kept h h') : Lst h' D vs := by
  obtain ⟨n, e⟩ := x; exact ⟨n, hk _ _ e⟩
/-- all but D stays -/
def KeptBut (D : Addr) (h h' : Heap) : Prop := ∀ b o, b ≠ D → h.get? b = some o → h'.get? b = some o
theorem Kept.but {h h' : Heap} (k : Kept h h') (D : Addr) : KeptBut D h h' := fun b o _ e => k b o e
theorem KeptBut.trans {D : Addr} {h h' h'' : Heap} (a : KeptBut D h h') (b : KeptBut D h' h'') : KeptBut D h h'' := fun x o n e => b x o n (a x o n e)
theorem KeptBut.hide {D : Addr} {h h' : Heap} (k : KeptBut D h h') : Kept (h.hide D) h' := fun b o e =>
  k b o (fun q => by subst q; rw [Heap.hide_self] at e; cases e) (Heap.of_hide e)
theorem KeptBut.ofHide {D : Addr} {h h' : Heap} (k : Kept (h.hide D) h') : KeptBut D h h' := fun b o n e => k b o ((Heap.hide_ne h n).trans e)
theorem keptBut_hide (D : Addr) (h : Heap) : KeptBut D h (h.hide D) := fun _ _ n e => (Heap.hide_ne h n).trans e

section
variable {h h' : Heap} {D : Addr} {vs : List Value}
theorem ns_but {a : Addr} {m : Str → Option Value} (x : h.Ns a m) (l : Lst h D vs) (k : KeptBut D h h') : h'.Ns a m := by
  obtain ⟨o, es, ep, ho, hd, r⟩ := x
  refine ⟨o, es, ep, k _ _ (fun q => ?_) ho, hd, r⟩
  obtain ⟨n, e⟩ := l
  rw [q, e] at ho; cases ho; cases hd
theorem FnAt.but {f : Addr} {st : Stmt} {dV kV cd : Value} (x : FnAt h f st dV kV cd) (l : Lst h D vs) (k : KeptBut D h h') : FnAt h' f st dV kV cd := by
  obtain ⟨oc, od, sl, doc, pm, an, ct, e, hc⟩ := x
  obtain ⟨n, el⟩ := l
  refine ⟨oc, od, sl, doc, pm, an, ct, k _ _ (fun q => ?_) e, hc.keepsBut k el (fun vs e => by cases e)⟩
  rw [q, el] at e; cases e
theorem DfAt.but {d : Addr} (x : DfAt h d) (l : Lst h D vs) (k : KeptBut D h h') : DfAt h' d := by
  obtain ⟨o, n, t, a, b, c⟩ := x
  obtain ⟨nl, el⟩ := l
  refine ⟨o, n, t, k _ _ (fun q => ?_) a, b, c⟩
  rw [q, el] at a; cases a; simp at c
theorem KdAt.but {d : Addr} (x : KdAt h d) (l : Lst h D vs) (k : KeptBut D h h') : KdAt h' d := by
  obtain ⟨m, a, b⟩ := x; exact ⟨m, ns_but a l k, b⟩
theorem noLimit_but (x : h.NoLimit) (l : Lst h D vs) (k : KeptBut D h h') : h'.NoLimit := by
  obtain ⟨m, a, b⟩ := x; exact ⟨m, ns_but a l k, b⟩
theorem Glo.but {G : GD} (x : Glo G h) (l : Lst h D vs) (k : KeptBut D h h') : Glo G h' :=
  { x with g := ns_but x.g l k, b := ns_but x.b l k, nl := noLimit_but x.nl l k, Fi := x.Fi.but l k, Frr := x.Frr.but l k, Fl := x.Fl.but l k, Fw := x.Fw.but l k, Fy := x.Fy.but l k, Fa := x.Fa.but l k, Fu := x.Fu.but l k, Fh := x.Fh.but l k, Di := x.Di.but l k, Dr := x.Dr.but l k, Dl := x.Dl.but l k, Ki := x.Ki.but l k, Kr := x.Kr.but l k, Kl := x.Kl.but l k }
end

section
variable {G : GD} {h : Heap}
theorem Glo.n_abs (X : Glo G h) : G.mg "abs" = none ∧ G.mb "abs" = some (.builtin "abs") := X.nb ("abs", .builtin "abs") (by simp [bNames])
theorem Glo.n_len (X : Glo G h) : G.mg "len" = none ∧ G.mb "len" = some (.builtin "len") := X.nb ("len", .builtin "len") (by simp [bNames])
theorem Glo.n_list (X : Glo G h) : G.mg "list" = none ∧ G.mb "list" = some (.type "list") := X.nb ("list", .type "list") (by simp [bNames])
theorem Glo.n_range (X : Glo G h) : G.mg "range" = none ∧ G.mb "range" = some (.type "range") := X.nb ("range", .type "range") (by simp [bNames])
theorem Glo.n_sorted (X : Glo G h) : G.mg "sorted" = none ∧ G.mb "sorted" = some (.builtin "sorted") := X.nb ("sorted", .builtin "sorted") (by simp [bNames])
theorem Glo.n_max (X : Glo G h) : G.mg "max" = none ∧ G.mb "max" = some (.builtin "max") := X.nb ("max", .builtin "max") (by simp [bNames])
theorem Glo.n_sum (X : Glo G h) : G.mg "sum" = none ∧ G.mb "sum" = some (.builtin "sum") := X.nb ("sum", .builtin "sum") (by simp [bNames])
end
theorem upd_ne {m : Str → Option Value} {x y : Str} {v : Value} {r : Option Value} (hne : y ≠ x) (h : m y = r) : (fun z => if z = x then some v else m z) y = r := (if_neg hne).trans h
theorem upd_eq {m : Str → Option Value} {x : Str} {v : Value} : (fun z => if z = x then some v else m z) x = some v := if_pos rfl
section
variable {M : Model} {A : Around} {E : Value → Shared → Prop} {s : Shared} {G : GD} {h₀ : Heap} {L a : Addr} {m : Str → Option Value} {cn : Str} {cs : Scope} {ccd : Value} {x : Str} {pos : Pos} {v : Value} {Q : Value → Shared → Prop}
theorem ldB (F : Fr h₀ L s.heap m) (X : Glo G h₀) (e : G.mg x = none ∧ G.mb x = some v) (h : Q v s)
    (hk : cs.kind = .function := by rfl) (hx : (envOf cn cs L a ccd).kindOf x = some .globalImplicit := by rfl) (hd : (x == ("__debug__" : Str)) = false := by decide) :
    wpAny M A (eval (.Name x pos) (envOf cn cs L a ccd)) Q E s := ld_builtin_at F X.g e.1 X.b e.2 h hk hx hd
theorem ldG (F : Fr h₀ L s.heap m) (X : Glo G h₀) (e : G.mg x = some v) (h : Q v s)
    (hk : cs.kind = .function := by rfl) (hx : (envOf cn cs L a ccd).kindOf x = some .globalImplicit := by rfl) (hd : (x == ("__debug__" : Str)) = false := by decide) :
    wpAny M A (eval (.Name x pos) (envOf cn cs L a ccd)) Q E s := ld_global_at F X.g e h hk hx hd
end

/-- room of the stack -/
structure Ok (A : Around) (d : Nat) : Prop where
  hh : A.handled = none
  dep : A.depth ≤ 310 + d
  un : A.units ≤ 100 * d + 100
theorem Ok.deeper {A : Around} {d : Nat} (x : Ok A d) (env : Env) : Ok (A.deeper env) (d + 1) :=
  ⟨x.hh, by have := x.dep; show A.depth + 1 ≤ _; omega, by have := x.un; show A.units + 3 ≤ _; omega⟩
theorem Ok.in1 {A : Around} {d : Nat} (x : Ok A d) : Ok A.in1 (d + 1) :=
  ⟨x.hh, by have := x.dep; show A.depth ≤ _; omega, by have := x.un; show A.units + 1 ≤ _; omega⟩
theorem Ok.room {A : Around} {d : Nat} (x : Ok A d) (h : d ≤ 40) : A.depth < recursionLimit := by
  have := x.dep; unfold recursionLimit; omega
theorem Ok.units {A : Around} {d : Nat} (x : Ok A d) (h : d ≤ 40) : A.units < cLine := by
  have := x.un; rw [cLine_is]; omega
theorem Ok.mono {A : Around} {d d' : Nat} (x : Ok A d) (h : d ≤ d') : Ok A d' :=
  ⟨x.hh, by have := x.dep; omega, by have := x.un; omega⟩

section
variable {prog : Program} {w : World} {A : Around} {s : Shared}

theorem call_fn {R : Result → Shared → Prop} {f : Addr} {st : Stmt} {dV kV cd : Value} {args : Args} {binds : List (Str × Value)}
    (hroom : A.depth < recursionLimit) (Fn : FnAt s.heap f st dV kV cd) (hlim : s.heap.NoLimit)
    (hbind : ∀ doc pm an ct, BindsTo s (fnOf (fName st) (fName st) (fArgs st) (fBody st) (fScope st) dV kV doc pm an cd ct) args binds)
    (hcell : ∀ x ∈ (fScope st).names, x.2 ≠ .cell) (hloc : ∀ x ∈ binds, (fScope st).names.lookup x.1 = some .local)
    (h : ∀ h₁, Fr s.heap s.heap.objs.size h₁ (fun y => binds.reverse.lookup y) →
      wpAny (model prog w) (A.deeper (envOf (fName st) (fScope st) s.heap.objs.size f cd)) (execs (fBody st) (envOf (fName st) (fScope st) s.heap.objs.size f cd))
        (fun fl s' => R (.ok (.ret (match fl with | .ret v => v | _ => .none))) s') (fun _ _ => False) { s with heap := h₁, toks := s.toks + binds.length })
    (hco : (fScope st).isCoroutine = false := by rfl) (hgen : (fScope st).isGenerator = false := by rfl) (hk : (fScope st).kind = .function := by rfl) :
    codeAny (model prog w) A (.call (.ref f) args) R s := by
  obtain ⟨oc, od, sl, doc, pm, an, ct, e, hc⟩ := Fn
  refine codeAny_call_def hroom e rfl hlim hc rfl (hbind _ _ _ _) hcell hloc (fun h₁ hns hk₁ => ?_) hco hgen hk
  exact wpAny_mono (h h₁ ⟨hns, hk₁, Nat.le_refl _⟩) (fun _ _ x => x) fun _ _ x => x.elim

/-- a call of a def by its name: positional arguments, keywords -/
theorem call_of {E : Value → Shared → Prop} {env : Env} {f : Addr} {x : Str} {p pos : Pos} {e : Expr} {rest : List Expr} {kws : List Keyword} {st : Stmt} {dV kV cd : Value} {Q : Value → Shared → Prop}
    (hn : wpAny (model prog w) A (eval (.Name x p) env) (fun v s' => v = .ref f ∧ s' = s) E s)
    (h : wpAny (model prog w) A (spliced (backTo pos (starEach (e :: rest) env))) (fun vs s₁ => wpAny (model prog w) A (evalAll ((backToKw pos (keywordEach kws env)).map (·.2)))
      (fun ks s₂ => FnAt s₂.heap f st dV kV cd ∧ codeAny (model prog w) A (.call (.ref f) ⟨vs, ((backToKw pos (keywordEach kws env)).filterMap (·.1)).zip ks⟩)
        (fun r s' => match r with | .ok (.ret v) => Q v s' | .ok _ => False | .error e => E e s') s₂) E s₁) E s)
    (hall : (backToKw pos (keywordEach kws env)).all (·.1.isSome) = true := by rfl)
    (hplain : ((backTo pos (starEach (e :: rest) env)).any (·.1) || (backToKw pos (keywordEach kws env)).any (·.1.isNone)) = false := by rfl)
    (he : starEach (e :: rest) env = (false, eval e env) :: starEach rest env := by rfl) :
    wpAny (model prog w) A (eval (.Call (.Name x p) (e :: rest) kws pos) env) Q E s := by
  refine wpAny_Call_Name_kw (wpAny_mono hn ?_ fun _ _ e => e)
  rintro v s' ⟨rfl, rfl⟩
  have q := evalArgs_kw2 (f := .ref f) (Q := fun a s₂ => FnAt s₂.heap f st dV kV cd ∧ codeAny (model prog w) A (.call (.ref f) a)
        (fun r s' => match r with | .ok (.ret v) => Q v s' | .ok _ => False | .error e => E e s') s₂) hall h he
  refine callWith_of (P := fun h => FnAt h f st dV kV cd) hplain (fun h x => ?_) (wpAny_mono q (fun a s₁ h₁ => ⟨h₁.1, wpAny_call h₁.2⟩) fun _ _ e => e)
  obtain ⟨oc, od, sl, doc, pm, an, ct, e, _⟩ := x
  exact ⟨.frame, .inl rfl, (Looks.ld (part := none) e).andThen .now⟩
end

section
variable {w : World} {A : Around} {E : Value → Shared → Prop} {s : Shared} {h₀ : Heap} {L f : Addr} {m : Str → Option Value} {cd : Value}

theorem lw_body {a : Addr} {x y : Int} {t u : Tok} {Q : Flow → Shared → Prop} (F : Fr h₀ L s.heap m) (hm : m "pair" = some (.ref a)) (hl : s.heap.IsList a #[.int x t, .int y u])
    (h : Q (.ret (.int x t)) { s with toks := s.toks + 1 }) :
    wpAny (model P w) A (execs (fBody (stAt 5)) (envOf (fName (stAt 5)) (fScope (stAt 5)) L f cd)) Q E s := by
  refine wpAny_execs_cons ?_
  refine wpAny_Return_some ?_
  refine Subscript_ ?_
  refine ld F hm ?_
  refine wpAny_Constant_int ?_
  exact item_litK (vs := [.int x t, .int y u]) hl (by decide) (by decide) rfl h

theorem lw_call {G : GD} {R : Result → Shared → Prop} {a : Addr} {x y : Int} {t u : Tok} (X : Glo G s.heap) (hroom : A.depth < recursionLimit)
    (hl : s.heap.IsList a #[.int x t, .int y u])
    (h : ∀ h' tk, Kept s.heap h' → R (.ok (.ret (.int x t))) { s with heap := h', toks := tk }) :
    codeAny (model P w) A (.call (.ref G.fw) ⟨[.ref a], []⟩) R s := by
  refine call_fn (binds := [("pair", .ref a)]) hroom X.Fw X.nl (fun doc pm an ct => BindsTo.of_eq rfl) (by decide +kernel) (locs rfl) (fun h₁ F => ?_)
  refine lw_body F rfl (hl.at fun o e => F.keep _ _ e) ?_
  exact h _ _ F.keep
end
end Mine
end

-- part B2
section
open PySem PySem.W PySem.Calls PyProof.Rows
set_option Elab.async false
set_option maxRecDepth 100000
set_option maxHeartbeats 1000000
namespace Mine

/-- a list object of two ints -/
def PairV (h : Heap) (v : Value) (p : Int × Int) : Prop := ∃ a t u, v = .ref a ∧ h.IsList a #[.int p.1 t, .int p.2 u]
theorem PairV.keeps {h h' : Heap} {v : Value} {p : Int × Int} (x : PairV h v p) (k : Kept h h') : PairV h' v p := by
  obtain ⟨a, t, u, e, hl⟩ := x
  exact ⟨a, t, u, e, hl.at fun o e => k _ _ e⟩
abbrev Pairs (h : Heap) (vs : List Value) (ps : List (Int × Int)) : Prop := Paired (PairV h) vs ps
theorem Paired_mono {α β : Type} {F F' : α → β → Prop} (hf : ∀ a b, F a b → F' a b) : ∀ {l : List α} {l' : List β}, Paired F l l' → Paired F' l l'
  | _, _, .nil => .nil
  | _, _, .cons h t => .cons (hf _ _ h) (Paired_mono hf t)
theorem Pairs.keeps {h h' : Heap} {vs : List Value} {ps : List (Int × Int)} (x : Pairs h vs ps) (k : Kept h h') : Pairs h' vs ps := Paired_mono (fun _ _ y => y.keeps k) x
theorem Paired_get {α β : Type} {F : α → β → Prop} : ∀ {l : List α} {l' : List β}, Paired F l l' → ∀ (i : Nat) (b : β), l'[i]? = some b → ∃ a, l[i]? = some a ∧ F a b
  | _, _, .nil, i, b, e => by simp at e
  | _, _, .cons (a := a) h t, 0, b, e => by simp at e; subst e; exact ⟨a, rfl, h⟩
  | _, _, .cons h t, i + 1, b, e => by simp at e; simpa using Paired_get t i b e

/-- r parts the keys: p holds ahead of r, not behind -/
structure Cut (ks : List Int) (p : Int → Prop) (r : Nat) : Prop where
  le : r ≤ ks.length
  lo : ∀ i, i < r → p (ks.getD i 0)
  hi : ∀ i, r ≤ i → i < ks.length → ¬ p (ks.getD i 0)

theorem sorted_getD {ks : List Int} (hs : ks.Pairwise (· ≤ ·)) {i j : Nat} (hij : i ≤ j) (hj : j < ks.length) : ks.getD i 0 ≤ ks.getD j 0 := by
  have hi : i < ks.length := Nat.lt_of_le_of_lt hij hj
  have e1 : ks.getD i 0 = ks[i] := by simp [hi]
  have e2 : ks.getD j 0 = ks[j] := by simp [hj]
  rw [e1, e2]
  rcases Nat.eq_or_lt_of_le hij with h | h
  · subst h; exact Int.le_refl _
  · exact List.pairwise_iff_getElem.mp hs i j hi hj h

section
variable {w : World} {A : Around} {E : Value → Shared → Prop} {s : Shared} {h₀ : Heap} {L f : Addr} {m : Str → Option Value} {cd : Value} {G : GD}

theorem br_key_body {d : Nat} {a : Addr} {vs : List Value} {ps : List (Int × Int)} {x : Int} {tx t0 : Tok} {Q : Flow → Shared → Prop} (ok : Ok A d) (hd : d ≤ 30) (F : Fr h₀ L s.heap m) (X : Glo G h₀)
    (ma : m "a" = some (.ref a)) (mx : m "x" = some (.int x tx)) (mlo : m "lo" = some (.int 0 t0)) (mhi : m "hi" = some .none) (mkey : m "key" = some (.ref G.fw))
    (hl : h₀.IsList a vs.toArray) (hp : Pairs h₀ vs ps) (hs : (ps.map (·.1)).Pairwise (· ≤ ·)) (hn : ps.length ≤ 1000)
    (h : ∀ (r : Nat) t h' tk, Kept h₀ h' → Cut (ps.map (·.1)) (· ≤ x) r → Q (.ret (.int r t)) { s with heap := h', toks := tk }) :
    wpAny (model P w) A (execs (fBody (stAt 2)) (envOf (fName (stAt 2)) (fScope (stAt 2)) L f cd)) Q (fun _ _ => False) s := by
  have hlen : vs.length = ps.length := hp.length
  refine wpAny_execs_cons (wpAny_If (wpAny_isTrue_Compare1 (ld F mlo (wpAny_Constant_int (lt_int (wpAny_truthy_bool ?_))))))
  rw [if_neg (by decide)]
  refine wpAny_execs_nil ?_
  dsimp only
  refine wpAny_execs_cons (wpAny_If (wpAny_isTrue_Compare1 (ld F mhi (wpAny_Constant_none (is_none_none (wpAny_truthy_bool ?_))))))
  rw [if_pos rfl]
  have hl₁ : s.heap.IsList a vs.toArray := hl.at fun o e => F.keep _ _ e
  refine wpAny_execs_cons (wpAny_Assign_Name (Call_ (ldB F X X.n_len (PyProof.Rows.callWith_builtin1 (args_cons (ld F ma (args_nil (call_len_list hl₁ (by simp; omega) (st F fun h₁ F₁ => ?_)))))))))
  refine wpAny_execs_nil ?_
  dsimp only
  obtain ⟨m₁, F₁, ma, mx, mlo, mhi, mkey⟩ : ∃ m₁, Fr h₀ L h₁ m₁ ∧ m₁ "a" = some (.ref a) ∧ m₁ "x" = some (.int x tx) ∧ m₁ "lo" = some (.int 0 t0) ∧ (∃ t, m₁ "hi" = some (.int ps.length t)) ∧ m₁ "key" = some (.ref G.fw) :=
    ⟨_, F₁, upd_ne (by decide) ma, upd_ne (by decide) mx, upd_ne (by decide) mlo, ⟨s.toks + 1 + 1, (if_pos rfl).trans (by rw [show ((vs.toArray.size : Nat) : Int) = ps.length by simp [hlen]])⟩, upd_ne (by decide) mkey⟩
  refine wpAny_execs_cons (wpAny_If (wpAny_isTrue_Compare1 (ld F₁ mkey (wpAny_Constant_none (is_ref_none (wpAny_truthy_bool ?_))))))
  rw [if_neg (by decide)]
  refine wpAny_execs_cons (wpAny_While (codeAny_whileLoop
    (fun n s' => ∃ h' tk m' lo hi tl th, s' = { s with heap := h', toks := tk } ∧ Fr h₀ L h' m' ∧ m' "a" = some (.ref a) ∧ m' "x" = some (.int x tx) ∧ m' "lo" = some (.int (lo : Nat) tl) ∧ m' "hi" = some (.int (hi : Nat) th) ∧ m' "key" = some (.ref G.fw) ∧
      n = hi - lo ∧ lo ≤ hi ∧ hi ≤ ps.length ∧ (∀ i, i < lo → (ps.map (·.1)).getD i 0 ≤ x) ∧ (∀ i, hi ≤ i → i < ps.length → ¬ (ps.map (·.1)).getD i 0 ≤ x))
    ?turn ps.length ?start))
  case start =>
    obtain ⟨t, mhi⟩ := mhi
    exact ⟨h₁, _, m₁, 0, ps.length, t0, t, rfl, F₁, ma, mx, mlo, mhi, mkey, rfl, Nat.zero_le _, Nat.le_refl _, fun i hi => absurd hi (Nat.not_lt_zero _), fun i h1 h2 => absurd h2 (Nat.not_lt.mpr h1)⟩
  case turn =>
    rintro n s' ⟨h', tk, m', lo, hi, tl, th, rfl, F', ma, mx, mlo, mhi, mkey, rfl, hle, hhi, hlo, hup⟩
    refine wpAny_isTrue_Compare1 (ld F' mlo (ld F' mhi (lt_int (wpAny_truthy_bool ?_))))
    by_cases hlt : (lo : Int) < hi
    · rw [if_pos (by simpa using hlt)]
      have hlt' : lo < hi := by omega
      refine wpAny_execs_cons (wpAny_Assign_Name (wpAny_BinOp (wpAny_BinOp (ld F' mlo (ld F' mhi (add_int (wpAny_Constant_int (floordiv_int (by decide) (st F' fun h₂ F₂ => ?_)))))))))
      have hmid : ((lo : Int) + hi).fdiv 2 = ((lo + hi) / 2 : Nat) := by rw [Int.fdiv_eq_ediv_of_nonneg _ (by decide)]; omega
      rw [hmid] at F₂
      obtain ⟨mi, hmi⟩ : ∃ mi, mi = (lo + hi) / 2 := ⟨_, rfl⟩
      rw [← hmi] at F₂
      obtain ⟨m₂, F₂, ma, mx, mlo, mhi, mkey, tm, mmid⟩ : ∃ m₂, Fr h₀ L h₂ m₂ ∧ m₂ "a" = some (.ref a) ∧ m₂ "x" = some (.int x tx) ∧ m₂ "lo" = some (.int (lo : Nat) tl) ∧ m₂ "hi" = some (.int (hi : Nat) th) ∧ m₂ "key" = some (.ref G.fw) ∧ ∃ t, m₂ "mid" = some (.int (mi : Nat) t) :=
        ⟨_, F₂, upd_ne (by decide) ma, upd_ne (by decide) mx, upd_ne (by decide) mlo, upd_ne (by decide) mhi, upd_ne (by decide) mkey, _, if_pos rfl⟩
      dsimp only
      have hmlt : mi < ps.length := by omega
      obtain ⟨v, hv, av, tp, tq, rfl, hpl⟩ := Paired_get hp mi ps[mi] (by simp [hmlt])
      have hkey : (ps.map (·.1)).getD mi 0 = ps[mi].1 := by simp [hmlt]
      refine wpAny_execs_cons (wpAny_If (wpAny_isTrue_Compare1 (ld F₂ mx (call_of (ld F₂ mkey ⟨rfl, rfl⟩) (args_cons (Subscript_ (ld F₂ ma (ld F₂ mmid (item_litK (hl.at fun o e => F₂.keep _ _ e) (Int.natCast_nonneg _) (by omega) (by simpa using hv)
        (args_nil (wpAny_evalAll_nil ⟨(X.keeps F₂.keep).Fw, lw_call (X.keeps F₂.keep) (ok.room (by omega)) (hpl.at fun o e => F₂.keep _ _ e) fun h₃ tk₃ k₃ => ?_⟩)))))))))))
      dsimp only
      refine lt_int (wpAny_truthy_bool ?_)
      have F₃ := F₂.kept k₃
      by_cases hc : x < ps[mi].1
      · rw [if_pos (by simpa using hc)]
        refine wpAny_execs_cons (wpAny_Assign_Name (ld F₃ mmid (st F₃ fun h₄ F₄ => wpAny_execs_nil ?_)))
        dsimp only
        refine wpAny_execs_nil ⟨mi - lo, by omega, h₄, _, _, lo, mi, tl, tm, rfl, F₄, upd_ne (by decide) ma, upd_ne (by decide) mx, upd_ne (by decide) mlo, if_pos rfl, upd_ne (by decide) mkey, rfl, by omega, by omega, hlo, fun i h1 h2 => ?_⟩
        have h3 := sorted_getD hs h1 (by simpa using h2)
        omega
      · rw [if_neg (by simpa using hc)]
        refine wpAny_execs_cons (wpAny_Assign_Name (wpAny_BinOp (ld F₃ mmid (wpAny_Constant_int (add_int (st F₃ fun h₄ F₄ => wpAny_execs_nil ?_))))))
        dsimp only
        refine wpAny_execs_nil ⟨hi - (mi + 1), by omega, h₄, _, _, mi + 1, hi, _, th, rfl, F₄, upd_ne (by decide) ma, upd_ne (by decide) mx, (if_pos rfl), upd_ne (by decide) mhi, upd_ne (by decide) mkey, rfl, by omega, by omega, fun i h1 => ?_, hup⟩
        have h3 := sorted_getD hs (i := i) (j := mi) (by omega) (by simpa using hmlt)
        omega
    · rw [if_neg (by simpa using hlt)]
      have hlt' : lo = hi := by omega
      refine wpAny_execs_nil ?_
      dsimp only
      refine wpAny_execs_nil ?_
      dsimp only
      refine wpAny_execs_cons (wpAny_Return_some (ld F' mlo ?_))
      exact h lo tl h' tk F'.keep ⟨by rw [List.length_map]; omega, hlo, fun i h1 h2 => hup i (hlt' ▸ h1) (by simpa using h2)⟩

theorem br_key_call {d : Nat} {R : Result → Shared → Prop} {a : Addr} {vs : List Value} {ps : List (Int × Int)} {x : Int} {tx : Tok} (ok : Ok A d) (hd : d ≤ 29) (X : Glo G s.heap)
    (hl : s.heap.IsList a vs.toArray) (hp : Pairs s.heap vs ps) (hs : (ps.map (·.1)).Pairwise (· ≤ ·)) (hn : ps.length ≤ 1000)
    (h : ∀ (r : Nat) t h' tk, Kept s.heap h' → Cut (ps.map (·.1)) (· ≤ x) r → R (.ok (.ret (.int r t))) { s with heap := h', toks := tk }) :
    codeAny (model P w) A (.call (.ref G.fr) ⟨[.ref a, .int x tx], [("key", .ref G.fw)]⟩) R s := by
  obtain ⟨od, n, t0, hod, hdd, _⟩ := X.Dr
  refine call_fn (binds := [("a", .ref a), ("x", .int x tx), ("lo", .int 0 t0), ("hi", .none), ("key", .ref G.fw)]) (ok.room (by omega)) X.Frr X.nl
    (fun doc pm an ct => BindsTo.of_defaults rfl hod hdd rfl rfl) (by decide +kernel) (locs rfl) (fun h₁ F => ?_)
  exact br_key_body (ok.deeper _) (by omega) F X rfl rfl rfl rfl rfl hl hp hs hn fun r t h' tk k c => h r t h' tk k c
end
end Mine
end

-- part B3
section
open PySem PySem.W PySem.Calls PyProof.Rows
set_option Elab.async false
set_option maxRecDepth 100000
set_option maxHeartbeats 1000000
namespace Mine
section
variable {w : World} {A : Around} {E : Value → Shared → Prop} {s : Shared} {h₀ : Heap} {L f : Addr} {m : Str → Option Value} {cd : Value} {G : GD}

theorem of_def2 {M : Model} {A : Around} {E : Value → Shared → Prop} {Q : List (Str × Value) → Shared → Prop} {fd : FuncData} {args : Args} {T : Addr} {o : Obj} {items : Array Value} {n : Nat}
    {k : Option (Array Value) → Sem (List (Str × Value))} (hd : fd.defaults = .ref T) (ho : s.heap.get? T = some o) (hs : o.data = .seq items n)
    (h₁ : bindArgs fd args = seqItems? fd.defaults >>= k) (h₂ : wpAny M A (k (some items)) Q E s) : wpAny M A (bindArgs fd args) Q E s := by
    rw [h₁, hd]
    exact wpAny_bind (wpAny_seqItems ho hs h₂)

theorem bindR {n q : Str} {b : List Stmt} {sc : Scope} {d kd : Addr} {doc pm cd ct va vx l h v : Value} {an : Option Addr} {o : Obj} {ne : Nat} {mk : Str → Option Value} 
   (ho : s.heap.get? d = some o) (hs : o.data = .seq #[l, h] ne) (hm : s.heap.Ns kd mk) (hv : mk "key" = some v) :
    BindsTo s (fnOf n q (fArgs (stAt 2)) b sc (.ref d) (.ref kd) doc pm an cd ct) ⟨[va, vx], []⟩ [("a", va), ("x", vx), ("lo", l), ("hi", h), ("key", v)] := by
  intro M A E Q hq
  refine of_def2 rfl ho hs rfl ?_
  have e1 : (fArgs (stAt 2)).posonlyargs.map (·.arg) = [] := by rfl
  have e2 : (fArgs (stAt 2)).args.map (·.arg) = (["a", "x", "lo", "hi"] : List Str) := by rfl
  have e3 : (fArgs (stAt 2)).kwonlyargs.map (·.arg) = (["key"] : List Str) := by rfl
  simp only [e1, e2, e3, List.nil_append, List.zip_cons_cons, List.length_cons, List.length_nil]
  refine wpAny_bind (m := forIn _ _ _) ?_
  refine wpAny_of_eq (a := ([("a", va), ("x", vx), ("lo", l), ("hi", h)] : List (Str × Value))) (by rfl) ?_
  refine wpAny_bind (m := forIn _ _ _) ?_
  rw [List.forIn_cons]
  refine wpAny_bind (m := ite _ _ _) ?_
  rw [if_pos (by rfl)]
  refine wpAny_bind (wpAny_nsGet hm ?_)
  rw [hv]
  refine wpAny_pure ?_
  dsimp only
  rw [List.forIn_nil]
  refine wpAny_pure ?_
  exact wpAny_of_eq (a := ([("a", va), ("x", vx), ("lo", l), ("hi", h), ("key", v)] : List (Str × Value))) (by rfl) hq
theorem bl_key_body {d : Nat} {a : Addr} {vs : List Value} {ps : List (Int × Int)} {x : Int} {tx t0 : Tok} {Q : Flow → Shared → Prop} (ok : Ok A d) (hd : d ≤ 30) (F : Fr h₀ L s.heap m) (X : Glo G h₀)
    (ma : m "a" = some (.ref a)) (mx : m "x" = some (.int x tx)) (mlo : m "lo" = some (.int 0 t0)) (mhi : m "hi" = some .none) (mkey : m "key" = some (.ref G.fw))
    (hl : h₀.IsList a vs.toArray) (hp : Pairs h₀ vs ps) (hs : (ps.map (·.1)).Pairwise (· ≤ ·)) (hn : ps.length ≤ 1000)
    (h : ∀ (r : Nat) t h' tk, Kept h₀ h' → Cut (ps.map (·.1)) (· < x) r → Q (.ret (.int r t)) { s with heap := h', toks := tk }) :
    wpAny (model P w) A (execs (fBody (stAt 3)) (envOf (fName (stAt 3)) (fScope (stAt 3)) L f cd)) Q (fun _ _ => False) s := by
  have hlen : vs.length = ps.length := hp.length
  refine wpAny_execs_cons (wpAny_If (wpAny_isTrue_Compare1 (ld F mlo (wpAny_Constant_int (lt_int (wpAny_truthy_bool ?_))))))
  rw [if_neg (by decide)]
  refine wpAny_execs_nil ?_
  dsimp only
  refine wpAny_execs_cons (wpAny_If (wpAny_isTrue_Compare1 (ld F mhi (wpAny_Constant_none (is_none_none (wpAny_truthy_bool ?_))))))
  rw [if_pos rfl]
  have hl₁ : s.heap.IsList a vs.toArray := hl.at fun o e => F.keep _ _ e
  refine wpAny_execs_cons (wpAny_Assign_Name (Call_ (ldB F X X.n_len (PyProof.Rows.callWith_builtin1 (args_cons (ld F ma (args_nil (call_len_list hl₁ (by simp; omega) (st F fun h₁ F₁ => ?_)))))))))
  refine wpAny_execs_nil ?_
  dsimp only
  obtain ⟨m₁, F₁, ma, mx, mlo, mhi, mkey⟩ : ∃ m₁, Fr h₀ L h₁ m₁ ∧ m₁ "a" = some (.ref a) ∧ m₁ "x" = some (.int x tx) ∧ m₁ "lo" = some (.int 0 t0) ∧ (∃ t, m₁ "hi" = some (.int ps.length t)) ∧ m₁ "key" = some (.ref G.fw) :=
    ⟨_, F₁, upd_ne (by decide) ma, upd_ne (by decide) mx, upd_ne (by decide) mlo, ⟨s.toks + 1 + 1, (if_pos rfl).trans (by rw [show ((vs.toArray.size : Nat) : Int) = ps.length by simp [hlen]])⟩, upd_ne (by decide) mkey⟩
  refine wpAny_execs_cons (wpAny_If (wpAny_isTrue_Compare1 (ld F₁ mkey (wpAny_Constant_none (is_ref_none (wpAny_truthy_bool ?_))))))
  rw [if_neg (by decide)]
  refine wpAny_execs_cons (wpAny_While (codeAny_whileLoop
    (fun n s' => ∃ h' tk m' lo hi tl th, s' = { s with heap := h', toks := tk } ∧ Fr h₀ L h' m' ∧ m' "a" = some (.ref a) ∧ m' "x" = some (.int x tx) ∧ m' "lo" = some (.int (lo : Nat) tl) ∧ m' "hi" = some (.int (hi : Nat) th) ∧ m' "key" = some (.ref G.fw) ∧
      n = hi - lo ∧ lo ≤ hi ∧ hi ≤ ps.length ∧ (∀ i, i < lo → (ps.map (·.1)).getD i 0 < x) ∧ (∀ i, hi ≤ i → i < ps.length → ¬ (ps.map (·.1)).getD i 0 < x))
    ?turn ps.length ?start))
  case start =>
    obtain ⟨t, mhi⟩ := mhi
    exact ⟨h₁, _, m₁, 0, ps.length, t0, t, rfl, F₁, ma, mx, mlo, mhi, mkey, rfl, Nat.zero_le _, Nat.le_refl _, fun i hi => absurd hi (Nat.not_lt_zero _), fun i h1 h2 => absurd h2 (Nat.not_lt.mpr h1)⟩
  case turn =>
    rintro n s' ⟨h', tk, m', lo, hi, tl, th, rfl, F', ma, mx, mlo, mhi, mkey, rfl, hle, hhi, hlo, hup⟩
    refine wpAny_isTrue_Compare1 (ld F' mlo (ld F' mhi (lt_int (wpAny_truthy_bool ?_))))
    by_cases hlt : (lo : Int) < hi
    · rw [if_pos (by simpa using hlt)]
      have hlt' : lo < hi := by omega
      refine wpAny_execs_cons (wpAny_Assign_Name (wpAny_BinOp (wpAny_BinOp (ld F' mlo (ld F' mhi (add_int (wpAny_Constant_int (floordiv_int (by decide) (st F' fun h₂ F₂ => ?_)))))))))
      have hmid : ((lo : Int) + hi).fdiv 2 = ((lo + hi) / 2 : Nat) := by rw [Int.fdiv_eq_ediv_of_nonneg _ (by decide)]; omega
      rw [hmid] at F₂
      obtain ⟨mi, hmi⟩ : ∃ mi, mi = (lo + hi) / 2 := ⟨_, rfl⟩
      rw [← hmi] at F₂
      obtain ⟨m₂, F₂, ma, mx, mlo, mhi, mkey, tm, mmid⟩ : ∃ m₂, Fr h₀ L h₂ m₂ ∧ m₂ "a" = some (.ref a) ∧ m₂ "x" = some (.int x tx) ∧ m₂ "lo" = some (.int (lo : Nat) tl) ∧ m₂ "hi" = some (.int (hi : Nat) th) ∧ m₂ "key" = some (.ref G.fw) ∧ ∃ t, m₂ "mid" = some (.int (mi : Nat) t) :=
        ⟨_, F₂, upd_ne (by decide) ma, upd_ne (by decide) mx, upd_ne (by decide) mlo, upd_ne (by decide) mhi, upd_ne (by decide) mkey, _, if_pos rfl⟩
      dsimp only
      have hmlt : mi < ps.length := by omega
      obtain ⟨v, hv, av, tp, tq, rfl, hpl⟩ := Paired_get hp mi ps[mi] (by simp [hmlt])
      have hkey : (ps.map (·.1)).getD mi 0 = ps[mi].1 := by simp [hmlt]
      refine wpAny_execs_cons (wpAny_If (wpAny_isTrue_Compare1 (call_of (ld F₂ mkey ⟨rfl, rfl⟩) (args_cons (Subscript_ (ld F₂ ma (ld F₂ mmid (item_litK (hl.at fun o e => F₂.keep _ _ e) (Int.natCast_nonneg _) (by omega) (by simpa using hv)
        (args_nil (wpAny_evalAll_nil ⟨(X.keeps F₂.keep).Fw, lw_call (X.keeps F₂.keep) (ok.room (by omega)) (hpl.at fun o e => F₂.keep _ _ e) fun h₃ tk₃ k₃ => ?_⟩))))))))))
      have F₃ := F₂.kept k₃
      dsimp only
      refine ld F₃ mx (lt_int (wpAny_truthy_bool ?_))
      by_cases hc : ps[mi].1 < x
      · rw [if_pos (by simpa using hc)]
        refine wpAny_execs_cons (wpAny_Assign_Name (wpAny_BinOp (ld F₃ mmid (wpAny_Constant_int (add_int (st F₃ fun h₄ F₄ => wpAny_execs_nil ?_))))))
        dsimp only
        refine wpAny_execs_nil ⟨hi - (mi + 1), by omega, h₄, _, _, mi + 1, hi, _, th, rfl, F₄, upd_ne (by decide) ma, upd_ne (by decide) mx, (if_pos rfl), upd_ne (by decide) mhi, upd_ne (by decide) mkey, rfl, by omega, by omega, fun i h1 => ?_, hup⟩
        have h3 := sorted_getD hs (i := i) (j := mi) (by omega) (by simpa using hmlt)
        omega
      · rw [if_neg (by simpa using hc)]
        refine wpAny_execs_cons (wpAny_Assign_Name (ld F₃ mmid (st F₃ fun h₄ F₄ => wpAny_execs_nil ?_)))
        dsimp only
        refine wpAny_execs_nil ⟨mi - lo, by omega, h₄, _, _, lo, mi, tl, tm, rfl, F₄, upd_ne (by decide) ma, upd_ne (by decide) mx, upd_ne (by decide) mlo, if_pos rfl, upd_ne (by decide) mkey, rfl, by omega, by omega, hlo, fun i h1 h2 => ?_⟩
        have h3 := sorted_getD hs h1 (by simpa using h2)
        omega
    · rw [if_neg (by simpa using hlt)]
      have hlt' : lo = hi := by omega
      refine wpAny_execs_nil ?_
      dsimp only
      refine wpAny_execs_nil ?_
      dsimp only
      refine wpAny_execs_cons (wpAny_Return_some (ld F' mlo ?_))
      exact h lo tl h' tk F'.keep ⟨by rw [List.length_map]; omega, hlo, fun i h1 h2 => hup i (hlt' ▸ h1) (by simpa using h2)⟩

theorem bl_key_call {d : Nat} {R : Result → Shared → Prop} {a : Addr} {vs : List Value} {ps : List (Int × Int)} {x : Int} {tx : Tok} (ok : Ok A d) (hd : d ≤ 29) (X : Glo G s.heap)
    (hl : s.heap.IsList a vs.toArray) (hp : Pairs s.heap vs ps) (hs : (ps.map (·.1)).Pairwise (· ≤ ·)) (hn : ps.length ≤ 1000)
    (h : ∀ (r : Nat) t h' tk, Kept s.heap h' → Cut (ps.map (·.1)) (· < x) r → R (.ok (.ret (.int r t))) { s with heap := h', toks := tk }) :
    codeAny (model P w) A (.call (.ref G.fl) ⟨[.ref a, .int x tx], [("key", .ref G.fw)]⟩) R s := by
  obtain ⟨od, n, t0, hod, hdd, _⟩ := X.Dl
  refine call_fn (binds := [("a", .ref a), ("x", .int x tx), ("lo", .int 0 t0), ("hi", .none), ("key", .ref G.fw)]) (ok.room (by omega)) X.Fl X.nl
    (fun doc pm an ct => BindsTo.of_defaults rfl hod hdd rfl rfl) (by decide +kernel) (locs rfl) (fun h₁ F => ?_)
  exact bl_key_body (ok.deeper _) (by omega) F X rfl rfl rfl rfl rfl hl hp hs hn fun r t h' tk k c => h r t h' tk k c
theorem br_int_body {d : Nat} {a : Addr} {vs : List Value} {ks : List Int} {x : Int} {tx t0 : Tok} {Q : Flow → Shared → Prop} (ok : Ok A d) (hd : d ≤ 30) (F : Fr h₀ L s.heap m) (X : Glo G h₀)
    (ma : m "a" = some (.ref a)) (mx : m "x" = some (.int x tx)) (mlo : m "lo" = some (.int 0 t0)) (mhi : m "hi" = some .none) (mkey : m "key" = some .none)
    (hl : h₀.IsList a vs.toArray) (hp : IntsAre vs ks) (hs : ks.Pairwise (· ≤ ·)) (hn : ks.length ≤ 1000)
    (h : ∀ (r : Nat) t h' tk, Kept h₀ h' → Cut ks (· ≤ x) r → Q (.ret (.int r t)) { s with heap := h', toks := tk }) :
    wpAny (model P w) A (execs (fBody (stAt 2)) (envOf (fName (stAt 2)) (fScope (stAt 2)) L f cd)) Q (fun _ _ => False) s := by
  have hlen : vs.length = ks.length := hp.length
  refine wpAny_execs_cons (wpAny_If (wpAny_isTrue_Compare1 (ld F mlo (wpAny_Constant_int (lt_int (wpAny_truthy_bool ?_))))))
  rw [if_neg (by decide)]
  refine wpAny_execs_nil ?_
  dsimp only
  refine wpAny_execs_cons (wpAny_If (wpAny_isTrue_Compare1 (ld F mhi (wpAny_Constant_none (is_none_none (wpAny_truthy_bool ?_))))))
  rw [if_pos rfl]
  have hl₁ : s.heap.IsList a vs.toArray := hl.at fun o e => F.keep _ _ e
  refine wpAny_execs_cons (wpAny_Assign_Name (Call_ (ldB F X X.n_len (PyProof.Rows.callWith_builtin1 (args_cons (ld F ma (args_nil (call_len_list hl₁ (by simp; omega) (st F fun h₁ F₁ => ?_)))))))))
  refine wpAny_execs_nil ?_
  dsimp only
  obtain ⟨m₁, F₁, ma, mx, mlo, mhi, mkey⟩ : ∃ m₁, Fr h₀ L h₁ m₁ ∧ m₁ "a" = some (.ref a) ∧ m₁ "x" = some (.int x tx) ∧ m₁ "lo" = some (.int 0 t0) ∧ (∃ t, m₁ "hi" = some (.int ks.length t)) ∧ m₁ "key" = some .none :=
    ⟨_, F₁, upd_ne (by decide) ma, upd_ne (by decide) mx, upd_ne (by decide) mlo, ⟨s.toks + 1 + 1, (if_pos rfl).trans (by rw [show ((vs.toArray.size : Nat) : Int) = ks.length by simp [hlen]])⟩, upd_ne (by decide) mkey⟩
  refine wpAny_execs_cons (wpAny_If (wpAny_isTrue_Compare1 (ld F₁ mkey (wpAny_Constant_none (is_none_none (wpAny_truthy_bool ?_))))))
  rw [if_pos rfl]
  refine wpAny_execs_cons (wpAny_While (codeAny_whileLoop
    (fun n s' => ∃ h' tk m' lo hi tl th, s' = { s with heap := h', toks := tk } ∧ Fr h₀ L h' m' ∧ m' "a" = some (.ref a) ∧ m' "x" = some (.int x tx) ∧ m' "lo" = some (.int (lo : Nat) tl) ∧ m' "hi" = some (.int (hi : Nat) th) ∧ m' "key" = some .none ∧
      n = hi - lo ∧ lo ≤ hi ∧ hi ≤ ks.length ∧ (∀ i, i < lo → ks.getD i 0 ≤ x) ∧ (∀ i, hi ≤ i → i < ks.length → ¬ ks.getD i 0 ≤ x))
    ?turn ks.length ?start))
  case start =>
    obtain ⟨t, mhi⟩ := mhi
    exact ⟨h₁, _, m₁, 0, ks.length, t0, t, rfl, F₁, ma, mx, mlo, mhi, mkey, rfl, Nat.zero_le _, Nat.le_refl _, fun i hi => absurd hi (Nat.not_lt_zero _), fun i h1 h2 => absurd h2 (Nat.not_lt.mpr h1)⟩
  case turn =>
    rintro n s' ⟨h', tk, m', lo, hi, tl, th, rfl, F', ma, mx, mlo, mhi, mkey, rfl, hle, hhi, hlo, hup⟩
    refine wpAny_isTrue_Compare1 (ld F' mlo (ld F' mhi (lt_int (wpAny_truthy_bool ?_))))
    by_cases hlt : (lo : Int) < hi
    · rw [if_pos (by simpa using hlt)]
      have hlt' : lo < hi := by omega
      refine wpAny_execs_cons (wpAny_Assign_Name (wpAny_BinOp (wpAny_BinOp (ld F' mlo (ld F' mhi (add_int (wpAny_Constant_int (floordiv_int (by decide) (st F' fun h₂ F₂ => ?_)))))))))
      have hmid : ((lo : Int) + hi).fdiv 2 = ((lo + hi) / 2 : Nat) := by rw [Int.fdiv_eq_ediv_of_nonneg _ (by decide)]; omega
      rw [hmid] at F₂
      obtain ⟨mi, hmi⟩ : ∃ mi, mi = (lo + hi) / 2 := ⟨_, rfl⟩
      rw [← hmi] at F₂
      obtain ⟨m₂, F₂, ma, mx, mlo, mhi, mkey, tm, mmid⟩ : ∃ m₂, Fr h₀ L h₂ m₂ ∧ m₂ "a" = some (.ref a) ∧ m₂ "x" = some (.int x tx) ∧ m₂ "lo" = some (.int (lo : Nat) tl) ∧ m₂ "hi" = some (.int (hi : Nat) th) ∧ m₂ "key" = some .none ∧ ∃ t, m₂ "mid" = some (.int (mi : Nat) t) :=
        ⟨_, F₂, upd_ne (by decide) ma, upd_ne (by decide) mx, upd_ne (by decide) mlo, upd_ne (by decide) mhi, upd_ne (by decide) mkey, _, if_pos rfl⟩
      dsimp only
      have hmlt : mi < ks.length := by omega
      obtain ⟨tp, hv⟩ := hp.get mi ks[mi] (by simp [hmlt])
      have hkey : ks.getD mi 0 = ks[mi] := by simp [hmlt]
      refine wpAny_execs_cons (wpAny_If (wpAny_isTrue_Compare1 (ld F₂ mx (Subscript_ (ld F₂ ma (ld F₂ mmid (item_litK (hl.at fun o e => F₂.keep _ _ e) (Int.natCast_nonneg _) (by omega) (by simpa using hv)
        (lt_int (wpAny_truthy_bool ?_)))))))))
      have F₃ := F₂
      by_cases hc : x < ks[mi]
      · rw [if_pos (by simpa using hc)]
        refine wpAny_execs_cons (wpAny_Assign_Name (ld F₃ mmid (st F₃ fun h₄ F₄ => wpAny_execs_nil ?_)))
        dsimp only
        refine wpAny_execs_nil ⟨mi - lo, by omega, h₄, _, _, lo, mi, tl, tm, rfl, F₄, upd_ne (by decide) ma, upd_ne (by decide) mx, upd_ne (by decide) mlo, if_pos rfl, upd_ne (by decide) mkey, rfl, by omega, by omega, hlo, fun i h1 h2 => ?_⟩
        have h3 := sorted_getD hs h1 h2
        omega
      · rw [if_neg (by simpa using hc)]
        refine wpAny_execs_cons (wpAny_Assign_Name (wpAny_BinOp (ld F₃ mmid (wpAny_Constant_int (add_int (st F₃ fun h₄ F₄ => wpAny_execs_nil ?_))))))
        dsimp only
        refine wpAny_execs_nil ⟨hi - (mi + 1), by omega, h₄, _, _, mi + 1, hi, _, th, rfl, F₄, upd_ne (by decide) ma, upd_ne (by decide) mx, (if_pos rfl), upd_ne (by decide) mhi, upd_ne (by decide) mkey, rfl, by omega, by omega, fun i h1 => ?_, hup⟩
        have h3 := sorted_getD hs (i := i) (j := mi) (by omega) hmlt
        omega
    · rw [if_neg (by simpa using hlt)]
      have hlt' : lo = hi := by omega
      refine wpAny_execs_nil ?_
      dsimp only
      refine wpAny_execs_nil ?_
      dsimp only
      refine wpAny_execs_cons (wpAny_Return_some (ld F' mlo ?_))
      exact h lo tl h' tk F'.keep ⟨by omega, hlo, fun i h1 h2 => hup i (hlt' ▸ h1) h2⟩


theorem br_int_call {d : Nat} {R : Result → Shared → Prop} {a : Addr} {vs : List Value} {ks : List Int} {x : Int} {tx : Tok} (ok : Ok A d) (hd : d ≤ 29) (X : Glo G s.heap)
    (hl : s.heap.IsList a vs.toArray) (hp : IntsAre vs ks) (hs : ks.Pairwise (· ≤ ·)) (hn : ks.length ≤ 1000)
    (h : ∀ (r : Nat) t h' tk, Kept s.heap h' → Cut ks (· ≤ x) r → R (.ok (.ret (.int r t))) { s with heap := h', toks := tk }) :
    codeAny (model P w) A (.call (.ref G.fr) ⟨[.ref a, .int x tx], []⟩) R s := by
  obtain ⟨od, n, t0, hod, hdd, _⟩ := X.Dr
  obtain ⟨mk, hmk, hmk2⟩ := X.Kr
  refine call_fn (binds := [("a", .ref a), ("x", .int x tx), ("lo", .int 0 t0), ("hi", .none), ("key", .none)]) (ok.room (by omega)) X.Frr X.nl
    (fun doc pm an ct => bindR hod hdd hmk hmk2) (by decide +kernel) (locs rfl) (fun h₁ F => ?_)
  exact br_int_body (ok.deeper _) (by omega) F X rfl rfl rfl rfl rfl hl hp hs hn fun r t h' tk k c => h r t h' tk k c
end
end Mine
end

-- part B4
section
open PySem PySem.W PySem.Calls PyProof.Rows
set_option Elab.async false
set_option maxRecDepth 100000
set_option maxHeartbeats 1000000
namespace Mine
section
variable {prog : Program} {w : World} {A : Around} {E : Value → Shared → Prop} {s : Shared} {D : Addr} {vs : List Value}

theorem Lst.typeIs (l : Lst s.heap D vs) : s.TypeIs (.ref D) "list" := l.isList.typeIs
theorem Lst.meth (l : Lst s.heap D vs) {name : Str} {id : String} {pl : Sem Bool} {Q : Value × List Value → Shared → Prop} (slot : Slot "list" name id) (hty : typeOf (.builtin id) = pure (.type "method_descriptor"))
    (h : Q (.builtin id, [.ref D]) s) : wpAny (model prog w) A (getMethod (.ref D) name pl) Q E s := by
  obtain ⟨n, e⟩ := l
  exact getMethod_builtin ⟨_, e, rfl⟩ PySem.F.plainAttrs_list slot hty (fun a q => by cases q; exact ⟨_, e, rfl⟩) h

theorem upd_but {h : Heap} {f : Obj → Obj} : KeptBut D h (h.update D f) := fun b o n e => (Heap.get?_update_ne _ _ _ _ n).trans e

theorem Lst.upd {h : Heap} (l : Lst h D vs) {f : Array Value → Array Value} {us : List Value} (e : f vs.toArray = us.toArray) : Lst (h.update D (Obj.mapSeq f)) D us := by
  obtain ⟨n, q⟩ := l
  have := get?_update_seq (c := "list") q f
  rw [e] at this
  exact ⟨_, this⟩

theorem nat_fit {k : Nat} (h : k ≤ 1000) : ((k : Nat) : Int) < 2 ^ 63 := by omega
theorem Lst.insert (l : Lst s.heap D vs) {k : Nat} {x : Int} {u : Tok} {y : Value} {Q : Value → Shared → Prop} (hx : x = (k : Nat)) (hk : k ≤ vs.length) (hz : vs.length ≤ 1000)
    (h : ∀ h', KeptBut D s.heap h' → Lst h' D (vs.take k ++ y :: vs.drop k) → Q .none { s with heap := h' }) :
    wpAny (model prog w) A (call (.builtin "list.insert") [.ref D, .int x u, y]) Q E s := by
  have hl := l
  obtain ⟨n, e⟩ := l
  have hf : Builtin.List.listFitsIndex x = true := by rw [hx]; exact fitsIndex_of (Int.natCast_nonneg _) (nat_fit (by omega))
  refine call_meets PySem.F.slot_list_insert ⟨_, e, rfl⟩ PySem.F.entry_list_insert (PySem.F.args_list_insert_3 _ _ _) (PySem.AutoSeq1.list_insert_list_int_val_1 D _ n _ u y (by simp [hf]) (by rw [List.size_toArray, sizeLine_eq]; omega)) ⟨e, h _ upd_but ?_⟩
  refine hl.upd ?_
  show (vs.toArray.extract 0 (if x < 0 then (x + (vs.toArray.size : Int)).toNat else min x.toNat vs.toArray.size)).push y ++ vs.toArray.extract (if x < 0 then (x + (vs.toArray.size : Int)).toNat else min x.toNat vs.toArray.size) = _
  rw [if_neg (by omega), kl_ins_eq]
  congr 1
  simp [hx, Nat.min_eq_left hk]

theorem Lst.popAt (l : Lst s.heap D vs) {k : Nat} {x : Int} {u : Tok} {y : Value} {Q : Value → Shared → Prop} (hx : x = (k : Nat)) (hy : vs[k]? = some y) (hz : vs.length ≤ 1000)
    (h : ∀ h', KeptBut D s.heap h' → Lst h' D (vs.take k ++ vs.drop (k + 1)) → Q y { s with heap := h' }) :
    wpAny (model prog w) A (call (.builtin "list.pop") [.ref D, .int x u]) Q E s := by
  have hl := l
  obtain ⟨n, e⟩ := l
  have hk : k < vs.length := by
    rcases Nat.lt_or_ge k vs.length with q | q
    · exact q
    · rw [List.getElem?_eq_none q] at hy; cases hy
  have hf : Builtin.List.listFitsIndex x = true := by rw [hx]; exact fitsIndex_of (Int.natCast_nonneg _) (nat_fit (by omega))
  have hi : seqIndex? x vs.toArray.size = some k := by rw [hx, seqIndex_of (Int.natCast_nonneg _) (by simpa using hk)]; simp
  refine call_meets PySem.F.slot_list_pop ⟨_, e, rfl⟩ PySem.F.entry_list_pop (PySem.F.args_list_pop_2 _ _) (PySem.MeetsSeq.list_pop_at D _ n _ u k y hf hi (by simpa using hy) (by rw [List.size_toArray, sizeLine_eq]; omega)) ⟨e, h _ upd_but ?_⟩
  refine hl.upd ?_
  have ev : vs = vs.take k ++ y :: vs.drop (k + 1) := by
    have := List.take_append_drop k vs
    rw [List.drop_eq_getElem_cons hk] at this
    have e2 : vs[k] = y := by simpa [hk] using hy
    rw [e2] at this; exact this.symm
  have e3 := kl_erase (vs.take k) (vs.drop (k + 1)) y
  rw [← ev, List.length_take, Nat.min_eq_left (Nat.le_of_lt hk)] at e3
  exact e3

theorem Lst.append (l : Lst s.heap D vs) {y : Value} {Q : Value → Shared → Prop} (hz : vs.length ≤ 1000)
    (h : ∀ h', KeptBut D s.heap h' → Lst h' D (vs ++ [y]) → Q .none { s with heap := h' }) :
    wpAny (model prog w) A (call (.builtin "list.append") [.ref D, y]) Q E s := by
  obtain ⟨n, e⟩ := l
  refine append_at (hsz := by rw [List.size_toArray, sizeLine_eq]; omega) e fun h' hs ho => h h' (fun b o nb e => (hs.2 b nb).trans e) ⟨n + 1, ?_⟩
  rw [ho]; simp

end

section
variable {h₀ h h' : Heap} {L D : Addr} {m : Str → Option Value}
theorem Fr.but (F : Fr h₀ L h m) (k : KeptBut D h h') (hL : L ≠ D) (hD : h₀.get? D = none) : Fr h₀ L h' m := by
  obtain ⟨oL, a1, a2, hL', a3⟩ := F.ns
  exact ⟨⟨oL, a1, a2, k _ _ hL hL', a3⟩, fun b o e => k _ _ (fun q => by rw [q, hD] at e; cases e) (F.keep b o e), F.above⟩
theorem Fr.hide (F : Fr h₀ L h m) (D : Addr) : Fr (h₀.hide D) L h m := ⟨F.ns, fun b o e => F.keep b o (Heap.of_hide e), by rw [Heap.hide_size]; exact F.above⟩
end

section
variable {w : World} {A : Around} {E : Value → Shared → Prop} {s : Shared} {h₀ : Heap} {L f : Addr} {m : Str → Option Value} {cd : Value} {G : GD}

theorem br_key_call4 {d : Nat} {R : Result → Shared → Prop} {a : Addr} {vs : List Value} {ps : List (Int × Int)} {x : Int} {tx t0 : Tok} (ok : Ok A d) (hd : d ≤ 29) (X : Glo G s.heap)
    (hl : s.heap.IsList a vs.toArray) (hp : Pairs s.heap vs ps) (hs : (ps.map (·.1)).Pairwise (· ≤ ·)) (hn : ps.length ≤ 1000)
    (h : ∀ (r : Nat) t h' tk, Kept s.heap h' → Cut (ps.map (·.1)) (· ≤ x) r → R (.ok (.ret (.int r t))) { s with heap := h', toks := tk }) :
    codeAny (model P w) A (.call (.ref G.fr) ⟨[.ref a, .int x tx, .int 0 t0, .none], [("key", .ref G.fw)]⟩) R s := by
  obtain ⟨od, n, t0', hod, hdd, _⟩ := X.Dr
  refine call_fn (binds := [("a", .ref a), ("x", .int x tx), ("lo", .int 0 t0), ("hi", .none), ("key", .ref G.fw)]) (ok.room (by omega)) X.Frr X.nl
    (fun doc pm an ct => BindsTo.of_defaults rfl hod hdd rfl rfl) (by decide +kernel) (locs rfl) (fun h₁ F => ?_)
  exact br_key_body (ok.deeper _) (by omega) F X rfl rfl rfl rfl rfl hl hp hs hn fun r t h' tk k c => h r t h' tk k c

/-- insort_right with a key: the list gets the pair at a place that parts it -/
theorem is_call {d : Nat} {R : Result → Shared → Prop} {a : Addr} {vs : List Value} {ps : List (Int × Int)} {xv : Value} {p : Int × Int} (ok : Ok A d) (hd : d ≤ 27) (X : Glo G s.heap)
    (hl : Lst s.heap a vs) (hp : Pairs (s.heap.hide a) vs ps) (hx : PairV (s.heap.hide a) xv p) (hs : (ps.map (·.1)).Pairwise (· ≤ ·)) (hn : ps.length ≤ 1000)
    (h : ∀ (r : Nat) h' tk, KeptBut a s.heap h' → Lst h' a (vs.take r ++ xv :: vs.drop r) → Cut (ps.map (·.1)) (· ≤ p.1) r → R (.ok (.ret .none)) { s with heap := h', toks := tk }) :
    codeAny (model P w) A (.call (.ref G.fi) ⟨[.ref a, xv], [("key", .ref G.fw)]⟩) R s := by
  obtain ⟨od, n, t0, hod, hdd, _⟩ := X.Di
  refine call_fn (binds := [("a", .ref a), ("x", xv), ("lo", .int 0 t0), ("hi", .none), ("key", .ref G.fw)]) (ok.room (by omega)) X.Fi X.nl
    (fun doc pm an ct => BindsTo.of_defaults rfl hod hdd rfl rfl) (by decide +kernel) (locs rfl) (fun h₁ F => ?_)
  have ok' := ok.deeper (envOf (fName (stAt 1)) (fScope (stAt 1)) s.heap.objs.size G.fi G.ci)
  have X' := X.keeps F.keep
  obtain ⟨xa, tp, tq, rfl, hxl⟩ := hx
  have kh : Kept (s.heap.hide a) s.heap := (Kept.refl _).hide
  have hlen : vs.length = ps.length := hp.length
  refine wpAny_execs_cons (wpAny_If (wpAny_isTrue_Compare1 (ld F rfl (wpAny_Constant_none (is_ref_none (wpAny_truthy_bool ?_))))))
  rw [if_neg (by decide)]
  refine wpAny_execs_cons (wpAny_Assign_Name (call_of (f := G.fr) (st := stAt 2) (dV := .ref G.dr) (kV := .ref G.kr) (cd := G.cr) (ldG F X X.nr ⟨rfl, rfl⟩) (args_cons (ld F rfl (args_cons (call_of (ld F rfl ⟨rfl, rfl⟩) (args_cons (ld F rfl (args_nil (wpAny_evalAll_nil ⟨X'.Fw, lw_call X' (ok'.room (by omega)) (hxl.at fun o e => F.keep _ _ (kh _ _ e)) fun h₂ tk₂ k₂ => ?_⟩))))))))))
  have F₂ := F.kept k₂
  have X₂ := X'.keeps k₂
  refine args_cons (ld F₂ rfl (args_cons (ld F₂ rfl (args_nil (kwAll_cons (ld F₂ rfl (kwAll_nil ⟨X₂.Frr, br_key_call4 ok' (by omega) X₂ (hl.isList.at fun o e => k₂ _ _ (F.keep _ _ e)) ((hp.keeps kh).keeps (Kept.trans F.keep k₂)) hs hn fun r t h₃ tk₃ k₃ c => ?_⟩)))))))
  have k₁₃ : Kept h₁ h₃ := Kept.trans k₂ k₃
  refine st (F₂.kept k₃) fun h₄ F₄ => ?_
  refine wpAny_execs_nil ?_
  dsimp only
  have l₄ : Lst h₄ a vs := hl.keeps F₄.keep
  refine wpAny_execs_cons (wpAny_Expr_any (MethodCall_ (ld F₄ rfl (l₄.meth PySem.F.slot_list_insert PySem.F.type_list_insert (PyProof.Rows.callWith_method1 (args_cons (ld F₄ rfl (args_cons (ld F₄ rfl (args_nil ?_)))))))))) 
  refine Lst.insert l₄ rfl (by have := c.le; simp at this; omega) (by omega) fun h₅ k₅ l₅ => ?_
  refine wpAny_execs_nil ?_
  exact h r h₅ _ (KeptBut.trans (Kept.but F₄.keep a) k₅) l₅ c
end
end Mine
end

-- part B5
section
open PySem PySem.W PySem.Calls PyProof.Rows
set_option Elab.async false
set_option maxRecDepth 100000
set_option maxHeartbeats 2000000
namespace Mine

theorem Paired_append {α β : Type} {F : α → β → Prop} : ∀ {a c : List α} {b d : List β}, Paired F a b → Paired F c d → Paired F (a ++ c) (b ++ d)
  | _, _, _, _, .nil, y => y
  | _, _, _, _, .cons h t, y => .cons h (Paired_append t y)
theorem Paired_take {α β : Type} {F : α → β → Prop} : ∀ {l : List α} {l' : List β} (n : Nat), Paired F l l' → Paired F (l.take n) (l'.take n)
  | _, _, 0, _ => by simp only [List.take_zero]; exact .nil
  | _, _, n + 1, .nil => .nil
  | _, _, n + 1, .cons h t => .cons h (Paired_take n t)
theorem Paired_drop {α β : Type} {F : α → β → Prop} : ∀ {l : List α} {l' : List β} (n : Nat), Paired F l l' → Paired F (l.drop n) (l'.drop n)
  | _, _, 0, x => x
  | _, _, n + 1, .nil => .nil
  | _, _, n + 1, .cons h t => Paired_drop n t
theorem KeptBut.hide2 {D : Addr} {h h' : Heap} (k : KeptBut D h h') : Kept (h.hide D) (h'.hide D) := fun b o e => by
  have n : b ≠ D := fun q => by subst q; rw [Heap.hide_self] at e; cases e
  exact (Heap.hide_ne h' n).trans (k b o n (Heap.of_hide e))

section
variable {w : World} {A : Around} {E : Value → Shared → Prop} {s : Shared}
/-- a fresh list -/
theorem mkList {M : Model} {vs : List Value} {Q : Value → Shared → Prop} (hz : vs.length ≤ 1000)
    (h : ∀ D h', s.heap.get? D = none → D = s.heap.objs.size → Kept s.heap h' → Lst h' D vs → Q (.ref D) { s with heap := h' }) : wpAny M A (newList vs) Q E s := by
  refine wpAny_newObj_type (h s.heap.objs.size _ (Heap.get?_none_of_le (Nat.le_refl _)) rfl (fun b o e => Heap.get?_push_of_some _ e) ⟨0, Heap.get?_push_size _ rfl⟩) ?_
  show vs.toArray.size ≤ sizeLine
  rw [List.size_toArray, sizeLine_eq]; omega
end

section
variable {M : Model} {A : Around} {E : Value → Shared → Prop} {s : Shared} {name : Str} {scope : Scope} {L a : Addr} {cd : Value} {h₀ : Heap} {m : Str → Option Value}
theorem stS {x : Str} {v : Value} {Q : Unit → Shared → Prop} (F : Fr h₀ L s.heap m)
    (h : ∀ h', Fr h₀ L h' (fun y => if y = x then some v else m y) → KeptBut L s.heap h' → Q () { s with heap := h', toks := s.toks + 1 })
    (hk : scope.kind = .function := by rfl) (hl : (envOf name scope L a cd).kindOf x = some .local := by rfl) :
    wpAny M A (storeName (envOf name scope L a cd) x v) Q E s :=
  wpAny_storeName_local hl F.ns (fun h' hn hs => h h' (F.set hn hs) (fun b _ n e => (hs.2 b n).trans e))
    (by show (scope.kind == .class || (scope.kind == .module && L != mainGlobals)) = false; rw [hk]; rfl)
end
theorem Lst.but {h h' : Heap} {D B : Addr} {vs : List Value} (x : Lst h D vs) (k : KeptBut B h h') (n : D ≠ B) : Lst h' D vs := by
  obtain ⟨c, e⟩ := x; exact ⟨c, k _ _ n e⟩

/-- what _law_lay makes of a row -/
def LayR (ps : List (Int × Int)) (w v : Int) (qs : List (Int × Int)) : Prop :=
  ∃ r, Cut (ps.map (·.1)) (· ≤ w) r ∧
    ((0 < r ∧ v ≤ (ps.getD (r - 1) (0, 0)).2 ∧ qs = ps) ∨
     (¬ (0 < r ∧ v ≤ (ps.getD (r - 1) (0, 0)).2) ∧ ∃ q j, Cut (ps.map (·.1)) (· < w) q ∧ q ≤ j ∧ j ≤ ps.length ∧ (∀ i, q ≤ i → i < j → (ps.getD i (0, 0)).2 ≤ v) ∧
       (j < ps.length → ¬ (ps.getD j (0, 0)).2 ≤ v) ∧ qs = ps.take q ++ (w, v) :: ps.drop j))

section
variable {w : World} {A : Around} {E : Value → Shared → Prop} {s : Shared} {h₀ : Heap} {L f : Addr} {m : Str → Option Value} {cd : Value} {G : GD}

theorem lay_call {d : Nat} {R : Result → Shared → Prop} {a : Addr} {vs : List Value} {ps : List (Int × Int)} {x y : Int} {tx ty : Tok} (ok : Ok A d) (hd : d ≤ 27) (X : Glo G s.heap)
    (hl : Lst s.heap a vs) (hp : Pairs (s.heap.hide a) vs ps) (hs : (ps.map (·.1)).Pairwise (· ≤ ·)) (hn : ps.length ≤ 1000)
    (h : ∀ h' tk us qs, KeptBut a s.heap h' → Lst h' a us → Pairs (h'.hide a) us qs → LayR ps x y qs → R (.ok (.ret .none)) { s with heap := h', toks := tk }) :
    codeAny (model P w) A (.call (.ref G.fy) ⟨[.ref a, .int x tx, .int y ty], []⟩) R s := by
  refine call_fn (binds := [("row", .ref a), ("weight", .int x tx), ("worth", .int y ty)]) (ok.room (by omega)) X.Fy X.nl
    (fun doc pm an ct => BindsTo.of_eq rfl) (by decide +kernel) (locs rfl) (fun h₁ F₁ => ?_)
  have ok' := ok.deeper (envOf (fName (stAt 6)) (fScope (stAt 6)) s.heap.objs.size G.fy G.cy)
  have Xg : Glo G (s.heap.hide a) := X.but hl (keptBut_hide a _)
  have hga : (s.heap.hide a).get? a = none := Heap.hide_self _ _
  have hLa : s.heap.objs.size ≠ a := by
    obtain ⟨n, e⟩ := hl; exact Nat.ne_of_gt (Heap.lt_size e)
  have hlen : vs.length = ps.length := hp.length
  have k₁ := F₁.keep
  obtain ⟨m₁, F, mr, mw, mv⟩ : ∃ m₁, Fr (s.heap.hide a) s.heap.objs.size h₁ m₁ ∧ m₁ "row" = some (.ref a) ∧ m₁ "weight" = some (.int x tx) ∧ m₁ "worth" = some (.int y ty) :=
    ⟨_, Fr.hide F₁ a, rfl, rfl, rfl⟩
  clear F₁
  have l₁ : Lst h₁ a vs := hl.keeps k₁
  -- ahead
  refine wpAny_execs_cons (wpAny_Assign_Name (call_of (f := G.fr) (st := stAt 2) (dV := .ref G.dr) (kV := .ref G.kr) (cd := G.cr) (ldG F Xg Xg.nr ⟨rfl, rfl⟩) (args_cons (ld F mr (args_cons (ld F mw (args_nil (kwAll_cons (ldG F Xg Xg.nw (kwAll_nil ⟨(Xg.keeps F.keep).Frr,
    br_key_call ok' (by omega) (Xg.keeps F.keep) l₁.isList (hp.keeps F.keep) hs hn fun r t h₂ tk₂ k₂ c => ?_⟩)))))))))) 
  refine stS (F.kept k₂) fun h₃ F₃ b₃ => ?_
  have l₃ : Lst h₃ a vs := (l₁.keeps k₂).but b₃ (Ne.symm hLa)
  have kb₃ : KeptBut a s.heap h₃ := KeptBut.ofHide F₃.keep
  have hrl : r ≤ ps.length := by have := c.le; simpa using this
  obtain ⟨m₃, F₃, mr, mw, mv, ma⟩ : ∃ m₃, Fr (s.heap.hide a) s.heap.objs.size h₃ m₃ ∧ m₃ "row" = some (.ref a) ∧ m₃ "weight" = some (.int x tx) ∧ m₃ "worth" = some (.int y ty) ∧ m₃ "ahead" = some (.int (r : Nat) t) :=
    ⟨_, F₃, upd_ne (by decide) mr, upd_ne (by decide) mw, upd_ne (by decide) mv, if_pos rfl⟩
  have cont : ¬ (0 < r ∧ y ≤ (ps.getD (r - 1) (0, 0)).2) → ∀ tk, wpAny (model P w) (A.deeper (envOf (fName (stAt 6)) (fScope (stAt 6)) s.heap.objs.size G.fy G.cy)) (execs ((fBody (stAt 6)).drop 2) (envOf (fName (stAt 6)) (fScope (stAt 6)) s.heap.objs.size G.fy G.cy))
      (fun fl s' => R (.ok (.ret (match fl with | .ret v => v | _ => .none))) s') (fun _ _ => False) { s with heap := h₃, toks := tk } := by
    intro hno tk
    refine wpAny_execs_cons (wpAny_Assign_Name (call_of (f := G.fl) (st := stAt 3) (dV := .ref G.dl) (kV := .ref G.kl) (cd := G.cl) (ldG F₃ Xg Xg.nL ⟨rfl, rfl⟩) (args_cons (ld F₃ mr (args_cons (ld F₃ mw (args_nil (kwAll_cons (ldG F₃ Xg Xg.nw (kwAll_nil ⟨(Xg.keeps F₃.keep).Fl,
      bl_key_call ok' (by omega) (Xg.keeps F₃.keep) l₃.isList (hp.keeps F₃.keep) hs hn fun q tq h₄ tk₄ k₄ c₂ => ?_⟩))))))))))
    refine stS (F₃.kept k₄) fun h₅ F₅ b₅ => ?_
    have l₅ : Lst h₅ a vs := (l₃.keeps k₄).but b₅ (Ne.symm hLa)
    have hql : q ≤ ps.length := by have := c₂.le; simpa using this
    obtain ⟨m₅, F₅, mr, mw, mv, mp⟩ : ∃ m₃, Fr (s.heap.hide a) s.heap.objs.size h₅ m₃ ∧ m₃ "row" = some (.ref a) ∧ m₃ "weight" = some (.int x tx) ∧ m₃ "worth" = some (.int y ty) ∧ m₃ "place" = some (.int (q : Nat) tq) :=
      ⟨_, F₅, upd_ne (by decide) mr, upd_ne (by decide) mw, upd_ne (by decide) mv, if_pos rfl⟩
    dsimp only
    have fin : ∀ h₆ tk₆ j, Fr (s.heap.hide a) s.heap.objs.size h₆ m₅ → Lst h₆ a (vs.take q ++ vs.drop j) → q ≤ j → j ≤ ps.length → (∀ i, q ≤ i → i < j → (ps.getD i (0, 0)).2 ≤ y) → (j < ps.length → ¬ (ps.getD j (0, 0)).2 ≤ y) →
        wpAny (model P w) (A.deeper (envOf (fName (stAt 6)) (fScope (stAt 6)) s.heap.objs.size G.fy G.cy)) (execs ((fBody (stAt 6)).drop 4) (envOf (fName (stAt 6)) (fScope (stAt 6)) s.heap.objs.size G.fy G.cy))
          (fun fl s' => R (.ok (.ret (match fl with | .ret v => v | _ => .none))) s') (fun _ _ => False) { s with heap := h₆, toks := tk₆ } := by
      intro h₆ tk₆ j F₆ l₆ hqj hj hle hgt
      refine wpAny_execs_cons <| wpAny_Expr_any <| MethodCall_ <| ld F₆ mr <| l₆.meth PySem.F.slot_list_insert PySem.F.type_list_insert <| PyProof.Rows.callWith_method1 <| args_cons <| ld F₆ mp <| args_cons <| List_ <| args_cons <| ld F₆ mw <| args_cons <| ld F₆ mv <| args_nil <| mkList (by simp) fun D h₇ hD hD' k₇ l₇ => args_nil ?_
      have hDa : D ≠ a := by
        obtain ⟨n, e⟩ := l₆
        intro q; subst q; dsimp only at hD; rw [hD] at e; cases e
      refine Lst.insert (l₆.keeps k₇) rfl (by simp; omega) (by simp; omega) fun h₈ k₈ l₈ => ?_
      refine wpAny_execs_nil ?_
      have hmin : min q vs.length = q := by omega
      have e1 : (vs.take q ++ vs.drop j).take q = vs.take q := by rw [List.take_append_of_le_length (by simp; omega), List.take_take, Nat.min_self]
      have e2 : (vs.take q ++ vs.drop j).drop q = vs.drop j := by rw [List.drop_append_of_le_length (by simp; omega), List.drop_take_self]; rfl
      rw [e1, e2] at l₈
      have kk : KeptBut a s.heap h₈ := KeptBut.trans (KeptBut.ofHide (F₆.kept k₇).keep) k₈
      have hp₈ : Pairs (h₈.hide a) vs ps := hp.keeps kk.hide2
      refine h h₈ _ _ _ kk l₈ (Paired_append (Paired_take q hp₈) (.cons ⟨D, tx, ty, rfl, ?_⟩ (Paired_drop j hp₈))) ⟨r, c, .inr ⟨hno, q, j, c₂, hqj, hj, hle, hgt, rfl⟩⟩
      obtain ⟨n, e⟩ := l₇.but k₈ hDa
      exact ⟨_, (Heap.hide_ne h₈ hDa).trans e, rfl, n, rfl⟩
    refine wpAny_execs_cons (wpAny_While (codeAny_whileLoop
      (fun n s' => ∃ h' tk j, s' = { s with heap := h', toks := tk } ∧ Fr (s.heap.hide a) s.heap.objs.size h' m₅ ∧ Lst h' a (vs.take q ++ vs.drop j) ∧ q ≤ j ∧ j ≤ ps.length ∧ (∀ i, q ≤ i → i < j → (ps.getD i (0, 0)).2 ≤ y) ∧ n = ps.length - j)
      ?turn (ps.length - q) ?start))
    case start => exact ⟨h₅, _, q, rfl, F₅, by rw [List.take_append_drop]; exact l₅, Nat.le_refl _, hql, fun i h1 h2 => absurd h2 (Nat.not_lt.mpr h1), rfl⟩
    case turn =>
      rintro n s' ⟨h', tk', j, rfl, F', l', hqj, hj, hle, rfl⟩
      have hll : (vs.take q ++ vs.drop j).length = q + (ps.length - j) := by simp; omega
      refine isTrue_and (wpAny_isTrue_Compare1 (ld F' mp (Call_ (ldB F' Xg Xg.n_len (PyProof.Rows.callWith_builtin1 (args_cons (ld F' mr (args_nil (call_len_list l'.isList (by rw [List.size_toArray, hll]; omega) (lt_int (wpAny_truthy_bool ?_)))))))))))
      rw [List.size_toArray, hll]
      by_cases hjl : j < ps.length
      · rw [if_pos (by simp; omega)]
        have hg : ps.getD j (0, 0) = ps[j] := by simp [hjl]
        obtain ⟨v, hv, av, tp, tq', rfl, hpl⟩ := Paired_get hp j ps[j] (by simp [hjl])
        have hvq : (vs.take q ++ vs.drop j)[q]? = some (.ref av) := by
          rw [List.getElem?_append_right (by simp; omega)]
          simp only [List.length_take, List.getElem?_drop]
          rw [show j + (q - min q vs.length) = j by omega]; exact hv
        refine isTrue_and (wpAny_isTrue_Compare1 (Subscript_ (Subscript_ (ld F' mr (ld F' mp (item_litK (v := .ref av) l'.isList (by omega) (by omega) (by simpa using hvq)
          (wpAny_Constant_int (item_litK (vs := [.int ps[j].1 tp, .int ps[j].2 tq']) (hpl.at fun o e => F'.keep _ _ e) (by decide) (by decide) rfl (ld F' mv (le_int (wpAny_truthy_bool ?_))))))))))) 
        by_cases hy : ps[j].2 ≤ y
        · rw [if_pos (by simpa using hy)]
          refine isTrue_and_nil ?_
          rw [if_pos rfl]
          refine wpAny_execs_cons (wpAny_Expr_any (MethodCall_ (ld F' mr (l'.meth PySem.F.slot_list_pop PySem.F.type_list_pop (PyProof.Rows.callWith_method1 (args_cons (ld F' mp (args_nil ?_))))))))
          refine Lst.popAt l' rfl hvq (by omega) fun h'' k'' l'' => ?_
          have e1 : (vs.take q ++ vs.drop j).take q = vs.take q := by rw [List.take_append_of_le_length (by simp; omega), List.take_take, Nat.min_self]
          have e2 : (vs.take q ++ vs.drop j).drop (q + 1) = vs.drop (j + 1) := by
            rw [List.drop_append, List.drop_eq_nil_of_le (by simp; omega), List.nil_append, List.drop_drop]; congr 1; simp; omega
          rw [e1, e2] at l''
          refine wpAny_execs_nil ⟨ps.length - (j + 1), by omega, h'', _, j + 1, rfl, Fr.but F' k'' hLa hga, l'', by omega, hjl, fun i h1 h2 => ?_, rfl⟩
          by_cases hij : i = j
          · subst hij; rw [hg]; exact hy
          · exact hle i h1 (by omega)
        · rw [if_neg (by simpa using hy)]
          rw [if_neg (by decide)]
          refine wpAny_execs_nil ?_
          exact fin _ _ j F' l' hqj hj hle fun _ => by rw [hg]; exact hy
      · rw [if_neg (by simp; omega)]
        rw [if_neg (by decide)]
        refine wpAny_execs_nil ?_
        exact fin _ _ j F' l' hqj hj hle fun q => absurd q hjl
  dsimp only
  refine wpAny_execs_cons (wpAny_If (isTrue_and (wpAny_isTrue_Compare1 (ld F₃ ma (wpAny_Constant_int (gt_int (wpAny_truthy_bool ?_)))))))
  by_cases hr : 0 < r
  · rw [if_pos (by simpa using hr)]
    have hr1 : r - 1 < ps.length := by omega
    obtain ⟨v, hv, av, tp, tq, rfl, hpl⟩ := Paired_get hp (r - 1) ps[r - 1] (by simp [hr1])
    have hg : ps.getD (r - 1) (0, 0) = ps[r - 1] := by simp [hr1]
    refine isTrue_and (wpAny_isTrue_Compare1 (Subscript_ (Subscript_ (ld F₃ mr (wpAny_BinOp (ld F₃ ma (wpAny_Constant_int (sub_int (item_litK (v := .ref av) l₃.isList (by omega) (by omega) (by rw [show ((r : Int) - 1).toNat = r - 1 by omega]; exact hv)
      (wpAny_Constant_int (item_litK (vs := [.int ps[r - 1].1 tp, .int ps[r - 1].2 tq]) (hpl.at fun o e => F₃.keep _ _ e) (by decide) (by decide) rfl (ld F₃ mv (ge_int (wpAny_truthy_bool ?_))))))))))))))
    by_cases hy : y ≤ ps[r - 1].2
    · rw [if_pos (by simpa using hy)]
      refine isTrue_and_nil ?_
      rw [if_pos rfl]
      refine wpAny_execs_cons (wpAny_Return_none ?_)
      exact h _ _ vs ps kb₃ l₃ (hp.keeps kb₃.hide2) ⟨r, c, .inl ⟨hr, by rw [hg]; exact hy, rfl⟩⟩
    · rw [if_neg (by simpa using hy)]
      rw [if_neg (by decide)]
      refine wpAny_execs_nil ?_
      exact cont (fun q => hy (by rw [← hg]; exact q.2)) _
  · rw [if_neg (by simpa using hr)]
    rw [if_neg (by decide)]
    refine wpAny_execs_nil ?_
    exact cont (fun q => hr q.1) _
end
end Mine
end

-- part B6
section
open PySem PySem.W PySem.Calls PyProof.Rows
set_option Elab.async false
set_option maxRecDepth 100000
set_option maxHeartbeats 2000000
namespace Mine

def KeptOff (W : List Addr) (h h' : Heap) : Prop := ∀ b o, b ∉ W → h.get? b = some o → h'.get? b = some o
theorem KeptOff.trans {W : List Addr} {h h' h'' : Heap} (a : KeptOff W h h') (b : KeptOff W h' h'') : KeptOff W h h'' := fun x o n e => b x o n (a x o n e)
theorem Kept.off {h h' : Heap} (k : Kept h h') (W : List Addr) : KeptOff W h h' := fun b o _ e => k b o e
theorem KeptBut.off {D : Addr} {h h' : Heap} {W : List Addr} (k : KeptBut D h h') (m : D ∈ W) : KeptOff W h h' := fun b o n e => k b o (fun q => n (q ▸ m)) e
theorem KeptOff.hide {W : List Addr} {h h' : Heap} (k : KeptOff W h h') : Kept (hideAll h W) (hideAll h' W) := fun b o e => by
  have n : b ∉ W := fun m => by rw [hideAll_none _ m] at e; cases e
  exact hideAll_get _ (k b o n (of_hideAll _ e)) n
theorem hideAll_sub (h : Heap) {W V : List Addr} (hs : ∀ b ∈ V, b ∈ W) : Kept (hideAll h W) (hideAll h V) := fun b o e => by
  have n : b ∉ W := fun m => by rw [hideAll_none _ m] at e; cases e
  exact hideAll_get _ (of_hideAll _ e) fun m => n (hs _ m)
theorem same_but {D : Addr} {h h' : Heap} (hs : Heap.SameBut D h h') : KeptBut D h h' := fun b _ n e => (hs.2 b n).trans e

def Alive (W : List Addr) (h : Heap) : Prop := ∀ b ∈ W, ∃ o, h.get? b = some o

section
variable {prog : Program} {w : World} {A : Around} {R : Result → Shared → Prop} {s : Shared}

theorem comp_loop {elt iter : Expr} {x : Str} {px : Pos} {ifs : List Expr} {scope : Scope} {pos : Pos} {I l D : Addr} {cenv : Env} {vs : List Value} {W' : List Addr}
    (Bd : Value → Heap → Prop) (Iv : Heap → Prop) (p : Value → Bool) (F : Heap → Value → Value → Prop)
    (hh : A.handled = none) (hlW : l ∉ I :: D :: W') (hDI : D ≠ I) (hIW : I ∉ W') (hDW : D ∉ W') (hn : vs.length ≤ 1000)
    (hit : s.heap.IsListIter I l 0) (hl : s.heap.IsList l vs.toArray) (hacc : Lst s.heap D []) (hiv : Iv s.heap)
    (hivO : ∀ h h', Iv h → KeptOff [I, D] h h' → Iv h') (hbdO : ∀ v h h', Bd v h → KeptOff [I, D] h h' → Bd v h') (hal : ∀ h, Iv h → Alive W' h)
    (hF : ∀ h h' v y, Kept h h' → F h v y → F h' v y)
    (hasg : ∀ v (s₃ : Shared) E', Iv s₃.heap → wpAny (model prog w) A (assign (.Name x px) cenv v) (fun _ s₄ => ∃ h' tk, s₄ = { s₃ with heap := h', toks := tk } ∧ Iv h' ∧ Bd v h' ∧ KeptOff W' s₃.heap h') E' s₃)
    (htests : ∀ v (s₃ : Shared) E', v ∈ vs → Bd v s₃.heap → Iv s₃.heap → KeptOff (I :: D :: W') s.heap s₃.heap →
      wpAny (model prog w) A (forIn ifs true fun c r => if r = true then do let ok ← isTrue c cenv (eval c cenv); pure (ForInStep.yield ok) else pure (ForInStep.yield r)) (fun ok s₄ => ok = p v ∧ Keeps s₃ s₄) E' s₃)
    (helt : ∀ v (s₃ : Shared) E', v ∈ vs → p v = true → Bd v s₃.heap → Iv s₃.heap → KeptOff (I :: D :: W') s.heap s₃.heap →
      wpAny (model prog w) A (eval elt cenv) (fun y s₄ => Keeps s₃ s₄ ∧ ∀ W, Alive W s₃.heap → F (hideAll s₄.heap W) v y) E' s₃)
    (hR : ∀ h' tk ys, Iv h' → Lst h' D ys → KeptOff (I :: D :: W') s.heap h' → Paired (F (hideAll h' (I :: D :: W'))) (vs.filter p) ys → R (.ok .next) { s with heap := h', toks := tk }) :
    codeAny (model prog w) A (.compLoop (.ListComp elt [⟨.Name x px, iter, ifs, 0⟩] scope pos) 0 (.ref I) (.ref D) cenv) R s := by
  refine codeAny_compLoop_tests
    (fun k s' => ∃ h' tk ys i, s' = { s with heap := h', toks := tk } ∧ h'.IsListIter I l i ∧ Lst h' D ys ∧ Iv h' ∧ i ≤ vs.length ∧ k = vs.length + 1 - i ∧
      Paired (F (hideAll h' (I :: D :: W'))) ((vs.take i).filter p) ys ∧ KeptOff (I :: D :: W') s.heap h') ?_ (vs.length + 1)
    ⟨s.heap, s.toks, [], 0, rfl, hit, hacc, hiv, Nat.zero_le _, rfl, .nil, fun _ _ _ e => e⟩
  rintro k s' ⟨H, tk, ys, i, rfl, hit', hacc', hiv', hi, rfl, hP, hk⟩
  have hl' : H.IsList l vs.toArray := hl.at fun o e => hk _ _ hlW e
  have hID : KeptOff [I, D] H H := fun _ _ _ e => e
  cases hv : vs[i]? with
  | none =>
    have hle : vs.length ≤ i := by simpa using hv
    refine wpAny_pyNext_list_end hh hit' hl' (by simpa using hv) fun h₁ he₁ => ?_
    have kI : KeptBut I H h₁ := fun b o n e => he₁ b o n e
    refine hR h₁ tk ys (hivO _ _ hiv' (kI.off (by simp))) (hacc'.but kI hDI) (hk.trans (kI.off (by simp))) ?_
    rw [List.take_of_length_le hle] at hP
    exact Paired_mono (fun _ _ y => hF _ _ _ _ (kI.off (by simp)).hide y) hP
  | some v =>
    have hlt : i < vs.length := by
      rcases Nat.lt_or_ge i vs.length with q | q
      · exact q
      · rw [List.getElem?_eq_none q] at hv; cases hv
    have hmem : v ∈ vs := List.mem_of_getElem? hv
    refine wpAny_pyNext_list_item hit' hl' (by simpa using hv) fun h₁ hit₁ hs₁ => ?_
    have kI : KeptBut I H h₁ := same_but hs₁
    have hiv₁ : Iv h₁ := hivO _ _ hiv' (kI.off (by simp))
    refine wpAny_mono (hasg v _ _ hiv₁) (fun _ s₂ h₂ => ?_) fun _ _ e => e
    obtain ⟨h₂, tk₂, rfl, hiv₂, hbd₂, k₂⟩ := h₂
    dsimp only at k₂
    have off₂ : KeptOff (I :: D :: W') H h₂ := fun b o n e => k₂ b o (fun m => n (.tail _ (.tail _ m))) (kI b o (fun q => n (q ▸ .head _)) e)
    have hit₂ : h₂.IsListIter I l (i + 1) := hit₁.at fun o e => k₂ _ _ hIW e
    have hacc₂ : Lst h₂ D ys := by
      obtain ⟨n, e⟩ := hacc'
      exact ⟨n, k₂ _ _ hDW (kI _ _ hDI e)⟩
    refine wpAny_mono (htests v _ _ hmem hbd₂ hiv₂ (hk.trans off₂)) (fun ok s₃ h₃ => ?_) fun _ _ e => e
    obtain ⟨rfl, h₃, tk₃, rfl, k₃⟩ := h₃
    have k₃ : Kept h₂ h₃ := k₃
    have off₃ := off₂.trans (Kept.off k₃ _)
    have hiv₃ := hivO _ _ hiv₂ (Kept.off k₃ [I, D])
    have hbd₃ := hbdO _ _ _ hbd₂ (Kept.off k₃ [I, D])
    have hit₃ : h₃.IsListIter I l (i + 1) := hit₂.at fun o e => k₃ _ _ e
    have hacc₃ := hacc₂.keeps k₃
    have htk : (vs.take (i + 1)).filter p = (vs.take i).filter p ++ if p v then [v] else [] := take_succ_filter p vs i v hv
    cases hpv : p v with
    | false =>
      simp only [Bool.false_eq_true, if_false]
      refine ⟨vs.length + 1 - (i + 1), by omega, h₃, tk₃, ys, i + 1, rfl, hit₃, hacc₃, hiv₃, hlt, rfl, ?_, hk.trans off₃⟩
      rw [htk, hpv]
      simp only [Bool.false_eq_true, if_false, List.append_nil]
      exact Paired_mono (fun _ _ y => hF _ _ _ _ off₃.hide y) hP
    | true =>
      simp only [if_true]
      refine wpAny_mono (helt v _ _ hmem hpv hbd₃ hiv₃ (hk.trans off₃)) (fun y s₄ h₄ => ?_) fun _ _ e => e
      obtain ⟨⟨h₄, tk₄, rfl, k₄⟩, hFy⟩ := h₄
      have k₄ : Kept h₃ h₄ := k₄
      have hlen : ys.length ≤ vs.length := by
        rw [← hP.length]
        refine Nat.le_trans (List.length_filter_le _ _) ?_
        rw [List.length_take]; omega
      refine Lst.append (hacc₃.keeps k₄) (by omega) fun h₅ k₅ l₅ => ?_
      have kD : KeptBut D h₄ h₅ := k₅
      have off₅ := (off₃.trans (Kept.off k₄ _)).trans (kD.off (W := I :: D :: W') (by simp))
      refine ⟨vs.length + 1 - (i + 1), by omega, h₅, tk₄, ys ++ [y], i + 1, rfl, (hit₃.at fun o e => k₄ _ _ e).at fun o e => kD _ _ (Ne.symm hDI) e, l₅, hivO _ _ (hivO _ _ hiv₃ (Kept.off k₄ [I, D])) (kD.off (by simp)), hlt, rfl, ?_, hk.trans off₅⟩
      rw [htk, hpv]
      simp only [if_true]
      refine Paired_append (Paired_mono (fun _ _ y => hF _ _ _ _ off₅.hide y) hP) (.cons ?_ .nil)
      refine hF _ _ _ _ (kD.off (by simp)).hide (hFy _ fun b hb => ?_)
      rcases List.mem_cons.mp hb with rfl | hb
      · obtain ⟨o, ho, _⟩ := hit₃; exact ⟨o, ho⟩
      · rcases List.mem_cons.mp hb with rfl | hb
        · obtain ⟨n, e⟩ := hacc₃; exact ⟨_, e⟩
        · exact hal _ hiv₃ b hb
end

section
variable {prog : Program} {w : World} {A : Around} {E : Value → Shared → Prop} {s : Shared} {env : Env}

theorem comp_core {elt iter : Expr} {x : Str} {px pos pos' : Pos} {ifs : List Expr} {scope : Scope} {cl : List (Str × Addr)} {use : Option (Value → Sem Unit)} {Q : Value → Shared → Prop}
    (p : Value → Bool) (F : Heap → Value → Value → Prop) (hF : ∀ h h' v y, Kept h h' → F h v y → F h' v y)
    (hh : A.handled = none) (hclos : closureFor scope env = pure cl) (hcell : ∀ y ∈ scope.names, y.2 ≠ .cell) (hkind : scope.kind = .function)
    (hnames : ∀ y ∈ scope.names, y.2 = .local → scope.names.lookup y.1 = some .local) (hx : scope.names.lookup x = some .local)
    (h : wpAny (model prog w) A (eval iter env) (fun xv s₁ => ∃ (l : Addr) (vs : List Value), xv = .ref l ∧ s₁.heap.IsList l vs.toArray ∧ vs.length ≤ 1000 ∧
      (∀ C v m₃ (s₃ : Shared) E', v ∈ vs → s₃.heap.Ns C m₃ → m₃ x = some v → Kept s₁.heap s₃.heap →
        wpAny (model prog w) A (forIn ifs true fun c r => if r = true then do let ok ← isTrue c (compEnvC scope cl C env) (eval c (compEnvC scope cl C env)); pure (ForInStep.yield ok) else pure (ForInStep.yield r))
          (fun ok s₄ => ok = p v ∧ Keeps s₃ s₄) E' s₃) ∧
      (∀ C v m₃ (s₃ : Shared) E', v ∈ vs → p v = true → s₃.heap.Ns C m₃ → m₃ x = some v → Kept s₁.heap s₃.heap →
        wpAny (model prog w) A (eval elt (compEnvC scope cl C env)) (fun y s₄ => Keeps s₃ s₄ ∧ ∀ W, Alive W s₃.heap → F (hideAll s₄.heap W) v y) E' s₃) ∧
      (∀ D C h' tk ys m', s₁.heap.get? D = none → s₁.heap.get? C = none → D ≠ C → h'.Ns C m' → Lst h' D ys → Kept s₁.heap h' → Paired (F (hideAll h' [C, D])) (vs.filter p) ys →
        compPost (model prog w) A E use Q (.ref D) C (.ok .next) { s₁ with heap := h', toks := tk })) E s)
    (hs : ∀ x, foldedSetIterable iter env x = pure x := by intro _; rfl) :
    wpAny (model prog w) A (comprehension (.ListComp elt [⟨.Name x px, iter, ifs, 0⟩] scope pos) scope env pos' (newList []) false (eval iter env) use) Q E s := by
  refine wpAny_comprehension_free rfl hs hclos hkind hnames (wpAny_mono h (fun xv s₁ h₁ => ?_) fun _ _ e => e)
  obtain ⟨l, vs, rfl, hl, hn, htests, helt, hQ⟩ := h₁
  refine wpAny_pyIter_list hl (mkList (by simp) fun D h₂ hD hDs k₂ l₂ => ?_)
  dsimp only at hD hDs k₂ ⊢
  refine wpAny_newFunctionEnv hcell (by intro y hy; simp at hy) (fun h₃ hns₃ hsb₃ => ?_) hkind
  dsimp only at hns₃ hsb₃ ⊢
  have hIl : ∀ b o, s₁.heap.get? b = some o → b < s₁.heap.objs.size := fun b o e => Heap.lt_size e
  have kI : Kept s₁.heap (s₁.heap.push { cls := .type "list_iterator", data := .fields #[.ref l, .int 0 0] }) := fun b o e => Heap.get?_push_of_some _ e
  have hIg : (s₁.heap.push { cls := .type "list_iterator", data := .fields #[.ref l, .int 0 0] }).get? s₁.heap.objs.size = some { cls := .type "list_iterator", data := .fields #[.ref l, .int 0 0] } := Heap.get?_push_size _ rfl
  generalize s₁.heap.push { cls := .type "list_iterator", data := .fields #[.ref l, .int 0 0] } = H₁ at *
  have k₃ : KeptOff [h₂.objs.size] h₂ h₃ := fun b o n e => (hsb₃.extBut b o (fun q => n (q ▸ .head _)) (Heap.get?_push_of_some _ e))
  have hCn : ∀ b o, h₂.get? b = some o → b ≠ h₂.objs.size := fun b o e => Nat.ne_of_lt (Heap.lt_size e)
  have K₃ : Kept h₂ h₃ := fun b o e => k₃ b o (fun m => hCn b o e (List.mem_singleton.mp m)) e
  obtain ⟨nD, eD⟩ := l₂
  have hDI : D ≠ s₁.heap.objs.size := fun q => by rw [q, hIg] at hD; cases hD
  have hDC : D ≠ h₂.objs.size := hCn _ _ eD
  have hIC : s₁.heap.objs.size ≠ h₂.objs.size := hCn _ _ (k₂ _ _ hIg)
  have K₁ : Kept s₁.heap h₃ := Kept.trans kI (Kept.trans k₂ K₃)
  have old : ∀ b o, s₁.heap.get? b = some o → b ∉ [s₁.heap.objs.size, D, h₂.objs.size] := fun b o e m => by
    rcases List.mem_cons.mp m with q | m
    · exact Nat.lt_irrefl _ (q ▸ hIl _ _ e)
    · rcases List.mem_cons.mp m with q | m
      · rw [← q, kI _ _ e] at hD; cases hD
      · exact hCn _ _ (k₂ _ _ (kI _ _ e)) (List.mem_singleton.mp m)
  obtain ⟨ol, hol, hol'⟩ := id hl
  have hDn : s₁.heap.get? D = none := by
    cases e : s₁.heap.get? D with
    | none => rfl
    | some o => rw [kI _ _ e] at hD; cases hD
  have hCn' : s₁.heap.get? h₂.objs.size = none := by
    cases e : s₁.heap.get? h₂.objs.size with
    | none => rfl
    | some o => exact absurd rfl (hCn _ _ (k₂ _ _ (kI _ _ e)))
  have loop : ∀ s₂ : Shared, s₂ = { s₁ with heap := h₃, toks := s₁.toks + ([] : List (Str × Value)).length } →
      codeAny (model prog w) A (.compLoop (.ListComp elt [⟨.Name x px, iter, ifs, 0⟩] scope pos) 0 (.ref s₁.heap.objs.size) (.ref D) (compEnvC scope cl h₂.objs.size env))
        (compPost (model prog w) A E use Q (.ref D) h₂.objs.size) s₂ := by
    rintro s₂ rfl
    refine comp_loop (W' := [h₂.objs.size]) (fun v h => ∃ m, h.Ns h₂.objs.size m ∧ m x = some v) (fun h => ∃ m, h.Ns h₂.objs.size m) p F hh (old _ _ hol) hDI (by simpa using hIC) (by simpa using hDC) hn
      ⟨_, K₃ _ _ (k₂ _ _ hIg), rfl, rfl⟩ (hl.at fun o e => K₁ _ _ e) ⟨nD, K₃ _ _ eD⟩ ⟨_, hns₃⟩ ?_ ?_ ?_ hF ?_ ?_ ?_ ?_
    · rintro h h' ⟨m, o, es, ep, ho, r⟩ k
      exact ⟨m, o, es, ep, k _ _ (by simp only [List.mem_cons, List.not_mem_nil, or_false, not_or]; exact ⟨Ne.symm hIC, Ne.symm hDC⟩) ho, r⟩
    · rintro v h h' ⟨m, ⟨o, es, ep, ho, r⟩, hm⟩ k
      exact ⟨m, ⟨o, es, ep, k _ _ (by simp only [List.mem_cons, List.not_mem_nil, or_false, not_or]; exact ⟨Ne.symm hIC, Ne.symm hDC⟩) ho, r⟩, hm⟩
    · rintro h ⟨m, o, es, ep, ho, r⟩ b hb
      rw [List.mem_singleton.mp hb]; exact ⟨o, ho⟩
    · rintro v s₃ E' ⟨m, hm⟩
      refine wpAny_assign_Name (wpAny_storeName_local (lookup_relabel_local hx) hm (fun h' hn' hs' => ⟨h', _, rfl, ⟨_, hn'⟩, ⟨_, hn', if_pos rfl⟩, fun b o n e => same_but hs' b o (fun q => n (q ▸ .head _)) e⟩) (by simp [compEnvC, relabel, hkind]))
    · rintro v s₃ E' hv ⟨m, hm, hmx⟩ _ k
      exact htests _ v m s₃ E' hv hm hmx fun b o e => k b o (old b o e) (K₁ b o e)
    · rintro v s₃ E' hv hpv ⟨m, hm, hmx⟩ _ k
      exact helt _ v m s₃ E' hv hpv hm hmx fun b o e => k b o (old b o e) (K₁ b o e)
    · rintro h' tk ys ⟨m, hm⟩ l' k hP
      exact hQ D _ h' tk ys m hDn hCn' hDC hm l' (fun b o e => k b o (old b o e) (K₁ b o e))
        (Paired_mono (fun _ _ y => hF _ _ _ _ (hideAll_sub _ (by simp)) y) hP)
  exact codeAny_compStart_list (loop _ rfl) (wpAny_pyIter_listiter ⟨_, K₃ _ _ (k₂ _ _ hIg), rfl, rfl⟩ (loop _ rfl))

/-- a comprehension whose value is used as it stands -/
theorem comp_val {elt iter : Expr} {x : Str} {px pos : Pos} {ifs : List Expr} {scope : Scope} {cl : List (Str × Addr)} {Q : Value → Shared → Prop}
    (p : Value → Bool) (F : Heap → Value → Value → Prop) (hF : ∀ h h' v y, Kept h h' → F h v y → F h' v y)
    (hh : A.handled = none) (hclos : closureFor scope env = pure cl) (hcell : ∀ y ∈ scope.names, y.2 ≠ .cell) (hkind : scope.kind = .function)
    (hnames : ∀ y ∈ scope.names, y.2 = .local → scope.names.lookup y.1 = some .local) (hx : scope.names.lookup x = some .local)
    (h : wpAny (model prog w) A (eval iter env) (fun xv s₁ => ∃ (l : Addr) (vs : List Value), xv = .ref l ∧ s₁.heap.IsList l vs.toArray ∧ vs.length ≤ 1000 ∧
      (∀ C v m₃ (s₃ : Shared) E', v ∈ vs → s₃.heap.Ns C m₃ → m₃ x = some v → Kept s₁.heap s₃.heap →
        wpAny (model prog w) A (forIn ifs true fun c r => if r = true then do let ok ← isTrue c (compEnvC scope cl C env) (eval c (compEnvC scope cl C env)); pure (ForInStep.yield ok) else pure (ForInStep.yield r))
          (fun ok s₄ => ok = p v ∧ Keeps s₃ s₄) E' s₃) ∧
      (∀ C v m₃ (s₃ : Shared) E', v ∈ vs → p v = true → s₃.heap.Ns C m₃ → m₃ x = some v → Kept s₁.heap s₃.heap →
        wpAny (model prog w) A (eval elt (compEnvC scope cl C env)) (fun y s₄ => Keeps s₃ s₄ ∧ ∀ W, Alive W s₃.heap → F (hideAll s₄.heap W) v y) E' s₃) ∧
      (∀ D h' tk ys, s₁.heap.get? D = none → Lst h' D ys → Kept s₁.heap h' → Paired (F (h'.hide D)) (vs.filter p) ys → Q (.ref D) { s₁ with heap := h', toks := tk })) E s)
    (hs : ∀ x, foldedSetIterable iter env x = pure x := by intro _; rfl) :
    wpAny (model prog w) A (eval (.ListComp elt [⟨.Name x px, iter, ifs, 0⟩] scope pos) env) Q E s := by
  rw [eval_ListComp]
  refine comp_core (use := none) p F hF hh hclos hcell hkind hnames hx (wpAny_mono h (fun xv s₁ h₁ => ?_) fun _ _ e => e) hs
  obtain ⟨l, vs, rfl, hl, hn, htests, helt, hQ⟩ := h₁
  refine ⟨l, vs, rfl, hl, hn, htests, helt, fun D C h' tk ys m' hD hC hDC hns hL hk hP => ⟨m', hns, fun h'' hs'' => ?_⟩⟩
  have kC := same_but hs''
  refine hQ D h'' tk ys hD (hL.but kC hDC) (fun b o e => kC b o (fun q => by rw [q, hC] at e; cases e) (hk b o e)) (Paired_mono (fun _ _ y => hF _ _ _ _ ?_ y) hP)
  exact Kept.trans (kC.off (W := [C, D]) (by simp)).hide (hideAll_sub (V := [D]) _ (by simp))

/-- a comprehension of plain values given to a local name -/
theorem comp_asgL {elt iter : Expr} {x y : Str} {px py pos spos : Pos} {ifs : List Expr} {scope : Scope} {cl : List (Str × Addr)} {Q : Flow → Shared → Prop} {m : Str → Option Value}
    (p : Value → Bool) (F : Value → Value → Prop)
    (hsw : swapsWith (.ListComp elt [⟨.Name x px, iter, ifs, 0⟩] scope pos) (some (.Name y py)) spos.line env = pure true)
    (hh : A.handled = none) (hclos : closureFor scope env = pure cl) (hcell : ∀ y ∈ scope.names, y.2 ≠ .cell) (hkind : scope.kind = .function)
    (hnames : ∀ y ∈ scope.names, y.2 = .local → scope.names.lookup y.1 = some .local) (hx : scope.names.lookup x = some .local)
    (hy : env.kindOf y = some .local) (hp : (env.scope.kind == .class || (env.scope.kind == .module && env.locals != env.globals)) = false)
    (h : wpAny (model prog w) A (eval iter env) (fun xv s₁ => ∃ (l : Addr) (vs : List Value), xv = .ref l ∧ s₁.heap.IsList l vs.toArray ∧ vs.length ≤ 1000 ∧ s₁.heap.Ns env.locals m ∧
      (∀ C v m₃ (s₃ : Shared) E', v ∈ vs → s₃.heap.Ns C m₃ → m₃ x = some v → Kept s₁.heap s₃.heap →
        wpAny (model prog w) A (forIn ifs true fun c r => if r = true then do let ok ← isTrue c (compEnvC scope cl C env) (eval c (compEnvC scope cl C env)); pure (ForInStep.yield ok) else pure (ForInStep.yield r))
          (fun ok s₄ => ok = p v ∧ Keeps s₃ s₄) E' s₃) ∧
      (∀ C v m₃ (s₃ : Shared) E', v ∈ vs → p v = true → s₃.heap.Ns C m₃ → m₃ x = some v → Kept s₁.heap s₃.heap →
        wpAny (model prog w) A (eval elt (compEnvC scope cl C env)) (fun y s₄ => Keeps s₃ s₄ ∧ F v y) E' s₃) ∧
      (∀ D h' tk ys, s₁.heap.get? D = none → Lst h' D ys → h'.Ns env.locals (fun z => if z = y then some (.ref D) else m z) → KeptBut env.locals s₁.heap h' → Paired F (vs.filter p) ys → Q .next { s₁ with heap := h', toks := tk })) E s)
    (hs : ∀ x, foldedSetIterable iter env x = pure x := by intro _; rfl) :
    wpAny (model prog w) A (exec (.Assign [.Name y py] (.ListComp elt [⟨.Name x px, iter, ifs, 0⟩] scope pos) spos) env) Q E s := by
  rw [exec_Assign_Name_used _ _ _ _ hsw]
  refine wpAny_bind (wpAny_standAt (wpAny_bind ?_))
  show wpAny _ A (do let _ ← comprehension (.ListComp elt [⟨.Name x px, iter, ifs, 0⟩] scope pos) scope env _ (newList []) false (eval iter env) (some (assign (.Name y py) env))) _ _ s
  refine wpAny_bind (wpAny_mono (comp_core (use := some (assign (.Name y py) env)) (Q := fun _ s' => Q .next s') p (fun _ v y => F v y) (fun _ _ _ _ _ e => e) hh hclos hcell hkind hnames hx
    (wpAny_mono h (fun xv s₁ h₁ => ?_) fun _ _ e => e) hs) (fun _ s' hq => wpAny_pure (wpAny_pure hq)) fun _ _ e => e)
  obtain ⟨l, vs, rfl, hl, hn, hm, htests, helt, hQ⟩ := h₁
  refine ⟨l, vs, rfl, hl, hn, htests, fun C v m₃ s₃ E' a b c d e => wpAny_mono (helt C v m₃ s₃ E' a b c d e) (fun _ _ q => ⟨q.1, fun _ _ => q.2⟩) fun _ _ e => e, fun D C h' tk ys m' hD hC hDC hns hL hk hP => ?_⟩
  have hLC : env.locals ≠ C := by rintro rfl; obtain ⟨o, _, _, ho, _⟩ := hm; rw [hC] at ho; cases ho
  have hLD : env.locals ≠ D := by rintro rfl; obtain ⟨o, _, _, ho, _⟩ := hm; rw [hD] at ho; cases ho
  show wpAny _ A (assign (.Name y py) env (.ref D)) _ _ _
  refine wpAny_assign_Name (wpAny_storeName_local hy (hm.keeps hk) (fun h₂ hn₂ hs₂ => ?_) hp)
  refine ⟨m', hns.sameBut hs₂ (Ne.symm hLC), fun h₃ hs₃ => ?_⟩
  refine hQ D h₃ _ ys hD ((hL.but (same_but hs₂) (Ne.symm hLD)).but (same_but hs₃) hDC) (hn₂.sameBut hs₃ hLC) (fun b o hbL e => ?_) hP
  exact same_but hs₃ b o (by rintro rfl; rw [hC] at e; cases e) (same_but hs₂ b o hbL (hk b o e))

/-- a comprehension of plain values given to a cell -/
theorem comp_asgC {elt iter : Expr} {x y : Str} {px py pos spos : Pos} {ifs : List Expr} {scope : Scope} {cl : List (Str × Addr)} {Q : Flow → Shared → Prop} {c : Addr} {v₀ : Option Value}
    (p : Value → Bool) (F : Value → Value → Prop)
    (hsw : swapsWith (.ListComp elt [⟨.Name x px, iter, ifs, 0⟩] scope pos) (some (.Name y py)) spos.line env = pure true)
    (hh : A.handled = none) (hclos : closureFor scope env = pure cl) (hcell : ∀ y ∈ scope.names, y.2 ≠ .cell) (hkind : scope.kind = .function)
    (hnames : ∀ y ∈ scope.names, y.2 = .local → scope.names.lookup y.1 = some .local) (hx : scope.names.lookup x = some .local)
    (hk' : env.scope.kind = .function) (hy : env.kindOf y = some .cell) (hc : env.cells.lookup y = some c)
    (h : wpAny (model prog w) A (eval iter env) (fun xv s₁ => ∃ (l : Addr) (vs : List Value), xv = .ref l ∧ s₁.heap.IsList l vs.toArray ∧ vs.length ≤ 1000 ∧ s₁.heap.IsCell c v₀ ∧
      (∀ C v m₃ (s₃ : Shared) E', v ∈ vs → s₃.heap.Ns C m₃ → m₃ x = some v → Kept s₁.heap s₃.heap →
        wpAny (model prog w) A (forIn ifs true fun c r => if r = true then do let ok ← isTrue c (compEnvC scope cl C env) (eval c (compEnvC scope cl C env)); pure (ForInStep.yield ok) else pure (ForInStep.yield r))
          (fun ok s₄ => ok = p v ∧ Keeps s₃ s₄) E' s₃) ∧
      (∀ C v m₃ (s₃ : Shared) E', v ∈ vs → p v = true → s₃.heap.Ns C m₃ → m₃ x = some v → Kept s₁.heap s₃.heap →
        wpAny (model prog w) A (eval elt (compEnvC scope cl C env)) (fun y s₄ => Keeps s₃ s₄ ∧ F v y) E' s₃) ∧
      (∀ D h' tk ys, s₁.heap.get? D = none → Lst h' D ys → h'.IsCell c (some (.ref D)) → KeptBut c s₁.heap h' → Paired F (vs.filter p) ys → Q .next { s₁ with heap := h', toks := tk })) E s)
    (hs : ∀ x, foldedSetIterable iter env x = pure x := by intro _; rfl) :
    wpAny (model prog w) A (exec (.Assign [.Name y py] (.ListComp elt [⟨.Name x px, iter, ifs, 0⟩] scope pos) spos) env) Q E s := by
  rw [exec_Assign_Name_used _ _ _ _ hsw]
  refine wpAny_bind (wpAny_standAt (wpAny_bind ?_))
  show wpAny _ A (do let _ ← comprehension (.ListComp elt [⟨.Name x px, iter, ifs, 0⟩] scope pos) scope env _ (newList []) false (eval iter env) (some (assign (.Name y py) env))) _ _ s
  refine wpAny_bind (wpAny_mono (comp_core (use := some (assign (.Name y py) env)) (Q := fun _ s' => Q .next s') p (fun _ v y => F v y) (fun _ _ _ _ _ e => e) hh hclos hcell hkind hnames hx
    (wpAny_mono h (fun xv s₁ h₁ => ?_) fun _ _ e => e) hs) (fun _ s' hq => wpAny_pure (wpAny_pure hq)) fun _ _ e => e)
  obtain ⟨l, vs, rfl, hl, hn, hm, htests, helt, hQ⟩ := h₁
  refine ⟨l, vs, rfl, hl, hn, htests, fun C v m₃ s₃ E' a b c d e => wpAny_mono (helt C v m₃ s₃ E' a b c d e) (fun _ _ q => ⟨q.1, fun _ _ => q.2⟩) fun _ _ e => e, fun D C h' tk ys m' hD hC hDC hns hL hk hP => ?_⟩
  have hLC : c ≠ C := by rintro rfl; obtain ⟨o, ho, _⟩ := hm; rw [hC] at ho; cases ho
  have hLD : c ≠ D := by rintro rfl; obtain ⟨o, ho, _⟩ := hm; rw [hD] at ho; cases ho
  show wpAny _ A (assign (.Name y py) env (.ref D)) _ _ _
  refine wpAny_assign_Name (wpAny_storeName_cell hk' hy hc (hm.keeps hk) (fun h₂ hn₂ hs₂ => ?_))
  refine ⟨m', hns.sameBut hs₂ (Ne.symm hLC), fun h₃ hs₃ => ?_⟩
  refine hQ D h₃ _ ys hD ((hL.but (same_but hs₂) (Ne.symm hLD)).but (same_but hs₃) hDC) (hn₂.sameBut hs₃ hLC) (fun b o hbL e => ?_) hP
  exact same_but hs₃ b o (by rintro rfl; rw [hC] at e; cases e) (same_but hs₂ b o hbL (hk b o e))
end
end Mine
end

-- part B7
section
open PySem PySem.W PySem.Calls PyProof.Rows
set_option Elab.async false
set_option maxRecDepth 100000
set_option maxHeartbeats 2000000
namespace Mine

/-- what stands at I is no list, no tuple -/
def NoSeq (h : Heap) (I : Addr) : Prop := ∃ o, h.get? I = some o ∧ ∀ xs n, o.data ≠ .seq xs n
/-- an iterator stands at I -/
def IsIt (h : Heap) (I : Addr) : Prop := ∃ o f, h.get? I = some o ∧ o.data = .fields f ∧ o.cls = .type "list_iterator"
theorem IsIt.of {h : Heap} {I l : Addr} {i : Nat} (x : h.IsListIter I l i) : IsIt h I := by
  obtain ⟨o, ho, hc, hd⟩ := x; exact ⟨o, _, ho, hd, hc⟩
theorem IsIt.ns {h : Heap} {I : Addr} (x : IsIt h I) : NoSeq h I := by
  obtain ⟨o, f, a, b, _⟩ := x; exact ⟨o, a, fun xs n e => by rw [b] at e; cases e⟩
theorem noSeq_ns {h : Heap} {I : Addr} {m : Str → Option Value} (x : h.Ns I m) : NoSeq h I := by
  obtain ⟨o, es, ep, a, b, _⟩ := x; exact ⟨o, a, fun xs n e => by rw [b] at e; cases e⟩
theorem noSeq_cell {h : Heap} {I : Addr} {v : Option Value} (x : h.IsCell I v) : NoSeq h I := by
  obtain ⟨o, a, b⟩ := x; exact ⟨o, a, fun xs n e => by rw [b] at e; cases e⟩
section
variable {h h' : Heap} {I : Addr}
theorem isList_off {a : Addr} {vs : Array Value} (x : h.IsList a vs) (it : NoSeq h I) (k : KeptBut I h h') : h'.IsList a vs := by
  obtain ⟨o, ho, hc, n, hd⟩ := x
  obtain ⟨oi, hi, hdi⟩ := it
  refine ⟨o, k _ _ (fun q => ?_) ho, hc, n, hd⟩
  rw [q, hi] at ho; cases ho; exact hdi _ _ hd
theorem Lst.off {a : Addr} {vs : List Value} (x : Lst h a vs) (it : NoSeq h I) (k : KeptBut I h h') : Lst h' a vs := by
  obtain ⟨n, e⟩ := x
  obtain ⟨oi, hi, hdi⟩ := it
  refine ⟨n, k _ _ (fun q => ?_) e⟩
  rw [q, hi] at e; cases e; exact hdi _ _ rfl
theorem cell_off {a : Addr} {v : Option Value} (x : h.IsCell a v) (it : IsIt h I) (k : KeptBut I h h') : h'.IsCell a v := by
  obtain ⟨o, e, d⟩ := x
  obtain ⟨oi, f, hi, hdi, _⟩ := it
  refine ⟨o, k _ _ (fun q => ?_) e, d⟩
  rw [q, hi] at e; cases e; rw [hdi] at d; cases d
theorem PairV.off {v : Value} {p : Int × Int} (x : PairV h v p) (it : NoSeq h I) (k : KeptBut I h h') : PairV h' v p := by
  obtain ⟨a, t, u, e, hl⟩ := x; exact ⟨a, t, u, e, isList_off hl it k⟩
theorem Pairs.off {vs : List Value} {ps : List (Int × Int)} (x : Pairs h vs ps) (it : NoSeq h I) (k : KeptBut I h h') : Pairs h' vs ps := Paired_mono (fun _ _ y => y.off it k) x
theorem NoSeq.hide {D : Addr} (it : NoSeq h I) (n : I ≠ D) : NoSeq (h.hide D) I := by
  obtain ⟨o, a, b⟩ := it; exact ⟨o, (Heap.hide_ne h n).trans a, b⟩
theorem KeptBut.inHide (D : Addr) (k : KeptBut I h h') : KeptBut I (h.hide D) (h'.hide D) := fun b o n e => by
  have nD : b ≠ D := fun q => by subst q; rw [Heap.hide_self] at e; cases e
  exact (Heap.hide_ne h' nD).trans (k b o n (Heap.of_hide e))
theorem NoSeq.ne {a : Addr} {vs : Array Value} (it : NoSeq h I) (x : h.IsList a vs) : a ≠ I := fun q => by
  obtain ⟨o, ho, hc, n, hd⟩ := x
  obtain ⟨oi, hi, hdi⟩ := it
  rw [q, hi] at ho; cases ho; exact hdi _ _ hd
theorem IsIt.ne_ns {a : Addr} {m : Str → Option Value} (it : IsIt h I) (x : h.Ns a m) : a ≠ I := fun q => by
  obtain ⟨o, es, ep, ho, hd, _⟩ := x
  obtain ⟨oi, f, hi, hdi, _⟩ := it
  rw [q, hi] at ho; cases ho; rw [hdi] at hd; cases hd
end
theorem it_but {h h' : Heap} {I l D : Addr} {i : Nat} (x : h.IsListIter I l i) (k : KeptBut D h h') (n : I ≠ D) : h'.IsListIter I l i := by
  obtain ⟨o, ho, r⟩ := x; exact ⟨o, k _ _ n ho, r⟩
theorem it_keeps {h h' : Heap} {I l : Addr} {i : Nat} (x : h.IsListIter I l i) (k : Kept h h') : h'.IsListIter I l i := by
  obtain ⟨o, ho, r⟩ := x; exact ⟨o, k _ _ ho, r⟩

section
variable {prog : Program} {w : World} {A : Around} {E : Value → Shared → Prop} {s : Shared}

theorem unpack2 {a : Addr} {v₁ v₂ : Value} {t₁ t₂ : Value → Sem Unit} {Q : Unit → Shared → Prop} (hh : A.handled = none) (hl : s.heap.IsList a #[v₁, v₂])
    (h : ∀ h', Kept s.heap h' → wpAny (model prog w) A (t₁ v₁) (fun _ s₁ => wpAny (model prog w) A (t₂ v₂) Q E s₁) E { s with heap := h' }) :
    wpAny (model prog w) A (unpack (.ref a) [(false, t₁), (false, t₂)]) Q E s := by
  unfold unpack unpackItems
  refine wpAny_bind (wpAny_holding ?_)
  refine wpAny_bind ?_
  unfold notIterableAtAll
  refine wpAny_bind (wpAny_specialOf hl.typeIs slot_list_iter.lookup ?_)
  refine wpAny_pure ?_
  simp only [Bool.false_eq_true, if_false]
  refine wpAny_bind (wpAny_holding (wpAny_pyIter_list hl ?_))
  have hlt : a < s.heap.objs.size := by obtain ⟨o, ho, _⟩ := hl; exact Heap.lt_size ho
  have hne : a ≠ s.heap.objs.size := Nat.ne_of_lt hlt
  have k₀ : Kept s.heap (s.heap.push { cls := .type "list_iterator", data := .fields #[.ref a, .int 0 0] }) := fun b o e => Heap.get?_push_of_some _ e
  have hit : (s.heap.push { cls := .type "list_iterator", data := .fields #[.ref a, .int 0 0] }).IsListIter s.heap.objs.size a 0 := ⟨_, Heap.get?_push_size _ rfl, rfl, rfl⟩
  have hlt' : ∀ b o, s.heap.get? b = some o → b ≠ s.heap.objs.size := fun b o e => Nat.ne_of_lt (Heap.lt_size e)
  generalize s.heap.push { cls := .type "list_iterator", data := .fields #[.ref a, .int 0 0] } = H at *
  have hl₀ : H.IsList a #[v₁, v₂] := hl.at fun o e => k₀ _ _ e
  show wpAny _ _ (holding [_] (draw (.ref s.heap.objs.size) 2) >>= _) _ _ _
  refine wpAny_bind (wpAny_holding ?_)
  show wpAny _ _ (pyNext (.ref s.heap.objs.size) >>= _) _ _ _
  refine wpAny_bind (wpAny_pyNext_list_item hit hl₀ (x := v₁) rfl fun h₁ hit₁ hs₁ => ?_)
  have hl₁ : h₁.IsList a #[v₁, v₂] := hl₀.extBut hs₁.extBut hne
  refine wpAny_bind (wpAny_holding ?_)
  show wpAny _ _ (pyNext (.ref s.heap.objs.size) >>= _) _ _ _
  refine wpAny_bind (wpAny_pyNext_list_item hit₁ hl₁ (x := v₂) rfl fun h₂ hit₂ hs₂ => ?_)
  have hl₂ : h₂.IsList a #[v₁, v₂] := hl₁.extBut hs₂.extBut hne
  refine wpAny_bind (wpAny_holding (wpAny_pure (wpAny_pure (wpAny_pure ?_))))
  dsimp only
  rw [if_neg (by simp)]
  refine wpAny_bind (wpAny_holding (wpAny_pyNext_list_end hh hit₂ hl₂ rfl fun h₃ he₃ => ?_))
  simp only [Option.isSome_none, Bool.false_eq_true, if_false]
  refine wpAny_pure ?_
  show wpAny _ _ (holding [v₂] (t₁ v₁) >>= fun _ => holding [] (t₂ v₂) >>= fun _ => pure ()) _ _ _
  have kk : Kept s.heap h₃ := fun b o e => he₃ b o (hlt' b o e) (hs₂.extBut b o (hlt' b o e) (hs₁.extBut b o (hlt' b o e) (k₀ b o e)))
  exact wpAny_bind (wpAny_holding (wpAny_mono (h h₃ kk) (fun _ s₁ h₁ => wpAny_bind (wpAny_holding (wpAny_mono h₁ (fun _ s₂ h₂ => wpAny_pure h₂) fun _ _ e => e))) fun _ _ e => e))

/-- for over a list that stays -/
theorem for_list {env : Env} {target iter : Expr} {body : List Stmt} {pos : Pos} {Q : Flow → Shared → Prop} (hh : A.handled = none)
    (h : wpAny (model prog w) A (eval iter env) (fun xv s₁ => ∃ (l : Addr) (vs : List Value) (J : Addr → Nat → Heap → Prop), xv = .ref l ∧ s₁.heap.IsList l vs.toArray ∧
      (∀ I h', s₁.heap.get? I = none → IsIt h' I → Kept s₁.heap h' → J I 0 h') ∧
      (∀ I i h h', s₁.heap.get? I = none → J I i h → IsIt h I → KeptBut I h h' → J I i h') ∧
      (∀ I i h, J I i h → h.IsList l vs.toArray) ∧
      (∀ I i v (s' : Shared) E', v ∈ vs → s'.heap.IsListIter I l i → wpAny (model prog w) A (letOwnedTupleGo target (.ref I) v) (fun _ s'' => s'' = s') E' s') ∧
      (∀ I i v h tk E', s₁.heap.get? I = none → vs[i]? = some v → J I i h → h.IsListIter I l (i + 1) →
        wpAny (model prog w) A (assign target env v) (fun _ s₂ => wpAny (model prog w) A (execs body env) (fun f s₃ => match f with
          | .next | .cont => ∃ h' tk', s₃ = { s₁ with heap := h', toks := tk' } ∧ J I (i + 1) h' ∧ h'.IsListIter I l (i + 1)
          | .brk => Q .next s₃
          | .ret v => Q (.ret v) s₃) E' s₂) E' { s₁ with heap := h, toks := tk }) ∧
      (∀ I h tk, s₁.heap.get? I = none → J I vs.length h → Q .next { s₁ with heap := h, toks := tk })) E s)
    (hs : ∀ x, foldedSetIterable iter env x = pure x := by intro _; rfl) :
    wpAny (model prog w) A (exec (.For target iter body [] pos) env) Q E s := by
  refine wpAny_For (wpAny_mono h (fun xv s₁ h₁ => ?_) fun _ _ e => e) hs
  obtain ⟨l, vs, J, rfl, hl, hJ0, hst, hJl, hgo, hturn, hdone⟩ := h₁
  refine wpAny_pyIter_list hl ?_
  have hn : s₁.heap.get? s₁.heap.objs.size = none := Heap.get?_none_of_le (Nat.le_refl _)
  refine codeAny_forLoop_any (fun n s' => ∃ h' tk i, s' = { s₁ with heap := h', toks := tk } ∧ J s₁.heap.objs.size i h' ∧ h'.IsListIter s₁.heap.objs.size l i ∧ i ≤ vs.length ∧ n = vs.length - i) ?_ vs.length
    ⟨_, _, 0, rfl, hJ0 _ _ hn (IsIt.of (l := l) (i := 0) ⟨_, Heap.get?_push_size _ rfl, rfl, rfl⟩) (fun b o e => Heap.get?_push_of_some _ e), ⟨_, Heap.get?_push_size _ rfl, rfl, rfl⟩, Nat.zero_le _, rfl⟩
  rintro n s' ⟨h', tk, i, rfl, hJ, hit, hi, rfl⟩
  have hl' := hJl _ _ _ hJ
  cases hv : vs[i]? with
  | none =>
    have hle : vs.length ≤ i := by simpa using hv
    refine wpAny_pyNext_list_end hh hit hl' (by simpa using hv) fun h₁ he₁ => ?_
    refine wpAny_execs_nil ?_
    have : i = vs.length := by omega
    subst this
    exact hdone _ _ _ hn (hst _ _ _ _ hn hJ (IsIt.of hit) fun b o n e => he₁ b o n e)
  | some v =>
    have hlt : i < vs.length := by
      rcases Nat.lt_or_ge i vs.length with q | q
      · exact q
      · rw [List.getElem?_eq_none q] at hv; cases hv
    refine wpAny_pyNext_list_item hit hl' (by simpa using hv) fun h₁ hit₁ hs₁ => ?_
    have hJ₁ := hst _ _ _ _ hn hJ (IsIt.of hit) (same_but hs₁)
    refine wpAny_mono (hgo _ _ v _ _ (List.mem_of_getElem? hv) hit₁) ?_ fun _ _ e => e
    rintro _ _ rfl
    refine wpAny_mono (hturn _ i v h₁ tk _ hn hv hJ₁ hit₁) (fun _ s₂ h₂ => wpAny_mono h₂ (fun f s₃ h₃ => ?_) fun _ _ e => e) fun _ _ e => e
    cases f with
    | next => obtain ⟨h'', tk', rfl, a, b⟩ := h₃; exact ⟨vs.length - (i + 1), by omega, h'', tk', i + 1, rfl, a, b, hlt, rfl⟩
    | cont => obtain ⟨h'', tk', rfl, a, b⟩ := h₃; exact ⟨vs.length - (i + 1), by omega, h'', tk', i + 1, rfl, a, b, hlt, rfl⟩
    | brk => exact h₃
    | ret v => exact h₃
end
end Mine
end

-- part B8
section
open PySem PySem.W PySem.Calls PyProof.Rows
set_option Elab.async false
set_option maxRecDepth 100000
set_option maxHeartbeats 2000000
namespace Mine

section
variable {M : Model} {A : Around} {E : Value → Shared → Prop} {s : Shared} {env : Env} {G : GD} {h₀ : Heap} {L : Addr} {m : Str → Option Value} {x : Str} {pos : Pos} {v : Value} {c : Addr}
theorem eL {Q : Value → Shared → Prop} (F : Fr h₀ env.locals s.heap m) (hv : m x = some v) (h : Q v s)
    (hk : env.scope.kind = .function := by rfl) (hl : env.kindOf x = some .local := by rfl) (hd : (x == ("__debug__" : Str)) = false := by decide) :
    wpAny M A (eval (.Name x pos) env) Q E s := wpAny_Name (wpAny_loadName_local hk hl F.ns hv h) hd
theorem eN {Q : Value → Shared → Prop} (F : s.heap.Ns env.locals m) (hv : m x = some v) (h : Q v s)
    (hk : env.scope.kind = .function := by rfl) (hl : env.kindOf x = some .local := by rfl) (hd : (x == ("__debug__" : Str)) = false := by decide) :
    wpAny M A (eval (.Name x pos) env) Q E s := wpAny_Name (wpAny_loadName_local hk hl F hv h) hd
theorem eC {Q : Value → Shared → Prop} (hv : s.heap.IsCell c (some v)) (h : Q v s) (hc : env.cells.lookup x = some c := by rfl)
    (hk : env.scope.kind = .function := by rfl) (hl : env.kindOf x = some .cell := by rfl) (hd : (x == ("__debug__" : Str)) = false := by decide) :
    wpAny M A (eval (.Name x pos) env) Q E s := wpAny_Name (wpAny_loadName_cell hk hl hc hv h) hd
theorem eG {Q : Value → Shared → Prop} (X : Glo G s.heap) (e : G.mg x = some v) (h : Q v s) (hg : env.globals = mainGlobals := by rfl)
    (hk : env.scope.kind = .function := by rfl) (hl : env.kindOf x = some .globalImplicit := by rfl) (hd : (x == ("__debug__" : Str)) = false := by decide) :
    wpAny M A (eval (.Name x pos) env) Q E s := Name_function_global hk hl (loadGlobal_global (hg ▸ X.g) e h) hd
theorem eB {Q : Value → Shared → Prop} (X : Glo G s.heap) (e : G.mg x = none ∧ G.mb x = some v) (h : Q v s) (hg : env.globals = mainGlobals := by rfl) (hb : env.builtins = builtinsNs := by rfl)
    (hk : env.scope.kind = .function := by rfl) (hl : env.kindOf x = some .globalImplicit := by rfl) (hd : (x == ("__debug__" : Str)) = false := by decide) :
    wpAny M A (eval (.Name x pos) env) Q E s := Name_function_global hk hl (loadGlobal_builtin (hg ▸ X.g) e.1 (hb ▸ X.b) e.2 h) hd
theorem sL {Q : Unit → Shared → Prop} (F : Fr h₀ env.locals s.heap m)
    (h : ∀ h', Fr h₀ env.locals h' (fun y => if y = x then some v else m y) → KeptBut env.locals s.heap h' → Q () { s with heap := h', toks := s.toks + 1 })
    (hl : env.kindOf x = some .local := by rfl) (hp : (env.scope.kind == .class || (env.scope.kind == .module && env.locals != env.globals)) = false := by rfl) :
    wpAny M A (storeName env x v) Q E s :=
  wpAny_storeName_local hl F.ns (fun h' hn hs => h h' (F.set hn hs) (same_but hs)) hp
theorem sC {Q : Unit → Shared → Prop} {v₀ : Option Value} (hv : s.heap.IsCell c v₀)
    (h : ∀ h', h'.IsCell c (some v) → KeptBut c s.heap h' → Q () { s with heap := h' }) (hc : env.cells.lookup x = some c := by rfl)
    (hk : env.scope.kind = .function := by rfl) (hl : env.kindOf x = some .cell := by rfl) : wpAny M A (storeName env x v) Q E s :=
  wpAny_storeName_cell hk hl hc hv fun h' a b => h h' a (same_but b)
end

section
variable {prog : Program} {w : World} {A : Around} {E : Value → Shared → Prop} {s : Shared}

theorem addL {l b : Addr} {vs ws : List Value} {Q : Value → Shared → Prop} (hl : s.heap.IsList l vs.toArray) (hb : s.heap.IsList b ws.toArray) (hz : vs.length + ws.length ≤ 1000)
    (h : ∀ D h', s.heap.get? D = none → Kept s.heap h' → Lst h' D (vs ++ ws) → Q (.ref D) { s with heap := h' }) :
    wpAny (model prog w) A (binaryOp .Add (.ref l) (.ref b)) Q E s := by
  obtain ⟨⟨cls, dd, data, sl⟩, ho, hc, n, hd⟩ := id hl
  obtain ⟨⟨cls2, dd2, data2, sl2⟩, ho2, hc2, n2, hd2⟩ := id hb
  simp only at hc hd hc2 hd2
  subst hc hd hc2 hd2
  refine concat_meets ⟨_, ho, rfl⟩ ⟨_, ho2, rfl⟩ noFill_list_add seq_list_add PySem.F.slot_list_add PySem.F.entry_list_add (PySem.F.args_list_add_2 _ _) (list_addW l b vs.toArray ws.toArray n n2 dd dd2 sl sl2 (by rw [sizeLine_eq]; simp; omega)) ⟨ho, ho2, ?_⟩
  exact h _ _ (Heap.get?_none_of_le (Nat.le_refl _)) (fun b o e => Heap.get?_push_of_some _ e) ⟨0, by rw [Heap.get?_push_size _ rfl]; simp⟩

/-- a call of a def that has cells -/
theorem call_fnC {R : Result → Shared → Prop} {f : Addr} {st : Stmt} {dV kV cd : Value} {args : Args} {binds : List (Str × Value)}
    (hroom : A.depth < recursionLimit) (Fn : FnAt s.heap f st dV kV cd) (hlim : s.heap.NoLimit)
    (hbind : ∀ doc pm an ct, BindsTo s (fnOf (fName st) (fName st) (fArgs st) (fBody st) (fScope st) dV kV doc pm an cd ct) args binds)
    (hkind : (binds.all fun y => (fScope st).names.lookup y.1 == some .local || (fScope st).names.lookup y.1 == some .cell) = true)
    (hnd : ((cellsFrom 0 (fScope st).names []).map (·.1)).Nodup)
    (h : ∀ h₁ tk, Fr s.heap s.heap.objs.size h₁ (bindL (envOfC (fName st) (fScope st) s.heap.objs.size f cd).kindOf binds fun _ => none) →
      (∀ n c, (n, c) ∈ cellsFrom (s.heap.objs.size + 1) (fScope st).names [] → h₁.IsCell c (bindC (envOfC (fName st) (fScope st) s.heap.objs.size f cd).kindOf binds (fun _ => none) n)) →
      wpAny (model prog w) (A.deeper (envOfC (fName st) (fScope st) s.heap.objs.size f cd)) (execs (fBody st) (envOfC (fName st) (fScope st) s.heap.objs.size f cd))
        (fun fl s' => R (.ok (.ret (match fl with | .ret v => v | _ => .none))) s') (fun _ _ => False) { s with heap := h₁, toks := tk })
    (hco : (fScope st).isCoroutine = false := by rfl) (hgen : (fScope st).isGenerator = false := by rfl) (hk : (fScope st).kind = .function := by rfl) :
    codeAny (model prog w) A (.call (.ref f) args) R s := by
  obtain ⟨oc, od, sl, doc, pm, an, ct, e, hc⟩ := Fn
  refine codeAny_call_function hroom e rfl hco hgen rfl hc (hbind _ _ _ _ _ _ _ _ ?_)
  refine wpAny_newFunctionEnv_cells hk (kindsX hkind _) fun env' he s' x => ?_
  subst he
  refine ⟨hlim.keeps x.toInCall.keep, codeAny_func ?_⟩
  obtain ⟨h₁, tk, rfl, _⟩ := x.done
  refine wpAny_mono (h h₁ tk ⟨x.toInCall.ns, x.toInCall.keep, Nat.le_refl _⟩ fun n c hm => ?_) (fun _ _ y => y) fun _ _ y => y.elim
  exact x.cell n c (lookup_of_mem_nodup (cellsFrom_names _ 0 (s.heap.objs.size + 1) [] [] rfl ▸ hnd) hm)

theorem assign2 {env : Env} {x y : Str} {px py pos : Pos} {x1} {a : Addr} {v₁ v₂ : Value} {Q : Unit → Shared → Prop} (hh : A.handled = none) (hl : s.heap.IsList a #[v₁, v₂])
    (h : ∀ h', Kept s.heap h' → wpAny (model prog w) A (storeName env x v₁) (fun _ s₁ => wpAny (model prog w) A (storeName env y v₂) Q E s₁) E { s with heap := h' }) :
    wpAny (model prog w) A (assign (.Tuple [.Name x px, .Name y py] x1 pos) env (.ref a)) Q E s := by
  rw [arm_assign_Tuple]
  refine wpAny_bind (wpAny_standAt (unpack2 (t₁ := assign (.Name x px) env) (t₂ := assign (.Name y py) env) hh hl fun h' k => ?_))
  exact wpAny_assign_Name (wpAny_mono (h h' k) (fun _ s₁ h₁ => wpAny_assign_Name h₁) fun _ _ e => e)

theorem go2 {target : Expr} {elts : List Expr} {x1} {pos : Pos} (e : target = .Tuple elts x1 pos) {I l T : Addr} {i : Nat} (hit : s.heap.IsListIter I l i) :
    wpAny (model prog w) A (letOwnedTupleGo target (.ref I) (.ref T)) (fun _ s'' => s'' = s) E s := by
  subst e; exact wpAny_letOwnedTupleGo_listiter hit rfl
end

def sumsOf (ts : List (Int × Int)) : List (Int × Int) := ts.foldl (fun ps t => ps ++ ps.map fun p => (p.1 + t.1, p.2 + t.2)) [(0, 0)]
theorem sumsOf_snoc (ts : List (Int × Int)) (t : Int × Int) : sumsOf (ts ++ [t]) = sumsOf ts ++ (sumsOf ts).map fun p => (p.1 + t.1, p.2 + t.2) := by
  unfold sumsOf; rw [List.foldl_append]; rfl
theorem sumsOf_length : ∀ (ts : List (Int × Int)), (sumsOf ts).length = 2 ^ ts.length := by
  suffices h : ∀ (ts : List (Int × Int)) (a : List (Int × Int)), (ts.foldl (fun ps t => ps ++ ps.map fun p => (p.1 + t.1, p.2 + t.2)) a).length = a.length * 2 ^ ts.length by
    intro ts; unfold sumsOf; rw [h]; simp
  intro ts
  induction ts with
  | nil => intro a; simp
  | cons t r ih => intro a; rw [List.foldl_cons, ih, List.length_append, List.length_map, List.length_cons, Nat.pow_succ]; rw [Nat.mul_comm (2 ^ r.length) 2, ← Nat.mul_assoc]; congr 1; omega
end Mine
end

-- part B9
section
open PySem PySem.W PySem.Calls PyProof.Rows
set_option Elab.async false
set_option maxRecDepth 100000
set_option maxHeartbeats 2000000
namespace Mine

theorem Paired_mem {α β : Type} {F : α → β → Prop} : ∀ {l : List α} {l' : List β}, Paired F l l' → ∀ a ∈ l, ∃ b ∈ l', F a b
  | _, _, .cons h t, a, ha => by
    rcases List.mem_cons.mp ha with rfl | ha
    · exact ⟨_, .head _, h⟩
    · obtain ⟨b, hb, hf⟩ := Paired_mem t a ha; exact ⟨b, .tail _ hb, hf⟩
theorem Paired_get' {α β : Type} {F : α → β → Prop} : ∀ {l : List α} {l' : List β}, Paired F l l' → ∀ (i : Nat) (a : α), l[i]? = some a → ∃ b, l'[i]? = some b ∧ F a b
  | _, _, .nil, i, b, e => by simp at e
  | _, _, .cons (b := b) h t, 0, a, e => by simp at e; subst e; exact ⟨b, rfl, h⟩
  | _, _, .cons h t, i + 1, b, e => by simp at e; simpa using Paired_get' t i b e
/-- two pairings of one middle list -/
theorem Paired_comp {α β γ : Type} {F : α → β → Prop} {H : α → γ → Prop} {K : γ → β → Prop} (hk : ∀ a b c, F a b → H a c → K c b) : ∀ {l : List α} {l' : List β} {l'' : List γ}, Paired F l l' → Paired H l l'' → Paired K l'' l'
  | _, _, _, .nil, .nil => .nil
  | _, _, _, .cons h t, .cons h' t' => .cons (hk _ _ _ h h') (Paired_comp hk t t')
theorem Paired_map {α β γ : Type} {F : α → β → Prop} {K : α → γ → Prop} (f : β → γ) (hk : ∀ a b, F a b → K a (f b)) : ∀ {l : List α} {l' : List β}, Paired F l l' → Paired K l (l'.map f)
  | _, _, .nil => .nil
  | _, _, .cons h t => .cons (hk _ _ h) (Paired_map f hk t)

theorem PairV.inj {h : Heap} {v : Value} {p q : Int × Int} (x : PairV h v p) (y : PairV h v q) : p = q := by
  obtain ⟨a, t, u, e, o, ho, _, n, hd⟩ := x
  obtain ⟨a', t', u', e', o', ho', _, n', hd'⟩ := y
  rw [e] at e'; cases e'
  rw [ho] at ho'; cases ho'
  rw [hd] at hd'
  injection hd' with h1 _
  simp at h1
  exact Prod.ext h1.1.1 h1.2.1
theorem hideAll_list {h : Heap} {W : List Addr} {T : Addr} {vs : List Value} (l : Lst h T vs) (hT : T ∉ W) : Lst (hideAll h W) T vs := by
  obtain ⟨n, e⟩ := l; exact ⟨n, hideAll_get _ e hT⟩
theorem alive_not {W : List Addr} {h : Heap} {T : Addr} (hW : Alive W h) (hT : h.get? T = none) : T ∉ W := fun m => by
  obtain ⟨o, e⟩ := hW T m; rw [hT] at e; cases e
theorem keeps_refl (s : Shared) : Keeps s s := ⟨s.heap, s.toks, rfl, fun _ _ e => e⟩
theorem cell_but {h h' : Heap} {c D : Addr} {v : Option Value} (x : h.IsCell c v) (k : KeptBut D h h') (n : c ≠ D) : h'.IsCell c v := by
  obtain ⟨o, e, d⟩ := x; exact ⟨o, k _ _ n e, d⟩

section
variable {w : World} {A : Around} {E : Value → Shared → Prop} {s : Shared} {G : GD}

theorem all_call {d : Nat} {R : Result → Shared → Prop} {a : Addr} {vs : List Value} {ts : List (Int × Int)} (ok : Ok A d) (hd : d ≤ 27) (X : Glo G s.heap)
    (hl : s.heap.IsList a vs.toArray) (hp : Pairs s.heap vs ts) (hn : ts.length ≤ 8)
    (h : ∀ D h' tk us, s.heap.get? D = none → Kept s.heap h' → Lst h' D us → Pairs h' us (sumsOf ts) → R (.ok (.ret (.ref D))) { s with heap := h', toks := tk }) :
    codeAny (model P w) A (.call (.ref G.fa) ⟨[.ref a], []⟩) R s := by
  refine call_fnC (binds := [("things", .ref a)]) (ok.room (by omega)) X.Fa X.nl (fun doc pm an ct => BindsTo.of_eq rfl) rfl (by decide +kernel) (fun h₁ tk₁ F₁ C₁ => ?_)
  have ok' := ok.deeper (envOfC (fName (stAt 7)) (fScope (stAt 7)) s.heap.objs.size G.fa G.ca)
  have hlen : vs.length = ts.length := hp.length
  have cw : h₁.IsCell (s.heap.objs.size + 1) none := C₁ "weight" _ (.tail _ (.head _))
  have cv : h₁.IsCell (s.heap.objs.size + 1 + 1) none := C₁ "worth" _ (.head _)
  obtain ⟨L, hL⟩ : ∃ L, L = s.heap.objs.size := ⟨_, rfl⟩
  rw [← hL] at F₁ cw cv ok' ⊢
  have fresh : ∀ b, L ≤ b → s.heap.get? b = none := fun b hb => Heap.get?_none_of_le (by omega)
  obtain ⟨m₁, F₁, mt⟩ : ∃ m₁, Fr s.heap L h₁ m₁ ∧ m₁ "things" = some (.ref a) := ⟨_, F₁, rfl⟩
  -- pairs = [[0, 0]]
  refine wpAny_execs_cons <| wpAny_Assign_Name <| List_ <| args_cons <| List_ <| args_cons <| wpAny_Constant_int <| args_cons <| wpAny_Constant_int <| args_nil <| mkList (by simp) fun B h₂ hB _ k₂ l₂ => args_nil <| mkList (by simp) fun D h₃ hD _ k₃ l₃ => ?_
  have k₁₃ : Kept h₁ h₃ := Kept.trans k₂ k₃
  refine sL (F₁.kept k₁₃) fun h₄ F₄ b₄ => ?_
  dsimp only at hB hD k₂ k₃ ⊢
  have nsL := noSeq_ns (F₁.kept k₁₃).ns
  have hD₀ : s.heap.get? D = none := by
    cases e : s.heap.get? D with
    | none => rfl
    | some o => rw [(F₁.kept k₂).keep _ _ e] at hD; cases hD
  have l₄ : Lst h₄ D [.ref B] := l₃.off nsL b₄
  have p₄ : Pairs h₄ [.ref B] (sumsOf []) := .cons ((PairV.off (⟨B, _, _, rfl, (l₂.keeps k₃).isList⟩ : PairV h₃ (.ref B) (0, 0)) nsL b₄)) .nil
  have cw₄ : h₄.IsCell (L + 1) none := by obtain ⟨o, e, d⟩ := cw; exact ⟨o, b₄ _ _ (by show L + 1 ≠ L; omega) (k₁₃ _ _ e), d⟩
  have cv₄ : h₄.IsCell (L + 1 + 1) none := by obtain ⟨o, e, d⟩ := cv; exact ⟨o, b₄ _ _ (by show L + 1 + 1 ≠ L; omega) (k₁₃ _ _ e), d⟩
  obtain ⟨m₄, F₄, mt, mp⟩ : ∃ m₄, Fr s.heap L h₄ m₄ ∧ m₄ "things" = some (.ref a) ∧ m₄ "pairs" = some (.ref D) := ⟨_, F₄, upd_ne (by decide) mt, if_pos rfl⟩
  -- the loop
  refine wpAny_execs_cons <| for_list ok'.hh <| eL F₄ mt ?_
  refine ⟨a, vs, fun I i h => ∃ m D us v₁ v₂, Fr s.heap L h m ∧ m "pairs" = some (.ref D) ∧ s.heap.get? D = none ∧ Lst h D us ∧ Pairs h us (sumsOf (ts.take i)) ∧ h.IsCell (L + 1) v₁ ∧ h.IsCell (L + 1 + 1) v₂,
    rfl, hl.at fun o e => F₄.keep _ _ e, ?_, ?_, ?_, ?_, ?_, ?_⟩
  · intro I h' _ it k
    exact ⟨m₄, D, [.ref B], none, none, F₄.kept k, mp, hD₀, l₄.keeps k, by rw [List.take_zero]; exact p₄.keeps k, cw₄.keeps k, cv₄.keeps k⟩
  · rintro I i h h' hI ⟨m, D, us, v₁, v₂, F, mp, hD, l, p, c₁, c₂⟩ it k
    have hI₀ : s.heap.get? I = none := by
      cases e : s.heap.get? I with
      | none => rfl
      | some o => rw [show _ = some o from F₄.keep _ _ e] at hI; cases hI
    exact ⟨m, D, us, v₁, v₂, Fr.but F k (it.ne_ns F.ns) hI₀, mp, hD, l.off it.ns k, p.off it.ns k, cell_off c₁ it k, cell_off c₂ it k⟩
  · rintro I i h ⟨m, D, us, v₁, v₂, F, _⟩
    exact hl.at fun o e => F.keep _ _ e
  · rintro I i v s' E' hv hit
    obtain ⟨p, _, av, t, u, rfl, _⟩ := Paired_mem hp v hv
    exact go2 rfl hit
  · rintro I i v h tk E' hI hv ⟨m, D, us, v₁, v₂, F, mp, hD, l, p, c₁, c₂⟩ hit
    obtain ⟨⟨x, y⟩, hxy, av, t, u, rfl, hpl⟩ := Paired_get' hp i v hv
    have hIL : I ≠ L := fun q => (IsIt.of hit).ne_ns F.ns q.symm
    have hI1 : I ≠ L + 1 := fun q => by
      obtain ⟨oi, f, hi, hdi, _⟩ := IsIt.of hit
      obtain ⟨o, e, d⟩ := c₁
      rw [← q, hi] at e; cases e; rw [hdi] at d; cases d
    have hI2 : I ≠ L + 1 + 1 := fun q => by
      obtain ⟨oi, f, hi, hdi, _⟩ := IsIt.of hit
      obtain ⟨o, e, d⟩ := c₂
      rw [← q, hi] at e; cases e; rw [hdi] at d; cases d
    refine assign2 ok'.hh (hpl.at fun o e => F.keep _ _ e) fun h₅ k₅ => ?_
    dsimp only at k₅ ⊢
    refine sC (c₁.keeps k₅) (fun h₆ c₁₆ b₆ => ?_)
    dsimp only at b₆ ⊢
    have n12 : L + 1 + 1 ≠ L + 1 := by omega
    have ns₅ := noSeq_cell (c₁.keeps k₅)
    have c₂₆ := cell_but (c₂.keeps k₅) b₆ n12
    refine sC c₂₆ (fun h₇ c₂₇ b₇ => ?_)
    dsimp only at b₇ ⊢
    have c₁₇ := cell_but c₁₆ b₇ (Ne.symm n12)
    have ns₆ := noSeq_cell c₂₆
    have F₇ : Fr s.heap L h₇ m := Fr.but (Fr.but (F.kept k₅) b₆ (by show L ≠ L + 1; omega) (fresh _ (by show L ≤ L + 1; omega))) b₇ (by show L ≠ L + 1 + 1; omega) (fresh _ (by show L ≤ L + 1 + 1; omega))
    have l₇ : Lst h₇ D us := ((l.keeps k₅).off ns₅ b₆).off ns₆ b₇
    have p₇ : Pairs h₇ us (sumsOf (ts.take i)) := ((p.keeps k₅).off ns₅ b₆).off ns₆ b₇
    have it₇ : h₇.IsListIter I a (i + 1) := it_but (it_but (it_keeps hit k₅) b₆ hI1) b₇ hI2
    have hsl : (sumsOf (ts.take i)).length ≤ 128 := by
      rw [sumsOf_length]
      have hit : i < ts.length := by
        rcases Nat.lt_or_ge i ts.length with q | q
        · exact q
        · rw [List.getElem?_eq_none q] at hxy; cases hxy
      exact Nat.le_trans (Nat.pow_le_pow_right (by decide) (show (ts.take i).length ≤ 7 by rw [List.length_take]; omega)) (by decide)
    have hus : us.length ≤ 128 := by rw [p₇.length]; exact hsl
    refine wpAny_execs_cons <| wpAny_Assign_Name <| wpAny_BinOp <| eL F₇ mp <| comp_val (cl := [("worth", L + 1 + 1), ("weight", L + 1)]) (fun _ => true) (fun h' v z => ∀ q, PairV h₇ v q → PairV h' z (q.1 + x, q.2 + y))
      (fun h h' v z k f q hq => (f q hq).keeps k) ok'.hh (by rfl) (by decide +kernel) (by rfl) (by decide +kernel) (by rfl) <| eL F₇ mp ?_
    refine ⟨D, us, rfl, l₇.isList, by omega, ?_, ?_, ?_⟩
    · intro C v m₃ s₃ E' _ _ _ _
      rw [List.forIn_nil]
      exact wpAny_pure ⟨rfl, keeps_refl _⟩
    · intro C v m₃ s₃ E' hv _ hns hmx k
      obtain ⟨q₀, _, hq₀⟩ := Paired_mem p₇ v hv
      obtain ⟨av', t', u', rfl, hpl'⟩ := id hq₀
      have hpl₃ : s₃.heap.IsList av' #[.int q₀.1 t', .int q₀.2 u'] := hpl'.at fun o e => k _ _ e
      refine List_ <| args_cons <| wpAny_BinOp <| Subscript_ <| eN hns hmx <| wpAny_Constant_int <| item_litK (vs := [.int q₀.1 t', .int q₀.2 u']) hpl₃ (by decide) (by decide) rfl <| eC (c₁₇.keeps k) <| add_int <|
        args_cons <| wpAny_BinOp <| Subscript_ <| eN hns hmx <| wpAny_Constant_int <| item_litK (vs := [.int q₀.1 t', .int q₀.2 u']) hpl₃ (by decide) (by decide) rfl <| eC (c₂₇.keeps k) <| add_int <| args_nil <| mkList (by simp) fun T h' hT _ k' l' => ?_
      refine ⟨⟨h', _, rfl, k'⟩, fun W hW q hq => ?_⟩
      cases hq.inj hq₀
      exact ⟨T, _, _, rfl, (hideAll_list l' (alive_not hW hT)).isList⟩
    · intro D₂ h₈ tk₈ ys hD₂ l₈ k₈ hP
      have e1 : us.filter (fun _ => true) = us := List.filter_eq_self.mpr fun _ _ => rfl
      rw [e1] at hP
      have hys : ys.length = us.length := hP.length.symm
      have p₈ : Pairs h₈ ys ((sumsOf (ts.take i)).map fun p => (p.1 + x, p.2 + y)) :=
        Paired_map (K := PairV h₈) (fun q : Int × Int => (q.1 + x, q.2 + y)) (fun _ _ e => e) (Paired_comp (K := fun (z : Value) (q : Int × Int) => PairV h₈ z (q.1 + x, q.2 + y)) (fun _ _ _ f g => (g _ f).keeps ((Kept.refl h₈).hide)) p₇ hP)
      dsimp only
      refine addL (l₇.isList.at fun o e => k₈ _ _ e) l₈.isList (by omega) fun D₃ h₉ hD₃ k₉ l₉ => ?_
      dsimp only at hD₃ k₉ ⊢
      have F₉ : Fr s.heap L h₉ m := (F₇.kept k₈).kept k₉
      refine sL F₉ fun h₁₀ F₁₀ b₁₀ => wpAny_execs_nil ?_
      dsimp only at b₁₀
      have nsL := noSeq_ns F₉.ns
      have hD₀ : s.heap.get? D₃ = none := by
        cases e : s.heap.get? D₃ with
        | none => rfl
        | some o => rw [(F₇.kept k₈).keep _ _ e] at hD₃; cases hD₃
      refine ⟨h₁₀, _, rfl, ⟨_, D₃, us ++ ys, _, _, F₁₀, if_pos rfl, hD₀, l₉.off nsL b₁₀, ?_, cell_but ((c₁₇.keeps k₈).keeps k₉) b₁₀ (by show L + 1 ≠ L; omega), cell_but ((c₂₇.keeps k₈).keeps k₉) b₁₀ (by show L + 1 + 1 ≠ L; omega)⟩,
        it_but (it_keeps (it_keeps it₇ k₈) k₉) b₁₀ hIL⟩
      have e2 : ts.take (i + 1) = ts.take i ++ [(x, y)] := by rw [List.take_add_one, hxy]; rfl
      rw [e2, sumsOf_snoc]
      exact Pairs.off (Paired_append ((p₇.keeps k₈).keeps k₉) (p₈.keeps k₉)) nsL b₁₀
  · rintro I h' tk hI ⟨m, D, us, v₁, v₂, F, mp, hD, l, p, c₁, c₂⟩
    refine wpAny_execs_cons <| wpAny_Return_some <| eL F mp ?_
    have e : ts.take vs.length = ts := List.take_of_length_le (by omega)
    rw [e] at p
    exact h D _ _ us hD F.keep l p
end
end Mine
end

-- part S1
section
open PySem PySem.W PySem.Calls PyProof.Rows
set_option Elab.async false
set_option maxRecDepth 100000
set_option maxHeartbeats 2000000
namespace Mine

section
variable {kf : Keyed → Int}
/-- the key that stands at i -/
def KF (kf : Keyed → Int) (xs : Array Keyed) (i : Nat) : Int := match xs[i]? with | some p => kf p | none => 0
theorem KF_congr {xs ys : Array Keyed} {i j : Nat} (h : xs[i]? = ys[j]?) : KF kf xs i = KF kf ys j := by unfold KF; rw [h]
theorem KF_some {xs : Array Keyed} {i : Nat} {p : Keyed} (h : xs[i]? = some p) : KF kf xs i = kf p := by unfold KF; rw [h]
/-- sorted from i up to j -/
def Sd (kf : Keyed → Int) (xs : Array Keyed) (i j : Nat) : Prop := ∀ p q, i ≤ p → p ≤ q → q < j → KF kf xs p ≤ KF kf xs q
/-- the same ahead of i, from j on -/
def Out (xs ys : Array Keyed) (i j : Nat) : Prop := ∀ k, k < i ∨ j ≤ k → ys[k]? = xs[k]?
theorem Out.refl (xs : Array Keyed) (i j : Nat) : Out xs xs i j := fun _ _ => rfl
theorem Out.trans {xs ys zs : Array Keyed} {i j : Nat} (a : Out xs ys i j) (b : Out ys zs i j) : Out xs zs i j := fun k h => (b k h).trans (a k h)
theorem Out.mono {xs ys : Array Keyed} {i j i' j' : Nat} (a : Out xs ys i j) (h1 : i' ≤ i) (h2 : j ≤ j') : Out xs ys i' j' := fun k h => a k (by omega)
theorem Sd.out {xs ys : Array Keyed} {i j a b : Nat} (h : Sd kf xs a b) (o : Out xs ys i j) (hd : b ≤ i ∨ j ≤ a) : Sd kf ys a b := fun p q h1 h2 h3 => by
  rw [KF_congr (o p (by omega)), KF_congr (o q (by omega))]; exact h p q h1 h2 h3
end

section
variable {prog : Program} {w : World} {A : Around} {E : Value → Shared → Prop} {s : Shared} {a₀ : Array Keyed} {kf : Keyed → Int} {κ : SortKind}

/-- every comparison comes through, leaves the state, and is that of the keys -/
def Cmp (prog : Program) (w : World) (A : Around) (s : Shared) (a₀ : Array Keyed) (kf : Keyed → Int) (κ : SortKind) : Prop :=
  ∀ x y, x ∈ a₀ → y ∈ a₀ → ∀ E, wpAny (model prog w) A (keyLt' κ x.1 y.1) (fun b s' => s' = s ∧ b = decide (kf x < kf y)) E s

structure SB (a₀ : Array Keyed) (κ : SortKind) (st : SortSt) : Prop where
  perm : (arrOf st).Perm a₀
  kind : kindOf st = κ
  failed : failedOf st = none
theorem SB.size {st : SortSt} (h : SB a₀ κ st) : (arrOf st).size = a₀.size := h.perm.size_eq
theorem SB.setArr {st : SortSt} (h : SB a₀ κ st) {xs : Array Keyed} (hp : xs.Perm (arrOf st)) : SB a₀ κ (setArr st xs) := ⟨hp.trans h.perm, h.kind, h.failed⟩
theorem SB.get {st : SortSt} (h : SB a₀ κ st) {i : Nat} (hi : i < a₀.size) : ∃ p, (arrOf st)[i]? = some p ∧ p ∈ a₀ := by
  have hi' : i < (arrOf st).size := by rw [h.size]; exact hi
  exact ⟨(arrOf st)[i], getElem?_pos _ i hi', h.perm.mem_iff.mp (Array.getElem_mem hi')⟩

theorem wS_elem {xs : Array Keyed} {i : Nat} {p : Keyed} {st : SortSt} {Q : Keyed → SortSt → Prop} (hi : xs[i]? = some p) (h : Q p st) : wpS (model prog w) A E s (elem' xs i) Q st := by
  rw [elem'_eq, hi]; exact wpS_pure h

theorem wS_lt (C : Cmp prog w A s a₀ kf κ) {st : SortSt} {x y : Keyed} {Q : Option Bool → SortSt → Prop} (hB : SB a₀ κ st) (hx : x ∈ a₀) (hy : y ∈ a₀) (h : Q (some (decide (kf x < kf y))) st) :
    wpS (model prog w) A E s (lt' x y) Q st := by
  rw [lt'_eq]
  refine wpS_bind (wpS_get ?_)
  rw [hB.kind]
  refine wpS_bind (wpS_lift (wpAny_attempt (wpAny_mono (C x y hx hy _) (fun b s' hb => ?_) fun _ _ e => e)))
  obtain ⟨rfl, rfl⟩ := hb
  exact ⟨rfl, wpS_pure h⟩

theorem wS_ltAt (C : Cmp prog w A s a₀ kf κ) {st : SortSt} {i j : Nat} {Q : Option Bool → SortSt → Prop} (hB : SB a₀ κ st) (hi : i < a₀.size) (hj : j < a₀.size)
    (h : Q (some (decide (KF kf (arrOf st) i < KF kf (arrOf st) j))) st) : wpS (model prog w) A E s (ltAt' i j) Q st := by
  obtain ⟨x, ex, hx⟩ := hB.get hi
  obtain ⟨y, ey, hy⟩ := hB.get hj
  rw [KF_some ex, KF_some ey] at h
  rw [ltAt'_eq]
  refine wpS_bind (wpS_get ?_)
  exact wpS_bind (wS_elem ex (wpS_bind (wS_elem ey (wS_lt C hB hx hy h))))

theorem wS_binary (C : Cmp prog w A s a₀ kf κ) {st : SortSt} {lo n ok : Nat} {Q : Bool → SortSt → Prop} (hn : lo + n ≤ a₀.size) (hok : ok ≤ n) (hB : SB a₀ κ st) (hs : Sd kf (arrOf st) lo (lo + ok))
    (h : ∀ st', SB a₀ κ st' → pendingOf st' = pendingOf st → Out (arrOf st) (arrOf st') lo (lo + n) → Sd kf (arrOf st') lo (lo + n) → Q true st') : wpS (model prog w) A E s (binarySort' lo n ok) Q st := by
  rw [binarySort'_eq]
  refine wpS_bind (wpS_mono (wpS_forRange (I := fun k c st' => c = (none, ()) ∧ SB a₀ κ st' ∧ pendingOf st' = pendingOf st ∧ Out (arrOf st) (arrOf st') lo (lo + n) ∧ Sd kf (arrOf st') lo (lo + min k n))
    (Q := fun c st' => c = (none, ()) ∧ SB a₀ κ st' ∧ pendingOf st' = pendingOf st ∧ Out (arrOf st) (arrOf st') lo (lo + n) ∧ Sd kf (arrOf st') lo (lo + n)) ?step ?fin ?init) ?post)
  case post =>
    rintro c st' ⟨rfl, a, b, c, d⟩
    exact wpS_pure (h st' a b c d)
  case init =>
    refine ⟨rfl, hB, rfl, Out.refl _ _ _, fun p q h1 h2 h3 => ?_⟩
    by_cases hpq : p = q
    · subst hpq; exact Int.le_refl _
    · exact hs p q h1 h2 (by omega)
  case fin =>
    rintro c st' ⟨a, b, c, d, e⟩
    refine ⟨a, b, c, d, ?_⟩
    rwa [show min (max (max ok 1) n) n = n by omega] at e
  case step =>
    rintro k c st' hak hkn ⟨rfl, hB', hp', ho', hs'⟩
    rw [show min k n = k by omega] at hs'
    refine wpS_bind (wpS_mono (wpS_forRange (I := fun x c st'' => st'' = st' ∧ ∃ l r, c = (none, l, r) ∧ l ≤ r ∧ r ≤ k ∧ r - l ≤ k - x ∧
        (∀ i, i < l → KF kf (arrOf st') (lo + i) ≤ KF kf (arrOf st') (lo + k)) ∧ (∀ i, r ≤ i → i < k → KF kf (arrOf st') (lo + k) < KF kf (arrOf st') (lo + i)))
      (Q := fun c st'' => st'' = st' ∧ ∃ l r, c = (none, l, r) ∧ l ≤ k ∧
        (∀ i, i < l → KF kf (arrOf st') (lo + i) ≤ KF kf (arrOf st') (lo + k)) ∧ (∀ i, l ≤ i → i < k → KF kf (arrOf st') (lo + k) < KF kf (arrOf st') (lo + i))) ?istep ?ifin ?iinit) ?ipost)
    case iinit => exact ⟨rfl, 0, k, rfl, by omega, by omega, by omega, fun i hi => by omega, fun i h1 h2 => by omega⟩
    case ifin =>
      rintro c st'' ⟨rfl, l, r, rfl, hlr, hrk, hm, hlo, hhi⟩
      have : l = r := by omega
      subst this
      exact ⟨rfl, l, l, rfl, hrk, hlo, hhi⟩
    case istep =>
      rintro x c st'' _ hxk ⟨rfl, l, r, rfl, hlr, hrk, hm, hlo, hhi⟩
      dsimp only
      by_cases hge : l ≥ r
      · rw [if_pos hge]
        have : l = r := by omega
        subst this
        exact wpS_pure ⟨rfl, l, l, rfl, hrk, hlo, hhi⟩
      · rw [if_neg hge]
        have hmk : (l + r) / 2 < k := by omega
        refine wpS_bind (wS_ltAt C hB' (by omega) (by omega) ?_)
        dsimp only
        by_cases hless : KF kf (arrOf st'') (lo + k) < KF kf (arrOf st'') (lo + (l + r) / 2)
        · simp only [hless, decide_true, if_true]
          refine wpS_pure ⟨rfl, l, (l + r) / 2, rfl, by omega, by omega, by omega, hlo, fun i h1 h2 => ?_⟩
          have := hs' (lo + (l + r) / 2) (lo + i) (by omega) (by omega) (by omega)
          omega
        · simp only [hless, decide_false, Bool.false_eq_true, if_false]
          refine wpS_pure ⟨rfl, (l + r) / 2 + 1, r, rfl, by omega, by omega, by omega, fun i h1 => ?_, hhi⟩
          have := hs' (lo + i) (lo + (l + r) / 2) (by omega) (by omega) (by omega)
          omega
    case ipost =>
      rintro c st'' ⟨rfl, l, r, rfl, hlk, hlo, hhi⟩
      dsimp only
      rw [moveDown'_eq]
      have hsz : lo + k < (arrOf st'').size := by rw [hB'.size]; omega
      have hb := getElem?_bubble (xs := arrOf st'') hsz (lo + k - (lo + l)) (by omega)
      refine wpS_bind (wpS_modify (wpS_pure ⟨rfl, hB'.setArr (bubble_perm _ _ _), hp', ho'.trans fun i hi => ?_, fun p q h1 h2 h3 => ?_⟩))
      · show (bubble (arrOf st'') (lo + k) (lo + k - (lo + l)))[i]? = _
        rw [hb, if_neg (by omega), if_neg (by omega)]
      · show KF kf (bubble (arrOf st'') (lo + k) (lo + k - (lo + l))) p ≤ KF kf (bubble (arrOf st'') (lo + k) (lo + k - (lo + l))) q
        have e : ∀ x, KF kf (bubble (arrOf st'') (lo + k) (lo + k - (lo + l))) x = if x = lo + l then KF kf (arrOf st'') (lo + k) else if lo + l < x ∧ x ≤ lo + k then KF kf (arrOf st'') (x - 1) else KF kf (arrOf st'') x := by
          intro x
          have := hb x
          rw [show lo + k - (lo + k - (lo + l)) = lo + l by omega] at this
          by_cases c1 : x = lo + l
          · rw [if_pos c1] at this ⊢; exact KF_congr this
          · rw [if_neg c1] at this ⊢
            by_cases c2 : lo + l < x ∧ x ≤ lo + k
            · rw [if_pos c2] at this ⊢; exact KF_congr this
            · rw [if_neg c2] at this ⊢; exact KF_congr this
        rw [e, e]
        have hlo' : ∀ x, lo ≤ x → x < lo + l → KF kf (arrOf st'') x ≤ KF kf (arrOf st'') (lo + k) := fun x a b => by
          have := hlo (x - lo) (by omega); rwa [show lo + (x - lo) = x by omega] at this
        have hhi' : ∀ x, lo + l ≤ x → x < lo + k → KF kf (arrOf st'') (lo + k) < KF kf (arrOf st'') x := fun x a b => by
          have := hhi (x - lo) (by omega) (by omega); rwa [show lo + (x - lo) = x by omega] at this
        have hk1 : min (k + 1) n = k + 1 := by omega
        rw [hk1] at h3
        repeat' split
        all_goals first
          | omega
          | exact Int.le_refl _
          | exact hs' _ _ (by omega) (by omega) (by omega)
          | exact hlo' _ (by omega) (by omega)
          | exact Int.le_of_lt (hhi' _ (by omega) (by omega))
end
end Mine
end

-- part S2
section
open PySem PySem.W PySem.Calls PyProof.Rows
set_option Elab.async false
set_option maxRecDepth 100000
set_option maxHeartbeats 2000000
namespace Mine

/-- a piece of a program, once proved, used where it stands -/
theorem with_prog {α : Type} {R : Prop} (T : StateT SortSt Sem α) (F : StateT SortSt Sem α → Prop) (main : F T → R) (key : F T) : R := main key

def Ni (kf : Keyed → Int) (xs : Array Keyed) (i j : Nat) : Prop := ∀ p q, i ≤ p → p ≤ q → q < j → KF kf xs q ≤ KF kf xs p
theorem KF_mirror {kf : Keyed → Int} {xs : Array Keyed} {i j : Nat} (hj : j ≤ xs.size) (k : Nat) :
    KF kf (mirror xs i j ((j - i) / 2)) k = if i ≤ k ∧ k < j then KF kf xs (i + j - 1 - k) else KF kf xs k := by
  have e := getElem?_mirror_all (i := i) hj k
  by_cases h1 : i ≤ k ∧ k < j
  · rw [if_pos h1] at e ⊢; exact KF_congr e
  · rw [if_neg h1] at e ⊢; exact KF_congr e
theorem Out_mirror {xs : Array Keyed} {i j : Nat} (hj : j ≤ xs.size) : Out xs (mirror xs i j ((j - i) / 2)) i j := fun k h => by
  rw [getElem?_mirror_all (i := i) hj k, if_neg (by omega)]

section
variable {prog : Program} {w : World} {A : Around} {E : Value → Shared → Prop} {s : Shared} {a₀ : Array Keyed} {kf : Keyed → Int} {κ : SortKind}

theorem wS_reverse {st : SortSt} {i j : Nat} {Q : Unit → SortSt → Prop} (h : Q () (setArr st (mirror (arrOf st) i j ((j - i) / 2)))) :
    wpS (model prog w) A E s (reverseSlice' i j) Q st := by
  rw [reverseSlice'_eq]; exact wpS_modify h

theorem wS_countRun (C : Cmp prog w A s a₀ kf κ) {st : SortSt} {lo nrem : Nat} {Q : Option Nat → SortSt → Prop} (hn : lo + nrem ≤ a₀.size) (h1 : 1 ≤ nrem) (hB : SB a₀ κ st)
    (h : ∀ m st', 1 ≤ m → m ≤ nrem → SB a₀ κ st' → pendingOf st' = pendingOf st → Out (arrOf st) (arrOf st') lo (lo + nrem) → Sd kf (arrOf st') lo (lo + m) → Q (some m) st') : wpS (model prog w) A E s (countRun' lo nrem) Q st := by
  rw [countRun'_eq]
  refine wpS_bind (wpS_mono (wpS_forRange (I := fun x c st' => st' = st ∧ c = (none, x) ∧ Sd kf (arrOf st) lo (lo + x))
    (Q := fun c st' => st' = st ∧ ∃ m, c = (none, m) ∧ 1 ≤ m ∧ m ≤ nrem ∧ Sd kf (arrOf st) lo (lo + m) ∧ (m < nrem → KF kf (arrOf st) (lo + m) < KF kf (arrOf st) (lo + m - 1))) ?step ?fin ⟨rfl, rfl, ?init⟩) ?post)
  case init =>
    intro p q a1 a2 a3
    rw [show p = q by omega]; exact Int.le_refl _
  case fin =>
    rintro c st' ⟨rfl, rfl, d⟩
    exact ⟨rfl, _, rfl, by omega, by omega, d, by omega⟩
  case step =>
    rintro x c st' hax hxn ⟨rfl, rfl, hs'⟩
    dsimp only
    refine wpS_bind (wS_ltAt C hB (by omega) (by omega) ?_)
    dsimp only
    by_cases hless : KF kf (arrOf st') (lo + x) < KF kf (arrOf st') (lo + x - 1)
    · simp only [hless, decide_true, if_true]
      exact wpS_pure ⟨rfl, x, rfl, hax, by omega, hs', fun _ => hless⟩
    · simp only [hless, decide_false, Bool.false_eq_true, if_false]
      refine wpS_pure ⟨rfl, rfl, fun p q a1 a2 a3 => ?_⟩
      by_cases hq : q < lo + x
      · exact hs' p q a1 a2 hq
      · have hq' : q = lo + x := by omega
        subst hq'
        by_cases hp : p = lo + x
        · subst hp; exact Int.le_refl _
        · have := hs' p (lo + x - 1) a1 (by omega) (by omega)
          omega
  case post =>
    rintro c st' ⟨rfl, m, rfl, hm1, hm2, hs', hl⟩
    dsimp only
    by_cases hmn : m = nrem
    · rw [if_pos (by simpa using hmn)]
      exact wpS_pure (h m st' hm1 hm2 hB rfl (Out.refl _ _ _) hs')
    · rw [if_neg (by simpa using hmn)]
      have hlt : m < nrem := by omega
      refine' with_prog _ (fun T => ∀ st : SortSt, SB a₀ κ st → Ni kf (arrOf st) lo (lo + m) → KF kf (arrOf st) (lo + m) < KF kf (arrOf st) (lo + m - 1) →
        (∀ m st', 1 ≤ m → m ≤ nrem → SB a₀ κ st' → pendingOf st' = pendingOf st → Out (arrOf st) (arrOf st') lo (lo + nrem) → Sd kf (arrOf st') lo (lo + m) → Q (some m) st') → wpS (model prog w) A E s T Q st) (fun key => ?mainK) ?keyK
      case mainK =>
        by_cases hm : m > 1
        · rw [if_pos hm]
          refine wpS_bind (wS_ltAt C hB (by omega) (by omega) ?_)
          dsimp only
          by_cases hr : KF kf (arrOf st') lo < KF kf (arrOf st') (lo + m - 1)
          · simp only [hr, decide_true, if_true]
            exact wpS_pure (h m st' hm1 hm2 hB rfl (Out.refl _ _ _) hs')
          · simp only [hr, decide_false, Bool.false_eq_true, if_false]
            have hsz : lo + m ≤ (arrOf st').size := by rw [hB.size]; omega
            have heq : ∀ k, lo ≤ k → k < lo + m → KF kf (arrOf st') k = KF kf (arrOf st') lo := fun k a1 a2 => by
              have b1 := hs' lo k (by omega) a1 a2
              have b2 := hs' k (lo + m - 1) a1 (by omega) (by omega)
              omega
            refine wpS_bind (wS_reverse ?_)
            have ek : ∀ k, KF kf (mirror (arrOf st') lo (lo + m) ((lo + m - lo) / 2)) k = KF kf (arrOf st') k := by
              intro k
              rw [KF_mirror hsz]
              split
              · rw [heq _ (by omega) (by omega), heq k (by omega) (by omega)]
              · rfl
            have om : Out (arrOf st') (mirror (arrOf st') lo (lo + m) ((lo + m - lo) / 2)) lo (lo + nrem) := (Out_mirror hsz).mono (by omega) (by omega)
            refine key _ (hB.setArr (mirror_perm _ _ _ _)) (fun p q a1 a2 a3 => ?_) ?_ fun m' st'' b1 b2 b3 b4 b5 b6 => h m' st'' b1 b2 b3 b4 (Out.trans om b5) b6
            · show KF kf (mirror (arrOf st') lo (lo + m) ((lo + m - lo) / 2)) q ≤ KF kf (mirror (arrOf st') lo (lo + m) ((lo + m - lo) / 2)) p
              rw [ek, ek, heq q (by omega) a3, heq p a1 (by omega)]; exact Int.le_refl _
            · show KF kf (mirror (arrOf st') lo (lo + m) ((lo + m - lo) / 2)) (lo + m) < KF kf (mirror (arrOf st') lo (lo + m) ((lo + m - lo) / 2)) (lo + m - 1)
              rw [ek, ek]; exact hl hlt
        · rw [if_neg hm]
          refine key _ hB (fun p q a1 a2 a3 => ?_) (hl hlt) h
          rw [show p = q by omega]; exact Int.le_refl _
      case keyK =>
        intro st hB hs hl h
        clear hs'
        refine wpS_bind (wpS_lift (wpAny_rule ⟨rfl, ?_⟩))
        refine wpS_bind (wpS_mono (wpS_forRange (I := fun x c st' => ∃ neq, c = (none, x, neq) ∧ SB a₀ κ st' ∧ pendingOf st' = pendingOf st ∧ Out (arrOf st) (arrOf st') lo (lo + nrem) ∧ Ni kf (arrOf st') lo (lo + x) ∧ neq + 1 ≤ x ∧
            (∀ i, lo + x - (neq + 1) ≤ i → i < lo + x → KF kf (arrOf st') i = KF kf (arrOf st') (lo + x - 1)))
          (Q := fun c st' => ∃ x neq, c = (none, x, neq) ∧ m + 1 ≤ x ∧ x ≤ nrem ∧ SB a₀ κ st' ∧ pendingOf st' = pendingOf st ∧ Out (arrOf st) (arrOf st') lo (lo + nrem) ∧ Ni kf (arrOf st') lo (lo + x) ∧ neq + 1 ≤ x ∧
            (∀ i, lo + x - (neq + 1) ≤ i → i < lo + x → KF kf (arrOf st') i = KF kf (arrOf st') (lo + x - 1))) ?step ?fin ?init) ?post)
        case init =>
          refine ⟨0, rfl, hB, rfl, Out.refl _ _ _, fun p q a1 a2 a3 => ?_, by omega, fun i a1 a2 => by rw [show i = lo + (m + 1) - 1 by omega]⟩
          by_cases hq : q < lo + m
          · exact hs p q a1 a2 hq
          · have hq' : q = lo + m := by omega
            subst hq'
            by_cases hp : p = lo + m
            · subst hp; exact Int.le_refl _
            · have := hs p (lo + m - 1) a1 (by omega) (by omega)
              omega
        case fin =>
          rintro c st' ⟨neq, rfl, a, b, c, d, e, f⟩
          rw [show max (m + 1) nrem = nrem by omega] at *
          exact ⟨nrem, neq, rfl, by omega, by omega, a, b, c, d, e, f⟩
        case step =>
          rintro x c st' hax hxn ⟨neq, rfl, hB', hp', ho', hs', hq, he⟩
          dsimp only
          have hsz : lo + x ≤ (arrOf st').size := by rw [hB'.size]; omega
          refine wpS_bind (wS_ltAt C hB' (by omega) (by omega) ?_)
          dsimp only
          by_cases hless : KF kf (arrOf st') (lo + x) < KF kf (arrOf st') (lo + x - 1)
          · simp only [hless, decide_true, if_true]
            have step1 : ∀ xs : Array Keyed, (∀ k, KF kf xs k = KF kf (arrOf st') k) → Ni kf xs lo (lo + (x + 1)) := by
              intro xs hk p q a1 a2 a3
              rw [hk, hk]
              by_cases hq : q < lo + x
              · exact hs' p q a1 a2 hq
              · have hq' : q = lo + x := by omega
                subst hq'
                by_cases hp : p = lo + x
                · subst hp; exact Int.le_refl _
                · have := hs' p (lo + x - 1) a1 (by omega) (by omega)
                  omega
            by_cases hneq : neq > 0
            · rw [if_pos hneq]
              have hk : ∀ k, KF kf (mirror (arrOf st') (lo + x - (neq + 1)) (lo + x) ((lo + x - (lo + x - (neq + 1))) / 2)) k = KF kf (arrOf st') k := by
                intro k
                rw [KF_mirror hsz]
                split
                · rw [he _ (by omega) (by omega), he k (by omega) (by omega)]
                · rfl
              exact wpS_bind (wS_reverse (wpS_pure ⟨0, rfl, hB'.setArr (mirror_perm _ _ _ _), hp', ho'.trans ((Out_mirror hsz).mono (by omega) (by omega)), step1 _ hk, by omega, fun i a1 a2 => by rw [show i = lo + (x + 1) - 1 by omega]⟩))
            · rw [if_neg hneq]
              exact wpS_pure ⟨0, rfl, hB', hp', ho', step1 _ fun _ => rfl, by omega, fun i a1 a2 => by rw [show i = lo + (x + 1) - 1 by omega]⟩
          · simp only [hless, decide_false, Bool.false_eq_true, if_false]
            refine wpS_bind (wS_ltAt C hB' (by omega) (by omega) ?_)
            dsimp only
            by_cases hlarger : KF kf (arrOf st') (lo + x - 1) < KF kf (arrOf st') (lo + x)
            · simp only [hlarger, decide_true, if_true]
              exact wpS_pure ⟨x, neq, rfl, hax, by omega, hB', hp', ho', hs', hq, he⟩
            · simp only [hlarger, decide_false, Bool.false_eq_true, if_false]
              have heq : KF kf (arrOf st') (lo + x) = KF kf (arrOf st') (lo + x - 1) := by omega
              refine wpS_pure ⟨neq + 1, rfl, hB', hp', ho', fun p q a1 a2 a3 => ?_, by omega, fun i a1 a2 => ?_⟩
              · by_cases hq : q < lo + x
                · exact hs' p q a1 a2 hq
                · have hq' : q = lo + x := by omega
                  subst hq'
                  by_cases hp : p = lo + x
                  · subst hp; exact Int.le_refl _
                  · have := hs' p (lo + x - 1) a1 (by omega) (by omega)
                    omega
              · rw [show lo + (x + 1) - 1 = lo + x by omega]
                by_cases hi : i = lo + x
                · rw [hi]
                · rw [he i (by omega) (by omega), heq]
        case post =>
          rintro c st' ⟨x, neq, rfl, hnx, hxn, hB', hp', ho', hs', hq, he⟩
          dsimp only
          have hsz : lo + x ≤ (arrOf st').size := by rw [hB'.size]; omega
          refine' with_prog _ (fun T => ∀ st'' : SortSt, SB a₀ κ st'' → pendingOf st'' = pendingOf st → Out (arrOf st) (arrOf st'') lo (lo + nrem) → (∀ k, KF kf (arrOf st'') k = KF kf (arrOf st') k) → wpS (model prog w) A E s T Q st'') (fun fin => ?mainF) ?keyF
          case mainF =>
            by_cases hneq : neq > 0
            · rw [if_pos hneq]
              have om : Out (arrOf st') (mirror (arrOf st') (lo + x - (neq + 1)) (lo + x) ((lo + x - (lo + x - (neq + 1))) / 2)) lo (lo + nrem) := (Out_mirror hsz).mono (by omega) (by omega)
              refine wpS_bind (wS_reverse ?_)
              refine fin _ (hB'.setArr (mirror_perm _ _ _ _)) hp' (ho'.trans om) fun k => ?_
              show KF kf (mirror (arrOf st') (lo + x - (neq + 1)) (lo + x) ((lo + x - (lo + x - (neq + 1))) / 2)) k = _
              rw [KF_mirror hsz]
              split
              · rw [he _ (by omega) (by omega), he k (by omega) (by omega)]
              · rfl
            · rw [if_neg hneq]
              exact fin _ hB' hp' ho' fun _ => rfl
          case keyF =>
            intro st'' b p o hk
            have hsz' : lo + x ≤ (arrOf st'').size := by rw [b.size]; omega
            refine wpS_bind (wS_reverse ?_)
            have hB3 : SB a₀ κ (setArr st'' (mirror (arrOf st'') lo (lo + x) ((lo + x - lo) / 2))) := b.setArr (mirror_perm _ _ _ _)
            obtain ⟨st3, e3⟩ : ∃ st3, st3 = setArr st'' (mirror (arrOf st'') lo (lo + x) ((lo + x - lo) / 2)) := ⟨_, rfl⟩
            have hp3 : pendingOf st3 = pendingOf st := by rw [e3]; exact p
            have ho3 : Out (arrOf st) (arrOf st3) lo (lo + nrem) := by rw [e3]; exact o.trans ((Out_mirror hsz').mono (by omega) (by omega))
            have hs3 : Sd kf (arrOf st3) lo (lo + x) := fun p q a1 a2 a3 => by
              rw [e3]
              show KF kf (mirror (arrOf st'') lo (lo + x) ((lo + x - lo) / 2)) p ≤ KF kf (mirror (arrOf st'') lo (lo + x) ((lo + x - lo) / 2)) q
              rw [KF_mirror hsz', KF_mirror hsz', if_pos (by omega), if_pos (by omega), hk, hk]
              exact hs' _ _ (by omega) (by omega) (by omega)
            rw [← e3] at hB3 ⊢
            have h3 : ∀ m, x ≤ m → m ≤ nrem → Sd kf (arrOf st3) lo (lo + m) → Q (some m) st3 := fun m b1 b2 b3 => h m _ (by omega) b2 hB3 hp3 ho3 b3
            refine wpS_bind (wpS_mono (wpS_forRange (I := fun z c st' => st' = st3 ∧ c = (none, z) ∧ Sd kf (arrOf st3) lo (lo + z))
              (Q := fun c st' => st' = st3 ∧ ∃ m, c = (none, m) ∧ x ≤ m ∧ m ≤ nrem ∧ Sd kf (arrOf st3) lo (lo + m)) ?step ?fin ⟨rfl, rfl, hs3⟩) ?post)
            case fin =>
              rintro c st' ⟨rfl, rfl, d⟩
              exact ⟨rfl, _, rfl, by omega, by omega, d⟩
            case post =>
              rintro c st' ⟨rfl, m, rfl, g1, g2, g3⟩
              exact wpS_pure (h3 m g1 g2 g3)
            case step =>
              rintro z c st' hax hzn ⟨rfl, rfl, hs'⟩
              dsimp only
              refine wpS_bind (wS_ltAt C hB3 (by omega) (by omega) ?_)
              dsimp only
              by_cases hless : KF kf (arrOf st') (lo + z) < KF kf (arrOf st') (lo + z - 1)
              · simp only [hless, decide_true, if_true]
                exact wpS_pure ⟨rfl, z, rfl, hax, by omega, hs'⟩
              · simp only [hless, decide_false, Bool.false_eq_true, if_false]
                refine wpS_pure ⟨rfl, rfl, fun p q a1 a2 a3 => ?_⟩
                by_cases hq : q < lo + z
                · exact hs' p q a1 a2 hq
                · have hq' : q = lo + z := by omega
                  subst hq'
                  by_cases hp : p = lo + z
                  · subst hp; exact Int.le_refl _
                  · have := hs' p (lo + z - 1) a1 (by omega) (by omega)
                    omega
end
end Mine
end

-- part S3
section
open PySem PySem.W PySem.Calls PyProof.Rows
set_option Elab.async false
set_option maxRecDepth 100000
set_option maxHeartbeats 2000000
namespace Mine

def gallop' : Bool → Keyed → Array Keyed → Nat → Nat → Nat → StateT SortSt Sem (Option Nat) := sortPriv% PySem.Builtin.gallop

def beyond' (left : Bool) (key : Keyed) (arr : Array Keyed) (base : Nat) (i : Nat) : StateT SortSt Sem (Option Bool) := do
  let x ← elem' arr (base + i)
  if left then lt' x key else return (← lt' key x).map (!·)

section
variable {prog : Program} {w : World} {A : Around} {E : Value → Shared → Prop} {s : Shared} {a₀ : Array Keyed} {kf : Keyed → Int} {κ : SortKind}

def Bp (kf : Keyed → Int) (left : Bool) (key : Keyed) (arr : Array Keyed) (base i : Nat) : Bool := if left then decide (KF kf arr (base + i) < kf key) else decide (KF kf arr (base + i) ≤ kf key)

theorem Bp_mono {left : Bool} {key : Keyed} {arr : Array Keyed} {base n i j : Nat} (hs : Sd kf arr base (base + n)) (hij : i ≤ j) (hj : j < n) (h : Bp kf left key arr base j = true) : Bp kf left key arr base i = true := by
  have := hs (base + i) (base + j) (by omega) (by omega) (by omega)
  unfold Bp at h ⊢
  cases left <;> simp only [Bool.false_eq_true, if_false, if_true, decide_eq_true_eq] at h ⊢ <;> omega

theorem wS_beyond (C : Cmp prog w A s a₀ kf κ) {st : SortSt} {left : Bool} {key : Keyed} {arr : Array Keyed} {base i : Nat} {Q : Option Bool → SortSt → Prop} (hB : SB a₀ κ st) (hkey : key ∈ a₀)
    (harr : ∃ p, arr[base + i]? = some p ∧ p ∈ a₀) (h : Q (some (Bp kf left key arr base i)) st) : wpS (model prog w) A E s (beyond' left key arr base i) Q st := by
  obtain ⟨p, e, hp⟩ := harr
  unfold beyond'
  refine wpS_bind (wS_elem e ?_)
  unfold Bp at h
  rw [KF_some e] at h
  cases left with
  | true =>
    simp only [if_true] at h ⊢
    exact wS_lt C hB hp hkey h
  | false =>
    simp only [Bool.false_eq_true, if_false] at h ⊢
    refine wpS_bind (wS_lt C hB hkey hp (wpS_pure ?_))
    have e2 : (Option.map (fun b : Bool => !b) (some (decide (kf key < kf p)))) = some (decide (kf p ≤ kf key)) := by
      simp only [Option.map_some]
      congr 1
      by_cases q : kf key < kf p
      · simp [q, Int.not_le.mpr q]
      · simp [q, Int.not_lt.mp q]
    rw [e2]; exact h

theorem wS_gallop (C : Cmp prog w A s a₀ kf κ) {st : SortSt} {left : Bool} {key : Keyed} {arr : Array Keyed} {base n hint : Nat} {Q : Option Nat → SortSt → Prop} (hB : SB a₀ κ st) (hkey : key ∈ a₀)
    (harr : ∀ i, i < n → ∃ p, arr[base + i]? = some p ∧ p ∈ a₀) (hs : Sd kf arr base (base + n)) (hh : hint < n)
    (h : ∀ k, k ≤ n → (∀ i, i < k → Bp kf left key arr base i = true) → (∀ i, k ≤ i → i < n → Bp kf left key arr base i = false) → Q (some k) st) :
    wpS (model prog w) A E s (gallop' left key arr base n hint) Q st := by
  have mono : ∀ {i j}, i ≤ j → j < n → Bp kf left key arr base j = true → Bp kf left key arr base i = true := fun a b c => Bp_mono hs a b c
  have anti : ∀ {i j}, i ≤ j → j < n → Bp kf left key arr base i = false → Bp kf left key arr base j = false := fun {i j} a b c => by
    cases q : Bp kf left key arr base j with
    | false => rfl
    | true => rw [mono a b q] at c; cases c
  refine wpS_bind (wS_beyond C hB hkey (harr _ hh) ?_)
  dsimp only
  cases hr : Bp kf left key arr base hint with
  | true =>
    simp only [if_true]
    refine wpS_bind (wpS_mono (wpS_forRange (I := fun x c st' => st' = st ∧ ∃ lastofs ofs, c = (none, lastofs, ofs) ∧ lastofs < ofs ∧ x + 1 ≤ ofs ∧ hint + lastofs < n ∧ Bp kf left key arr base (hint + lastofs) = true)
      (Q := fun c st' => st' = st ∧ ∃ lastofs ofs, c = (none, lastofs, ofs) ∧ lastofs < ofs ∧ hint + lastofs < n ∧ Bp kf left key arr base (hint + lastofs) = true ∧ (n - hint ≤ ofs ∨ (hint + ofs < n ∧ Bp kf left key arr base (hint + ofs) = false))) ?step ?fin ⟨rfl, 0, 1, rfl, by omega, by omega, hh, hr⟩) ?post)
    case fin =>
      rintro c st' ⟨rfl, lo, hi, rfl, a, b, c, d⟩
      exact ⟨rfl, lo, hi, rfl, a, c, d, .inl (by omega)⟩
    case step =>
      rintro x c st' _ hx ⟨rfl, l, o, rfl, a, b, c, d⟩
      dsimp only
      by_cases hge : o ≥ n - hint
      · rw [if_pos hge]
        exact wpS_pure ⟨rfl, l, o, rfl, a, c, d, .inl hge⟩
      · rw [if_neg hge]
        refine wpS_bind (wS_beyond C hB hkey (harr _ (by omega)) ?_)
        dsimp only
        cases q : Bp kf left key arr base (hint + o) with
        | true =>
          simp only [Bool.not_true, Bool.false_eq_true, if_false]
          exact wpS_pure ⟨rfl, o, _, rfl, by omega, by omega, by omega, q⟩
        | false =>
          simp only [Bool.not_false, if_true]
          exact wpS_pure ⟨rfl, l, o, rfl, a, c, d, .inr ⟨by omega, q⟩⟩
    case post =>
      rintro c st' ⟨rfl, l, o, rfl, a, b, c, d⟩
      dsimp only
      have t1 : hint + l + 1 ≤ hint + min o (n - hint) := by omega
      have t2 : hint + min o (n - hint) ≤ n := by omega
      have t3 : ∀ i, i < hint + l + 1 → Bp kf left key arr base i = true := fun i hi => mono (show i ≤ hint + l by omega) b c
      have t4 : ∀ i, hint + min o (n - hint) ≤ i → i < n → Bp kf left key arr base i = false := fun i h1 h2 => by
        rcases d with d | ⟨d1, d2⟩
        · omega
        · exact anti (show hint + o ≤ i by omega) h2 d2
      refine wpS_bind (wpS_mono (wpS_forRange (I := fun x c s2 => s2 = st' ∧ ∃ lo hi, c = (none, lo, hi) ∧ lo ≤ hi ∧ hi ≤ n ∧ hi - lo ≤ n - x ∧ (∀ i, i < lo → Bp kf left key arr base i = true) ∧ (∀ i, hi ≤ i → i < n → Bp kf left key arr base i = false))
        (Q := fun c s2 => s2 = st' ∧ ∃ hi, c = (none, hi, hi) ∧ hi ≤ n ∧ (∀ i, i < hi → Bp kf left key arr base i = true) ∧ (∀ i, hi ≤ i → i < n → Bp kf left key arr base i = false)) ?step ?fin ⟨rfl, hint + l + 1, hint + min o (n - hint), rfl, t1, t2, by omega, t3, t4⟩) ?post)
      case fin =>
        rintro c s2 ⟨rfl, lo, hi, rfl, a, b, c, d, e⟩
        have : lo = hi := by omega
        subst this
        exact ⟨rfl, lo, rfl, b, d, e⟩
      case post =>
        rintro c s2 ⟨rfl, hi, rfl, a, b, c⟩
        exact wpS_pure (h hi a b c)
      case step =>
        rintro x c s2 _ hx ⟨rfl, lo, hi, rfl, a, b, c, d, e⟩
        dsimp only
        by_cases hge : lo ≥ hi
        · rw [if_pos hge]
          have : lo = hi := by omega
          subst this
          exact wpS_pure ⟨rfl, lo, rfl, b, d, e⟩
        · rw [if_neg hge]
          have hm : lo + (hi - lo) / 2 < hi := by omega
          refine wpS_bind (wS_beyond C hB hkey (harr _ (by omega)) ?_)
          dsimp only
          cases q : Bp kf left key arr base (lo + (hi - lo) / 2) with
          | true =>
            simp only [if_true]
            exact wpS_pure ⟨rfl, _, hi, rfl, by omega, b, by omega, fun i hi' => mono (show i ≤ lo + (hi - lo) / 2 by omega) (by omega) q, e⟩
          | false =>
            simp only [Bool.false_eq_true, if_false]
            exact wpS_pure ⟨rfl, lo, _, rfl, by omega, by omega, by omega, d, fun i h1 h2 => anti h1 h2 q⟩
  | false =>
    simp only [Bool.false_eq_true, if_false]
    refine wpS_bind (wpS_mono (wpS_forRange (I := fun x c st' => st' = st ∧ ∃ lastofs ofs, c = (none, lastofs, ofs) ∧ lastofs < ofs ∧ x + 1 ≤ ofs ∧ lastofs ≤ hint ∧ Bp kf left key arr base (hint - lastofs) = false)
      (Q := fun c st' => st' = st ∧ ∃ lastofs ofs, c = (none, lastofs, ofs) ∧ lastofs < ofs ∧ lastofs ≤ hint ∧ Bp kf left key arr base (hint - lastofs) = false ∧ (hint + 1 ≤ ofs ∨ (ofs ≤ hint ∧ Bp kf left key arr base (hint - ofs) = true))) ?step ?fin ⟨rfl, 0, 1, rfl, by omega, by omega, by omega, hr⟩) ?post)
    case fin =>
      rintro c st' ⟨rfl, lo, hi, rfl, a, b, c, d⟩
      exact ⟨rfl, lo, hi, rfl, a, c, d, .inl (by omega)⟩
    case step =>
      rintro x c st' _ hx ⟨rfl, l, o, rfl, a, b, c, d⟩
      dsimp only
      by_cases hge : o ≥ hint + 1
      · rw [if_pos hge]
        exact wpS_pure ⟨rfl, l, o, rfl, a, c, d, .inl hge⟩
      · rw [if_neg hge]
        refine wpS_bind (wS_beyond C hB hkey (harr _ (by omega)) ?_)
        dsimp only
        cases q : Bp kf left key arr base (hint - o) with
        | true =>
          simp only [if_true]
          exact wpS_pure ⟨rfl, l, o, rfl, a, c, d, .inr ⟨by omega, q⟩⟩
        | false =>
          simp only [Bool.false_eq_true, if_false]
          exact wpS_pure ⟨rfl, o, _, rfl, by omega, by omega, by omega, q⟩
    case post =>
      rintro c st' ⟨rfl, l, o, rfl, a, b, c, d⟩
      dsimp only
      have t1 : hint + 1 - min o (hint + 1) ≤ hint - l := by omega
      have t2 : hint - l ≤ n := by omega
      have t3 : ∀ i, i < hint + 1 - min o (hint + 1) → Bp kf left key arr base i = true := fun i hi => by
        rcases d with d | ⟨d1, d2⟩
        · omega
        · exact mono (show i ≤ hint - o by omega) (by omega) d2
      have t4 : ∀ i, hint - l ≤ i → i < n → Bp kf left key arr base i = false := fun i h1 h2 => anti (show hint - l ≤ i by omega) h2 c
      refine wpS_bind (wpS_mono (wpS_forRange (I := fun x c s2 => s2 = st' ∧ ∃ lo hi, c = (none, lo, hi) ∧ lo ≤ hi ∧ hi ≤ n ∧ hi - lo ≤ n - x ∧ (∀ i, i < lo → Bp kf left key arr base i = true) ∧ (∀ i, hi ≤ i → i < n → Bp kf left key arr base i = false))
        (Q := fun c s2 => s2 = st' ∧ ∃ hi, c = (none, hi, hi) ∧ hi ≤ n ∧ (∀ i, i < hi → Bp kf left key arr base i = true) ∧ (∀ i, hi ≤ i → i < n → Bp kf left key arr base i = false)) ?step ?fin ⟨rfl, hint + 1 - min o (hint + 1), hint - l, rfl, t1, t2, by omega, t3, t4⟩) ?post)
      case fin =>
        rintro c s2 ⟨rfl, lo, hi, rfl, a, b, c, d, e⟩
        have : lo = hi := by omega
        subst this
        exact ⟨rfl, lo, rfl, b, d, e⟩
      case post =>
        rintro c s2 ⟨rfl, hi, rfl, a, b, c⟩
        exact wpS_pure (h hi a b c)
      case step =>
        rintro x c s2 _ hx ⟨rfl, lo, hi, rfl, a, b, c, d, e⟩
        dsimp only
        by_cases hge : lo ≥ hi
        · rw [if_pos hge]
          have : lo = hi := by omega
          subst this
          exact wpS_pure ⟨rfl, lo, rfl, b, d, e⟩
        · rw [if_neg hge]
          have hm : lo + (hi - lo) / 2 < hi := by omega
          refine wpS_bind (wS_beyond C hB hkey (harr _ (by omega)) ?_)
          dsimp only
          cases q : Bp kf left key arr base (lo + (hi - lo) / 2) with
          | true =>
            simp only [if_true]
            exact wpS_pure ⟨rfl, _, hi, rfl, by omega, b, by omega, fun i hi' => mono (show i ≤ lo + (hi - lo) / 2 by omega) (by omega) q, e⟩
          | false =>
            simp only [Bool.false_eq_true, if_false]
            exact wpS_pure ⟨rfl, lo, _, rfl, by omega, by omega, by omega, d, fun i h1 h2 => anti h1 h2 q⟩
end
end Mine
end

-- part S4
section
open PySem PySem.W PySem.Calls PyProof.Rows
set_option Elab.async false
set_option maxRecDepth 100000
set_option maxHeartbeats 2000000
namespace Mine

def setMinGallop' : Nat → StateT SortSt Sem Unit := sortPriv% PySem.Builtin.setMinGallop
def mergeLo' : Array Keyed → Array Keyed → StateT SortSt Sem (Array Keyed) := sortPriv% PySem.Builtin.mergeLo
def mergeHi' : Array Keyed → Array Keyed → StateT SortSt Sem (Array Keyed) := sortPriv% PySem.Builtin.mergeHi
section
variable {prog : Program} {w : World} {A : Around} {E : Value → Shared → Prop} {s : Shared} {a₀ : Array Keyed} {kf : Keyed → Int} {κ : SortKind}
theorem wS_if {α : Type} {c : Prop} [Decidable c] {x y : StateT SortSt Sem α} {Q : α → SortSt → Prop} {st : SortSt} (ht : c → wpS (model prog w) A E s x Q st) (hf : ¬ c → wpS (model prog w) A E s y Q st) :
    wpS (model prog w) A E s (if c then x else y) Q st := by
  by_cases h : c
  · rw [if_pos h]; exact ht h
  · rw [if_neg h]; exact hf h
end

section
variable {kf : Keyed → Int} {a b o : Array Keyed} {ia ib : Nat}
def LeK (kf : Keyed → Int) (x y : Keyed) : Prop := kf x ≤ kf y
def SortedL (kf : Keyed → Int) (l : List Keyed) : Prop := l.Pairwise (LeK kf)
def Res (kf : Keyed → Int) (a b r : Array Keyed) : Prop := r.toList.Perm (a.toList ++ b.toList) ∧ SortedL kf r.toList
structure MI (kf : Keyed → Int) (a b o : Array Keyed) (ia ib : Nat) : Prop where
  perm : (o.toList ++ a.toList.drop ia ++ b.toList.drop ib).Perm (a.toList ++ b.toList)
  so : SortedL kf o.toList
  oa : ∀ x ∈ o.toList, ∀ y ∈ a.toList.drop ia, LeK kf x y
  ob : ∀ x ∈ o.toList, ∀ y ∈ b.toList.drop ib, LeK kf x y

theorem sorted3 {x y z : List Keyed} (hx : SortedL kf x) (hy : SortedL kf y) (hz : SortedL kf z) (hxy : ∀ u ∈ x, ∀ v ∈ y, LeK kf u v) (hxz : ∀ u ∈ x, ∀ v ∈ z, LeK kf u v) (hyz : ∀ u ∈ y, ∀ v ∈ z, LeK kf u v) : SortedL kf (x ++ y ++ z) := by
  unfold SortedL at *
  rw [List.append_assoc, List.pairwise_append]
  refine ⟨hx, List.pairwise_append.mpr ⟨hy, hz, hyz⟩, fun u hu v hv => ?_⟩
  rcases List.mem_append.mp hv with hv | hv
  · exact hxy u hu v hv
  · exact hxz u hu v hv
theorem extract_all (xs : Array Keyed) (i : Nat) : (xs.extract i xs.size).toList = xs.toList.drop i := by
  rw [Array.toList_extract]
  simp only [List.extract]
  exact List.take_of_length_le (by simp)
theorem extract_k (xs : Array Keyed) (i k : Nat) : (xs.extract i (i + k)).toList = (xs.toList.drop i).take k := by
  rw [Array.toList_extract]
  simp [List.extract]

theorem MI.takeA (h : MI kf a b o ia ib) (sa : SortedL kf a.toList) (k : Nat) (hk : ∀ x ∈ (a.toList.drop ia).take k, ∀ y ∈ b.toList.drop ib, LeK kf x y) : MI kf a b (o ++ a.extract ia (ia + k)) (ia + k) ib := by
  have e : a.toList.drop ia = (a.toList.drop ia).take k ++ a.toList.drop (ia + k) := by rw [← List.drop_drop, List.take_append_drop]
  have sd : SortedL kf (a.toList.drop ia) := List.Pairwise.drop sa
  have sd' := sd
  rw [e] at sd'
  obtain ⟨s1, s2, s3⟩ := List.pairwise_append.mp sd'
  have eo : (o ++ a.extract ia (ia + k)).toList = o.toList ++ (a.toList.drop ia).take k := by rw [Array.toList_append, extract_k]
  refine ⟨?_, ?_, ?_, ?_⟩
  · rw [eo, List.append_assoc o.toList, ← e]; exact h.perm
  · rw [eo]; exact List.pairwise_append.mpr ⟨h.so, s1, fun x hx y hy => h.oa x hx y (List.mem_of_mem_take hy)⟩
  · rw [eo]
    intro x hx y hy
    rcases List.mem_append.mp hx with hx | hx
    · exact h.oa x hx y (by rw [e]; exact List.mem_append_right _ hy)
    · exact s3 x hx y hy
  · rw [eo]
    intro x hx y hy
    rcases List.mem_append.mp hx with hx | hx
    · exact h.ob x hx y hy
    · exact hk x hx y hy
theorem MI.takeB (h : MI kf a b o ia ib) (sb : SortedL kf b.toList) (k : Nat) (hk : ∀ x ∈ (b.toList.drop ib).take k, ∀ y ∈ a.toList.drop ia, LeK kf x y) : MI kf a b (o ++ b.extract ib (ib + k)) ia (ib + k) := by
  have e : b.toList.drop ib = (b.toList.drop ib).take k ++ b.toList.drop (ib + k) := by rw [← List.drop_drop, List.take_append_drop]
  have sd : SortedL kf (b.toList.drop ib) := List.Pairwise.drop sb
  have sd' := sd
  rw [e] at sd'
  obtain ⟨s1, s2, s3⟩ := List.pairwise_append.mp sd'
  have eo : (o ++ b.extract ib (ib + k)).toList = o.toList ++ (b.toList.drop ib).take k := by rw [Array.toList_append, extract_k]
  refine ⟨?_, ?_, ?_, ?_⟩
  · rw [eo]
    refine List.Perm.trans ?_ h.perm
    have e2 : o.toList ++ a.toList.drop ia ++ b.toList.drop ib = o.toList ++ a.toList.drop ia ++ ((b.toList.drop ib).take k ++ b.toList.drop (ib + k)) := by rw [← e]
    rw [e2]
    simp only [List.append_assoc]
    refine List.Perm.append_left _ ?_
    rw [← List.append_assoc, ← List.append_assoc]
    exact List.Perm.append_right _ List.perm_append_comm
  · rw [eo]; exact List.pairwise_append.mpr ⟨h.so, s1, fun x hx y hy => h.ob x hx y (List.mem_of_mem_take hy)⟩
  · rw [eo]
    intro x hx y hy
    rcases List.mem_append.mp hx with hx | hx
    · exact h.oa x hx y hy
    · exact hk x hx y hy
  · rw [eo]
    intro x hx y hy
    rcases List.mem_append.mp hx with hx | hx
    · exact h.ob x hx y (by rw [e]; exact List.mem_append_right _ hy)
    · exact s3 x hx y hy
theorem push_extract {xs : Array Keyed} {i : Nat} {x : Keyed} (h : xs[i]? = some x) : o.push x = o ++ xs.extract i (i + 1) := by
  apply Array.toList_inj.mp
  rw [Array.toList_append, extract_k, Array.toList_push]
  congr 1
  have hi : i < xs.toList.length := by
    have := (Array.getElem?_eq_some_iff.mp h).1; simpa using this
  rw [List.drop_eq_getElem_cons hi]
  have : xs.toList[i] = x := by
    obtain ⟨h1, h2⟩ := Array.getElem?_eq_some_iff.mp h
    simpa using h2
  rw [this]; rfl
theorem MI.done_b (h : MI kf a b o ia ib) (sa : SortedL kf a.toList) (hb : b.size ≤ ib) : Res kf a b (o ++ a.extract ia a.size ++ b.extract ib b.size) := by
  have e : b.toList.drop ib = [] := List.drop_eq_nil_of_le (by simpa using hb)
  unfold Res
  rw [Array.toList_append, Array.toList_append, extract_all, extract_all]
  refine ⟨h.perm, ?_⟩
  rw [e, List.append_nil]
  exact List.pairwise_append.mpr ⟨h.so, List.Pairwise.drop sa, h.oa⟩
theorem MI.done_a (h : MI kf a b o ia ib) (sb : SortedL kf b.toList) (ha : a.size ≤ ia) : Res kf a b (o ++ a.extract ia a.size ++ b.extract ib b.size) := by
  have e : a.toList.drop ia = [] := List.drop_eq_nil_of_le (by simpa using ha)
  unfold Res
  rw [Array.toList_append, Array.toList_append, extract_all, extract_all]
  refine ⟨h.perm, ?_⟩
  rw [e, List.append_nil]
  exact List.pairwise_append.mpr ⟨h.so, List.Pairwise.drop sb, h.ob⟩
theorem MI.last (h : MI kf a b o ia ib) (sa : SortedL kf a.toList) (sb : SortedL kf b.toList) (hl : ∀ y ∈ b.toList, ∀ x ∈ a.toList.drop ia, LeK kf y x) : Res kf a b (o ++ b.extract ib b.size ++ a.extract ia a.size) := by
  unfold Res
  rw [Array.toList_append, Array.toList_append, extract_all, extract_all]
  refine ⟨List.Perm.trans ?_ h.perm, sorted3 h.so (List.Pairwise.drop sb) (List.Pairwise.drop sa) h.ob h.oa fun u hu v hv => hl u (List.mem_of_mem_drop hu) v hv⟩
  rw [List.append_assoc, List.append_assoc]
  exact List.Perm.append_left _ List.perm_append_comm
end

section
variable {kf : Keyed → Int} {xs : Array Keyed} {i k : Nat} {x p : Keyed}
theorem mem_dr (h : x ∈ xs.toList.drop i) : ∃ j, i + j < xs.size ∧ xs[i + j]? = some x := by
  obtain ⟨j, hj, e⟩ := List.getElem_of_mem h
  rw [List.getElem_drop] at e
  rw [List.length_drop] at hj
  have hj' : i + j < xs.size := by simpa using (show i + j < xs.toList.length by omega)
  exact ⟨j, hj', by rw [Array.getElem?_eq_getElem hj']; simpa using e⟩
theorem mem_tk (h : x ∈ (xs.toList.drop i).take k) : ∃ j, j < k ∧ i + j < xs.size ∧ xs[i + j]? = some x := by
  obtain ⟨j, hj, e⟩ := List.getElem_of_mem h
  rw [List.getElem_take, List.getElem_drop] at e
  rw [List.length_take, List.length_drop] at hj
  have hj' : i + j < xs.size := by simpa using (show i + j < xs.toList.length by omega)
  exact ⟨j, by omega, hj', by rw [Array.getElem?_eq_getElem hj']; simpa using e⟩
theorem sorted_at (hs : SortedL kf xs.toList) {j l : Nat} {q : Keyed} (hjl : j ≤ l) (hp : xs[j]? = some p) (hq : xs[l]? = some q) : LeK kf p q := by
  rcases Nat.eq_or_lt_of_le hjl with h | h
  · subst h; rw [hp] at hq; cases hq; exact Int.le_refl _
  · obtain ⟨h1, e1⟩ := Array.getElem?_eq_some_iff.mp hp
    obtain ⟨h2, e2⟩ := Array.getElem?_eq_some_iff.mp hq
    have := List.pairwise_iff_getElem.mp hs j l (by simpa using h1) (by simpa using h2) h
    rw [← e1, ← e2]; simpa using this
theorem sorted_dr (hs : SortedL kf xs.toList) (hp : xs[i]? = some p) : ∀ y ∈ xs.toList.drop i, LeK kf p y := fun y hy => by
  obtain ⟨j, _, e⟩ := mem_dr hy
  exact sorted_at hs (Nat.le_add_right i j) hp e
theorem Sd_of_sorted (hs : SortedL kf xs.toList) (j l : Nat) (hl : l ≤ xs.size) : Sd kf xs j l := fun p q _ h2 h3 => by
  have hq : q < xs.size := by omega
  have hp : p < xs.size := by omega
  rw [KF_some (Array.getElem?_eq_getElem hp), KF_some (Array.getElem?_eq_getElem hq)]
  exact sorted_at hs h2 (Array.getElem?_eq_getElem hp) (Array.getElem?_eq_getElem hq)
end

section
variable {prog : Program} {w : World} {A : Around} {E : Value → Shared → Prop} {s : Shared} {a₀ : Array Keyed} {kf : Keyed → Int} {κ : SortKind}

theorem wS_setMin {st : SortSt} {g : Nat} {Q : Unit → SortSt → Prop} (h : Q () (SortSt.mk' (kindOf st) (arrOf st) (pendingOf st) g (failedOf st))) : wpS (model prog w) A E s (setMinGallop' g) Q st := by
  exact wpS_modify h

structure Same (a₀ : Array Keyed) (κ : SortKind) (st st' : SortSt) : Prop where
  sb : SB a₀ κ st'
  arr : arrOf st' = arrOf st
  pend : pendingOf st' = pendingOf st
theorem Same.min {st st' : SortSt} (h : Same a₀ κ st st') (g : Nat) : Same a₀ κ st (SortSt.mk' (kindOf st') (arrOf st') (pendingOf st') g (failedOf st')) := ⟨⟨h.sb.perm, h.sb.kind, h.sb.failed⟩, h.arr, h.pend⟩

theorem wS_mergeLo (C : Cmp prog w A s a₀ kf κ) {st : SortSt} {a b : Array Keyed} {Q : Array Keyed → SortSt → Prop} (hB : SB a₀ κ st) (hma : ∀ x ∈ a.toList, x ∈ a₀) (hmb : ∀ x ∈ b.toList, x ∈ a₀)
    (sa : SortedL kf a.toList) (sb : SortedL kf b.toList) (ha : 0 < a.size) (hb : 0 < b.size) (h0 : ∀ p, b[0]? = some p → ∀ y ∈ a.toList, LeK kf p y) (hl : ∀ y ∈ b.toList, ∀ x, a[a.size - 1]? = some x → LeK kf y x)
    (h : ∀ r st', Res kf a b r → Same a₀ κ st st' → Q r st') : wpS (model prog w) A E s (mergeLo' a b) Q st := by
  have getA : ∀ i, i < a.size → ∃ p, a[i]? = some p ∧ p ∈ a₀ := fun i hi => ⟨a[i], Array.getElem?_eq_getElem hi, hma _ (by simp)⟩
  have getB : ∀ i, i < b.size → ∃ p, b[i]? = some p ∧ p ∈ a₀ := fun i hi => ⟨b[i], Array.getElem?_eq_getElem hi, hmb _ (by simp)⟩
  have hlast : ∀ i, i + 1 = a.size → ∀ y ∈ b.toList, ∀ x ∈ a.toList.drop i, LeK kf y x := fun i hi y hy x hx => by
    obtain ⟨j, h1, h2⟩ := mem_dr hx
    exact hl y hy x (by rw [show a.size - 1 = i + j by omega]; exact h2)
  obtain ⟨b0, eb0, hb0⟩ := getB 0 hb
  have S0 : Same a₀ κ st st := ⟨hB, rfl, rfl⟩
  have M0 : MI kf a b #[b0] 0 1 := by
    have m : MI kf a b #[] 0 0 := ⟨by simp, List.Pairwise.nil, fun x hx => by simp at hx, fun x hx => by simp at hx⟩
    have := m.takeB sb 1 (fun x hx y hy => by
      obtain ⟨j, h1, h2, h3⟩ := mem_tk hx
      have : j = 0 := by omega
      subst this
      exact h0 x h3 y (by simpa using hy))
    rw [← push_extract (x := b0) eb0] at this
    simpa using this
  refine wpS_bind (wpS_lift (wpAny_rule ⟨rfl, ?_⟩))
  refine wpS_bind (wS_elem eb0 ?_)
  refine wS_if (fun h1 => ?_) (fun h1 => ?_)
  · exact wpS_pure (h _ _ (M0.done_b sa (by simp at h1; omega)) S0)
  have h1' : 1 < b.size := by simp at h1; omega
  refine wS_if (fun h2 => ?_) (fun h2 => ?_)
  · exact wpS_pure (h _ _ (M0.last sa sb (hlast 0 (by simp at h2; omega))) S0)
  have h2' : 0 + 1 < a.size := by simp at h2; omega
  refine wpS_bind (wpS_get ?_)
  refine wpS_bind (wpS_mono (wpS_forRange
    (I := fun x c st' => Same a₀ κ st st' ∧ ∃ out ia ib mg, c = (none, out, ia, ib, mg) ∧ MI kf a b out ia ib ∧ ia + 1 < a.size ∧ ib < b.size ∧ x + 1 ≤ ia + ib)
    (Q := fun c st' => Same a₀ κ st st' ∧ ∃ r out ia ib mg, c = (some r, out, ia, ib, mg) ∧ Res kf a b r) ?step ?fin ⟨S0, _, _, _, _, rfl, M0, h2', h1', by omega⟩) ?post)
  case fin =>
    rintro c st' ⟨_, out, ia, ib, mg, _, _, _, _, _⟩
    omega
  case post =>
    rintro c st' ⟨hS, r, out, ia, ib, mg, rfl, hr⟩
    exact wpS_pure (h r st' hr hS)
  case step =>
    rintro x c st' _ hx ⟨hS, out, ia, ib, mg, rfl, M, hia, hib, hp⟩
    refine wpS_bind (wpS_mono (wpS_forRange
      (I := fun y c st'' => st'' = st' ∧ ∃ out ia' ib' ac bc, c = (none, out, ia', ib', ac, bc) ∧ MI kf a b out ia' ib' ∧ ia' + 1 < a.size ∧ ib' < b.size ∧ ia + ib + y ≤ ia' + ib')
      (Q := fun c st'' => st'' = st' ∧ ((∃ r out ia' ib' ac bc, c = (some r, out, ia', ib', ac, bc) ∧ Res kf a b r) ∨
        ∃ out ia' ib' ac bc, c = (none, out, ia', ib', ac, bc) ∧ MI kf a b out ia' ib' ∧ ia' + 1 < a.size ∧ ib' < b.size ∧ ia + ib + 1 ≤ ia' + ib')) ?step1 ?fin1 ⟨rfl, out, ia, ib, 0, 0, rfl, M, hia, hib, by omega⟩) ?post1)
    case fin1 =>
      rintro c st'' ⟨rfl, out, ia', ib', ac, bc, rfl, M, a1, a2, a3⟩
      exact ⟨rfl, .inr ⟨out, ia', ib', ac, bc, rfl, M, a1, a2, by omega⟩⟩
    case step1 =>
      rintro y c st'' _ hy ⟨rfl, out, ia', ib', ac, bc, rfl, M, a1, a2, a3⟩
      obtain ⟨pb, epb, hpb⟩ := getB ib' a2
      obtain ⟨pa, epa, hpa⟩ := getA ia' (by omega)
      refine wpS_bind (wS_elem epb (wpS_bind (wS_elem epa (wpS_bind (wS_lt C hS.sb hpb hpa ?_)))))
      refine wS_if (fun hw => ?_) (fun hw => ?_)
      · have hw' : kf pb < kf pa := by simpa using hw
        have M' : MI kf a b (out.push pb) ia' (ib' + 1) := by
          rw [push_extract epb]
          refine M.takeB sb 1 fun x hx y hy => ?_
          obtain ⟨j, b1, b2, b3⟩ := mem_tk hx
          have : j = 0 := by omega
          subst this
          rw [Nat.add_zero, epb] at b3; cases b3
          have := sorted_dr sa epa y hy
          unfold LeK at *; omega
        refine wpS_bind (wS_elem epb ?_)
        refine wS_if (fun he => ?_) (fun he => ?_)
        · exact wpS_pure ⟨rfl, .inl ⟨_, _, _, _, _, _, rfl, M'.done_b sa (by simp at he; omega)⟩⟩
        have he' : ib' + 1 < b.size := by simp at he; omega
        refine wS_if (fun _ => ?_) (fun _ => ?_)
        · exact wpS_pure ⟨rfl, .inr ⟨out.push pb, ia', ib' + 1, 0, bc + 1, rfl, M', a1, he', by omega⟩⟩
        · exact wpS_pure ⟨rfl, out.push pb, ia', ib' + 1, 0, bc + 1, rfl, M', a1, he', by omega⟩
      · have hw' : kf pa ≤ kf pb := by simpa using hw
        have M' : MI kf a b (out.push pa) (ia' + 1) ib' := by
          rw [push_extract epa]
          refine M.takeA sa 1 fun x hx y hy => ?_
          obtain ⟨j, b1, b2, b3⟩ := mem_tk hx
          have : j = 0 := by omega
          subst this
          rw [Nat.add_zero, epa] at b3; cases b3
          have := sorted_dr sb epb y hy
          unfold LeK at *; omega
        refine wpS_bind (wS_elem epa ?_)
        refine wS_if (fun he => ?_) (fun he => ?_)
        · exact wpS_pure ⟨rfl, .inl ⟨_, _, _, _, _, _, rfl, M'.last sa sb (hlast _ (by simp at he; omega))⟩⟩
        have he' : ia' + 1 + 1 < a.size := by simp at he; omega
        refine wS_if (fun _ => ?_) (fun _ => ?_)
        · exact wpS_pure ⟨rfl, .inr ⟨out.push pa, ia' + 1, ib', ac + 1, 0, rfl, M', he', a2, by omega⟩⟩
        · exact wpS_pure ⟨rfl, out.push pa, ia' + 1, ib', ac + 1, 0, rfl, M', he', a2, by omega⟩
    case post1 =>
      rintro c st'' ⟨rfl, ⟨r, out, ia', ib', ac, bc, rfl, hr⟩ | ⟨out, ia', ib', ac, bc, rfl, M, a1, a2, a3⟩⟩
      · exact wpS_pure ⟨hS, _, _, _, _, _, rfl, hr⟩
      · refine wpS_bind (wpS_lift (wpAny_rule ⟨rfl, ?_⟩))
        refine wpS_bind (wpS_mono (wpS_forRange
          (I := fun _ c st'' => Same a₀ κ st st'' ∧ ∃ out ia' ib' mg ac bc, c = (none, out, ia', ib', mg, ac, bc) ∧ MI kf a b out ia' ib' ∧ ia' + 1 < a.size ∧ ib' < b.size ∧ ia + ib + 1 ≤ ia' + ib')
          (Q := fun c st'' => Same a₀ κ st st'' ∧ ((∃ r out ia' ib' mg ac bc, c = (some r, out, ia', ib', mg, ac, bc) ∧ Res kf a b r) ∨
            ∃ out ia' ib' mg ac bc, c = (none, out, ia', ib', mg, ac, bc) ∧ MI kf a b out ia' ib' ∧ ia' + 1 < a.size ∧ ib' < b.size ∧ ia + ib + 1 ≤ ia' + ib')) ?step2 ?fin2 ⟨hS, _, _, _, _, _, _, rfl, M, a1, a2, a3⟩) ?post2)
        case fin2 =>
          rintro c st'' ⟨hS, out, ia', ib', mg, ac, bc, rfl, M, a1, a2, a3⟩
          exact ⟨hS, .inr ⟨_, _, _, _, _, _, rfl, M, a1, a2, a3⟩⟩
        case post2 =>
          rintro c st'' ⟨hS, ⟨r, out, ia', ib', mg, ac, bc, rfl, hr⟩ | ⟨out, ia', ib', mg, ac, bc, rfl, M, a1, a2, a3⟩⟩
          · exact wpS_pure ⟨hS, _, _, _, _, _, rfl, hr⟩
          · exact wpS_bind (wS_setMin (wpS_pure ⟨hS.min _, out, ia', ib', mg + 1, rfl, M, a1, a2, by omega⟩))
        case step2 =>
          rintro y c st'' _ hy ⟨hS, out, ia', ib', mg, ac, bc, rfl, M, a1, a2, a3⟩
          obtain ⟨pb, epb, hpb⟩ := getB ib' a2
          refine wS_if (fun _ => ?_) (fun _ => ?_)
          all_goals
            refine wpS_bind (wS_setMin ?_)
            have hS1 := hS.min
            refine wpS_bind (wS_elem epb (wpS_bind (wS_gallop (arr := a) (base := ia') (n := a.size - ia') (hint := 0) C (hS.min _).sb hpb (fun i hi => getA _ (by omega)) (Sd_of_sorted sa _ _ (by omega)) (by omega) fun k hk hlo hhi => ?_)))
            have hlo' : ∀ i, i < k → KF kf a (ia' + i) ≤ kf pb := fun i hi => by have := hlo i hi; unfold Bp at this; simpa using this
            have hhi' : ∀ i, k ≤ i → i < a.size - ia' → kf pb < KF kf a (ia' + i) := fun i h1 h2 => by have := hhi i h1 h2; unfold Bp at this; simpa using this
            have Mk : MI kf a b (out ++ a.extract ia' (ia' + k)) (ia' + k) ib' := M.takeA sa k fun x hx y hy => by
              obtain ⟨j, b1, b2, b3⟩ := mem_tk hx
              have c1 := hlo' j b1
              rw [KF_some b3] at c1
              have c2 := sorted_dr sb epb y hy
              unfold LeK at *; omega
            have pushB : ∀ (out2 : Array Keyed) (ia2 : Nat), MI kf a b out2 ia2 ib' → ia2 = ia' + k → ia2 < a.size → MI kf a b (out2.push pb) ia2 (ib' + 1) := by
              intro out2 ia2 M2 e2 l2
              rw [push_extract epb]
              refine M2.takeB sb 1 fun x hx y hy => ?_
              obtain ⟨j, b1, b2, b3⟩ := mem_tk hx
              have : j = 0 := by omega
              subst this
              rw [Nat.add_zero, epb] at b3; cases b3
              obtain ⟨pa, epa, _⟩ := getA ia2 l2
              have c1 := sorted_dr sa epa y hy
              have c2 := hhi' k (Nat.le_refl _) (by omega)
              rw [← e2, KF_some epa] at c2
              unfold LeK at *; omega
            refine wS_if (fun hk0 => ?_) (fun hk0 => ?_)
            · refine wS_if (fun e1 => ?_) (fun e1 => ?_)
              · exact wpS_pure ⟨hS.min _, .inl ⟨_, _, _, _, _, _, _, rfl, Mk.last sa sb (hlast _ (by simpa using e1))⟩⟩
              refine wS_if (fun e2 => ?_) (fun e2 => ?_)
              · exact wpS_pure ⟨hS.min _, .inl ⟨_, _, _, _, _, _, _, rfl, Mk.done_a sb (by simp at e2; omega)⟩⟩
              have l2 : ia' + k + 1 < a.size := by simp at e1 e2; omega
              have Mp := pushB _ _ Mk rfl (by omega)
              refine wpS_bind (wS_elem epb ?_)
              refine wS_if (fun e3 => ?_) (fun e3 => ?_)
              · exact wpS_pure ⟨hS.min _, .inl ⟨_, _, _, _, _, _, _, rfl, Mp.done_b sa (by simp at e3; omega)⟩⟩
              have l3 : ib' + 1 < b.size := by simp at e3; omega
              obtain ⟨pa, epa, hpa⟩ := getA (ia' + k) (by omega)
              refine wpS_bind (wS_elem epa (wpS_bind (wS_gallop (arr := b) (base := ib' + 1) (n := b.size - (ib' + 1)) (hint := 0) C (hS.min _).sb hpa (fun i hi => getB _ (by omega)) (Sd_of_sorted sb _ _ (by omega)) (by omega) fun k1 hk1 glo ghi => ?_)))
              have glo' : ∀ i, i < k1 → KF kf b (ib' + 1 + i) < kf pa := fun i hi => by have := glo i hi; unfold Bp at this; simpa using this
              have ghi' : ∀ i, k1 ≤ i → i < b.size - (ib' + 1) → kf pa ≤ KF kf b (ib' + 1 + i) := fun i h1 h2 => by have := ghi i h1 h2; unfold Bp at this; simpa using this
              have Mq : MI kf a b ((out ++ a.extract ia' (ia' + k)).push pb ++ b.extract (ib' + 1) (ib' + 1 + k1)) (ia' + k) (ib' + 1 + k1) := Mp.takeB sb k1 fun x hx y hy => by
                obtain ⟨j, b1, b2, b3⟩ := mem_tk hx
                have c1 := glo' j b1
                rw [KF_some b3] at c1
                have c2 := sorted_dr sa epa y hy
                unfold LeK at *; omega
              have pushA : ∀ (out3 : Array Keyed) (ib3 : Nat), MI kf a b out3 (ia' + k) ib3 → ib3 = ib' + 1 + k1 → ib3 < b.size → MI kf a b (out3.push pa) (ia' + k + 1) ib3 := by
                intro out3 ib3 M3 e3' l3'
                rw [push_extract epa]
                refine M3.takeA sa 1 fun x hx y hy => ?_
                obtain ⟨j, b1, b2, b3⟩ := mem_tk hx
                have : j = 0 := by omega
                subst this
                rw [Nat.add_zero, epa] at b3; cases b3
                obtain ⟨pq, epq, _⟩ := getB ib3 l3'
                have c1 := sorted_dr sb epq y hy
                have c2 := ghi' k1 (Nat.le_refl _) (by omega)
                rw [← e3', KF_some epq] at c2
                unfold LeK at *; omega
              refine wS_if (fun hk3 => ?_) (fun hk3 => ?_)
              · refine wS_if (fun e4 => ?_) (fun e4 => ?_)
                · exact wpS_pure ⟨hS.min _, .inl ⟨_, _, _, _, _, _, _, rfl, Mq.done_b sa (by simp at e4; omega)⟩⟩
                have l4 : ib' + 1 + k1 < b.size := by simp at e4; omega
                have Mr := pushA ((out ++ a.extract ia' (ia' + k)).push pb ++ b.extract (ib' + 1) (ib' + 1 + k1)) (ib' + 1 + k1) Mq (by omega) l4
                refine wpS_bind (wS_elem epa ?_)
                refine wS_if (fun e5 => ?_) (fun e5 => ?_)
                · exact wpS_pure ⟨hS.min _, .inl ⟨_, _, _, _, _, _, _, rfl, Mr.last sa sb (hlast _ (by simpa using e5))⟩⟩
                have l5 : ia' + k + 1 + 1 < a.size := by simp at e5; omega
                refine wS_if (fun _ => ?_) (fun _ => ?_)
                · exact wpS_pure ⟨hS.min _, .inr ⟨((out ++ a.extract ia' (ia' + k)).push pb ++ b.extract (ib' + 1) (ib' + 1 + k1)).push pa, ia' + k + 1, ib' + 1 + k1, _, k, k1, rfl, Mr, l5, l4, by omega⟩⟩
                · exact wpS_pure ⟨hS.min _, ((out ++ a.extract ia' (ia' + k)).push pb ++ b.extract (ib' + 1) (ib' + 1 + k1)).push pa, ia' + k + 1, ib' + 1 + k1, _, k, k1, rfl, Mr, l5, l4, by omega⟩
              · have hk3' : k1 = 0 := by omega
                have l4 : ib' + 1 < b.size := by omega
                have Mr := pushA ((out ++ a.extract ia' (ia' + k)).push pb) (ib' + 1) Mp (by omega) l4
                refine wpS_bind (wS_elem epa ?_)
                refine wS_if (fun e5 => ?_) (fun e5 => ?_)
                · exact wpS_pure ⟨hS.min _, .inl ⟨_, _, _, _, _, _, _, rfl, Mr.last sa sb (hlast _ (by simpa using e5))⟩⟩
                have l5 : ia' + k + 1 + 1 < a.size := by simp at e5; omega
                refine wS_if (fun _ => ?_) (fun _ => ?_)
                · exact wpS_pure ⟨hS.min _, .inr ⟨((out ++ a.extract ia' (ia' + k)).push pb).push pa, ia' + k + 1, ib' + 1, _, k, k1, rfl, Mr, l5, l4, by omega⟩⟩
                · exact wpS_pure ⟨hS.min _, ((out ++ a.extract ia' (ia' + k)).push pb).push pa, ia' + k + 1, ib' + 1, _, k, k1, rfl, Mr, l5, l4, by omega⟩
            · have hk0' : k = 0 := by omega
              have l2 : ia' + 1 < a.size := a1
              have Mp := pushB out ia' M (by omega) (by omega)
              refine wpS_bind (wS_elem epb ?_)
              refine wS_if (fun e3 => ?_) (fun e3 => ?_)
              · exact wpS_pure ⟨hS.min _, .inl ⟨_, _, _, _, _, _, _, rfl, Mp.done_b sa (by simp at e3; omega)⟩⟩
              have l3 : ib' + 1 < b.size := by simp at e3; omega
              obtain ⟨pa, epa, hpa⟩ := getA (ia') (by omega)
              refine wpS_bind (wS_elem epa (wpS_bind (wS_gallop (arr := b) (base := ib' + 1) (n := b.size - (ib' + 1)) (hint := 0) C (hS.min _).sb hpa (fun i hi => getB _ (by omega)) (Sd_of_sorted sb _ _ (by omega)) (by omega) fun k1 hk1 glo ghi => ?_)))
              have glo' : ∀ i, i < k1 → KF kf b (ib' + 1 + i) < kf pa := fun i hi => by have := glo i hi; unfold Bp at this; simpa using this
              have ghi' : ∀ i, k1 ≤ i → i < b.size - (ib' + 1) → kf pa ≤ KF kf b (ib' + 1 + i) := fun i h1 h2 => by have := ghi i h1 h2; unfold Bp at this; simpa using this
              have Mq : MI kf a b (out.push pb ++ b.extract (ib' + 1) (ib' + 1 + k1)) (ia') (ib' + 1 + k1) := Mp.takeB sb k1 fun x hx y hy => by
                obtain ⟨j, b1, b2, b3⟩ := mem_tk hx
                have c1 := glo' j b1
                rw [KF_some b3] at c1
                have c2 := sorted_dr sa epa y hy
                unfold LeK at *; omega
              have pushA : ∀ (out3 : Array Keyed) (ib3 : Nat), MI kf a b out3 (ia') ib3 → ib3 = ib' + 1 + k1 → ib3 < b.size → MI kf a b (out3.push pa) (ia' + 1) ib3 := by
                intro out3 ib3 M3 e3' l3'
                rw [push_extract epa]
                refine M3.takeA sa 1 fun x hx y hy => ?_
                obtain ⟨j, b1, b2, b3⟩ := mem_tk hx
                have : j = 0 := by omega
                subst this
                rw [Nat.add_zero, epa] at b3; cases b3
                obtain ⟨pq, epq, _⟩ := getB ib3 l3'
                have c1 := sorted_dr sb epq y hy
                have c2 := ghi' k1 (Nat.le_refl _) (by omega)
                rw [← e3', KF_some epq] at c2
                unfold LeK at *; omega
              refine wS_if (fun hk3 => ?_) (fun hk3 => ?_)
              · refine wS_if (fun e4 => ?_) (fun e4 => ?_)
                · exact wpS_pure ⟨hS.min _, .inl ⟨_, _, _, _, _, _, _, rfl, Mq.done_b sa (by simp at e4; omega)⟩⟩
                have l4 : ib' + 1 + k1 < b.size := by simp at e4; omega
                have Mr := pushA (out.push pb ++ b.extract (ib' + 1) (ib' + 1 + k1)) (ib' + 1 + k1) Mq (by omega) l4
                refine wpS_bind (wS_elem epa ?_)
                refine wS_if (fun e5 => ?_) (fun e5 => ?_)
                · exact wpS_pure ⟨hS.min _, .inl ⟨_, _, _, _, _, _, _, rfl, Mr.last sa sb (hlast _ (by simpa using e5))⟩⟩
                have l5 : ia' + 1 + 1 < a.size := by simp at e5; omega
                refine wS_if (fun _ => ?_) (fun _ => ?_)
                · exact wpS_pure ⟨hS.min _, .inr ⟨(out.push pb ++ b.extract (ib' + 1) (ib' + 1 + k1)).push pa, ia' + 1, ib' + 1 + k1, _, k, k1, rfl, Mr, l5, l4, by omega⟩⟩
                · exact wpS_pure ⟨hS.min _, (out.push pb ++ b.extract (ib' + 1) (ib' + 1 + k1)).push pa, ia' + 1, ib' + 1 + k1, _, k, k1, rfl, Mr, l5, l4, by omega⟩
              · have hk3' : k1 = 0 := by omega
                have l4 : ib' + 1 < b.size := by omega
                have Mr := pushA (out.push pb) (ib' + 1) Mp (by omega) l4
                refine wpS_bind (wS_elem epa ?_)
                refine wS_if (fun e5 => ?_) (fun e5 => ?_)
                · exact wpS_pure ⟨hS.min _, .inl ⟨_, _, _, _, _, _, _, rfl, Mr.last sa sb (hlast _ (by simpa using e5))⟩⟩
                have l5 : ia' + 1 + 1 < a.size := by simp at e5; omega
                refine wS_if (fun _ => ?_) (fun _ => ?_)
                · exact wpS_pure ⟨hS.min _, .inr ⟨(out.push pb).push pa, ia' + 1, ib' + 1, _, k, k1, rfl, Mr, l5, l4, by omega⟩⟩
                · exact wpS_pure ⟨hS.min _, (out.push pb).push pa, ia' + 1, ib' + 1, _, k, k1, rfl, Mr, l5, l4, by omega⟩
end
end Mine
end

-- part S5
section
open PySem PySem.W PySem.Calls PyProof.Rows
set_option Elab.async false
set_option maxRecDepth 100000
set_option maxHeartbeats 2000000
namespace Mine

section
variable {kf : Keyed → Int} {a b o : Array Keyed} {na nb : Nat}
structure MH (kf : Keyed → Int) (a b o : Array Keyed) (na nb : Nat) : Prop where
  perm : (a.toList.take na ++ b.toList.take nb ++ o.toList.reverse).Perm (a.toList ++ b.toList)
  so : SortedL kf o.toList.reverse
  oa : ∀ x ∈ a.toList.take na, ∀ y ∈ o.toList.reverse, LeK kf x y
  ob : ∀ x ∈ b.toList.take nb, ∀ y ∈ o.toList.reverse, LeK kf x y

theorem extract_0 (xs : Array Keyed) (i : Nat) : (xs.extract 0 i).toList = xs.toList.take i := by
  rw [Array.toList_extract]
  simp [List.extract]
theorem extract_r (xs : Array Keyed) (i k : Nat) : (o ++ (xs.extract i k).reverse).toList.reverse = (xs.toList.drop i).take (k - i) ++ o.toList.reverse := by
  rw [Array.toList_append, List.reverse_append, Array.toList_reverse, List.reverse_reverse, Array.toList_extract]
theorem take_split {xs : List Keyed} {i n : Nat} (h : i ≤ n) : xs.take n = xs.take i ++ (xs.drop i).take (n - i) := by
  have e := (List.take_append_drop i (xs.take n)).symm
  rw [List.take_take, Nat.min_eq_left h, List.drop_take] at e
  exact e
theorem MH.takeA (h : MH kf a b o na nb) (sa : SortedL kf a.toList) (i : Nat) (hi : i ≤ na) (hk : ∀ x ∈ b.toList.take nb, ∀ y ∈ (a.toList.drop i).take (na - i), LeK kf x y) : MH kf a b (o ++ (a.extract i na).reverse) i nb := by
  have e := take_split (xs := a.toList) hi
  have sd : SortedL kf (a.toList.take na) := List.Pairwise.take sa
  rw [e] at sd
  obtain ⟨s1, s2, s3⟩ := List.pairwise_append.mp sd
  have hoa := h.oa
  rw [e] at hoa
  refine ⟨?_, ?_, ?_, ?_⟩
  · rw [extract_r]
    refine List.Perm.trans ?_ h.perm
    rw [e]
    simp only [List.append_assoc]
    refine List.Perm.append_left _ ?_
    rw [← List.append_assoc, ← List.append_assoc]
    exact List.Perm.append_right _ List.perm_append_comm
  · rw [extract_r]; exact List.pairwise_append.mpr ⟨s2, h.so, fun x hx y hy => hoa x (List.mem_append_right _ hx) y hy⟩
  · rw [extract_r]
    intro x hx y hy
    rcases List.mem_append.mp hy with hy | hy
    · exact s3 x hx y hy
    · exact hoa x (List.mem_append_left _ hx) y hy
  · rw [extract_r]
    intro x hx y hy
    rcases List.mem_append.mp hy with hy | hy
    · exact hk x hx y hy
    · exact h.ob x hx y hy
theorem MH.takeB (h : MH kf a b o na nb) (sb : SortedL kf b.toList) (i : Nat) (hi : i ≤ nb) (hk : ∀ x ∈ a.toList.take na, ∀ y ∈ (b.toList.drop i).take (nb - i), LeK kf x y) : MH kf a b (o ++ (b.extract i nb).reverse) na i := by
  have e := take_split (xs := b.toList) hi
  have sd : SortedL kf (b.toList.take nb) := List.Pairwise.take sb
  rw [e] at sd
  obtain ⟨s1, s2, s3⟩ := List.pairwise_append.mp sd
  have hob := h.ob
  rw [e] at hob
  refine ⟨?_, ?_, ?_, ?_⟩
  · rw [extract_r]
    refine List.Perm.trans ?_ h.perm
    rw [e]
    simp only [List.append_assoc]
    exact List.Perm.refl _
  · rw [extract_r]; exact List.pairwise_append.mpr ⟨s2, h.so, fun x hx y hy => hob x (List.mem_append_right _ hx) y hy⟩
  · rw [extract_r]
    intro x hx y hy
    rcases List.mem_append.mp hy with hy | hy
    · exact hk x hx y hy
    · exact h.oa x hx y hy
  · rw [extract_r]
    intro x hx y hy
    rcases List.mem_append.mp hy with hy | hy
    · exact s3 x hx y hy
    · exact hob x (List.mem_append_left _ hx) y hy
theorem push_extractR {xs : Array Keyed} {i : Nat} {x : Keyed} (h : xs[i]? = some x) : o.push x = o ++ (xs.extract i (i + 1)).reverse := by
  have := push_extract (o := #[]) h
  have e : xs.extract i (i + 1) = #[x] := by simpa using this.symm
  rw [e]; simp
theorem mem_tk0 {xs : Array Keyed} {n : Nat} {x : Keyed} (h : x ∈ xs.toList.take n) : ∃ j, j < n ∧ j < xs.size ∧ xs[j]? = some x := by
  obtain ⟨j, h1, h2, h3⟩ := mem_tk (i := 0) (by simpa using h)
  rw [Nat.zero_add] at h2 h3
  exact ⟨j, h1, h2, h3⟩
theorem sorted_tk {xs : Array Keyed} {i : Nat} {p : Keyed} (hs : SortedL kf xs.toList) (hp : xs[i]? = some p) : ∀ x ∈ xs.toList.take (i + 1), LeK kf x p := fun x hx => by
  obtain ⟨j, h1, _, e⟩ := mem_tk0 hx
  exact sorted_at hs (by omega) e hp
theorem MH.done_a (h : MH kf a b o na nb) (sb : SortedL kf b.toList) (ha : na = 0) : Res kf a b (a.extract 0 na ++ b.extract 0 nb ++ o.reverse) := by
  subst ha
  unfold Res
  rw [Array.toList_append, Array.toList_append, extract_0, extract_0, Array.toList_reverse]
  refine ⟨h.perm, ?_⟩
  rw [List.take_zero, List.nil_append]
  exact List.pairwise_append.mpr ⟨List.Pairwise.take sb, h.so, h.ob⟩
theorem MH.done_b (h : MH kf a b o na nb) (sa : SortedL kf a.toList) (hb : nb = 0) : Res kf a b (a.extract 0 na ++ b.extract 0 nb ++ o.reverse) := by
  subst hb
  unfold Res
  rw [Array.toList_append, Array.toList_append, extract_0, extract_0, Array.toList_reverse]
  refine ⟨h.perm, ?_⟩
  rw [List.take_zero, List.append_nil]
  exact List.pairwise_append.mpr ⟨List.Pairwise.take sa, h.so, h.oa⟩
theorem MH.first (h : MH kf a b o na nb) (sa : SortedL kf a.toList) (sb : SortedL kf b.toList) (hl : ∀ x ∈ b.toList.take nb, ∀ y ∈ a.toList, LeK kf x y) : Res kf a b (b.extract 0 nb ++ a.extract 0 na ++ o.reverse) := by
  unfold Res
  rw [Array.toList_append, Array.toList_append, extract_0, extract_0, Array.toList_reverse]
  refine ⟨List.Perm.trans (List.Perm.append_right _ List.perm_append_comm) h.perm, sorted3 (List.Pairwise.take sb) (List.Pairwise.take sa) h.so (fun u hu v hv => hl u hu v (List.mem_of_mem_take hv)) h.ob h.oa⟩
end

section
variable {prog : Program} {w : World} {A : Around} {E : Value → Shared → Prop} {s : Shared} {a₀ : Array Keyed} {kf : Keyed → Int} {κ : SortKind}

theorem wS_mergeHi (C : Cmp prog w A s a₀ kf κ) {st : SortSt} {a b : Array Keyed} {Q : Array Keyed → SortSt → Prop} (hB : SB a₀ κ st) (hma : ∀ x ∈ a.toList, x ∈ a₀) (hmb : ∀ x ∈ b.toList, x ∈ a₀)
    (sa : SortedL kf a.toList) (sb : SortedL kf b.toList) (ha : 0 < a.size) (hb : 0 < b.size) (h0 : ∀ p, b[0]? = some p → ∀ y ∈ a.toList, LeK kf p y) (hl : ∀ y ∈ b.toList, ∀ x, a[a.size - 1]? = some x → LeK kf y x)
    (h : ∀ r st', Res kf a b r → Same a₀ κ st st' → Q r st') : wpS (model prog w) A E s (mergeHi' a b) Q st := by
  have getA : ∀ i, i < a.size → ∃ p, a[i]? = some p ∧ p ∈ a₀ := fun i hi => ⟨a[i], Array.getElem?_eq_getElem hi, hma _ (by simp)⟩
  have getB : ∀ i, i < b.size → ∃ p, b[i]? = some p ∧ p ∈ a₀ := fun i hi => ⟨b[i], Array.getElem?_eq_getElem hi, hmb _ (by simp)⟩
  have hfirst : ∀ i, i = 1 → ∀ x ∈ b.toList.take i, ∀ y ∈ a.toList, LeK kf x y := fun i hi x hx y hy => by
    obtain ⟨j, h1, _, h2⟩ := mem_tk0 hx
    have : j = 0 := by omega
    subst this
    exact h0 x h2 y hy
  obtain ⟨al, eal, hal⟩ := getA (a.size - 1) (by omega)
  have S0 : Same a₀ κ st st := ⟨hB, rfl, rfl⟩
  have M0 : MH kf a b #[al] (a.size - 1) b.size := by
    have m : MH kf a b #[] a.size b.size := ⟨by simp [List.take_of_length_le], List.Pairwise.nil, fun x _ y hy => by simp at hy, fun x _ y hy => by simp at hy⟩
    have := m.takeA sa (a.size - 1) (by omega) (fun x hx y hy => by
      obtain ⟨j, h1, h2, h3⟩ := mem_tk hy
      have : j = 0 := by omega
      subst this
      exact hl x (List.mem_of_mem_take hx) y h3)
    rw [show (a.extract (a.size - 1) a.size) = a.extract (a.size - 1) (a.size - 1 + 1) by rw [Nat.sub_add_cancel (by omega)], ← push_extractR (x := al) eal] at this
    simpa using this
  refine wpS_bind (wpS_lift (wpAny_rule ⟨rfl, ?_⟩))
  refine wpS_bind (wS_elem eal ?_)
  refine wS_if (fun h1 => ?_) (fun h1 => ?_)
  · exact wpS_pure (h _ _ (M0.done_a sb (by simpa using h1)) S0)
  have h1' : 1 ≤ a.size - 1 := by simp at h1; omega
  refine wS_if (fun h2 => ?_) (fun h2 => ?_)
  · exact wpS_pure (h _ _ (M0.first sa sb (hfirst _ (by simpa using h2))) S0)
  have h2' : 2 ≤ b.size := by simp at h2; omega
  refine wpS_bind (wpS_get ?_)
  refine wpS_bind (wpS_mono (wpS_forRange
    (I := fun x c st' => Same a₀ κ st st' ∧ ∃ out na nb mg, c = (none, na, nb, out, mg) ∧ MH kf a b out na nb ∧ 1 ≤ na ∧ 2 ≤ nb ∧ na + nb + x + 1 ≤ a.size + b.size ∧ na ≤ a.size ∧ nb ≤ b.size)
    (Q := fun c st' => Same a₀ κ st st' ∧ ∃ r out na nb mg, c = (some r, na, nb, out, mg) ∧ Res kf a b r) ?step ?fin ⟨S0, _, _, _, _, rfl, M0, h1', h2', by omega, by omega, by omega⟩) ?post)
  case fin =>
    rintro c st' ⟨_, out, na, nb, mg, _, _, _, _, _, _, _⟩
    omega
  case post =>
    rintro c st' ⟨hS, r, out, na, nb, mg, rfl, hr⟩
    exact wpS_pure (h r st' hr hS)
  case step =>
    rintro x c st' _ hx ⟨hS, out, na, nb, mg, rfl, M, hna, hnb, hp, ga, gb⟩
    refine wpS_bind (wpS_mono (wpS_forRange
      (I := fun y c st'' => st'' = st' ∧ ∃ out na' nb' ac bc, c = (none, na', nb', out, ac, bc) ∧ MH kf a b out na' nb' ∧ 1 ≤ na' ∧ 2 ≤ nb' ∧ na' + nb' + y ≤ na + nb ∧ na' ≤ a.size ∧ nb' ≤ b.size)
      (Q := fun c st'' => st'' = st' ∧ ((∃ r out na' nb' ac bc, c = (some r, na', nb', out, ac, bc) ∧ Res kf a b r) ∨
        ∃ out na' nb' ac bc, c = (none, na', nb', out, ac, bc) ∧ MH kf a b out na' nb' ∧ 1 ≤ na' ∧ 2 ≤ nb' ∧ na' + nb' + 1 ≤ na + nb ∧ na' ≤ a.size ∧ nb' ≤ b.size)) ?step1 ?fin1 ⟨rfl, out, na, nb, 0, 0, rfl, M, hna, hnb, by omega, ga, gb⟩) ?post1)
    case fin1 =>
      rintro c st'' ⟨rfl, out, na', nb', ac, bc, rfl, M, a1, a2, a3, ga, gb⟩
      exact ⟨rfl, .inr ⟨out, na', nb', ac, bc, rfl, M, a1, a2, by omega, ga, gb⟩⟩
    case step1 =>
      rintro y c st'' _ hy ⟨rfl, out, na', nb', ac, bc, rfl, M, a1, a2, a3, ga, gb⟩
      obtain ⟨pb, epb, hpb⟩ := getB (nb' - 1) (by omega)
      obtain ⟨pa, epa, hpa⟩ := getA (na' - 1) (by omega)
      refine wpS_bind (wS_elem epb (wpS_bind (wS_elem epa (wpS_bind (wS_lt C hS.sb hpb hpa ?_)))))
      refine wS_if (fun hw => ?_) (fun hw => ?_)
      · have hw' : kf pb < kf pa := by simpa using hw
        have M' : MH kf a b (out.push pa) (na' - 1) nb' := by
          rw [push_extractR epa, Nat.sub_add_cancel a1]
          refine M.takeA sa (na' - 1) (by omega) fun x hx y hy => ?_
          obtain ⟨j, b1, b2, b3⟩ := mem_tk hy
          have : j = 0 := by omega
          subst this
          rw [Nat.add_zero, epa] at b3; cases b3
          have := sorted_tk sb epb x (by rw [Nat.sub_add_cancel (by omega)]; exact hx)
          unfold LeK at *; omega
        refine wpS_bind (wS_elem epa ?_)
        refine wS_if (fun he => ?_) (fun he => ?_)
        · exact wpS_pure ⟨rfl, .inl ⟨_, _, _, _, _, _, rfl, M'.done_a sb (by simpa using he)⟩⟩
        have he' : 1 ≤ na' - 1 := by simp at he; omega
        refine wS_if (fun _ => ?_) (fun _ => ?_)
        · exact wpS_pure ⟨rfl, .inr ⟨out.push pa, na' - 1, nb', ac + 1, 0, rfl, M', he', a2, by omega, by omega, gb⟩⟩
        · exact wpS_pure ⟨rfl, out.push pa, na' - 1, nb', ac + 1, 0, rfl, M', he', a2, by omega, by omega, gb⟩
      · have hw' : kf pa ≤ kf pb := by simpa using hw
        have M' : MH kf a b (out.push pb) na' (nb' - 1) := by
          rw [push_extractR epb, Nat.sub_add_cancel (by omega)]
          refine M.takeB sb (nb' - 1) (by omega) fun x hx y hy => ?_
          obtain ⟨j, b1, b2, b3⟩ := mem_tk hy
          have : j = 0 := by omega
          subst this
          rw [Nat.add_zero, epb] at b3; cases b3
          have := sorted_tk sa epa x (by rw [Nat.sub_add_cancel a1]; exact hx)
          unfold LeK at *; omega
        refine wpS_bind (wS_elem epb ?_)
        refine wS_if (fun he => ?_) (fun he => ?_)
        · exact wpS_pure ⟨rfl, .inl ⟨_, _, _, _, _, _, rfl, M'.first sa sb (hfirst _ (by simpa using he))⟩⟩
        have he' : 2 ≤ nb' - 1 := by simp at he; omega
        refine wS_if (fun _ => ?_) (fun _ => ?_)
        · exact wpS_pure ⟨rfl, .inr ⟨out.push pb, na', nb' - 1, 0, bc + 1, rfl, M', a1, he', by omega, ga, by omega⟩⟩
        · exact wpS_pure ⟨rfl, out.push pb, na', nb' - 1, 0, bc + 1, rfl, M', a1, he', by omega, ga, by omega⟩
    case post1 =>
      rintro c st'' ⟨rfl, ⟨r, out, na', nb', ac, bc, rfl, hr⟩ | ⟨out, na', nb', ac, bc, rfl, M, a1, a2, a3, ga, gb⟩⟩
      · exact wpS_pure ⟨hS, _, _, _, _, _, rfl, hr⟩
      · refine wpS_bind (wpS_lift (wpAny_rule ⟨rfl, ?_⟩))
        refine wpS_bind (wpS_mono (wpS_forRange
          (I := fun _ c st'' => Same a₀ κ st st'' ∧ ∃ out na' nb' mg ac bc, c = (none, na', nb', out, mg, ac, bc) ∧ MH kf a b out na' nb' ∧ 1 ≤ na' ∧ 2 ≤ nb' ∧ na' + nb' + 1 ≤ na + nb ∧ na' ≤ a.size ∧ nb' ≤ b.size)
          (Q := fun c st'' => Same a₀ κ st st'' ∧ ((∃ r out na' nb' mg ac bc, c = (some r, na', nb', out, mg, ac, bc) ∧ Res kf a b r) ∨
            ∃ out na' nb' mg ac bc, c = (none, na', nb', out, mg, ac, bc) ∧ MH kf a b out na' nb' ∧ 1 ≤ na' ∧ 2 ≤ nb' ∧ na' + nb' + 1 ≤ na + nb ∧ na' ≤ a.size ∧ nb' ≤ b.size)) ?step2 ?fin2 ⟨hS, _, _, _, _, _, _, rfl, M, a1, a2, a3, ga, gb⟩) ?post2)
        case fin2 =>
          rintro c st'' ⟨hS, out, na', nb', mg, ac, bc, rfl, M, a1, a2, a3, ga, gb⟩
          exact ⟨hS, .inr ⟨_, _, _, _, _, _, rfl, M, a1, a2, a3, ga, gb⟩⟩
        case post2 =>
          rintro c st'' ⟨hS, ⟨r, out, na', nb', mg, ac, bc, rfl, hr⟩ | ⟨out, na', nb', mg, ac, bc, rfl, M, a1, a2, a3, ga, gb⟩⟩
          · exact wpS_pure ⟨hS, _, _, _, _, _, rfl, hr⟩
          · exact wpS_bind (wS_setMin (wpS_pure ⟨hS.min _, out, na', nb', mg + 1, rfl, M, a1, a2, by omega, ga, gb⟩))
        case step2 =>
          rintro y c st'' _ hy ⟨hS, out, na', nb', mg, ac, bc, rfl, M, a1, a2, a3, ga, gb⟩
          obtain ⟨pb, epb, hpb⟩ := getB (nb' - 1) (by omega)
          refine wS_if (fun _ => ?_) (fun _ => ?_)
          all_goals
            refine wpS_bind (wS_setMin ?_)
            refine wpS_bind (wS_elem epb (wpS_bind (wS_gallop (arr := a) (base := 0) (n := na') (hint := na' - 1) C (hS.min _).sb hpb (fun i hi => getA _ (by omega)) (Sd_of_sorted sa _ _ (by omega)) (by omega) fun k hk hlo hhi => ?_)))
            have hlo' : ∀ i, i < k → KF kf a i ≤ kf pb := fun i hi => by have := hlo i hi; unfold Bp at this; simpa using this
            have hhi' : ∀ i, k ≤ i → i < na' → kf pb < KF kf a i := fun i h1 h2 => by have := hhi i h1 h2; unfold Bp at this; simpa using this
            have Mk : MH kf a b (out ++ (a.extract k na').reverse) k nb' := M.takeA sa k (by omega) fun x hx y hy => by
              obtain ⟨j, b1, b2, b3⟩ := mem_tk hy
              have c1 := hhi' (k + j) (by omega) (by omega)
              rw [KF_some b3] at c1
              have c2 := sorted_tk sb epb x (by rw [Nat.sub_add_cancel (by omega)]; exact hx)
              unfold LeK at *; omega
            have pushB : ∀ (out2 : Array Keyed) (na2 : Nat), MH kf a b out2 na2 nb' → na2 = k → MH kf a b (out2.push pb) na2 (nb' - 1) := by
              intro out2 na2 M2 e2
              rw [push_extractR epb, Nat.sub_add_cancel (by omega)]
              refine M2.takeB sb (nb' - 1) (by omega) fun x hx y hy => ?_
              obtain ⟨j, b1, b2, b3⟩ := mem_tk hy
              have : j = 0 := by omega
              subst this
              rw [Nat.add_zero, epb] at b3; cases b3
              obtain ⟨i, d1, d2, d3⟩ := mem_tk0 hx
              have c2 := hlo' i (by omega)
              rw [KF_some d3] at c2
              exact c2
            refine wS_if (fun hk0 => ?_) (fun hk0 => ?_)
            · refine wS_if (fun e1 => ?_) (fun e1 => ?_)
              · exact wpS_pure ⟨hS.min _, .inl ⟨_, _, _, _, _, _, _, rfl, Mk.done_a sb (by simpa using e1)⟩⟩
              have l2 : 1 ≤ k := by simp at e1; omega
              have Mp := pushB _ _ Mk rfl
              refine wpS_bind (wS_elem epb ?_)
              refine wS_if (fun e3 => ?_) (fun e3 => ?_)
              · exact wpS_pure ⟨hS.min _, .inl ⟨_, _, _, _, _, _, _, rfl, Mp.first sa sb (hfirst _ (by simpa using e3))⟩⟩
              have l3 : 2 ≤ nb' - 1 := by simp at e3; omega
              obtain ⟨pa, epa, hpa⟩ := getA (k - 1) (by omega)
              refine wpS_bind (wS_elem epa (wpS_bind (wS_gallop (arr := b) (base := 0) (n := nb' - 1) (hint := nb' - 1 - 1) C (hS.min _).sb hpa (fun i hi => getB _ (by omega)) (Sd_of_sorted sb _ _ (by omega)) (by omega) fun k1 hk1 glo ghi => ?_)))
              have glo' : ∀ i, i < k1 → KF kf b i < kf pa := fun i hi => by have := glo i hi; unfold Bp at this; simpa using this
              have ghi' : ∀ i, k1 ≤ i → i < nb' - 1 → kf pa ≤ KF kf b i := fun i h1 h2 => by have := ghi i h1 h2; unfold Bp at this; simpa using this
              have Mq : MH kf a b ((out ++ (a.extract k na').reverse).push pb ++ (b.extract k1 (nb' - 1)).reverse) (k) k1 := Mp.takeB sb k1 (by omega) fun x hx y hy => by
                obtain ⟨j, b1, b2, b3⟩ := mem_tk hy
                have c1 := ghi' (k1 + j) (by omega) (by omega)
                rw [KF_some b3] at c1
                have c2 := sorted_tk sa epa x (by rw [Nat.sub_add_cancel (by omega)]; exact hx)
                unfold LeK at *; omega
              have pushA : ∀ (out3 : Array Keyed) (nb3 : Nat), MH kf a b out3 (k) nb3 → nb3 = k1 → MH kf a b (out3.push pa) (k - 1) nb3 := by
                intro out3 nb3 M3 e3'
                rw [push_extractR epa, Nat.sub_add_cancel (by omega)]
                refine M3.takeA sa (k - 1) (by omega) fun x hx y hy => ?_
                obtain ⟨j, b1, b2, b3⟩ := mem_tk hy
                have : j = 0 := by omega
                subst this
                rw [Nat.add_zero, epa] at b3; cases b3
                obtain ⟨i, d1, d2, d3⟩ := mem_tk0 hx
                have c2 := glo' i (by omega)
                rw [KF_some d3] at c2
                exact Int.le_of_lt c2
              refine wS_if (fun hk3 => ?_) (fun hk3 => ?_)
              · refine wS_if (fun e4 => ?_) (fun e4 => ?_)
                · exact wpS_pure ⟨hS.min _, .inl ⟨_, _, _, _, _, _, _, rfl, Mq.first sa sb (hfirst _ (by simpa using e4))⟩⟩
                refine wS_if (fun e6 => ?_) (fun e6 => ?_)
                · exact wpS_pure ⟨hS.min _, .inl ⟨_, _, _, _, _, _, _, rfl, Mq.done_b sa (by simpa using e6)⟩⟩
                simp at e6
                have l4 : 2 ≤ k1 := by simp at e4; omega
                have Mr := pushA ((out ++ (a.extract k na').reverse).push pb ++ (b.extract k1 (nb' - 1)).reverse) (k1) Mq (by omega)
                refine wpS_bind (wS_elem epa ?_)
                refine wS_if (fun e5 => ?_) (fun e5 => ?_)
                · exact wpS_pure ⟨hS.min _, .inl ⟨_, _, _, _, _, _, _, rfl, Mr.done_a sb (by simpa using e5)⟩⟩
                have l5 : 1 ≤ k - 1 := by simp at e5; omega
                refine wS_if (fun _ => ?_) (fun _ => ?_)
                · exact wpS_pure ⟨hS.min _, .inr ⟨((out ++ (a.extract k na').reverse).push pb ++ (b.extract k1 (nb' - 1)).reverse).push pa, k - 1, k1, _, na' - k, nb' - 1 - k1, rfl, Mr, l5, l4, by omega, by omega, by omega⟩⟩
                · exact wpS_pure ⟨hS.min _, ((out ++ (a.extract k na').reverse).push pb ++ (b.extract k1 (nb' - 1)).reverse).push pa, k - 1, k1, _, na' - k, nb' - 1 - k1, rfl, Mr, l5, l4, by omega, by omega, by omega⟩
              · have hk3' : k1 = nb' - 1 := by
                  have h9 : ¬ nb' - 1 - k1 > 0 := hk3
                  omega
                have l4 : 2 ≤ (nb' - 1) := by omega
                have Mr := pushA ((out ++ (a.extract k na').reverse).push pb) ((nb' - 1)) Mp (by omega)
                refine wpS_bind (wS_elem epa ?_)
                refine wS_if (fun e5 => ?_) (fun e5 => ?_)
                · exact wpS_pure ⟨hS.min _, .inl ⟨_, _, _, _, _, _, _, rfl, Mr.done_a sb (by simpa using e5)⟩⟩
                have l5 : 1 ≤ k - 1 := by simp at e5; omega
                refine wS_if (fun _ => ?_) (fun _ => ?_)
                · exact wpS_pure ⟨hS.min _, .inr ⟨((out ++ (a.extract k na').reverse).push pb).push pa, k - 1, (nb' - 1), _, na' - k, nb' - 1 - k1, rfl, Mr, l5, l4, by omega, by omega, by omega⟩⟩
                · exact wpS_pure ⟨hS.min _, ((out ++ (a.extract k na').reverse).push pb).push pa, k - 1, (nb' - 1), _, na' - k, nb' - 1 - k1, rfl, Mr, l5, l4, by omega, by omega, by omega⟩
            · have hk0' : k = na' := by
                have h9 : ¬ na' - k > 0 := hk0
                omega
              have Mp := pushB out na' M (by omega)
              refine wpS_bind (wS_elem epb ?_)
              refine wS_if (fun e3 => ?_) (fun e3 => ?_)
              · exact wpS_pure ⟨hS.min _, .inl ⟨_, _, _, _, _, _, _, rfl, Mp.first sa sb (hfirst _ (by simpa using e3))⟩⟩
              have l3 : 2 ≤ nb' - 1 := by simp at e3; omega
              obtain ⟨pa, epa, hpa⟩ := getA (na' - 1) (by omega)
              refine wpS_bind (wS_elem epa (wpS_bind (wS_gallop (arr := b) (base := 0) (n := nb' - 1) (hint := nb' - 1 - 1) C (hS.min _).sb hpa (fun i hi => getB _ (by omega)) (Sd_of_sorted sb _ _ (by omega)) (by omega) fun k1 hk1 glo ghi => ?_)))
              have glo' : ∀ i, i < k1 → KF kf b i < kf pa := fun i hi => by have := glo i hi; unfold Bp at this; simpa using this
              have ghi' : ∀ i, k1 ≤ i → i < nb' - 1 → kf pa ≤ KF kf b i := fun i h1 h2 => by have := ghi i h1 h2; unfold Bp at this; simpa using this
              have Mq : MH kf a b (out.push pb ++ (b.extract k1 (nb' - 1)).reverse) (na') k1 := Mp.takeB sb k1 (by omega) fun x hx y hy => by
                obtain ⟨j, b1, b2, b3⟩ := mem_tk hy
                have c1 := ghi' (k1 + j) (by omega) (by omega)
                rw [KF_some b3] at c1
                have c2 := sorted_tk sa epa x (by rw [Nat.sub_add_cancel (by omega)]; exact hx)
                unfold LeK at *; omega
              have pushA : ∀ (out3 : Array Keyed) (nb3 : Nat), MH kf a b out3 (na') nb3 → nb3 = k1 → MH kf a b (out3.push pa) (na' - 1) nb3 := by
                intro out3 nb3 M3 e3'
                rw [push_extractR epa, Nat.sub_add_cancel (by omega)]
                refine M3.takeA sa (na' - 1) (by omega) fun x hx y hy => ?_
                obtain ⟨j, b1, b2, b3⟩ := mem_tk hy
                have : j = 0 := by omega
                subst this
                rw [Nat.add_zero, epa] at b3; cases b3
                obtain ⟨i, d1, d2, d3⟩ := mem_tk0 hx
                have c2 := glo' i (by omega)
                rw [KF_some d3] at c2
                exact Int.le_of_lt c2
              refine wS_if (fun hk3 => ?_) (fun hk3 => ?_)
              · refine wS_if (fun e4 => ?_) (fun e4 => ?_)
                · exact wpS_pure ⟨hS.min _, .inl ⟨_, _, _, _, _, _, _, rfl, Mq.first sa sb (hfirst _ (by simpa using e4))⟩⟩
                refine wS_if (fun e6 => ?_) (fun e6 => ?_)
                · exact wpS_pure ⟨hS.min _, .inl ⟨_, _, _, _, _, _, _, rfl, Mq.done_b sa (by simpa using e6)⟩⟩
                simp at e6
                have l4 : 2 ≤ k1 := by simp at e4; omega
                have Mr := pushA (out.push pb ++ (b.extract k1 (nb' - 1)).reverse) (k1) Mq (by omega)
                refine wpS_bind (wS_elem epa ?_)
                refine wS_if (fun e5 => ?_) (fun e5 => ?_)
                · exact wpS_pure ⟨hS.min _, .inl ⟨_, _, _, _, _, _, _, rfl, Mr.done_a sb (by simpa using e5)⟩⟩
                have l5 : 1 ≤ na' - 1 := by simp at e5; omega
                refine wS_if (fun _ => ?_) (fun _ => ?_)
                · exact wpS_pure ⟨hS.min _, .inr ⟨(out.push pb ++ (b.extract k1 (nb' - 1)).reverse).push pa, na' - 1, k1, _, na' - k, nb' - 1 - k1, rfl, Mr, l5, l4, by omega, by omega, by omega⟩⟩
                · exact wpS_pure ⟨hS.min _, (out.push pb ++ (b.extract k1 (nb' - 1)).reverse).push pa, na' - 1, k1, _, na' - k, nb' - 1 - k1, rfl, Mr, l5, l4, by omega, by omega, by omega⟩
              · have hk3' : k1 = nb' - 1 := by
                  have h9 : ¬ nb' - 1 - k1 > 0 := hk3
                  omega
                have l4 : 2 ≤ (nb' - 1) := by omega
                have Mr := pushA (out.push pb) ((nb' - 1)) Mp (by omega)
                refine wpS_bind (wS_elem epa ?_)
                refine wS_if (fun e5 => ?_) (fun e5 => ?_)
                · exact wpS_pure ⟨hS.min _, .inl ⟨_, _, _, _, _, _, _, rfl, Mr.done_a sb (by simpa using e5)⟩⟩
                have l5 : 1 ≤ na' - 1 := by simp at e5; omega
                refine wS_if (fun _ => ?_) (fun _ => ?_)
                · exact wpS_pure ⟨hS.min _, .inr ⟨(out.push pb).push pa, na' - 1, (nb' - 1), _, na' - k, nb' - 1 - k1, rfl, Mr, l5, l4, by omega, by omega, by omega⟩⟩
                · exact wpS_pure ⟨hS.min _, (out.push pb).push pa, na' - 1, (nb' - 1), _, na' - k, nb' - 1 - k1, rfl, Mr, l5, l4, by omega, by omega, by omega⟩
end
end Mine
end

-- part S6
section
open PySem PySem.W PySem.Calls PyProof.Rows
set_option Elab.async false
set_option maxRecDepth 100000
set_option maxHeartbeats 2000000
namespace Mine

section
variable {kf : Keyed → Int} {xs ys : Array Keyed} {i j l : Nat}
def seg (xs : Array Keyed) (i j : Nat) : List Keyed := (xs.toList.drop i).take (j - i)
theorem mem_seg {x : Keyed} (h : x ∈ seg xs i j) : ∃ q, i ≤ q ∧ q < j ∧ q < xs.size ∧ xs[q]? = some x := by
  obtain ⟨q, h1, h2, h3⟩ := mem_tk h
  exact ⟨i + q, by omega, by omega, h2, h3⟩
theorem seg_len (hj : j ≤ xs.size) : (seg xs i j).length = j - i := by
  unfold seg
  rw [List.length_take, List.length_drop, Array.length_toList]
  omega
theorem seg_get (hj : j ≤ xs.size) {q : Nat} (hq : q < (seg xs i j).length) : xs[i + q]? = some (seg xs i j)[q] := by
  have hl := seg_len (i := i) hj
  rw [hl] at hq
  have h1 : i + q < xs.size := by omega
  rw [Array.getElem?_eq_getElem h1]
  have e : (seg xs i j)[q] = xs.toList[i + q]'(by rw [Array.length_toList]; exact h1) := by simp only [seg, List.getElem_take, List.getElem_drop]
  rw [e]
  simp
theorem sorted_seg (hj : j ≤ xs.size) (h : Sd kf xs i j) : SortedL kf (seg xs i j) := by
  refine List.pairwise_iff_getElem.mpr fun p q hp hq hpq => ?_
  have hl := seg_len (i := i) hj
  have := h (i + p) (i + q) (by omega) (by omega) (by omega)
  rw [KF_some (seg_get hj hp), KF_some (seg_get hj hq)] at this
  exact this
theorem Sd_seg (hj : j ≤ xs.size) (h : SortedL kf (seg xs i j)) : Sd kf xs i j := fun p q h1 h2 h3 => by
  have hl := seg_len (i := i) hj
  rcases Nat.eq_or_lt_of_le h2 with e | e
  · subst e; exact Int.le_refl _
  have hp : p - i < (seg xs i j).length := by omega
  have hq : q - i < (seg xs i j).length := by omega
  have := List.pairwise_iff_getElem.mp h (p - i) (q - i) hp hq (by omega)
  have e1 := seg_get hj hp
  have e2 := seg_get hj hq
  rw [show i + (p - i) = p by omega] at e1
  rw [show i + (q - i) = q by omega] at e2
  rw [KF_some e1, KF_some e2]
  exact this
theorem seg_split (h1 : i ≤ j) (h2 : j ≤ l) : seg xs i l = seg xs i j ++ seg xs j l := by
  unfold seg
  have := (List.take_append_drop (j - i) ((xs.toList.drop i).take (l - i))).symm
  rw [this, List.take_take, List.drop_take, List.drop_drop]
  congr 2
  · congr 1; omega
  · omega
  · congr 1; omega
theorem extract_seg : (xs.extract i j).toList = seg xs i j := by
  rw [Array.toList_extract]
  rfl

theorem setAll_toList (lo : Nat) : ∀ (ms : List Keyed) (n : Nat) (xs : Array Keyed), lo + n + ms.length ≤ xs.size →
    ((ms.zipIdx n).foldl (fun a (p, j) => a.setIfInBounds (lo + j) p) xs).toList = xs.toList.take (lo + n) ++ ms ++ xs.toList.drop (lo + n + ms.length)
  | [], n, xs, h => by simp
  | m :: ms, n, xs, h => by
    rw [List.length_cons] at h
    rw [List.zipIdx_cons, List.foldl_cons]
    have hs : (xs.setIfInBounds (lo + n) m).size = xs.size := Array.size_setIfInBounds
    rw [setAll_toList lo ms (n + 1) _ (by rw [hs]; omega)]
    rw [Array.toList_setIfInBounds]
    have hlt : lo + n < xs.toList.length := by rw [Array.length_toList]; omega
    rw [List.drop_set_of_lt (by omega), List.set_eq_take_append_cons_drop, if_pos hlt]
    have hL : (xs.toList.take (lo + n)).length = lo + n := by rw [List.length_take]; omega
    rw [show lo + (n + 1) = (xs.toList.take (lo + n)).length + 1 by rw [hL]; omega, List.take_length_add_append]
    rw [hL]
    simp only [List.take_succ_cons, List.take_zero, List.append_assoc, List.cons_append, List.nil_append, List.length_cons]
    congr 4; omega

/-- the array with the items from lo on replaced -/
theorem setAll_facts {ms : Array Keyed} {lo hi : Nat} {zs : Array Keyed} (hz : zs = ms.toList.zipIdx.foldl (fun a (p, j) => a.setIfInBounds (lo + j) p) xs) (h1 : lo ≤ hi) (h2 : hi ≤ xs.size) (hl : ms.size = hi - lo)
    (hp : ms.toList.Perm (seg xs lo hi)) : zs.size = xs.size ∧ zs.Perm xs ∧ Out xs zs lo hi ∧ ∀ a e, a ≤ lo → hi ≤ e → e ≤ xs.size → seg zs a e = seg xs a lo ++ ms.toList ++ seg xs hi e := by
  have hml : ms.toList.length = hi - lo := by rw [Array.length_toList, hl]
  have e : zs.toList = xs.toList.take lo ++ ms.toList ++ xs.toList.drop hi := by
    rw [hz, setAll_toList lo ms.toList 0 xs (by omega)]
    rw [Nat.add_zero, show lo + ms.toList.length = hi by omega]
  have hx : xs.toList = xs.toList.take lo ++ seg xs lo hi ++ xs.toList.drop hi := by
    unfold seg
    rw [← take_split h1, List.take_append_drop]
  have hL : (xs.toList.take lo).length = lo := by rw [List.length_take, Array.length_toList]; omega
  have hP : zs.toList.Perm xs.toList := by
    rw [e]
    exact ((List.Perm.append_left _ hp).append_right _).trans (by rw [← hx])
  have hsz : zs.size = xs.size := by
    have := hP.length_eq
    simpa using this
  refine ⟨hsz, Array.perm_iff_toList_perm.mpr hP, fun k hk => ?_, fun a e' ha he he' => ?_⟩
  · rw [← Array.getElem?_toList, ← Array.getElem?_toList, e]
    rcases hk with hk | hk
    · rw [List.append_assoc, List.getElem?_append_left (by omega), List.getElem?_take_of_lt hk]
    · rw [List.getElem?_append_right (by rw [List.length_append]; omega), List.getElem?_drop, List.length_append]
      congr 1; omega
  · unfold seg
    rw [e, List.append_assoc, List.drop_append_of_le_length (by omega), List.drop_take]
    have l1 : ((xs.toList.drop a).take (lo - a)).length = lo - a := by rw [List.length_take, List.length_drop, Array.length_toList]; omega
    rw [show e' - a = ((xs.toList.drop a).take (lo - a)).length + (ms.toList.length + (e' - hi)) by omega, List.take_length_add_append, List.take_length_add_append, List.append_assoc]
end

section
variable {prog : Program} {w : World} {A : Around} {E : Value → Shared → Prop} {s : Shared} {a₀ : Array Keyed} {kf : Keyed → Int} {κ : SortKind}

theorem wpS_setS {st st1 : SortSt} {Q : PUnit → SortSt → Prop} (h : Q ⟨⟩ st1) : wpS (model prog w) A E s (set st1 : StateT SortSt Sem PUnit) Q st := by
  unfold wpS; rw [StateT.run_set]; exact wpAny_pure ⟨rfl, h⟩
theorem wS_mergeAt (C : Cmp prog w A s a₀ kf κ) {st : SortSt} {i sa na pw sb nb q : Nat} {Q : Bool → SortSt → Prop} (hB : SB a₀ κ st)
    (e1 : (pendingOf st)[i]? = some (sa, na, pw)) (e2 : (pendingOf st)[i + 1]? = some (sb, nb, q)) (hsb : sb = sa + na) (hna : 0 < na) (hnb : 0 < nb) (hn : sb + nb ≤ a₀.size)
    (s1 : Sd kf (arrOf st) sa (sa + na)) (s2 : Sd kf (arrOf st) sb (sb + nb))
    (h : ∀ st', SB a₀ κ st' → pendingOf st' = ((pendingOf st).setIfInBounds i (sa, na + nb, pw)).eraseIdxIfInBounds (i + 1) → Out (arrOf st) (arrOf st') sa (sb + nb) → Sd kf (arrOf st') sa (sb + nb) → Q true st') :
    wpS (model prog w) A E s (mergeAt' i) Q st := by
  refine wpS_bind (wpS_get ?_)
  have e1' := e1
  have e2' := e2
  unfold pendingOf at e1' e2'
  rw [e1', e2']
  refine wpS_bind (wpS_setS ?_)
  have hB1 : SB a₀ κ (setPending st (((pendingOf st).setIfInBounds i (sa, na + nb, pw)).eraseIdxIfInBounds (i + 1))) := ⟨hB.perm, hB.kind, hB.failed⟩
  have hsz := hB.size
  have getX : ∀ t, t < a₀.size → ∃ p, (arrOf st)[t]? = some p ∧ p ∈ a₀ := fun t ht => hB.get ht
  obtain ⟨pb, epb, hpb⟩ := getX sb (by omega)
  refine wpS_bind (wS_elem epb (wpS_bind (wS_gallop (arr := arrOf st) (base := sa) (n := na) (hint := 0) C hB1 hpb (fun t ht => getX _ (by omega)) s1 hna fun k hk hlo hhi => ?_)))
  have hlo' : ∀ t, t < k → KF kf (arrOf st) (sa + t) ≤ kf pb := fun t ht => by have := hlo t ht; unfold Bp at this; simpa using this
  have hhi' : ∀ t, k ≤ t → t < na → kf pb < KF kf (arrOf st) (sa + t) := fun t h1 h2 => by have := hhi t h1 h2; unfold Bp at this; simpa using this
  have kb : ∀ t, sb ≤ t → t < sb + nb → kf pb ≤ KF kf (arrOf st) t := fun t h1 h2 => by have := s2 sb t (Nat.le_refl _) h1 h2; rwa [KF_some epb] at this
  have joined : ∀ {st' : SortSt}, arrOf st' = arrOf st → (∀ t u, sa ≤ t → t < sb → sb ≤ u → u < sb + nb → KF kf (arrOf st) t ≤ KF kf (arrOf st) u) → Sd kf (arrOf st') sa (sb + nb) := fun he hc t u h1 h2 h3 => by
    rw [he]
    by_cases c1 : u < sb
    · exact s1 t u h1 h2 (by omega)
    · by_cases c2 : t < sb
      · exact hc t u h1 c2 (by omega) h3
      · exact s2 t u (by omega) h2 h3
  refine wS_if (fun hz => ?_) (fun hz => ?_)
  · have hz' : na - k = 0 := by simpa using hz
    refine wpS_pure (h _ hB1 rfl (Out.refl _ _ _) (joined rfl fun t u h1 h2 h3 h4 => ?_))
    have c1 := hlo' (t - sa) (by omega)
    rw [show sa + (t - sa) = t by omega] at c1
    exact Int.le_trans c1 (kb u h3 h4)
  have hz' : k < na := by
    have : ¬ na - k = 0 := by simpa using hz
    omega
  obtain ⟨pa, epa, hpa⟩ := getX (sa + k + (na - k) - 1) (by omega)
  refine wpS_bind (wS_elem epa (wpS_bind (wS_gallop (arr := arrOf st) (base := sb) (n := nb) (hint := nb - 1) C hB1 hpa (fun t ht => getX _ (by omega)) s2 (by omega) fun m hm glo ghi => ?_)))
  have glo' : ∀ t, t < m → KF kf (arrOf st) (sb + t) < kf pa := fun t ht => by have := glo t ht; unfold Bp at this; simpa using this
  have ghi' : ∀ t, m ≤ t → t < nb → kf pa ≤ KF kf (arrOf st) (sb + t) := fun t h1 h2 => by have := ghi t h1 h2; unfold Bp at this; simpa using this
  have ka : ∀ t, sa ≤ t → t < sb → KF kf (arrOf st) t ≤ kf pa := fun t h1 h2 => by
    have := s1 t (sa + k + (na - k) - 1) h1 (by omega) (by omega)
    rwa [KF_some epa] at this
  refine wS_if (fun hy => ?_) (fun hy => ?_)
  · have hy' : m = 0 := by simpa using hy
    refine wpS_pure (h _ hB1 rfl (Out.refl _ _ _) (joined rfl fun t u h1 h2 h3 h4 => ?_))
    have c1 := ghi' (u - sb) (by omega) (by omega)
    rw [show sb + (u - sb) = u by omega] at c1
    exact Int.le_trans (ka t h1 h2) c1
  have hy' : 0 < m := by
    have : ¬ m = 0 := by simpa using hy
    omega
  have sx : ((arrOf st).extract (sa + k) sb).size = sb - (sa + k) := by rw [Array.size_extract]; omega
  have sy : ((arrOf st).extract sb (sb + m)).size = m := by rw [Array.size_extract]; omega
  have memx : ∀ x ∈ ((arrOf st).extract (sa + k) sb).toList, ∃ t, sa + k ≤ t ∧ t < sb ∧ t < (arrOf st).size ∧ (arrOf st)[t]? = some x := fun x hx => by rw [extract_seg] at hx; exact mem_seg hx
  have memy : ∀ x ∈ ((arrOf st).extract sb (sb + m)).toList, ∃ t, sb ≤ t ∧ t < sb + m ∧ t < (arrOf st).size ∧ (arrOf st)[t]? = some x := fun x hx => by rw [extract_seg] at hx; exact mem_seg hx
  have in0 : ∀ {t x}, (arrOf st)[t]? = some x → x ∈ a₀ := fun {t x} e => hB.perm.mem_iff.mp (Array.mem_of_getElem? e)
  have ax : ∀ x ∈ ((arrOf st).extract (sa + k) sb).toList, x ∈ a₀ := fun x hx => by obtain ⟨t, _, _, _, e⟩ := memx x hx; exact in0 e
  have ay : ∀ x ∈ ((arrOf st).extract sb (sb + m)).toList, x ∈ a₀ := fun x hx => by obtain ⟨t, _, _, _, e⟩ := memy x hx; exact in0 e
  have ox : SortedL kf ((arrOf st).extract (sa + k) sb).toList := by
    rw [extract_seg]; exact sorted_seg (by omega) fun t u h1 h2 h3 => s1 t u (by omega) h2 (by omega)
  have oy : SortedL kf ((arrOf st).extract sb (sb + m)).toList := by
    rw [extract_seg]; exact sorted_seg (by omega) fun t u h1 h2 h3 => s2 t u (by omega) h2 (by omega)
  have h0 : ∀ p, ((arrOf st).extract sb (sb + m))[0]? = some p → ∀ y ∈ ((arrOf st).extract (sa + k) sb).toList, LeK kf p y := fun p hp y hy => by
    obtain ⟨t, h1, h2, _, e⟩ := memx y hy
    rw [Array.getElem?_extract] at hp
    rw [if_pos (by omega), Nat.add_zero, epb] at hp
    cases hp
    have := hhi' (t - sa) (by omega) (by omega)
    rw [show sa + (t - sa) = t by omega, KF_some e] at this
    exact Int.le_of_lt this
  have hl : ∀ y ∈ ((arrOf st).extract sb (sb + m)).toList, ∀ x, ((arrOf st).extract (sa + k) sb)[((arrOf st).extract (sa + k) sb).size - 1]? = some x → LeK kf y x := fun y hy x hx => by
    obtain ⟨t, h1, h2, _, e⟩ := memy y hy
    rw [sx, Array.getElem?_extract, if_pos (by omega), show sa + k + (sb - (sa + k) - 1) = sa + k + (na - k) - 1 by omega, epa] at hx
    cases hx
    have := glo' (t - sb) (by omega)
    rw [show sb + (t - sb) = t by omega, KF_some e] at this
    exact Int.le_of_lt this
  have fin : ∀ r st', Res kf ((arrOf st).extract (sa + k) sb) ((arrOf st).extract sb (sb + m)) r → Same a₀ κ (setPending st (((pendingOf st).setIfInBounds i (sa, na + nb, pw)).eraseIdxIfInBounds (i + 1))) st' →
      Q true (setArr st' (r.toList.zipIdx.foldl (fun a (p, j) => a.setIfInBounds (sa + k + j) p) (arrOf st'))) := by
    intro r st' hr hS
    have ea : arrOf st' = arrOf st := hS.arr
    have ep : pendingOf st' = ((pendingOf st).setIfInBounds i (sa, na + nb, pw)).eraseIdxIfInBounds (i + 1) := hS.pend
    have hperm : r.toList.Perm (seg (arrOf st) (sa + k) (sb + m)) := by
      rw [seg_split (j := sb) (by omega) (by omega), ← extract_seg, ← extract_seg]; exact hr.1
    have hrl : r.size = sb + m - (sa + k) := by
      have := hperm.length_eq
      rw [seg_len (by omega)] at this
      simpa using this
    obtain ⟨z1, z2, z3, z4⟩ := setAll_facts (xs := arrOf st) (ms := r) (lo := sa + k) (hi := sb + m) (zs := r.toList.zipIdx.foldl (fun a (p, j) => a.setIfInBounds (sa + k + j) p) (arrOf st')) (by rw [ea]) (by omega) (by omega) hrl hperm
    refine h _ (hS.sb.setArr (z2.trans (show (arrOf st).Perm (arrOf st') from ea ▸ Array.Perm.refl _))) ep (z3.mono (by omega) (by omega)) (Sd_seg (by show _ ≤ Array.size _; rw [z1]; omega) ?_)
    show SortedL kf (seg _ _ _)
    rw [z4 sa (sb + nb) (by omega) (by omega) (by omega)]
    have memr : ∀ x ∈ r.toList, x ∈ ((arrOf st).extract (sa + k) sb).toList ∨ x ∈ ((arrOf st).extract sb (sb + m)).toList := fun x hx => List.mem_append.mp (hr.1.mem_iff.mp hx)
    refine sorted3 (sorted_seg (by omega) fun t u h1 h2 h3 => s1 t u (by omega) h2 (by omega)) hr.2 (sorted_seg (by omega) fun t u h1 h2 h3 => s2 t u (by omega) h2 (by omega)) ?_ ?_ ?_
    · intro u hu v hv
      obtain ⟨t, t1, t2, _, et⟩ := mem_seg hu
      have c1 := hlo' (t - sa) (by omega)
      rw [show sa + (t - sa) = t by omega] at c1
      rcases memr v hv with hv | hv
      · obtain ⟨t', t1', t2', _, et'⟩ := memx v hv
        have := s1 t t' (by omega) (by omega) (by omega)
        rw [KF_some et, KF_some et'] at this
        exact this
      · obtain ⟨t', t1', t2', _, et'⟩ := memy v hv
        have := kb t' t1' (by omega)
        rw [KF_some et'] at this
        rw [KF_some et] at c1
        exact Int.le_trans c1 this
    · intro u hu v hv
      obtain ⟨t, t1, t2, _, et⟩ := mem_seg hu
      obtain ⟨t', t1', t2', _, et'⟩ := mem_seg hv
      have c1 := hlo' (t - sa) (by omega)
      rw [show sa + (t - sa) = t by omega, KF_some et] at c1
      have := kb t' (by omega) (by omega)
      rw [KF_some et'] at this
      exact Int.le_trans c1 this
    · intro u hu v hv
      obtain ⟨t', t1', t2', _, et'⟩ := mem_seg hv
      have c2 := ghi' (t' - sb) (by omega) (by omega)
      rw [show sb + (t' - sb) = t' by omega, KF_some et'] at c2
      rcases memr u hu with hu | hu
      · obtain ⟨t, t1, t2, _, et⟩ := memx u hu
        have := ka t (by omega) (by omega)
        rw [KF_some et] at this
        exact Int.le_trans this c2
      · obtain ⟨t, t1, t2, _, et⟩ := memy u hu
        have := s2 t t' (by omega) (by omega) (by omega)
        rw [KF_some et, KF_some et'] at this
        exact this
  refine wS_if (fun _ => ?_) (fun _ => ?_)
  · refine wpS_bind (wS_mergeLo C hB1 ax ay ox oy (by rw [sx]; omega) (by rw [sy]; omega) h0 hl fun r st' hr hS => ?_)
    refine wpS_bind (wpS_modify (wpS_bind (wpS_get (wpS_pure ?_))))
    have := fin r st' hr hS
    have hf : failedOf st' = none := hS.sb.failed
    show Q (failedOf st').isNone _
    rw [hf]; exact this
  · refine wpS_bind (wS_mergeHi C hB1 ax ay ox oy (by rw [sx]; omega) (by rw [sy]; omega) h0 hl fun r st' hr hS => ?_)
    refine wpS_bind (wpS_modify (wpS_bind (wpS_get (wpS_pure ?_))))
    have := fin r st' hr hS
    have hf : failedOf st' = none := hS.sb.failed
    show Q (failedOf st').isNone _
    rw [hf]; exact this
end
end Mine
end

-- part S7
section
open PySem PySem.W PySem.Calls PyProof.Rows
set_option Elab.async false
set_option maxRecDepth 100000
set_option maxHeartbeats 2000000
namespace Mine

abbrev Run := Nat × Nat × Nat
/-- runs that lie end to end from i up to e -/
def Cov : Nat → List Run → Nat → Prop
  | i, [], e => i = e
  | i, t :: r, e => t.1 = i ∧ 0 < t.2.1 ∧ Cov (i + t.2.1) r e
theorem Cov.le : ∀ {l : List Run} {i e : Nat}, Cov i l e → i + l.length ≤ e
  | [], i, e, h => by have : i = e := h; simp [this]
  | t :: r, i, e, ⟨h1, h2, h3⟩ => by have := Cov.le h3; rw [List.length_cons]; omega
theorem Cov.split : ∀ {l : List Run} {r : List Run} {i e : Nat}, Cov i (l ++ r) e → ∃ m, Cov i l m ∧ Cov m r e
  | [], r, i, e, h => ⟨i, rfl, h⟩
  | t :: l, r, i, e, ⟨h1, h2, h3⟩ => by obtain ⟨m, a, b⟩ := Cov.split h3; exact ⟨m, ⟨h1, h2, a⟩, b⟩
theorem Cov.join : ∀ {l : List Run} {r : List Run} {i m e : Nat}, Cov i l m → Cov m r e → Cov i (l ++ r) e
  | [], r, i, m, e, h, h' => by have : i = m := h; subst this; exact h'
  | t :: l, r, i, m, e, ⟨h1, h2, h3⟩, h' => ⟨h1, h2, Cov.join h3 h'⟩

section
variable {prog : Program} {w : World} {A : Around} {E : Value → Shared → Prop} {s : Shared} {a₀ : Array Keyed} {kf : Keyed → Int} {κ : SortKind}

structure Pend (kf : Keyed → Int) (st : SortSt) (p : List Run) (lo : Nat) : Prop where
  pend : pendingOf st = p.toArray
  cov : Cov 0 p lo
  sd : ∀ t ∈ p, Sd kf (arrOf st) t.1 (t.1 + t.2.1)

theorem Cov.mem : ∀ {l : List Run} {i e : Nat}, Cov i l e → ∀ t ∈ l, i ≤ t.1 ∧ t.1 + t.2.1 ≤ e ∧ 0 < t.2.1
  | [], i, e, h, t, ht => by cases ht
  | u :: r, i, e, ⟨h1, h2, h3⟩, t, ht => by
    rcases List.mem_cons.mp ht with rfl | ht
    · have := h3.le; omega
    · have := Cov.mem h3 t ht; omega

theorem two_split {p : List Run} {i : Nat} (hi : i + 1 < p.length) : ∃ l t u r, p = l ++ t :: u :: r ∧ l.length = i :=
  ⟨p.take i, p[i], p[i + 1], p.drop (i + 2), by rw [← List.drop_eq_getElem_cons, ← List.drop_eq_getElem_cons, List.take_append_drop], by rw [List.length_take]; omega⟩

theorem wS_mergePend (C : Cmp prog w A s a₀ kf κ) {st : SortSt} {i lo : Nat} {p : List Run} {Q : Bool → SortSt → Prop} (hB : SB a₀ κ st) (P : Pend kf st p lo) (hlo : lo ≤ a₀.size) (hi : i + 1 < p.length)
    (h : ∀ st' p', SB a₀ κ st' → Pend kf st' p' lo → p'.length + 1 = p.length → Out (arrOf st) (arrOf st') 0 lo → Q true st') : wpS (model prog w) A E s (mergeAt' i) Q st := by
  obtain ⟨l, t, u, r, rfl, rfl⟩ := two_split hi
  obtain ⟨m, c1, h1, h2, h3, h4, c2⟩ := P.cov.split
  obtain ⟨sa, na, pw⟩ := t
  obtain ⟨sb, nb, q⟩ := u
  have h1 : sa = m := h1
  have h2 : 0 < na := h2
  have h3 : sb = m + na := h3
  have h4 : 0 < nb := h4
  have c2 : Cov (m + na + nb) r lo := c2
  subst h1
  have g := c2.le
  refine wS_mergeAt (sa := sa) (na := na) (pw := pw) (sb := sb) (nb := nb) (q := q) C hB (by rw [P.pend]; simp) (by rw [P.pend]; simp) h3 h2 h4 (by omega) (P.sd (sa, na, pw) (by simp)) (P.sd (sb, nb, q) (by simp)) fun st' hB' hp ho hs => ?_
  refine h st' (l ++ (sa, na + nb, pw) :: r) hB' ⟨?_, Cov.join c1 ⟨rfl, by show 0 < na + nb; omega, by rw [← Nat.add_assoc]; exact c2⟩, fun t ht => ?_⟩ (by simp only [List.length_append, List.length_cons]; omega) (ho.mono (by omega) (by omega))
  · rw [hp, P.pend]
    apply Array.toList_inj.mp
    rw [Array.toList_eraseIdxIfInBounds, Array.toList_setIfInBounds, List.set_append_right _ _ (Nat.le_refl _), Nat.sub_self, List.set_cons_zero, List.eraseIdx_append_of_length_le (Nat.le_succ _)]
    simp
  · rcases List.mem_append.mp ht with ht | ht
    · have := c1.mem t ht
      exact (P.sd t (by simp [ht])).out ho (by omega)
    · rcases List.mem_cons.mp ht with rfl | ht
      · show Sd kf (arrOf st') sa (sa + (na + nb))
        rw [← Nat.add_assoc, ← h3]; exact hs
      · have := c2.mem t ht
        exact (P.sd t (by simp [ht])).out ho (by omega)

theorem Pend.out {st st' : SortSt} {p : List Run} {lo e : Nat} (P : Pend kf st p lo) (hp : pendingOf st' = pendingOf st) (ho : Out (arrOf st) (arrOf st') lo e) : Pend kf st' p lo :=
  ⟨hp.trans P.pend, P.cov, fun t ht => (P.sd t ht).out ho (.inl (P.cov.mem t ht).2.1)⟩

theorem Cov.modify {f : Run → Run} (hf : ∀ t, (f t).1 = t.1 ∧ (f t).2.1 = t.2.1) : ∀ {l : List Run} {k i e : Nat}, Cov i l e → Cov i (l.modify k f) e
  | [], k, i, e, h => by rw [List.modify_nil]; exact h
  | t :: r, 0, i, e, ⟨h1, h2, h3⟩ => by
    rw [List.modify_zero_cons]
    exact ⟨(hf t).1.trans h1, by rw [(hf t).2]; exact h2, by rw [(hf t).2]; exact h3⟩
  | t :: r, k + 1, i, e, ⟨h1, h2, h3⟩ => by
    rw [List.modify_succ_cons]
    exact ⟨h1, h2, Cov.modify hf h3⟩
theorem mem_modify {f : Run → Run} : ∀ {l : List Run} {k : Nat} {t : Run}, t ∈ l.modify k f → ∃ u ∈ l, t = u ∨ t = f u
  | [], k, t, h => by rw [List.modify_nil] at h; cases h
  | u :: r, 0, t, h => by
    rw [List.modify_zero_cons] at h
    rcases List.mem_cons.mp h with h | h
    · exact ⟨u, by simp, .inr h⟩
    · exact ⟨t, by simp [h], .inl rfl⟩
  | u :: r, k + 1, t, h => by
    rw [List.modify_succ_cons] at h
    rcases List.mem_cons.mp h with h | h
    · exact ⟨u, by simp, .inl h⟩
    · obtain ⟨v, h1, h2⟩ := mem_modify h
      exact ⟨v, by simp [h1], h2⟩
theorem Pend.modify {st : SortSt} {p : List Run} {lo k : Nat} {f : Run → Run} (hf : ∀ t, (f t).1 = t.1 ∧ (f t).2.1 = t.2.1) (P : Pend kf st p lo) : Pend kf (setPending st ((pendingOf st).modify k f)) (p.modify k f) lo :=
  ⟨by show (pendingOf st).modify k f = _; rw [P.pend]; exact Array.toList_inj.mp (by rw [Array.toList_modify]), P.cov.modify hf, fun t ht => by
    obtain ⟨u, h1, h2⟩ := mem_modify ht
    have := P.sd u h1
    rcases h2 with rfl | rfl
    · exact this
    · rw [(hf u).1, (hf u).2]; exact this⟩
theorem Pend.push {st : SortSt} {p : List Run} {lo n q : Nat} (P : Pend kf st p lo) (hn : 1 ≤ n) (hs : Sd kf (arrOf st) lo (lo + n)) : Pend kf (setPending st ((pendingOf st).push (lo, n, q))) (p ++ [(lo, n, q)]) (lo + n) :=
  ⟨by show (pendingOf st).push _ = _; rw [P.pend]; simp, Cov.join P.cov ⟨rfl, hn, rfl⟩, fun t ht => by
    rcases List.mem_append.mp ht with ht | ht
    · exact P.sd t ht
    · rw [List.mem_singleton] at ht
      subst ht
      exact hs⟩

theorem ite_le_of {c : Prop} [Decidable c] {a b m : Nat} (h1 : a ≤ m) (h2 : b ≤ m) : (if c then a else b) ≤ m := by split <;> assumption

theorem wS_sortRuns (C : Cmp prog w A s a₀ kf κ) {st : SortSt} {Q : Unit → SortSt → Prop} (hB : SB a₀ κ st) (hp : pendingOf st = #[]) (h1 : 1 ≤ a₀.size)
    (h : ∀ st', SB a₀ κ st' → Sd kf (arrOf st') 0 a₀.size → Q () st') : wpS (model prog w) A E s sortRuns' Q st := by
  rw [sortRuns'_eq]
  refine wpS_bind (wpS_get ?_)
  simp only [hB.size]
  refine wpS_bind (wpS_mono (wpS_forRange
    (I := fun x c st' => SB a₀ κ st' ∧ ∃ lo p, c = (none, lo) ∧ min x a₀.size ≤ lo ∧ lo ≤ a₀.size ∧ Pend kf st' p lo)
    (Q := fun c st' => SB a₀ κ st' ∧ c = (none, a₀.size) ∧ ∃ p, Pend kf st' p a₀.size) ?step ?fin ⟨hB, 0, [], rfl, by omega, by omega, hp, rfl, fun t ht => by cases ht⟩) ?post)
  case fin =>
    rintro c st' ⟨hB', lo, p, rfl, g1, g2, P⟩
    have : lo = a₀.size := by omega
    subst this
    exact ⟨hB', rfl, p, P⟩
  case step =>
    rintro x c st' _ hx ⟨hB', lo, p, rfl, g1, g2, P⟩
    refine wS_if (fun hge => ?_) (fun hge => ?_)
    · have : lo = a₀.size := by
        have h9 : a₀.size ≤ lo := hge
        omega
      subst this
      exact wpS_pure ⟨hB', rfl, p, P⟩
    have hlt : lo < a₀.size := by
      have h9 : ¬ a₀.size ≤ lo := hge
      omega
    refine wpS_bind (wS_countRun C (by show lo + (a₀.size - lo) ≤ _; omega) (by show 1 ≤ a₀.size - lo; omega) hB' fun m st2 m1 m2 hB2 hp2 ho2 hs2 => ?_)
    have m2 : m ≤ a₀.size - lo := m2
    have hs2 : Sd kf (arrOf st2) lo (lo + m) := hs2
    have P2 : Pend kf st2 p lo := P.out hp2 ho2
    have fin : ∀ (st3 : SortSt) (p3 : List Run) (n : Nat), SB a₀ κ st3 → Pend kf st3 p3 lo → 1 ≤ n → lo + n ≤ a₀.size → Sd kf (arrOf st3) lo (lo + n) →
        SB a₀ κ (setPending st3 ((pendingOf st3).push (lo, n, 0))) ∧ ∃ lo' p', ((none : Option Unit), lo + n) = (none, lo') ∧ min (x + 1) a₀.size ≤ lo' ∧ lo' ≤ a₀.size ∧ Pend kf (setPending st3 ((pendingOf st3).push (lo, n, 0))) p' lo' :=
      fun st3 p3 n gB gP gn1 gn2 gs => ⟨⟨gB.perm, gB.kind, gB.failed⟩, lo + n, _, rfl, by omega, gn2, gP.push gn1 gs⟩
    refine wS_if (fun hm => ?_) (fun hm => ?_)
    · refine wpS_bind (wpS_lift (wpAny_rule ⟨rfl, ?_⟩))
      have hm' : m < minRun' a₀.size a₀.size 0 := hm
      refine wpS_bind (wS_binary C (n := min (a₀.size - lo) (minRun' a₀.size a₀.size 0)) (by omega) (by omega) hB2 hs2 fun st3 hB3 hp3 ho3 hs3 => ?_)
      have P3 := P2.out hp3 ho3
      refine wS_if (fun hf => by simp at hf) (fun _ => ?_)
      have hn1 : 1 ≤ min (a₀.size - lo) (minRun' a₀.size a₀.size 0) := by omega
      have hn2 : lo + min (a₀.size - lo) (minRun' a₀.size a₀.size 0) ≤ a₀.size := by omega
      refine wpS_bind (wpS_get ?_)
      rcases hbk : (pendingOf st3).back? with _ | ⟨s1, n1, q1⟩
      · exact wpS_bind (wpS_modify (wpS_pure (fin _ p (min (a₀.size - lo) (minRun' a₀.size a₀.size 0)) hB3 P3 hn1 hn2 hs3)))
      · refine wpS_bind (wpS_mono (wpS_forRange (I := fun _ c st' => SB a₀ κ st' ∧ c = (none, ()) ∧ ∃ p', Pend kf st' p' lo ∧ Sd kf (arrOf st') lo (lo + (min (a₀.size - lo) (minRun' a₀.size a₀.size 0))))
          (Q := fun c st' => SB a₀ κ st' ∧ c = (none, ()) ∧ ∃ p', Pend kf st' p' lo ∧ Sd kf (arrOf st') lo (lo + (min (a₀.size - lo) (minRun' a₀.size a₀.size 0)))) ?_ (fun _ _ hh => hh) ⟨hB3, rfl, p, P3, hs3⟩) ?_)
        · rintro y c st' _ hy ⟨gB, rfl, p', gP, gs⟩
          refine wpS_bind (wpS_get ?_)
          split
          · next z1 z2 older hz =>
            refine wS_if (fun _ => wpS_pure ⟨gB, rfl, p', gP, gs⟩) (fun _ => ?_)
            have hlen : p'.length - 2 + 1 < p'.length := by
              rw [gP.pend] at hz
              by_cases hl : 1 < p'.length
              · omega
              · rw [if_neg (by simpa using hl)] at hz; cases hz
            refine wpS_bind (wS_mergePend (p := p') C gB gP (by omega) (by show (pendingOf st').size - 2 + 1 < _; rw [gP.pend]; exact hlen) fun st4 p4 gB4 gP4 _ go4 => ?_)
            exact wpS_pure ⟨gB4, rfl, p4, gP4, gs.out go4 (.inr (Nat.le_refl _))⟩
          · exact wpS_pure ⟨gB, rfl, p', gP, gs⟩
        · rintro c st' ⟨gB, rfl, p', gP, gs⟩
          refine wpS_bind (wpS_modify (wpS_bind (wpS_modify (wpS_pure ?_))))
          exact fin _ _ (min (a₀.size - lo) (minRun' a₀.size a₀.size 0)) ⟨gB.perm, gB.kind, gB.failed⟩ (gP.modify (fun t => ⟨rfl, rfl⟩)) hn1 hn2 gs
    · have hn1 : 1 ≤ m := m1
      have hn2 : lo + m ≤ a₀.size := by omega
      refine wpS_bind (wpS_get ?_)
      rcases hbk : (pendingOf st2).back? with _ | ⟨s1, n1, q1⟩
      · exact wpS_bind (wpS_modify (wpS_pure (fin _ p m hB2 P2 hn1 hn2 hs2)))
      · refine wpS_bind (wpS_mono (wpS_forRange (I := fun _ c st' => SB a₀ κ st' ∧ c = (none, ()) ∧ ∃ p', Pend kf st' p' lo ∧ Sd kf (arrOf st') lo (lo + m))
          (Q := fun c st' => SB a₀ κ st' ∧ c = (none, ()) ∧ ∃ p', Pend kf st' p' lo ∧ Sd kf (arrOf st') lo (lo + m)) ?_ (fun _ _ hh => hh) ⟨hB2, rfl, p, P2, hs2⟩) ?_)
        · rintro y c st' _ hy ⟨gB, rfl, p', gP, gs⟩
          refine wpS_bind (wpS_get ?_)
          split
          · next z1 z2 older hz =>
            refine wS_if (fun _ => wpS_pure ⟨gB, rfl, p', gP, gs⟩) (fun _ => ?_)
            have hlen : p'.length - 2 + 1 < p'.length := by
              rw [gP.pend] at hz
              by_cases hl : 1 < p'.length
              · omega
              · rw [if_neg (by simpa using hl)] at hz; cases hz
            refine wpS_bind (wS_mergePend (p := p') C gB gP (by omega) (by show (pendingOf st').size - 2 + 1 < _; rw [gP.pend]; exact hlen) fun st4 p4 gB4 gP4 _ go4 => ?_)
            exact wpS_pure ⟨gB4, rfl, p4, gP4, gs.out go4 (.inr (Nat.le_refl _))⟩
          · exact wpS_pure ⟨gB, rfl, p', gP, gs⟩
        · rintro c st' ⟨gB, rfl, p', gP, gs⟩
          refine wpS_bind (wpS_modify (wpS_bind (wpS_modify (wpS_pure ?_))))
          exact fin _ _ m ⟨gB.perm, gB.kind, gB.failed⟩ (gP.modify (fun t => ⟨rfl, rfl⟩)) hn1 hn2 gs
  case post =>
    rintro c st' ⟨hB', rfl, p, P⟩
    refine wpS_bind (wpS_mono (wpS_forRange (I := fun x c st' => SB a₀ κ st' ∧ c = (none, ()) ∧ ∃ p, Pend kf st' p a₀.size ∧ p.length + x ≤ a₀.size)
      (Q := fun c st' => SB a₀ κ st' ∧ c = (none, ()) ∧ ∃ p, Pend kf st' p a₀.size ∧ p.length ≤ 1) ?_ ?_ ⟨hB', rfl, p, P, by have := P.cov.le; omega⟩) ?_)
    · rintro x c st' _ hx ⟨gB, rfl, p, gP, gl⟩
      refine wpS_bind (wpS_get ?_)
      refine wS_if (fun hz => wpS_pure ⟨gB, rfl, p, gP, by rw [gP.pend] at hz; simpa using hz⟩) (fun hz => ?_)
      have hl : 1 < p.length := by rw [gP.pend] at hz; simpa using hz
      have sz : (pendingOf st').size = p.length := by rw [gP.pend]; simp
      refine wpS_bind (wS_mergePend (p := p) C gB gP (Nat.le_refl _) ?_ fun st4 p4 gB4 gP4 gl4 _ => ?_)
      · rw [sz]
        exact Nat.lt_of_le_of_lt (Nat.succ_le_succ (ite_le_of (m := p.length - 2) (Nat.sub_le _ _) (Nat.le_refl _))) (by omega)
      · exact wpS_pure ⟨gB4, rfl, p4, gP4, by omega⟩
    · rintro c st' ⟨gB, rfl, p, gP, gl⟩
      exact ⟨gB, rfl, p, gP, by omega⟩
    · rintro c st' ⟨gB, rfl, p, gP, gl⟩
      refine wpS_pure (h st' gB ?_)
      match p, gP, gl with
      | [], gP, _ => exact absurd gP.cov (by show ¬ 0 = a₀.size; omega)
      | [t], gP, _ =>
        obtain ⟨c1, c2, c3⟩ := gP.cov
        have c3 : 0 + t.2.1 = a₀.size := c3
        have := gP.sd t (by simp)
        rw [c1, c3] at this
        exact this
end
end Mine
end

-- part S8
section
open PySem PySem.W PySem.Calls PyProof.Rows
set_option Elab.async false
set_option maxRecDepth 100000
set_option maxHeartbeats 2000000
namespace Mine
open PySem.SeqAt PySem.MeetsSeq3 PySem.MeetsSeq
open AutoSeq1 (wpAny_loadPart')

def ltP (p q : Int × Int) : Bool := if p.1 = q.1 then decide (p.2 < q.2) else decide (p.1 < q.1)

section
variable {l b : Addr} {items items2 : Array Value} {n n2 : Nat} {dd dd2 : Option Addr} {sl sl2 : Array (Option Value)}
abbrev LtSpec (l b : Addr) (items items2 : Array Value) (n n2 : Nat) (dd dd2 : Option Addr) (sl sl2 : Array (Option Value)) (r : Bool) : PySem.Spec := fun _ R s =>
  s.heap.get? l = some { cls := .type "list", dict := dd, data := .seq items n, slots := sl } ∧
  s.heap.get? b = some { cls := .type "list", dict := dd2, data := .seq items2 n2, slots := sl2 } ∧ R (.ok (.ret (.bool r))) s

theorem lt_loop_end (i : Nat) (h1 : items.size = i) (h2 : items2.size = i) : Meets (Builtin.«list.__eq__.loop» ⟨[.ref l, .ref b, rawInt i, rawInt 0], []⟩) (LtSpec l b items items2 n n2 dd dd2 sl sl2 false) := by
  intro prog w A R s h
  obtain ⟨hp, g, d, tk, os⟩ := s; obtain ⟨hl, hb, h⟩ := h
  wp_walk using wpAny_loadPart' hl, wpAny_loadPart' hb
  have hi1 : items[((i : Nat) : Int).toNat]? = none := by simp; omega
  have hi2 : items2[((i : Nat) : Int).toNat]? = none := by simp; omega
  rw [hi1, hi2]
  wp_walk using wpAny_loadPart' hl, wpAny_loadPart' hb
  show R (.ok (.ret (.bool (decide (items.size < items2.size))))) _
  rw [h1, h2]
  simpa using h
theorem lt_loop_step (i : Nat) {x y : Int} {t u : Tok} {r : Bool} (h1 : items[i]? = some (.int x t)) (h2 : items2[i]? = some (.int y u))
    (nx : x = y → Meets (Builtin.«list.__eq__.loop» ⟨[.ref l, .ref b, rawInt ((i + 1 : Nat) : Int), rawInt 0], []⟩) (LtSpec l b items items2 n n2 dd dd2 sl sl2 r)) (hr : x ≠ y → r = decide (x < y)) :
    Meets (Builtin.«list.__eq__.loop» ⟨[.ref l, .ref b, rawInt i, rawInt 0], []⟩) (LtSpec l b items items2 n n2 dd dd2 sl sl2 r) := by
  intro prog w A R s h
  obtain ⟨hp, g, d, tk, os⟩ := s; obtain ⟨hl, hb, h⟩ := h
  wp_walk using wpAny_loadPart' hl, wpAny_loadPart' hb
  have hi1 : items[((i : Nat) : Int).toNat]? = some (.int x t) := by simpa using h1
  have hi2 : items2[((i : Nat) : Int).toNat]? = some (.int y u) := by simpa using h2
  have hc : ((i : Int) + 1) = ((i + 1 : Nat) : Int) := by push_cast; rfl
  rw [hi1, hi2]
  refine wpAny_bind (EqAt.int_int x t y u prog w _ _ ?_)
  by_cases hxy : x = y
  · have e : (x == y) = true := by simpa using hxy
    rw [e]
    wp_walk
    rw [hc]
    exact ⟨plainId_quiet plain_eq_loop _, codeAny_builtin entry_eq_loop (by
      rw [Around.under_plainId plain_eq_loop _]
      exact nx hxy prog w A R _ ⟨hl, hb, h⟩)⟩
  · have e : (x == y) = false := by simpa using hxy
    rw [e]
    wp_walk using wpAny_loadPart' hl, wpAny_loadPart' hb
    rw [hi1, hi2]
    refine wpAny_bind (wpAny_lt_int ?_)
    wp_walk
    rw [hr hxy] at h
    exact h
end
section
variable {prog : Program} {w : World} {A : Around} {E : Value → Shared → Prop} {s : Shared} {l b : Addr} {p q : Int × Int} {t1 t2 u1 u2 : Tok}
theorem lt_pair {n n2 : Nat} {dd dd2 : Option Addr} {sl sl2 : Array (Option Value)} :
    Meets (Builtin.«list.__lt__» ⟨[.ref l, .ref b], []⟩) (LtSpec l b #[.int p.1 t1, .int p.2 t2] #[.int q.1 u1, .int q.2 u2] n n2 dd dd2 sl sl2 (ltP p q)) := by
  intro prog w A R s h
  obtain ⟨hp, g, d, tk, os⟩ := s; obtain ⟨hl, hb, h⟩ := h
  have f3 := AutoSeq1.sub_list_list
  wp_walk using wpAny_loadPart' hl, wpAny_loadPart' hb
  refine ⟨plainId_quiet plain_eq_loop _, codeAny_builtin entry_eq_loop ?_⟩
  rw [Around.under_plainId plain_eq_loop _]
  refine lt_loop_step 0 (r := ltP p q) rfl rfl (fun h1 => lt_loop_step 1 rfl rfl (fun h2 => ?_) (fun h2 => by unfold ltP; rw [if_pos h1])) (fun h1 => by unfold ltP; rw [if_neg h1]) prog w A R _ ⟨hl, hb, h⟩
  have : ltP p q = false := by unfold ltP; rw [if_pos h1, h2]; simp
  rw [this]
  exact lt_loop_end 2 rfl rfl
theorem call_lt_pair {v u : Value} {Q : Value → Shared → Prop} (hv : PairV s.heap v p) (hu : PairV s.heap u q) (h : Q (.bool (ltP p q)) s) : wpAny (model prog w) A (call (.builtin "list.__lt__") [v, u]) Q E s := by
  obtain ⟨a, t1, t2, rfl, ⟨o, ho, hc, n, hd⟩⟩ := hv
  obtain ⟨b, u1, u2, rfl, ⟨o', ho', hc', n', hd'⟩⟩ := hu
  obtain ⟨c, d, dt, sl⟩ := o
  obtain ⟨c', d', dt', sl'⟩ := o'
  simp only at hc hd hc' hd'
  subst hc hd hc' hd'
  exact call_meets (PySem.F.slot_list_lt) ⟨_, ho, rfl⟩ (PySem.F.entry_list_lt) (PySem.F.args_list_lt_2 _ _) (lt_pair (p := p) (q := q)) ⟨ho, ho', h⟩
end
end Mine
end

-- part S9
section
open PySem PySem.W PySem.Calls PyProof.Rows
set_option Elab.async false
set_option maxRecDepth 100000
set_option maxHeartbeats 2000000
namespace Mine

def intAt (xs : Array Value) (i : Nat) : Int := match xs[i]? with | some (.int x _) => x | _ => 0
def readV (h : Heap) : Value → Int × Int
  | .ref a => match h.get? a with
    | some o => match o.data with
      | .seq xs _ => (intAt xs 0, intAt xs 1)
      | _ => (0, 0)
    | none => (0, 0)
  | _ => (0, 0)
theorem readV_of {h : Heap} {v : Value} {p : Int × Int} (x : PairV h v p) : readV h v = p := by
  obtain ⟨a, t, u, rfl, o, ho, hc, n, hd⟩ := x
  show (match h.get? a with | some o => _ | none => _) = p
  rw [ho]
  show (match o.data with | .seq xs _ => (intAt xs 0, intAt xs 1) | _ => (0, 0)) = p
  rw [hd]
  rfl
theorem Pairs.read {h : Heap} : ∀ {vs : List Value} {ps : List (Int × Int)}, Pairs h vs ps → vs.map (readV h) = ps
  | _, _, .nil => rfl
  | _, _, .cons x t => by rw [List.map_cons, readV_of x, Pairs.read t]
theorem Pairs.of_mem {h : Heap} : ∀ {us : List Value}, (∀ v ∈ us, ∃ p, PairV h v p) → Pairs h us (us.map (readV h))
  | [], _ => .nil
  | v :: us, hm => .cons (by obtain ⟨p, hp⟩ := hm v (by simp); rw [readV_of hp]; exact hp) (Pairs.of_mem fun u hu => hm u (by simp [hu]))

theorem ltP_iff {p q : Int × Int} : ltP p q = true ↔ p.1 < q.1 ∨ (p.1 = q.1 ∧ p.2 < q.2) := by
  unfold ltP
  split
  · next h => simp only [decide_eq_true_eq]; omega
  · next h => simp only [decide_eq_true_eq]; omega
theorem ltP_not {p q : Int × Int} : ltP p q = false ↔ q.1 < p.1 ∨ (q.1 = p.1 ∧ q.2 ≤ p.2) := by
  have := ltP_iff (p := p) (q := q)
  cases h : ltP p q
  · have h2 : ¬ (p.1 < q.1 ∨ (p.1 = q.1 ∧ p.2 < q.2)) := fun c => by rw [this.mpr c] at h; cases h
    simp only [true_iff]
    omega
  · have h2 := this.mp h
    simp only [Bool.true_eq_false, false_iff]
    omega
def rankP (ps : List (Int × Int)) (p : Int × Int) : Int := ((ps.filter fun q => ltP q p).length : Nat)
theorem filter_le {α : Type} {f g : α → Bool} (h : ∀ a, f a = true → g a = true) : ∀ l : List α, (l.filter f).length ≤ (l.filter g).length
  | [] => Nat.le_refl _
  | a :: l => by
    have ih := filter_le h l
    rw [List.filter_cons, List.filter_cons]
    by_cases hf : f a = true
    · rw [if_pos hf, if_pos (h a hf)]; simpa using ih
    · rw [if_neg hf]
      split
      · exact Nat.le_succ_of_le ih
      · exact ih
theorem filter_lt {α : Type} {f g : α → Bool} (h : ∀ a, f a = true → g a = true) {x : α} (hf : f x = false) (hg : g x = true) : ∀ l : List α, x ∈ l → (l.filter f).length < (l.filter g).length
  | a :: l, hx => by
    rw [List.filter_cons, List.filter_cons]
    rcases List.mem_cons.mp hx with rfl | hx
    · rw [if_neg (by rw [hf]; simp), if_pos hg]
      exact Nat.lt_succ_of_le (filter_le h l)
    · have ih := filter_lt h hf hg l hx
      by_cases hfa : f a = true
      · rw [if_pos hfa, if_pos (h a hfa)]; simpa using ih
      · rw [if_neg hfa]
        split
        · exact Nat.lt_succ_of_lt ih
        · exact ih
theorem rank_lt {ps : List (Int × Int)} {p q : Int × Int} (hp : p ∈ ps) : ltP p q = decide (rankP ps p < rankP ps q) := by
  unfold rankP
  cases h : ltP p q
  · have h1 := ltP_not.mp h
    have := filter_le (f := fun r => ltP r q) (g := fun r => ltP r p) (fun r hr => by
      have := ltP_iff.mp hr
      exact ltP_iff.mpr (by omega)) ps
    refine (decide_eq_false ?_).symm
    omega
  · have h1 := ltP_iff.mp h
    have := filter_lt (f := fun r => ltP r p) (g := fun r => ltP r q) (fun r hr => by
      have := ltP_iff.mp hr
      exact ltP_iff.mpr (by omega)) (x := p) (ltP_not.mpr (by omega)) h ps hp
    refine (decide_eq_true ?_).symm
    omega
theorem mem_pairsOf {vs : List Value} {x : Keyed} (h : x ∈ pairsOf vs) : x.1 ∈ vs ∧ x.2 = x.1 := by
  unfold pairsOf at h
  have h' : x ∈ (vs.toArray.zip vs.toArray).toList := Array.mem_toList_iff.mpr h
  rw [Array.toList_zip] at h'
  obtain ⟨i, hi, e⟩ := List.getElem_of_mem h'
  rw [List.getElem_zip] at e
  rw [← e]
  exact ⟨List.getElem_mem _, rfl⟩

section
variable {prog : Program} {w : World} {A : Around} {E : Value → Shared → Prop} {s : Shared}

def keyP (h : Heap) (ps : List (Int × Int)) (x : Keyed) : Int := rankP ps (readV h x.1)

theorem cmp_pairs {vs : List Value} {ps : List (Int × Int)} (hu : A.units < cLine) (hP : Pairs s.heap vs ps) : Cmp prog w A s (pairsOf vs) (keyP s.heap ps) oneType' := fun x y hx hy E => by
  obtain ⟨p, hp, vp⟩ := Paired_mem hP _ (mem_pairsOf hx).1
  obtain ⟨q, hq, vq⟩ := Paired_mem hP _ (mem_pairsOf hy).1
  rw [keyLt'_oneType, oneLt'_eq]
  simp only [if_true]
  refine wpAny_bind (wpAny_cRoomFor hu ?_)
  have vp' := vp
  obtain ⟨a, t, u, e, o, ho, hc, _⟩ := vp'
  refine wpAny_bind (wpAny_callSpecialIfBound?_slot (T := "list") (id := "list.__lt__") (by rw [e]; exact ⟨o, ho, hc⟩) PySem.F.slot_list_lt (call_lt_pair vp vq ?_))
  refine wpAny_truthy_bool ⟨rfl, ?_⟩
  unfold keyP
  rw [readV_of vp, readV_of vq]
  exact rank_lt hp

theorem kind_pairs {vs : List Value} {ps : List (Int × Int)} {Q : SortKind → Shared → Prop} (h2 : 2 ≤ vs.length) (hP : Pairs s.heap vs ps) (h : Q oneType' s) : wpAny (model prog w) A (keyKind' vs.toArray) Q E s :=
  kas_kind (T := .type "list") h2 (fun v hv => by
    obtain ⟨p, hp, a, t, u, rfl, o, ho, hc, _⟩ := Paired_mem hP v hv
    intro A Q E s' k q
    exact wpAny_typeOf (T := "list") ⟨o, k _ _ ho, hc⟩ q) rfl rfl h

theorem out_facts {h : Heap} {vs : List Value} {ps : List (Int × Int)} {st : SortSt} (hP : Pairs h vs ps) (hp : (arrOf st).Perm (pairsOf vs)) (hs : Sd (keyP h ps) (arrOf st) 0 (pairsOf vs).size) :
    ((arrOf st).map (·.2)).toList.Perm vs ∧ ((arrOf st).map (·.2)).toList.Pairwise (fun u v => ltP (readV h v) (readV h u) = false) := by
  have e2 : ∀ x ∈ (arrOf st).toList, x.2 = x.1 := fun x hx => (mem_pairsOf (hp.mem_iff.mp (Array.mem_toList_iff.mp hx))).2
  have em : ∀ x ∈ (arrOf st).toList, x.1 ∈ vs := fun x hx => (mem_pairsOf (hp.mem_iff.mp (Array.mem_toList_iff.mp hx))).1
  have hpl : (arrOf st).toList.Perm (vs.zip vs) := by
    have := Array.perm_iff_toList_perm.mp hp
    rwa [pairsOf_toList] at this
  refine ⟨?_, ?_⟩
  · rw [Array.toList_map]
    have := hpl.map (fun x : Keyed => x.2)
    refine this.trans ?_
    have : (vs.zip vs).map (fun x : Keyed => x.2) = vs := by
      rw [← List.unzip_snd]
      rw [List.unzip_zip (by rfl)]
    rw [this]
  · rw [Array.toList_map, List.pairwise_map]
    refine List.pairwise_iff_getElem.mpr fun i j hi hj hij => ?_
    have sz : (arrOf st).size = (pairsOf vs).size := hp.size_eq
    have hi' : i < (arrOf st).size := by simpa using hi
    have hj' : j < (arrOf st).size := by simpa using hj
    have := hs i j (Nat.zero_le _) (Nat.le_of_lt hij) (by omega)
    rw [KF_some (Array.getElem?_eq_getElem hi'), KF_some (Array.getElem?_eq_getElem hj')] at this
    unfold keyP at this
    have m1 : (arrOf st)[i] ∈ (arrOf st).toList := by simp
    have m2 : (arrOf st)[j] ∈ (arrOf st).toList := by simp
    obtain ⟨q, hq, vq⟩ := Paired_mem hP _ (em _ m2)
    rw [Array.getElem_toList, Array.getElem_toList, e2 _ m1, e2 _ m2]
    rw [rank_lt (by rw [readV_of vq]; exact hq)]
    refine decide_eq_false ?_
    omega

theorem sort_pairs {a : Addr} {vs : List Value} {ps : List (Int × Int)} {n : Nat} {P : PySem.Fin → Shared → Prop} (hu : A.units < cLine) (ho : s.heap.get? a = some (seqObj "list" vs.toArray n)) (hz : vs.length ≤ 1000)
    (hP : ∀ h', KeptBut a s.heap h' → Pairs h' vs ps)
    (h : ∀ out : Array Value, out.toList.Perm vs → out.toList.Pairwise (fun u v => ltP (readV s.heap v) (readV s.heap u) = false) → P (.done (.ret .none)) { s with heap := sortedHeap s.heap a vs out }) :
    wpAny (model prog w) A (Builtin.«list.sort» ⟨[.ref a], []⟩) P E s := by
  rw [list_sort_plain]
  have ha : a < s.heap.objs.size := Heap.lt_size ho
  have hsz : vs.toArray.size = vs.length := by simp
  refine wpAny_bind (listItems_at ho rfl ?_)
  refine wpAny_bind (listUpdate_at ho rfl ?_ (by rw [hsz, sizeLine_eq]; omega) (by simp))
  obtain ⟨e1, ho1⟩ : ∃ e1, (s.heap.update a (Obj.mapSeq fun _ => #[])).get? a = some (seqObj "list" #[] e1) := ⟨_, get?_update_seq ho (fun _ => #[])⟩
  refine wpAny_bind (seqEpoch_at ho1 rfl ?_)
  refine wpAny_bind (wpAny_newTuple ?_)
  refine wpAny_bind (wpAny_newList ?_)
  refine wpAny_holding ?_
  have ho6 : (((s.heap.update a (Obj.mapSeq fun _ => #[])).push (seqObj "tuple" vs.toArray 0)).push (seqObj "list" #[] 0)).get? a = some (seqObj "list" #[] e1) := by
    rw [Heap.get?_push_ne _ _ _ (by rw [size_push', Heap.size_update]; exact Nat.ne_of_lt (Nat.lt_succ_of_lt ha)), Heap.get?_push_ne _ _ _ (by rw [Heap.size_update]; exact Nat.ne_of_lt ha)]
    exact ho1
  have kb : KeptBut a s.heap (((s.heap.update a (Obj.mapSeq fun _ => #[])).push (seqObj "tuple" vs.toArray 0)).push (seqObj "list" #[] 0)) := fun b o hb e =>
    Heap.get?_push_of_some _ (Heap.get?_push_of_some _ (upd_but b o hb e))
  show wpAny (model prog w) A _ P E { s with heap := ((s.heap.update a (Obj.mapSeq fun _ => #[])).push (seqObj "tuple" vs.toArray 0)).push (seqObj "list" #[] 0) }
  dsimp only
  have P0 := hP s.heap fun b o _ e => e
  have P6 := hP _ kb
  have rd : ∀ v ∈ vs, readV (((s.heap.update a (Obj.mapSeq fun _ => #[])).push (seqObj "tuple" vs.toArray 0)).push (seqObj "list" #[] 0)) v = readV s.heap v := fun v hv => by
    have : vs.map (readV (((s.heap.update a (Obj.mapSeq fun _ => #[])).push (seqObj "tuple" vs.toArray 0)).push (seqObj "list" #[] 0))) = vs.map (readV s.heap) := P6.read.trans P0.read.symm
    exact List.map_inj_left.mp this v hv
  have fin : ∀ st' : SortSt, (arrOf st').Perm (pairsOf vs) → ((arrOf st').map (·.2)).toList.Perm vs → ((arrOf st').map (·.2)).toList.Pairwise (fun u v => ltP (readV s.heap v) (readV s.heap u) = false) →
      P (.done (.ret .none)) { s with heap := sortedHeap s.heap a vs ((arrOf st').map (·.2)) } := fun st' _ b c => h _ b c
  by_cases h2 : vs.toArray.size < 2
  · rw [if_pos h2, if_pos h2]
    refine wpAny_bind (wpAny_pure ?_)
    rw [StateT.run_pure]
    refine wpAny_bind (wpAny_pure ?_)
    dsimp only
    refine wpAny_bind (seqEpoch_at ho6 rfl ?_)
    refine wpAny_bind (listUpdate_at ho6 rfl ?_ (by simp) (by rw [Array.size_map]; show (pairsOf vs).size ≤ _; rw [pairsOf_size, sizeLine_eq]; omega))
    simp only [bne_self_eq_false, Bool.false_eq_true, if_false]
    have e : ((pairsOf vs).map (·.2)).toList = vs := by
      rw [Array.toList_map, pairsOf_toList]
      rw [← List.unzip_snd, List.unzip_zip (by rfl)]
    refine wpAny_pure (fin (SortSt.mk' general' (vs.toArray.zip vs.toArray) #[] 7 none) (Array.Perm.refl _) ?_ ?_)
    · show ((pairsOf vs).map (·.2)).toList.Perm vs
      rw [e]
    · show ((pairsOf vs).map (·.2)).toList.Pairwise _
      rw [e]
      match vs, hsz, h2 with
      | [], _, _ => exact List.Pairwise.nil
      | [v], _, _ => exact List.pairwise_singleton _ _
      | _ :: _ :: _, _, h2 => exact absurd h2 (by simp)
  · rw [if_neg h2, if_neg h2]
    refine wpAny_bind (kind_pairs (by omega) P6 ?_)
    refine wpAny_bind (wpAny_mono (wS_sortRuns (a₀ := pairsOf vs) (st := SortSt.mk' oneType' (vs.toArray.zip vs.toArray) #[] 7 none)
      (Q := fun _ st' => (arrOf st').Perm (pairsOf vs) ∧ failedOf st' = none ∧ Sd (keyP _ ps) (arrOf st') 0 (pairsOf vs).size)
      (cmp_pairs hu P6) ⟨Array.Perm.refl _, rfl, rfl⟩ rfl (by rw [pairsOf_size]; omega) fun st' a1 a2 => ⟨a1.perm, a1.failed, a2⟩) ?_ fun _ _ e => e)
    rintro ⟨⟨⟩, st'⟩ s' ⟨rfl, hp, hf, hs⟩
    dsimp only
    refine wpAny_bind (seqEpoch_at ho6 rfl ?_)
    refine wpAny_bind (listUpdate_at ho6 rfl ?_ (by simp) (by refine Nat.le_trans (Nat.le_of_eq ((Array.size_map ..).trans (hp.size_eq.trans (pairsOf_size _)))) ?_; rw [sizeLine_eq]; omega))
    rw [hf]
    simp only [bne_self_eq_false, Bool.false_eq_true, if_false]
    obtain ⟨o1, o2⟩ := out_facts P6 hp hs
    refine wpAny_pure (fin st' hp o1 ?_)
    refine List.Pairwise.imp_of_mem ?_ o2
    intro u v hu' hv' e
    rw [rd u (o1.mem_iff.mp hu'), rd v (o1.mem_iff.mp hv')] at e
    exact e

theorem sorted_pairs {d : Nat} {l : Addr} {vs : List Value} {ps : List (Int × Int)} {Q : Value → Shared → Prop} (ok : Ok A d) (hd : d ≤ 30) (hl : s.heap.IsList l vs.toArray) (hz : vs.length ≤ 1000) (hP : Pairs s.heap vs ps)
    (h : ∀ (D : Addr) (h' : Heap) (us : List Value) (qs : List (Int × Int)), s.heap.get? D = none → Kept s.heap h' → Lst h' D us → Pairs h' us qs → qs.Perm ps → qs.Pairwise (fun p q => ltP q p = false) → Q (.ref D) { s with heap := h' }) :
    wpAny (model prog w) A (call (.builtin "sorted") [.ref l]) Q E s := by
  refine Calls.call_function_entry kind_sorted plain_sorted entry_sorted (args_sorted1 _) ?_
  unfold Builtin.«sorted»
  refine wpAny_bind (m := checkCount "sorted" 1 1 _) (wpAny_pure ?_)
  refine wpAny_bind (collect_list hl ?_ (by rw [sizeLine_eq]; omega))
  refine wpAny_bind (wpAny_newList ?_)
  have hsz : ((s.heap.push (seqObj "list" #[] 0)).update s.heap.objs.size (Obj.mapSeq (· ++ vs.toArray))).objs.size = s.heap.objs.size + 1 := by
    rw [Heap.size_update, size_push']
  have hoL : (((s.heap.push (seqObj "list" #[] 0)).update s.heap.objs.size (Obj.mapSeq (· ++ vs.toArray))).push (seqObj "list" vs.toArray 0)).get? (s.heap.objs.size + 1) = some (seqObj "list" vs.toArray 0) := by
    rw [← hsz]; exact Heap.get?_push_size _ rfl
  have nn : ∀ b, s.heap.objs.size ≤ b → s.heap.get? b = none := fun b hb => by
    cases e : s.heap.get? b with
    | none => rfl
    | some o => exact absurd (Heap.lt_size e) (Nat.not_lt.mpr hb)
  have n0 : s.heap.get? s.heap.objs.size = none := nn _ (Nat.le_refl _)
  have n1 : s.heap.get? (s.heap.objs.size + 1) = none := nn _ (Nat.le_succ _)
  have k1 : Kept s.heap (((s.heap.push (seqObj "list" #[] 0)).update s.heap.objs.size (Obj.mapSeq (· ++ vs.toArray))).push (seqObj "list" vs.toArray 0)) := fun b o e =>
    Heap.get?_push_of_some _ (upd_but b o (fun hb => by rw [hb, n0] at e; cases e) (Heap.get?_push_of_some _ e))
  show wpAny _ _ _ _ _ { s with heap := ((s.heap.push (seqObj "list" #[] 0)).update s.heap.objs.size (Obj.mapSeq (· ++ vs.toArray))).push (seqObj "list" vs.toArray 0) }
  rw [hsz]
  have k2 : ∀ h', KeptBut (s.heap.objs.size + 1) (((s.heap.push (seqObj "list" #[] 0)).update s.heap.objs.size (Obj.mapSeq (· ++ vs.toArray))).push (seqObj "list" vs.toArray 0)) h' → Kept s.heap h' := fun h' k b o e =>
    k b o (fun hb => by rw [hb, n1] at e; cases e) (k1 b o e)
  refine wpAny_bind (wpAny_holding (wpAny_call_entry slot_list_sort ⟨_, hoL, rfl⟩ entry_list_sort (sort_pairs (ps := ps) (ok.in1.in1.units (by omega)) hoL hz (fun h' k => hP.keeps (k2 h' k)) fun out o1 o2 => ⟨_, rfl, ?_⟩) (args_list_sort _)))
  refine wpAny_pure ⟨_, rfl, ?_⟩
  have kS : KeptBut (s.heap.objs.size + 1) (((s.heap.push (seqObj "list" #[] 0)).update s.heap.objs.size (Obj.mapSeq (· ++ vs.toArray))).push (seqObj "list" vs.toArray 0)) (sortedHeap (((s.heap.push (seqObj "list" #[] 0)).update s.heap.objs.size (Obj.mapSeq (· ++ vs.toArray))).push (seqObj "list" vs.toArray 0)) (s.heap.objs.size + 1) vs out) := fun b o hb e =>
    upd_but b o hb (Heap.get?_push_of_some _ (Heap.get?_push_of_some _ (upd_but b o hb e)))
  have kF := k2 _ kS
  have rd : ∀ v ∈ vs, readV (((s.heap.push (seqObj "list" #[] 0)).update s.heap.objs.size (Obj.mapSeq (· ++ vs.toArray))).push (seqObj "list" vs.toArray 0)) v = readV s.heap v := fun v hv =>
    List.map_inj_left.mp ((hP.keeps k1).read.trans hP.read.symm) v hv
  have hPo : Pairs s.heap out.toList (out.toList.map (readV s.heap)) := Pairs.of_mem fun v hv => by
    obtain ⟨p, _, hp⟩ := Paired_mem hP v (o1.mem_iff.mp hv); exact ⟨p, hp⟩
  refine h _ _ out.toList (out.toList.map (readV s.heap)) n1 kF ?_ (hPo.keeps kF) ?_ ?_
  · have e1 : (sortedHeap (((s.heap.push (seqObj "list" #[] 0)).update s.heap.objs.size (Obj.mapSeq (· ++ vs.toArray))).push (seqObj "list" vs.toArray 0)) (s.heap.objs.size + 1) vs out) =
        ((((((s.heap.push (seqObj "list" #[] 0)).update s.heap.objs.size (Obj.mapSeq (· ++ vs.toArray))).push (seqObj "list" vs.toArray 0)).update (s.heap.objs.size + 1) (Obj.mapSeq fun _ => #[])).push (seqObj "tuple" vs.toArray 0)).push (seqObj "list" #[] 0)).update (s.heap.objs.size + 1) (Obj.mapSeq fun _ => out) := rfl
    rw [e1]
    exact ⟨_, get?_update_seq (Heap.get?_push_of_some _ (Heap.get?_push_of_some _ (get?_update_seq hoL fun _ => #[]))) fun _ => out⟩
  · rw [← hP.read]
    exact o1.map _
  · rw [List.pairwise_map]
    refine List.Pairwise.imp_of_mem ?_ o2
    intro u v hu' hv' e
    rw [rd u (o1.mem_iff.mp hu'), rd v (o1.mem_iff.mp hv')] at e
    exact e
end
end Mine
end

-- part S10
section
open PySem PySem.W PySem.Calls PyProof.Rows
set_option Elab.async false
set_option maxRecDepth 100000
set_option maxHeartbeats 2000000
namespace Mine
open PySem.Spec PySem.SeqAt

def dP (p : Int × Int) : PyData := .list [.int p.1, .int p.2]
theorem reads_pair {h : Heap} {v : Value} {p : Int × Int} (x : PairV h v p) : ∃ as, Reads h v (dP p) as := by
  obtain ⟨a, t, u, rfl, o, ho, hc, n, hd⟩ := x
  exact ⟨_, Reads.list ho hc hd (.cons (.int p.1 t) (.cons (.int p.2 u) .nil))⟩
theorem readsAll_pairs {h : Heap} : ∀ {vs : List Value} {ps : List (Int × Int)}, Pairs h vs ps → ∃ as, ReadsAll h vs (ps.map dP) as
  | _, _, .nil => ⟨_, .nil⟩
  | _, _, .cons x r => by
    obtain ⟨as, h1⟩ := reads_pair x
    obtain ⟨bs, h2⟩ := readsAll_pairs r
    exact ⟨_, .cons h1 h2⟩
theorem reads_pairs {h : Heap} {a : Addr} {vs : List Value} {ps : List (Int × Int)} (hl : h.IsList a vs.toArray) (hp : Pairs h vs ps) : ∃ as, Reads h (.ref a) (.list (ps.map dP)) as := by
  obtain ⟨o, ho, hc, n, hd⟩ := hl
  obtain ⟨as, h2⟩ := readsAll_pairs hp
  exact ⟨_, Reads.list ho hc hd (by simpa using h2)⟩
theorem canLayAll0_pairs : ∀ ps : List (Int × Int), PyData.canLayAll0 (ps.map dP) = true
  | [] => by simp [PyData.canLayAll0]
  | n :: r => by simp [PyData.canLayAll0, PyData.canLay0, canLayAll0_pairs r, dP]
theorem depthAll_pairs : ∀ ps : List (Int × Int), PyData.depthAll (ps.map dP) ≤ 4
  | [] => by simp [PyData.depthAll]
  | n :: r => by
    have := depthAll_pairs r
    have h2 := W.depthAll_ints [n.1, n.2]
    simp only [List.map_cons, List.map_nil, PyData.depthAll, PyData.depth, dP] at *
    omega
theorem shaped_pairs (ps : List (Int × Int)) : shaped (.list (ps.map dP)) = true := by
  have h1 := depthAll_pairs ps
  have h2 : PyData.depth (.list (ps.map dP)) ≤ 64 := by simp only [PyData.depth]; omega
  show (PyData.canLay0 (.list (ps.map dP)) && decide (PyData.depth (.list (ps.map dP)) ≤ 64)) = true
  rw [Bool.and_eq_true]
  exact ⟨by simp only [PyData.canLay0]; exact canLayAll0_pairs ps, decide_eq_true h2⟩
theorem noMix_pairs : ∀ ps qs : List (Int × Int), noMixAll (ps.map dP) (qs.map dP) = true
  | [], [] => by simp [noMixAll]
  | [], _ :: _ => by simp [noMixAll]
  | _ :: _, [] => by simp [noMixAll]
  | _ :: r, _ :: q => by simp [noMixAll, noMix, noMix_pairs r q, dP]
theorem same_pairs : ∀ ps qs : List (Int × Int), PySem.Spec.sameAll (ps.map dP) (qs.map dP) = decide (ps = qs)
  | [], [] => by simp [PySem.Spec.sameAll]
  | [], _ :: _ => by simp [PySem.Spec.sameAll]
  | _ :: _, [] => by simp [PySem.Spec.sameAll]
  | p :: r, q :: t => by
    simp only [List.map_cons, PySem.Spec.sameAll, PySem.Spec.same, same_pairs r t, dP]
    obtain ⟨a, b⟩ := p
    obtain ⟨c, d⟩ := q
    by_cases h : a = c <;> by_cases h' : b = d <;> simp [h, h']

section
variable {prog : Program} {w : World} {A : Around} {E : Value → Shared → Prop} {s : Shared}
theorem Ok.units64 {A : Around} {d : Nat} (x : Ok A d) (h : d ≤ 40) : A.units + 64 < cLine := by
  have := x.un; rw [cLine_is]; omega
theorem eq_pairsK {d : Nat} {a b : Addr} {vs us : List Value} {ps qs : List (Int × Int)} {Q : Value → Shared → Prop} (ok : Ok A d) (hd : d ≤ 40) (hl : s.heap.IsList a vs.toArray) (hp : Pairs s.heap vs ps) (hl' : s.heap.IsList b us.toArray) (hq : Pairs s.heap us qs)
    (h : Q (.bool (decide (ps = qs))) s) : wpAny (model prog w) A (compareOp .Eq (.ref a) (.ref b)) Q E s := by
  obtain ⟨as, r1⟩ := reads_pairs hl hp
  obtain ⟨bs, r2⟩ := reads_pairs hl' hq
  exact eq_dataH_same r1 r2 (shaped_pairs ps) (shaped_pairs qs) (ok.units64 hd) (by simp only [noMix]; exact noMix_pairs ps qs) (by simp only [PySem.Spec.same]; rw [same_pairs]; exact h)
theorem ne_pairsK {d : Nat} {a b : Addr} {vs us : List Value} {ps qs : List (Int × Int)} {Q : Value → Shared → Prop} (ok : Ok A d) (hd : d ≤ 40) (hl : s.heap.IsList a vs.toArray) (hp : Pairs s.heap vs ps) (hl' : s.heap.IsList b us.toArray) (hq : Pairs s.heap us qs)
    (h : Q (.bool (!decide (ps = qs))) s) : wpAny (model prog w) A (compareOp .NotEq (.ref a) (.ref b)) Q E s := by
  obtain ⟨as, r1⟩ := reads_pairs hl hp
  obtain ⟨bs, r2⟩ := reads_pairs hl' hq
  exact ne_dataH_same r1 r2 (shaped_pairs ps) (shaped_pairs qs) (ok.units64 hd) (by simp only [noMix]; exact noMix_pairs ps qs) (by simp only [PySem.Spec.same]; rw [same_pairs]; exact h)
theorem item_negK {value slice : PySem.Expr} {l : Addr} {vs : List Value} {k : Int} {u : Tok} {v : Value} {Q : Value → Shared → Prop} (hl : s.heap.IsList l vs.toArray) (h0 : k < 0) (h1 : -(vs.length : Int) ≤ k) (hz : vs.length ≤ 1000) (hx : vs[(k + vs.length).toNat]? = some v) (h : Q v s)
    (hs : subscripted slice false (.ref l) (.int k u) = operate [.ref l, .int k u] (getItem (.ref l) (.int k u)) := by with_unfolding_all rfl) :
    wpAny (model prog w) A (subscriptTail value slice (.ref l) (.int k u)) Q E s :=
  tail_any hl.typeIs slot_list_getitem.lookup (wpAny_getItem_list_neg hl h0 (by simpa using h1) (by have : -(1000 : Int) ≤ k := by omega
                                                                                                    exact Int.le_trans (by decide) this) (by simpa using hx) h) hs
end
end Mine
end

-- part B10
section
open PySem PySem.W PySem.Calls PyProof.Rows
set_option Elab.async false
set_option maxRecDepth 100000
set_option maxHeartbeats 2000000
namespace Mine

def stepK (ks : List (Int × Int)) (q : Int × Int) : List (Int × Int) := if ks = [] ∨ (ks.getLastD (0, 0)).2 < -q.2 then ks ++ [(q.1, -q.2)] else ks
def keepOf (qs : List (Int × Int)) : List (Int × Int) := qs.foldl stepK []
theorem keepOf_snoc (qs : List (Int × Int)) (q : Int × Int) : keepOf (qs ++ [q]) = stepK (keepOf qs) q := by
  unfold keepOf; rw [List.foldl_append]; rfl
theorem stepK_len (ks : List (Int × Int)) (q : Int × Int) : (stepK ks q).length ≤ ks.length + 1 := by
  unfold stepK; split
  · rw [List.length_append]; simp
  · omega
theorem keepOf_len (qs : List (Int × Int)) : (keepOf qs).length ≤ qs.length := by
  suffices h : ∀ (qs ks : List (Int × Int)), (qs.foldl stepK ks).length ≤ ks.length + qs.length by
    have := h qs []; unfold keepOf; simpa using this
  intro qs
  induction qs with
  | nil => intro ks; simp
  | cons q r ih => intro ks; rw [List.foldl_cons]; have := ih (stepK ks q); have := stepK_len ks q; rw [List.length_cons]; omega

theorem ifn {x y : Str} {v : Value} {e r : Option Value} (hne : y ≠ x) (h : e = r) : (if y = x then some v else e) = r := (if_neg hne).trans h
section
variable {h h' : Heap} {K L : Addr} {vs : List Value} {ps : List (Int × Int)}
theorem pk (k : Kept h h') (p : Pairs (h.hide K) vs ps) : Pairs (h'.hide K) vs ps := p.keeps (Kept.but k K).hide2
theorem pb (ns : NoSeq h L) (n : L ≠ K) (b : KeptBut L h h') (p : Pairs (h.hide K) vs ps) : Pairs (h'.hide K) vs ps := p.off (ns.hide n) (b.inHide K)
theorem pairV_to {v : Value} {p : Int × Int} (x : PairV h v p) (k : KeptBut K h h') (n : v ≠ .ref K) : PairV (h'.hide K) v p := by
  obtain ⟨a, t, u, rfl, o, ho, r⟩ := x
  have ha : a ≠ K := fun q => n (q ▸ rfl)
  exact ⟨a, t, u, rfl, o, (Heap.hide_ne h' ha).trans (k _ _ ha ho), r⟩
theorem kept_hideNew (k : Kept h h') (n : h.get? K = none) : Kept h (h'.hide K) := fun b o e =>
  (Heap.hide_ne h' (fun q => by rw [q, n] at e; cases e)).trans (k b o e)
theorem lst_ne_ns {m : Str → Option Value} (l : Lst h K vs) (x : h.Ns L m) : L ≠ K := fun q => by
  obtain ⟨n, e⟩ := l
  obtain ⟨o, es, ep, ho, hd, _⟩ := x
  rw [q, e] at ho; cases ho; cases hd
theorem fr_none {h₀ : Heap} {m : Str → Option Value} (F : Fr h₀ L h m) {D : Addr} (hD : h.get? D = none) : h₀.get? D = none := by
  cases e : h₀.get? D with
  | none => rfl
  | some o => rw [F.keep _ _ e] at hD; cases hD
end

section
variable {w : World} {A : Around} {E : Value → Shared → Prop} {s : Shared} {G : GD}

theorem with_stmt {R : Prop} (t : Stmt) (F : Stmt → Prop) (main : F t → R) (key : F t) : R := main key

theorem unbeaten_call {d : Nat} {R : Result → Shared → Prop} {a : Addr} {vs : List Value} {ps : List (Int × Int)} (ok : Ok A d) (hd : d ≤ 27) (X : Glo G s.heap)
    (hl : s.heap.IsList a vs.toArray) (hp : Pairs s.heap vs ps) (hn : ps.length ≤ 256)
    (h : ∀ D h' tk us qs, s.heap.get? D = none → Kept s.heap h' → Lst h' D us → Pairs h' us (keepOf qs) → qs.Perm (ps.map fun p => (p.1, -p.2)) → qs.Pairwise (fun p q => ltP q p = false) → R (.ok (.ret (.ref D))) { s with heap := h', toks := tk }) :
    codeAny (model P w) A (.call (.ref G.fu) ⟨[.ref a], []⟩) R s := by
  refine call_fn (binds := [("pairs", .ref a)]) (ok.room (by omega)) X.Fu X.nl (fun doc pm an ct => BindsTo.of_eq rfl) (by decide +kernel) (locs rfl) (fun h₁ F₁ => ?_)
  have ok' := ok.deeper (envOf (fName (stAt 8)) (fScope (stAt 8)) s.heap.objs.size G.fu G.cu)
  have hlen : vs.length = ps.length := hp.length
  obtain ⟨L, hL⟩ : ∃ L, L = s.heap.objs.size := ⟨_, rfl⟩
  rw [← hL] at F₁ ok' ⊢
  obtain ⟨m₁, F₁, mt⟩ : ∃ m₁, Fr s.heap L h₁ m₁ ∧ m₁ "pairs" = some (.ref a) := ⟨_, F₁, rfl⟩
  have p₁ := hp.keeps F₁.keep
  -- ordered
  refine wpAny_execs_cons <| wpAny_Assign_Name <| Call_ <| ldB F₁ X X.n_sorted <| PyProof.Rows.callWith_builtin1 <| args_cons <| comp_val (cl := []) (fun _ => true) (fun h' v z => ∀ q, PairV h₁ v q → PairV h' z (q.1, -q.2))
      (fun h h' v z k f q hq => (f q hq).keeps k) ok'.hh (by rfl) (by decide +kernel) (by rfl) (by decide +kernel) (by rfl) <| ld F₁ mt ?_
  refine ⟨a, vs, rfl, hl.at fun o e => F₁.keep _ _ e, by omega, ?_, ?_, ?_⟩
  · intro C v m₃ s₃ E' _ _ _ _
    rw [List.forIn_nil]
    exact wpAny_pure ⟨rfl, keeps_refl _⟩
  · intro C v m₃ s₃ E' hv _ hns hmx k
    obtain ⟨q₀, _, hq₀⟩ := Paired_mem p₁ v hv
    obtain ⟨av', t', u', rfl, hpl'⟩ := id hq₀
    have hpl₃ : s₃.heap.IsList av' #[.int q₀.1 t', .int q₀.2 u'] := hpl'.at fun o e => k _ _ e
    refine List_ <| args_cons <| Subscript_ <| eN hns hmx <| wpAny_Constant_int <| item_litK (vs := [.int q₀.1 t', .int q₀.2 u']) hpl₃ (by decide) (by decide) rfl <|
      args_cons <| UnaryOp_ <| Subscript_ <| eN hns hmx <| wpAny_Constant_int <| item_litK (vs := [.int q₀.1 t', .int q₀.2 u']) hpl₃ (by decide) (by decide) rfl <| PyProof.Rows.neg_int <| args_nil <| mkList (by simp) fun T h' hT _ k' l' => ?_
    refine ⟨⟨h', _, rfl, k'⟩, fun W hW q hq => ?_⟩
    cases hq.inj hq₀
    exact ⟨T, _, _, rfl, (hideAll_list l' (alive_not hW hT)).isList⟩
  intro D₁ h₂ tk₂ ys hD₁ l₂ k₂ hP
  have e1 : vs.filter (fun _ => true) = vs := List.filter_eq_self.mpr fun _ _ => rfl
  rw [e1] at hP
  have hys : ys.length = vs.length := hP.length.symm
  have p₂ : Pairs h₂ ys (ps.map fun p => (p.1, -p.2)) :=
    Paired_map (K := PairV h₂) (fun q : Int × Int => (q.1, -q.2)) (fun _ _ e => e) (Paired_comp (K := fun (z : Value) (q : Int × Int) => PairV h₂ z (q.1, -q.2)) (fun _ _ _ f g => (g _ f).keeps ((Kept.refl h₂).hide)) p₁ hP)
  refine args_nil ?_
  refine sorted_pairs ok' (by omega) l₂.isList (by omega) p₂ fun D h₃ us₃ qs hD k₃ l₃ p₃ hperm hsort => ?_
  dsimp only at hD k₃ ⊢
  have F₃ := (F₁.kept k₂).kept k₃
  have hD₀ : s.heap.get? D = none := fr_none (F₁.kept k₂) hD
  have hqs : qs.length = ps.length := by have := hperm.length_eq; simpa using this
  refine stS F₃ fun h₄ F₄ b₄ => ?_
  dsimp only at b₄ ⊢
  have l₄ : Lst h₄ D us₃ := l₃.off (noSeq_ns F₃.ns) b₄
  have p₄ : Pairs h₄ us₃ qs := p₃.off (noSeq_ns F₃.ns) b₄
  -- kept
  refine wpAny_execs_cons <| wpAny_Assign_Name <| List_ <| args_nil <| mkList (by simp) fun K h₅ hK _ k₅ l₅ => ?_
  dsimp only at hK k₅ ⊢
  have F₅ := F₄.kept k₅
  refine stS F₅ fun h₆ F₆ b₆ => ?_
  dsimp only at b₆ ⊢
  have hDK : D ≠ K := fun q => by obtain ⟨n, e⟩ := l₄; rw [q, hK] at e; cases e
  have hLK : L ≠ K := lst_ne_ns l₅ F₅.ns
  have l₆ : Lst h₆ K [] := l₅.off (noSeq_ns F₅.ns) b₆
  have ld₆ : Lst h₆ D us₃ := (l₄.keeps k₅).off (noSeq_ns F₅.ns) b₆
  have p₆ : Pairs (h₆.hide K) us₃ qs := pb (noSeq_ns F₅.ns) hLK b₆ (p₄.keeps (kept_hideNew k₅ hK))
  have hK₀ : s.heap.get? K = none := fr_none F₄ hK
  obtain ⟨m₆, F₆, mo, mk⟩ : ∃ m₆, Fr s.heap L h₆ m₆ ∧ m₆ "ordered" = some (.ref D) ∧ m₆ "kept" = some (.ref K) := ⟨_, F₆, (if_neg (show ("ordered" : Str) ≠ "kept" by decide)).trans (if_pos rfl), if_pos rfl⟩
  refine wpAny_execs_cons <| for_list ok'.hh <| ld F₆ mo ?_
  refine ⟨D, us₃, fun I i h => ∃ m us, Fr s.heap L h m ∧ m "kept" = some (.ref K) ∧ Lst h K us ∧ Pairs (h.hide K) us (keepOf (qs.take i)) ∧ Lst h D us₃ ∧ Pairs (h.hide K) us₃ qs,
    rfl, ld₆.isList, ?_, ?_, ?_, ?_, ?_, ?_⟩
  · intro I h' _ it k
    exact ⟨m₆, [], F₆.kept k, mk, l₆.keeps k, by rw [List.take_zero]; exact .nil, ld₆.keeps k, pk k p₆⟩
  · rintro I i h h' hI ⟨m, us, F, mk, l, p, lD, pD⟩ it k
    have hI₀ : s.heap.get? I = none := fr_none F₆ hI
    have hIK : I ≠ K := fun q => it.ns.ne l.isList q.symm
    exact ⟨m, us, Fr.but F k (it.ne_ns F.ns) hI₀, mk, l.off it.ns k, pb it.ns hIK k p, lD.off it.ns k, pb it.ns hIK k pD⟩
  · rintro I i h ⟨m, us, F, mk, l, p, lD, pD⟩
    exact lD.isList
  · rintro I i v s' E' hv hit
    obtain ⟨p, _, av, t, u, rfl, _⟩ := Paired_mem p₆ v hv
    exact go2 rfl hit
  · rintro I i v h tk E' hI hv ⟨m, us, F, mk, l, p, lD, pD⟩ hit
    obtain ⟨⟨x, y⟩, hxy, av, t, u, rfl, hpl⟩ := Paired_get' pD i v hv
    have hIL : I ≠ L := fun q => (IsIt.of hit).ne_ns F.ns q.symm
    have hIK : I ≠ K := fun q => (IsIt.of hit).ns.ne l.isList q.symm
    have hil : i < qs.length := by
      rcases Nat.lt_or_ge i qs.length with q | q
      · exact q
      · rw [List.getElem?_eq_none q] at hxy; cases hxy
    have hus : us.length ≤ 256 := by
      have h1 := p.length
      have h2 := keepOf_len (qs.take i)
      rw [List.length_take] at h2
      omega
    refine assign2 ok'.hh (hpl.at fun o e => Heap.of_hide e) fun h₇ k₇ => ?_
    dsimp only at k₇ ⊢
    refine stS (F.kept k₇) fun h₈ F₈ b₈ => stS F₈ fun h₉ F₉ b₉ => ?_
    dsimp only at b₈ b₉ ⊢
    have ns₇ := noSeq_ns (F.kept k₇).ns
    have ns₈ := noSeq_ns F₈.ns
    have l₉ : Lst h₉ K us := ((l.keeps k₇).off ns₇ b₈).off ns₈ b₉
    have lD₉ : Lst h₉ D us₃ := ((lD.keeps k₇).off ns₇ b₈).off ns₈ b₉
    have p₉ : Pairs (h₉.hide K) us (keepOf (qs.take i)) := pb ns₈ hLK b₉ (pb ns₇ hLK b₈ (pk k₇ p))
    have pD₉ : Pairs (h₉.hide K) us₃ qs := pb ns₈ hLK b₉ (pb ns₇ hLK b₈ (pk k₇ pD))
    have it₉ : h₉.IsListIter I D (i + 1) := it_but (it_but (it_keeps hit k₇) b₈ hIL) b₉ hIL
    obtain ⟨m₉, F₉, mw, ml, mk⟩ : ∃ m₉, Fr s.heap L h₉ m₉ ∧ m₉ "weight" = some (.int x t) ∧ m₉ "lost" = some (.int y u) ∧ m₉ "kept" = some (.ref K) :=
      ⟨_, F₉, (if_neg (show ("weight" : Str) ≠ "lost" by decide)).trans (if_pos rfl), if_pos rfl, ifn (by decide) (ifn (by decide) mk)⟩
    have e2 : qs.take (i + 1) = qs.take i ++ [(x, y)] := by rw [List.take_add_one, hxy]; rfl
    refine' with_stmt _ (fun t => ∀ (h₁₀ : Heap) (tk₁₀ : Nat), Kept h₉ h₁₀ → (keepOf (qs.take i) = [] ∨ ((keepOf (qs.take i)).getLastD (0, 0)).2 < -y) → ∀ {Q' : Flow → Shared → Prop},
          (∀ s₃ : Shared, (∃ h' tk', s₃ = { s with heap := h', toks := tk' } ∧ (∃ m us, Fr s.heap L h' m ∧ m "kept" = some (.ref K) ∧ Lst h' K us ∧ Pairs (h'.hide K) us (keepOf (qs.take (i + 1))) ∧ Lst h' D us₃ ∧ Pairs (h'.hide K) us₃ qs) ∧ h'.IsListIter I D (i + 1)) → Q' .next s₃) →
        wpAny (model P w) (A.deeper (envOf (fName (stAt 8)) (fScope (stAt 8)) L G.fu G.cu)) (exec t (envOf (fName (stAt 8)) (fScope (stAt 8)) L G.fu G.cu)) Q' E' { s with heap := h₁₀, toks := tk₁₀ }) (fun grow => ?mainG) ?keyG
    case mainG =>
      have pass : ∀ (h₁₀ : Heap) (tk₁₀ : Nat), Kept h₉ h₁₀ → ¬ (keepOf (qs.take i) = [] ∨ ((keepOf (qs.take i)).getLastD (0, 0)).2 < -y) →
          ∃ h' tk', ({ s with heap := h₁₀, toks := tk₁₀ } : Shared) = { s with heap := h', toks := tk' } ∧ (∃ m us, Fr s.heap L h' m ∧ m "kept" = some (.ref K) ∧ Lst h' K us ∧ Pairs (h'.hide K) us (keepOf (qs.take (i + 1))) ∧ Lst h' D us₃ ∧ Pairs (h'.hide K) us₃ qs) ∧ h'.IsListIter I D (i + 1) := by
        intro h₁₀ tk₁₀ k₁₀ hc
        refine ⟨h₁₀, tk₁₀, rfl, ⟨m₉, us, F₉.kept k₁₀, mk, l₉.keeps k₁₀, ?_, lD₉.keeps k₁₀, pk k₁₀ pD₉⟩, it_keeps it₉ k₁₀⟩
        rw [e2, keepOf_snoc]
        have e3 : stepK (keepOf (qs.take i)) (x, y) = keepOf (qs.take i) := by unfold stepK; rw [if_neg hc]
        rw [e3]
        exact pk k₁₀ p₉
      refine wpAny_execs_cons <| wpAny_If <| isTrue_or <| wpAny_isTrue_Compare1 <| ld F₉ mk <| List_ <| args_nil <| mkList (by simp) fun Z h₁₀ hZ _ k₁₀ l₁₀ => ?_
      dsimp only at hZ k₁₀ ⊢
      refine eq_pairsK ok' (by omega) (l₉.keeps k₁₀).isList ((p₉.keeps ((Kept.refl _).hide)).keeps k₁₀) l₁₀.isList .nil (wpAny_truthy_bool ?_)
      by_cases hke : keepOf (qs.take i) = []
      · rw [if_pos (by simpa using hke)]
        rw [if_pos rfl]
        refine wpAny_execs_cons ?_
        refine grow _ _ k₁₀ (.inl hke) fun s₃ r => ?_
        exact wpAny_execs_nil (wpAny_execs_nil r)
      · rw [if_neg (by simpa using hke)]
        have hlu : us.length = (keepOf (qs.take i)).length := p₉.length
        have hpos : 0 < (keepOf (qs.take i)).length := List.length_pos_iff.mpr hke
        have hgl : (keepOf (qs.take i)).getLastD (0, 0) = (keepOf (qs.take i))[(keepOf (qs.take i)).length - 1] := by
          rw [List.getLastD_eq_getLast?, List.getLast?_eq_getElem?, List.getElem?_eq_getElem (by omega)]; rfl
        obtain ⟨v', hv', av', tp, tq, rfl, hpl'⟩ := Paired_get p₉ ((keepOf (qs.take i)).length - 1) (keepOf (qs.take i))[(keepOf (qs.take i)).length - 1] (List.getElem?_eq_getElem (by omega))
        have hpl₁₀ : h₁₀.IsList av' #[.int (keepOf (qs.take i))[(keepOf (qs.take i)).length - 1].1 tp, .int (keepOf (qs.take i))[(keepOf (qs.take i)).length - 1].2 tq] := hpl'.at fun o e => k₁₀ _ _ (Heap.of_hide e)
        refine isTrue_or <| wpAny_isTrue_Compare1 <| UnaryOp_ <| ld (F₉.kept k₁₀) ml <| PyProof.Rows.neg_int <| Subscript_ <| Subscript_ <| ld (F₉.kept k₁₀) mk <| UnaryOp_ <| wpAny_Constant_int <| PyProof.Rows.neg_int <|
          item_negK (v := .ref av') (l₉.keeps k₁₀).isList (by decide) (by omega) (by omega) (by rw [show ((-1 : Int) + (us.length : Int)).toNat = (keepOf (qs.take i)).length - 1 by omega]; exact hv') <|
          wpAny_Constant_int <| item_litK (vs := [.int _ tp, .int _ tq]) hpl₁₀ (by decide) (by decide) rfl <| PyProof.Rows.gt_int <| wpAny_truthy_bool ?_
        by_cases hlt : (keepOf (qs.take i))[(keepOf (qs.take i)).length - 1].2 < -y
        · rw [if_pos (by simpa using hlt)]
          rw [if_pos rfl]
          refine wpAny_execs_cons ?_
          refine grow _ _ k₁₀ (.inr (by rw [hgl]; exact hlt)) fun s₃ r => ?_
          exact wpAny_execs_nil (wpAny_execs_nil r)
        · rw [if_neg (by simpa using hlt)]
          refine isTrue_or_nil ?_
          rw [if_neg (by decide)]
          refine wpAny_execs_nil (wpAny_execs_nil ?_)
          exact pass _ _ k₁₀ fun hc => hc.elim hke fun q => hlt (by rw [← hgl]; exact q)
    case keyG =>
      intro h₁₀ tk₁₀ k₁₀ hc Q' hQ'
      have F₁₀ := F₉.kept k₁₀
      refine wpAny_Expr_any <| MethodCall_ <| ld F₁₀ mk <| (l₉.keeps k₁₀).meth PySem.F.slot_list_append PySem.F.type_list_append <| PyProof.Rows.callWith_method1 <| args_cons <| List_ <| args_cons <| ld F₁₀ mw <| args_cons <| UnaryOp_ <| ld F₁₀ ml <| PyProof.Rows.neg_int <| args_nil <| mkList (by simp) fun T h₁₁ hT _ k₁₁ l₁₁ => args_nil ?_
      dsimp only at hT k₁₁ ⊢
      have hTK : T ≠ K := by
        obtain ⟨n, e⟩ := l₉.keeps k₁₀
        intro q; rw [q, e] at hT; cases hT
      have pT : PairV h₁₁ (.ref T) (x, -y) := ⟨T, _, _, rfl, l₁₁.isList⟩
      refine Lst.append ((l₉.keeps k₁₀).keeps k₁₁) (by omega) fun h₁₂ k₁₂ l₁₂ => ?_
      dsimp only at k₁₂
      have kk : KeptBut K h₉ h₁₂ := KeptBut.trans (Kept.but (Kept.trans k₁₀ k₁₁) K) k₁₂
      refine hQ' _ ⟨h₁₂, _, rfl, ⟨m₉, us ++ [.ref T], Fr.but (F₁₀.kept k₁₁) k₁₂ hLK hK₀, mk, l₁₂, ?_, lD₉.but kk hDK, pD₉.keeps kk.hide2⟩, it_but it₉ kk hIK⟩
      rw [e2, keepOf_snoc]
      have e3 : stepK (keepOf (qs.take i)) (x, y) = keepOf (qs.take i) ++ [(x, -y)] := by unfold stepK; rw [if_pos hc]
      rw [e3]
      refine Paired_append (p₉.keeps kk.hide2) (.cons (pairV_to pT k₁₂ fun q => hTK (by cases q; rfl)) .nil)
  · rintro I h' tk hI ⟨m, us, F, mk, l, p, lD, pD⟩
    refine wpAny_execs_cons <| wpAny_Return_some <| ld F mk ?_
    have e : qs.take us₃.length = qs := List.take_of_length_le (by have := p₃.length; omega)
    rw [e] at p
    exact h K _ _ us qs hK₀ F.keep l (p.keeps ((Kept.refl _).hide)) hperm hsort
end
end Mine
end

-- part S11
section
open PySem PySem.W PySem.Calls PyProof.Rows
set_option Elab.async false
set_option maxRecDepth 100000
set_option maxHeartbeats 2000000
namespace Mine
section
variable {prog : Program} {w : World} {A : Around} {E : Value → Shared → Prop} {s : Shared} {env : Env}
theorem maxL {l : Addr} {vs : List Value} {ns : List Int} {Q : Value → Shared → Prop} (hh : A.handled = none) (hl : s.heap.IsList l vs.toArray) (hi : IntsAre vs ns) (hne : 0 < ns.length)
    (h : ∀ h' M (t : Tok) tk, Kept s.heap h' → M ∈ ns → (∀ a, a ∈ ns → a ≤ M) → Q (.int M t) { s with heap := h', toks := tk }) :
    wpAny (model prog w) A (call (.builtin "max") [.ref l]) Q E s := by
  obtain ⟨xs, e⟩ := hi.allInts.items
  have hns : ns = xs.toList.map (·.1) := by
    rw [← hi.numsOf, ← nums_intItems, ← e]
  have hsz : 0 < xs.size := by
    have h3 := hne; rw [hns, List.length_map, Array.length_toList] at h3; exact h3
  rw [e] at hl
  refine max_intList hh hl hsz fun v h' tk hv hk => ?_
  obtain ⟨t, rfl⟩ := intItems_at hv
  obtain ⟨h1, h2⟩ := argBest_gt (numAt xs) (xs.size - 1)
  refine h _ _ t tk hk ?_ fun a ha => ?_
  · rw [hns, numAt_eq]; exact getD_mem (by rw [List.length_map, Array.length_toList]; omega)
  · rw [hns] at ha
    obtain ⟨j, hj, rfl⟩ := mem_getD ha
    rw [List.length_map, Array.length_toList] at hj
    rw [← numAt_eq]; exact h2 j (by omega)
theorem sumL {l : Addr} {vs : List Value} {ns : List Int} {Q : Value → Shared → Prop} (hh : A.handled = none) (hl : s.heap.IsList l vs.toArray) (hi : IntsAre vs ns)
    (h : ∀ h' (t : Tok) tk, Kept s.heap h' → Q (.int ns.sum t) { s with heap := h', toks := tk }) :
    wpAny (model prog w) A (call (.builtin "sum") [.ref l]) Q E s := by
  obtain ⟨xs, e⟩ := hi.allInts.items
  have hns : ns = xs.toList.map (·.1) := by
    rw [← hi.numsOf, ← nums_intItems, ← e]
  rw [e] at hl
  refine sum_intListG hh hl fun h' tk t' hk => ?_
  have := h h' t' tk hk
  rw [preSum_eq, List.take_of_length_le (by simp), ← hns]; exact this

theorem slc {value : Expr} {lower upper : Option Expr} {p pos : Pos} {Q : Value → Shared → Prop}
    (h : wpAny (model prog w) A (eval value env) (fun o s₁ => wpAny (model prog w) A (evalPart lower env) (fun vl s₂ => wpAny (model prog w) A (evalPart upper env) (fun vu s₃ =>
      ∃ (l : Addr) (vs : List Value) (lo hi : Option Int), o = .ref l ∧ s₃.heap.IsList l vs.toArray ∧ vs.length ≤ 1000 ∧ IsPart vl lo ∧ IsPart vu hi ∧
        ∀ D h', s₃.heap.get? D = none → Kept s₃.heap h' → Lst h' D (slicePick vs.toArray lo hi none).toList → Q (.ref D) { s₃ with heap := h' }) E s₂) E s₁) E s)
    (ht : ∀ o r, letTemporaryGo value o r = pure () := by intro _ _; rfl) :
    wpAny (model prog w) A (eval (.Subscript value (.Slice lower upper none p) pos) env) Q E s := by
  refine wpAny_Subscript_list_slice (wpAny_mono h (fun o s₁ h₁ => wpAny_mono h₁ (fun vl s₂ h₂ => wpAny_mono h₂ (fun vu s₃ h₃ => ?_) fun _ _ e => e) fun _ _ e => e) fun _ _ e => e) ht
  obtain ⟨l, vs, lo, hi, rfl, hl, hz, pl, pu, hq⟩ := h₃
  have hn : ∀ b, s₃.heap.objs.size ≤ b → s₃.heap.get? b = none := fun b hb => Heap.get?_none_of_le hb
  refine ⟨l, vs.toArray, lo, hi, rfl, hl, by rw [List.size_toArray, sizeLine_eq]; omega, pl, pu, hq _ _ (hn _ (Nat.le_succ _)) (fun b o e => Heap.get?_push_of_some _ (Heap.get?_push_of_some _ e)) ⟨0, ?_⟩⟩
  have e1 : s₃.heap.objs.size + 1 = (s₃.heap.push { cls := .type "slice", data := .fields #[vl, vu, .none] }).objs.size := (size_push' _ _).symm
  rw [e1, Heap.get?_push_size _ rfl]
theorem pNone {Q : Value → Shared → Prop} (h : Q .none s) : wpAny (model prog w) A (evalPart none env) Q E s := evalPart_none_step h
theorem pSome {e : Expr} {Q : Value → Shared → Prop} (h : wpAny (model prog w) A (eval e env) Q E s) : wpAny (model prog w) A (evalPart (some e) env) Q E s := evalPart_some_step h
theorem pick_from (vs : List Value) (a : Nat) : (slicePick vs.toArray (some (a : Int)) none none).toList = vs.drop a := by rw [slicePick_from']
theorem pick_to (vs : List Value) (a : Nat) : (slicePick vs.toArray none (some (a : Int)) none).toList = vs.take a := by rw [slicePick_upto']
theorem pick_last (vs : List Value) : (slicePick vs.toArray (some (-1)) none none).toList = vs.drop (vs.length - 1) := by
  have := slicePick_last vs.toArray 1 (Nat.le_refl _)
  rw [show (-1 : Int) = -((1 : Nat) : Int) by rfl, this, List.size_toArray]
end
end Mine
end

-- part B11
section
open PySem PySem.W PySem.Calls PyProof.Rows
set_option Elab.async false
set_option maxRecDepth 100000
set_option maxHeartbeats 2000000
namespace Mine

theorem kb_step {B h h' : Heap} {X : Addr} (k : Kept B h) (b : KeptBut X h h') (n : B.get? X = none) : Kept B h' := fun a o e =>
  b a o (fun q => by rw [q, n] at e; cases e) (k a o e)
theorem lst_ne_cell {h : Heap} {K c : Addr} {us : List Value} {v : Option Value} (l : Lst h K us) (x : h.IsCell c v) : c ≠ K := fun q => by
  obtain ⟨n, e⟩ := l
  obtain ⟨o, ho, d⟩ := x
  rw [q, e] at ho; cases ho; cases d
theorem lst_ne_it {h : Heap} {K I : Addr} {us : List Value} (l : Lst h K us) (x : IsIt h I) : I ≠ K := fun q => x.ns.ne l.isList q.symm
theorem cell_ne_it {h : Heap} {c I : Addr} {v : Option Value} (x : h.IsCell c v) (it : IsIt h I) : I ≠ c := fun q => by
  obtain ⟨oi, f, hi, hdi, _⟩ := it
  obtain ⟨o, e, d⟩ := x
  rw [← q, hi] at e; cases e; rw [hdi] at d; cases d
theorem get_lt {α : Type} {l : List α} {i : Nat} {a : α} (h : l[i]? = some a) : i < l.length := by
  rcases Nat.lt_or_ge i l.length with q | q
  · exact q
  · rw [List.getElem?_eq_none q] at h; cases h
theorem hide_new {B : Heap} {W : List Addr} {X : Addr} (h : X ∈ W) : (hideAll B W).get? X = none := hideAll_none _ h
theorem hide_fresh {B : Heap} {W : List Addr} {X : Addr} (h : B.get? X = none) : (hideAll B W).get? X = none := by
  cases e : (hideAll B W).get? X with
  | none => rfl
  | some o => rw [of_hideAll _ e] at h; cases h

/-- r parts sorted keys: one more put in there leaves them sorted -/
theorem cut_sorted {ks : List Int} {x : Int} {r : Nat} (hs : ks.Pairwise (· ≤ ·)) (c : Cut ks (· ≤ x) r) : (ks.take r ++ x :: ks.drop r).Pairwise (· ≤ ·) := by
  have h1 := hs
  rw [← List.take_append_drop r ks] at h1
  obtain ⟨a1, a2, a3⟩ := List.pairwise_append.mp h1
  have lo : ∀ y ∈ ks.take r, y ≤ x := fun y hy => by
    obtain ⟨i, hi, e⟩ := List.getElem_of_mem hy
    rw [List.length_take] at hi
    have := c.lo i (by omega)
    rw [List.getElem_take] at e
    have e2 : ks.getD i 0 = ks[i]'(by omega) := by simp [show i < ks.length by omega]
    rw [e2, e] at this; exact this
  have hi : ∀ y ∈ ks.drop r, x ≤ y := fun y hy => by
    obtain ⟨i, hi, e⟩ := List.getElem_of_mem hy
    rw [List.length_drop] at hi
    have := c.hi (r + i) (by omega) (by omega)
    rw [List.getElem_drop] at e
    have e2 : ks.getD (r + i) 0 = ks[r + i]'(by omega) := by simp [show r + i < ks.length by omega]
    rw [e2, e] at this; omega
  refine List.pairwise_append.mpr ⟨a1, List.pairwise_cons.mpr ⟨hi, a2⟩, fun u hu v hv => ?_⟩
  rcases List.mem_cons.mp hv with rfl | hv
  · exact lo u hu
  · exact a3 u hu v hv
theorem ints_of : ∀ {ys : List Value} {ns : List Int}, Paired (fun y n => ∃ t, y = .int n t) ys ns → IntsAre ys ns
  | _, _, .nil => .nil
  | _, _, .cons h t => by obtain ⟨k, rfl⟩ := h; exact .cons _ k (ints_of t)

structure Tops (qs : List (Int × Int)) (tps : List Int) (n : Nat) : Prop where
  len : tps.length = n
  mem : ∀ j, j < n → ∃ k, k ≤ j ∧ (qs.getD k (0, 0)).2 = tps.getD j 0
  le : ∀ j, j < n → ∀ k, k ≤ j → (qs.getD k (0, 0)).2 ≤ tps.getD j 0

theorem Tops.snoc {qs : List (Int × Int)} {tps : List Int} {n : Nat} {M : Int} {q : Int × Int} (x : Tops qs tps n) (hq : qs[n]? = some q) (hm : M ∈ [q.2] ++ tps.drop (tps.length - 1)) (hle : ∀ a ∈ [q.2] ++ tps.drop (tps.length - 1), a ≤ M) : Tops qs (tps ++ [M]) (n + 1) := by
  have hn := get_lt hq
  have hg : qs.getD n (0, 0) = q := by rw [List.getD_eq_getElem?_getD, hq]; rfl
  have hl := x.len
  have gl : ∀ j, j < n → (tps ++ [M]).getD j 0 = tps.getD j 0 := fun j hj => by
    rw [List.getD_eq_getElem?_getD, List.getElem?_append_left (by omega), ← List.getD_eq_getElem?_getD]
  have gn : (tps ++ [M]).getD n 0 = M := by
    rw [List.getD_eq_getElem?_getD, List.getElem?_append_right (by omega), hl, Nat.sub_self]; rfl
  have hlast : 0 < n → tps.getD (n - 1) 0 ∈ tps.drop (tps.length - 1) := fun h0 => by
    have hlt : n - 1 < tps.length := by omega
    rw [hl, List.drop_eq_getElem_cons hlt, List.getD_eq_getElem?_getD, List.getElem?_eq_getElem hlt]
    exact .head _
  have hdl : ∀ a ∈ tps.drop (tps.length - 1), 0 < n ∧ a = tps.getD (n - 1) 0 := fun a ha => by
    by_cases h0 : 0 < n
    · have hlt : n - 1 < tps.length := by omega
      rw [hl, List.drop_eq_getElem_cons hlt, List.drop_eq_nil_of_le (by omega), List.mem_singleton] at ha
      exact ⟨h0, by rw [ha, List.getD_eq_getElem?_getD, List.getElem?_eq_getElem hlt]; rfl⟩
    · have : tps = [] := List.length_eq_zero_iff.mp (by omega)
      rw [this] at ha; simp at ha
  refine ⟨by rw [List.length_append, hl]; rfl, fun j hj => ?_, fun j hj k hk => ?_⟩
  · by_cases hjn : j < n
    · rw [gl j hjn]; exact x.mem j hjn
    · have : j = n := by omega
      subst this
      rw [gn]
      rcases List.mem_append.mp hm with h1 | h1
      · exact ⟨j, Nat.le_refl _, by rw [hg]; exact (List.mem_singleton.mp h1).symm⟩
      · obtain ⟨h0, e⟩ := hdl _ h1
        obtain ⟨k, hk, e2⟩ := x.mem (j - 1) (by omega)
        exact ⟨k, by omega, e2.trans e.symm⟩
  · by_cases hjn : j < n
    · rw [gl j hjn]; exact x.le j hjn k hk
    · have : j = n := by omega
      subst this
      rw [gn]
      by_cases hkj : k = j
      · subst hkj; rw [hg]; exact hle _ (by simp)
      · have h0 : 0 < j := by omega
        exact Int.le_trans (x.le (j - 1) (by omega) k (by omega)) (hle _ (List.mem_append_right _ (hlast h0)))

/-- the best that the halves tell for a capacity -/
def HB (FS qs : List (Int × Int)) (tps : List Int) (c M : Int) : Prop :=
  (∃ q ∈ FS, q.1 ≤ c ∧ ∃ r, Cut (qs.map (·.1)) (· ≤ c - q.1) r ∧ 0 < r ∧ M = q.2 + tps.getD (r - 1) 0) ∧
  ∀ q ∈ FS, q.1 ≤ c → ∃ r, Cut (qs.map (·.1)) (· ≤ c - q.1) r ∧ 0 < r ∧ q.2 + tps.getD (r - 1) 0 ≤ M
def Halves (ts : List (Int × Int)) (caps tolds : List Int) : Prop :=
  ∃ qs tps, qs.Perm (sumsOf (ts.drop (ts.length / 2))) ∧ (qs.map (·.1)).Pairwise (· ≤ ·) ∧ Tops qs tps qs.length ∧ Paired (HB (sumsOf (ts.take (ts.length / 2))) qs tps) caps tolds
section
variable {w : World} {A : Around} {E : Value → Shared → Prop} {s : Shared} {G : GD}

theorem go1 {target : Expr} {x : Str} {pos : Pos} {I v : Value} (e : target = .Name x pos) : wpAny (model P w) A (letOwnedTupleGo target I v) (fun _ s'' => s'' = s) E s := by
  subst e; exact wpAny_pure rfl
theorem ints_drop : ∀ (n : Nat) {vs : List Value} {ns : List Int}, IntsAre vs ns → IntsAre (vs.drop n) (ns.drop n)
  | 0, _, _, h => h
  | _ + 1, _, _, .nil => .nil
  | n + 1, _, _, .cons _ _ h => ints_drop n h
theorem ints_take : ∀ (n : Nat) {vs : List Value} {ns : List Int}, IntsAre vs ns → IntsAre (vs.take n) (ns.take n)
  | 0, _, _, _ => .nil
  | _ + 1, _, _, .nil => .nil
  | n + 1, _, _, .cons a b h => .cons a b (ints_take n h)
theorem ints_app : ∀ {vs ws : List Value} {ns ms : List Int}, IntsAre vs ns → IntsAre ws ms → IntsAre (vs ++ ws) (ns ++ ms)
  | _, _, _, _, .nil, h => h
  | _, _, _, _, .cons a b h, h' => .cons a b (ints_app h h')
theorem ints_get' : ∀ {vs : List Value} {ns : List Int}, IntsAre vs ns → ∀ (i : Nat) (v : Value), vs[i]? = some v → ∃ n t, ns[i]? = some n ∧ v = .int n t
  | _, _, .nil, i, v, h => by simp at h
  | _, _, .cons a b h, 0, v, e => by simp at e; exact ⟨a, b, rfl, e.symm⟩
  | _, _, .cons a b h, i + 1, v, e => by simp at e; simpa using ints_get' h i v e
theorem one_if {c : Expr} {env : Env} {Q : Bool → Shared → Prop} (h : wpAny (model P w) A (isTrue c env (eval c env)) Q E s) :
    wpAny (model P w) A (forIn [c] true fun c r => if r = true then do let ok ← isTrue c env (eval c env); pure (ForInStep.yield ok) else pure (ForInStep.yield r)) Q E s := by
  rw [List.forIn_cons]
  simp only [if_true]
  refine wpAny_bind (wpAny_bind (wpAny_mono h (fun ok s' hq => wpAny_pure ?_) fun _ _ e => e))
  show wpAny _ _ (forIn [] ok _) Q E s'
  rw [List.forIn_nil]
  exact wpAny_pure hq
theorem Paired_mem_r {α β : Type} {F : α → β → Prop} : ∀ {l : List α} {l' : List β}, Paired F l l' → ∀ b ∈ l', ∃ a ∈ l, F a b
  | _, _, .cons h t, b, hb => by
    rcases List.mem_cons.mp hb with rfl | hb
    · exact ⟨_, .head _, h⟩
    · obtain ⟨a, ha, hf⟩ := Paired_mem_r t b hb; exact ⟨a, .tail _ ha, hf⟩
theorem paired_ints {F : Value → Value → Prop} {K : Value → Int → Prop} : ∀ {l ys : List Value}, (∀ v ∈ l, ∀ y, F v y → ∃ n t, y = .int n t ∧ K v n) → Paired F l ys → ∃ ns, IntsAre ys ns ∧ Paired K l ns
  | _, _, _, .nil => ⟨[], .nil, .nil⟩
  | _, _, hf, .cons h t => by
    obtain ⟨n, k, rfl, hk⟩ := hf _ (.head _) _ h
    obtain ⟨ns, h1, h2⟩ := paired_ints (fun v hv => hf v (.tail _ hv)) t
    exact ⟨n :: ns, .cons n k h1, .cons hk h2⟩
theorem PairV.base {h : Heap} {W : List Addr} {v : Value} {p : Int × Int} (x : PairV h v p) (hW : ∀ Y ∈ W, NoSeq h Y ∨ Lst h Y []) : PairV (hideAll h W) v p := by
  obtain ⟨a, t, u, rfl, o, ho, hc, n, hd⟩ := x
  refine ⟨a, t, u, rfl, o, hideAll_get _ ho fun m => ?_, hc, n, hd⟩
  rcases hW a m with ⟨o', e', q⟩ | ⟨n', e'⟩
  · rw [ho] at e'; cases e'; exact q _ _ hd
  · rw [ho] at e'; cases e'; cases hd
theorem Pairs.base {h : Heap} {W : List Addr} {vs : List Value} {ps : List (Int × Int)} (x : Pairs h vs ps) (hW : ∀ Y ∈ W, NoSeq h Y ∨ Lst h Y []) : Pairs (hideAll h W) vs ps := Paired_mono (fun _ _ y => y.base hW) x

theorem halves_call {d : Nat} {R : Result → Shared → Prop} {a b : Addr} {vs cvs : List Value} {ts : List (Int × Int)} {caps : List Int} (ok : Ok A d) (hd : d ≤ 20) (X : Glo G s.heap)
    (hl : s.heap.IsList a vs.toArray) (hp : Pairs s.heap vs ts) (hn : ts.length ≤ 8) (hb : s.heap.IsList b cvs.toArray) (hc : IntsAre cvs caps) (hcn : caps.length ≤ 100)
    (hFS : ∀ c ∈ caps, ∃ q ∈ sumsOf (ts.take (ts.length / 2)), q.1 ≤ c) (hSS : ∀ c ∈ caps, ∀ q ∈ sumsOf (ts.take (ts.length / 2)), q.1 ≤ c → ∃ r ∈ sumsOf (ts.drop (ts.length / 2)), r.1 ≤ c - q.1)
    (h : ∀ D h' tk us tolds, s.heap.get? D = none → Kept s.heap h' → Lst h' D us → IntsAre us tolds → Halves ts caps tolds → R (.ok (.ret (.ref D))) { s with heap := h', toks := tk }) :
    codeAny (model P w) A (.call (.ref G.fh) ⟨[.ref a, .ref b], []⟩) R s := by
  refine call_fnC (binds := [("things", .ref a), ("capacities", .ref b)]) (ok.room (by omega)) X.Fh X.nl (fun doc pm an ct => BindsTo.of_eq rfl) rfl (by decide +kernel) (fun h₁ tk₁ F₁ C₁ => ?_)
  have ok' := ok.deeper (envOfC (fName (stAt 9)) (fScope (stAt 9)) s.heap.objs.size G.fh G.ch)
  have hlen : vs.length = ts.length := hp.length
  have c1 : h₁.IsCell (s.heap.objs.size + 1) none := C₁ "weights" _ (.tail _ (.tail _ (.head _)))
  have c2 : h₁.IsCell (s.heap.objs.size + 1 + 1) none := C₁ "tops" _ (.tail _ (.head _))
  have c3 : h₁.IsCell (s.heap.objs.size + 1 + 1 + 1) none := C₁ "capacity" _ (.head _)
  obtain ⟨L, hL⟩ : ∃ L, L = s.heap.objs.size := ⟨_, rfl⟩
  rw [← hL] at F₁ c1 c2 c3 ok' ⊢
  have fresh : ∀ b, L ≤ b → s.heap.get? b = none := fun b hb => Heap.get?_none_of_le (by omega)
  obtain ⟨m₁, F₁, mt, mc⟩ : ∃ m₁, Fr s.heap L h₁ m₁ ∧ m₁ "things" = some (.ref a) ∧ m₁ "capacities" = some (.ref b) := ⟨_, F₁, rfl, rfl⟩
  clear C₁
  -- half
  refine wpAny_execs_cons <| wpAny_Assign_Name <| wpAny_BinOp <| Call_ <| eB (X.keeps F₁.keep) X.n_len <| PyProof.Rows.callWith_builtin1 <| args_cons <| eL F₁ mt <| args_nil <| call_len_list (hl.at fun o e => F₁.keep _ _ e) (by rw [List.size_toArray]; omega) <| wpAny_Constant_int <| floordiv_int (by decide) ?_
  have ehalf : ((vs.toArray.size : Nat) : Int).fdiv 2 = ((ts.length / 2 : Nat) : Int) := by
    rw [Int.fdiv_eq_ediv_of_nonneg _ (by decide), List.size_toArray, hlen]; omega
  rw [ehalf]
  obtain ⟨H, hH⟩ : ∃ H, H = ts.length / 2 := ⟨_, rfl⟩
  rw [← hH] at hFS hSS ⊢
  refine sL F₁ fun h₂ F₂ b₂ => ?_
  dsimp only at b₂ ⊢
  have noL₁ := noSeq_ns F₁.ns
  have c1 := cell_but c1 b₂ (show L + 1 ≠ L by omega)
  have c2 := cell_but c2 b₂ (show L + 1 + 1 ≠ L by omega)
  have c3 := cell_but c3 b₂ (show L + 1 + 1 + 1 ≠ L by omega)
  obtain ⟨m₂, F₂, mt, mc, mh⟩ : ∃ m₂ : Str → Option Value, Fr s.heap L h₂ m₂ ∧ m₂ "things" = some (.ref a) ∧ m₂ "capacities" = some (.ref b) ∧ ∃ t, m₂ "half" = some (.int (H : Nat) t) :=
    ⟨_, F₂, ifn (by decide) mt, ifn (by decide) mc, _, if_pos rfl⟩
  obtain ⟨th, mh⟩ := mh
  -- second
  refine wpAny_execs_cons <| wpAny_Assign_Name <| List_ <| args_nil <| mkList (by simp) fun K h₃ hK _ k₃ l₃ => ?_
  dsimp only at hK k₃ ⊢
  have hK₀ : s.heap.get? K = none := fr_none F₂ hK
  refine sL (F₂.kept k₃) fun h₄ F₄ b₄ => ?_
  dsimp only at b₄ ⊢
  have nsL₃ := noSeq_ns (F₂.kept k₃).ns
  have hLK : L ≠ K := lst_ne_ns l₃ (F₂.kept k₃).ns
  have l₄ : Lst h₄ K [] := l₃.off nsL₃ b₄
  have c1 := cell_but (c1.keeps k₃) b₄ (show L + 1 ≠ L by omega)
  have c2 := cell_but (c2.keeps k₃) b₄ (show L + 1 + 1 ≠ L by omega)
  have c3 := cell_but (c3.keeps k₃) b₄ (show L + 1 + 1 + 1 ≠ L by omega)
  obtain ⟨m₄, F₄, mt, mc, mh, mK⟩ : ∃ m₄ : Str → Option Value, Fr s.heap L h₄ m₄ ∧ m₄ "things" = some (.ref a) ∧ m₄ "capacities" = some (.ref b) ∧ m₄ "half" = some (.int (H : Nat) th) ∧ m₄ "second" = some (.ref K) :=
    ⟨_, F₄, ifn (by decide) mt, ifn (by decide) mc, ifn (by decide) mh, if_pos rfl⟩
  have ltH : H ≤ ts.length := by omega
  -- the first loop
  refine wpAny_execs_cons <| for_list ok'.hh <| call_of (f := G.fa) (st := stAt 7) (dV := .none) (kV := .none) (cd := G.ca) (eG (X.keeps F₄.keep) X.na ⟨rfl, rfl⟩) <|
    args_cons <| slc <| eL F₄ mt <| pSome <| eL F₄ mh <| pNone ⟨a, vs, some (H : Nat), none, rfl, hl.at fun o e => F₄.keep _ _ e, by omega, .int _ _, .none, fun D₀ h₅ hD₀ k₅ l₅ => args_nil <| wpAny_evalAll_nil ⟨(X.keeps (F₄.kept k₅).keep).Fa, ?_⟩⟩
  rw [pick_from] at l₅
  refine all_call (ts := ts.drop H) ok' (by omega) (X.keeps (F₄.kept k₅).keep) l₅.isList (Paired_drop H (hp.keeps (F₄.kept k₅).keep)) (by rw [List.length_drop]; omega) fun D₁ h₆ tk₆ us₁ hD₁ k₆ l₆ p₆ => ?_
  dsimp only at hD₀ k₅ hD₁ k₆ ⊢
  have F₆ := (F₄.kept k₅).kept k₆
  have k₄₆ : Kept h₄ h₆ := Kept.trans k₅ k₆
  have hD₁₀ : s.heap.get? D₁ = none := fr_none (F₄.kept k₅) hD₁
  have hlen₁ : us₁.length = (sumsOf (ts.drop H)).length := p₆.length
  have hS2 : (sumsOf (ts.drop H)).length ≤ 256 := by
    rw [sumsOf_length, List.length_drop]
    exact Nat.le_trans (Nat.pow_le_pow_right (by decide) (show ts.length - H ≤ 8 by omega)) (by decide)
  have hD₁K : D₁ ≠ K := fun q => by obtain ⟨n, e⟩ := l₄.keeps k₅; rw [← q, hD₁] at e; cases e
  have hD₁L : D₁ ≠ L := fun q => lst_ne_ns l₆ F₆.ns q.symm
  have B : ∃ B, B = hideAll h₆ [L, K] := ⟨_, rfl⟩
  obtain ⟨B, hB⟩ := B
  have BL : B.get? L = none := by rw [hB]; exact hide_new (by simp)
  have BK : B.get? K = none := by rw [hB]; exact hide_new (by simp)
  have kB : Kept B h₆ := by rw [hB]; exact fun _ _ e => of_hideAll _ e
  have nsL₆ := noSeq_ns F₆.ns
  have l₆K : Lst h₆ K [] := l₄.keeps k₄₆
  have pB : Pairs B us₁ (sumsOf (ts.drop H)) := by
    rw [hB]; exact p₆.base fun Y hY => by
      rcases List.mem_cons.mp hY with rfl | hY
      · exact .inl nsL₆
      · rw [List.mem_singleton.mp hY]; exact .inr l₆K
  have lB : Lst B D₁ us₁ := by rw [hB]; exact hideAll_list l₆ (by simp [hD₁L, hD₁K])
  have hcK : ∀ {c v}, h₆.IsCell c v → c ≠ L → B.IsCell c v := fun {c v} x hcL => by
    have hcK := lst_ne_cell l₆K x
    obtain ⟨o, e, dd⟩ := x
    rw [hB]
    exact ⟨o, hideAll_get _ e (by simp [hcL, hcK]), dd⟩
  have c1B : B.IsCell (L + 1) none := hcK (c1.keeps k₄₆) (show L + 1 ≠ L by omega)
  have c2B : B.IsCell (L + 1 + 1) none := hcK (c2.keeps k₄₆) (show L + 1 + 1 ≠ L by omega)
  have c3B : B.IsCell (L + 1 + 1 + 1) none := hcK (c3.keeps k₄₆) (show L + 1 + 1 + 1 ≠ L by omega)
  refine ⟨D₁, us₁, fun I i h => ∃ (m : Str → Option Value) (us : List Value) (qs : List (Int × Int)), Fr s.heap L h m ∧ m "things" = some (.ref a) ∧ m "capacities" = some (.ref b) ∧ m "half" = some (.int (H : Nat) th) ∧ m "second" = some (.ref K) ∧
      Kept B h ∧ Lst h K us ∧ Pairs B us qs ∧ qs.Perm ((sumsOf (ts.drop H)).take i) ∧ (qs.map (·.1)).Pairwise (· ≤ ·), rfl, l₆.isList, ?_, ?_, ?_, ?_, ?_, ?_⟩
  · intro I h' _ it k
    exact ⟨m₄, [], [], F₆.kept k, mt, mc, mh, mK, Kept.trans kB k, l₆K.keeps k, .nil, by rw [List.take_zero], List.Pairwise.nil⟩
  · rintro I i h h' hI ⟨m, us, qs, F, mt, mc, mh, mK, kb, l, p, pq, so⟩ it k
    have hI₀ : s.heap.get? I = none := fr_none F₆ hI
    exact ⟨m, us, qs, Fr.but F k (it.ne_ns F.ns) hI₀, mt, mc, mh, mK, kb_step kb k (by rw [hB]; exact hide_fresh hI), l.off it.ns k, p, pq, so⟩
  · rintro I i h ⟨m, us, qs, F, mt, mc, mh, mK, kb, l, p, pq, so⟩
    exact (lB.keeps kb).isList
  · rintro I i v s' E' hv hit
    exact go1 rfl
  · rintro I i v h tk E' hI hv ⟨m, us, qs, F, mt, mc, mh, mK, kb, l, p, pq, so⟩ hit
    obtain ⟨q, hq, hvq⟩ := Paired_get' pB i v hv
    have hil := get_lt hq
    have hIL : I ≠ L := fun q => (IsIt.of hit).ne_ns F.ns q.symm
    have hIK : I ≠ K := lst_ne_it l (IsIt.of hit)
    have hql : qs.length ≤ 256 := by
      have := pq.length_eq
      rw [List.length_take] at this
      omega
    refine wpAny_assign_Name <| sL F fun h₇ F₇ b₇ => ?_
    dsimp only at b₇ ⊢
    have l₇ : Lst h₇ K us := l.off (noSeq_ns F.ns) b₇
    have kb₇ : Kept B h₇ := kb_step kb b₇ BL
    have kbK : Kept B (h₇.hide K) := kept_hideNew kb₇ BK
    have it₇ := it_but hit b₇ hIL
    obtain ⟨m₇, F₇, mt, mc, mh, mK, m1⟩ : ∃ m₇ : Str → Option Value, Fr s.heap L h₇ m₇ ∧ m₇ "things" = some (.ref a) ∧ m₇ "capacities" = some (.ref b) ∧ m₇ "half" = some (.int (H : Nat) th) ∧ m₇ "second" = some (.ref K) ∧ m₇ "one" = some v :=
      ⟨_, F₇, ifn (by decide) mt, ifn (by decide) mc, ifn (by decide) mh, ifn (by decide) mK, if_pos rfl⟩
    have X₇ := X.keeps F₇.keep
    refine wpAny_execs_cons <| wpAny_Expr_any <| call_of (f := G.fi) (st := stAt 1) (dV := .ref G.di) (kV := .ref G.ki) (cd := G.ci) (eG X₇ X.ni ⟨rfl, rfl⟩) <| args_cons <| eL F₇ mK <| args_cons <| eL F₇ m1 <| args_nil <| kwAll_cons <| eG X₇ X.nw <| kwAll_nil ⟨X₇.Fi,
      is_call ok' (by omega) X₇ l₇ (p.keeps kbK) (hvq.keeps kbK) so (by omega) fun r h₈ tk₈ k₈ l₈ cu => ?_⟩
    dsimp only at k₈ ⊢
    have hr : r ≤ qs.length := by have := cu.le; simpa using this
    refine wpAny_execs_nil ⟨h₈, tk₈, rfl, ⟨m₇, us.take r ++ v :: us.drop r, qs.take r ++ q :: qs.drop r, Fr.but F₇ k₈ hLK hK₀, mt, mc, mh, mK, kb_step kb₇ k₈ BK, l₈, Paired_append (Paired_take r p) (.cons hvq (Paired_drop r p)), ?_, ?_⟩, it_but it₇ k₈ hIK⟩
    · have e2 : (sumsOf (ts.drop H)).take (i + 1) = (sumsOf (ts.drop H)).take i ++ [q] := by rw [List.take_add_one, hq]; rfl
      rw [e2]
      refine List.Perm.trans List.perm_middle ?_
      rw [List.take_append_drop]
      exact (List.Perm.cons q pq).trans (List.perm_append_singleton q _).symm
    · have := cut_sorted so cu
      rw [List.map_append, List.map_cons, List.map_take, List.map_drop]
      exact this
  rintro I h₇ tk₇ hI ⟨m, us, qs, F, mt, mc, mh, mK, kb, l, p, pq, so⟩
  rw [List.take_of_length_le (by omega)] at pq
  have hqs : qs.length ≤ 256 := by have := pq.length_eq; omega
  have hul : us.length = qs.length := p.length
  have p₇ : Pairs h₇ us qs := p.keeps kb
  have c1 := c1B.keeps kb
  have c2 := c2B.keeps kb
  have c3 := c3B.keeps kb
  -- weights
  refine wpAny_execs_cons <| wpAny_Assign_Name <| comp_val (cl := []) (fun _ => true) (fun _ v y => ∀ q, PairV h₇ v q → ∃ t, y = .int q.1 t) (fun _ _ _ _ _ e => e) ok'.hh (by rfl) (by decide +kernel) (by rfl) (by decide +kernel) (by rfl) <| eL F mK ?_
  refine ⟨K, us, rfl, l.isList, by omega, ?_, ?_, ?_⟩
  · intro C v m₃ s₃ E' _ _ _ _
    rw [List.forIn_nil]
    exact wpAny_pure ⟨rfl, keeps_refl _⟩
  · intro C v m₃ s₃ E' hv _ hns hmx k
    obtain ⟨q₀, _, hq₀⟩ := Paired_mem p₇ v hv
    obtain ⟨av', t', u', rfl, hpl'⟩ := id hq₀
    have hpl₃ : s₃.heap.IsList av' #[.int q₀.1 t', .int q₀.2 u'] := hpl'.at fun o e => k _ _ e
    refine Subscript_ <| eN hns hmx <| wpAny_Constant_int <| item_litK (vs := [.int q₀.1 t', .int q₀.2 u']) hpl₃ (by decide) (by decide) rfl ⟨⟨_, _, rfl, Kept.refl _⟩, fun _ _ q hq => ?_⟩
    cases hq.inj hq₀
    exact ⟨_, rfl⟩
  intro W h₇' tk₈ ws hW l₇' k₇' hP
  dsimp only at hW k₇' ⊢
  refine sC (c1.keeps k₇') fun h₈ c1₈ b₈ => ?_
  dsimp only at b₈ ⊢
  have k₈ : KeptBut (L + 1) h₇ h₈ := KeptBut.trans (Kept.but k₇' _) b₈
  have l₈ : Lst h₈ W ws := l₇'.off (noSeq_cell (c1.keeps k₇')) b₈
  have e1 : us.filter (fun _ => true) = us := List.filter_eq_self.mpr fun _ _ => rfl
  rw [e1] at hP
  have iws : IntsAre ws (qs.map (·.1)) := ints_of (Paired_map (K := fun y n => ∃ t, y = Value.int n t) (fun q : Int × Int => q.1) (fun _ _ e => e) (Paired_comp (K := fun (z : Value) (q : Int × Int) => ∃ t, z = .int q.1 t) (fun _ _ _ f g => g _ f) p₇ hP))
  have nsC1 := noSeq_cell c1
  have F₈ := Fr.but F k₈ (show L ≠ L + 1 by omega) (fresh _ (show L ≤ L + 1 by omega))
  have lK₈ := l.off nsC1 k₈
  have p₈ := p₇.off nsC1 k₈
  have c2 := cell_but c2 k₈ (show L + 1 + 1 ≠ L + 1 by omega)
  have c3 := cell_but c3 k₈ (show L + 1 + 1 + 1 ≠ L + 1 by omega)
  -- tops
  refine wpAny_execs_cons <| wpAny_Assign_Name <| List_ <| args_nil <| mkList (by simp) fun T h₉ hT _ k₉ l₉ => ?_
  dsimp only at hT k₉ ⊢
  have hT₀ : s.heap.get? T = none := fr_none F₈ hT
  have hKT : K ≠ T := fun q => by obtain ⟨n, e⟩ := lK₈; rw [q, hT] at e; cases e
  have hWT : W ≠ T := fun q => by obtain ⟨n, e⟩ := l₈; rw [q, hT] at e; cases e
  refine sC (c2.keeps k₉) fun h₁₀ c2₁₀ b₁₀ => ?_
  dsimp only at b₁₀ ⊢
  have nsC2 := noSeq_cell (c2.keeps k₉)
  have F₁₀ := Fr.but (F₈.kept k₉) b₁₀ (show L ≠ L + 1 + 1 by omega) (fresh _ (show L ≤ L + 1 + 1 by omega))
  have lK₁₀ := (lK₈.keeps k₉).off nsC2 b₁₀
  have lW₁₀ := (l₈.keeps k₉).off nsC2 b₁₀
  have lT₁₀ := l₉.off nsC2 b₁₀
  have p₁₀ := (p₈.keeps k₉).off nsC2 b₁₀
  have c1₁₀ := cell_but (c1₈.keeps k₉) b₁₀ (show L + 1 ≠ L + 1 + 1 by omega)
  have c3₁₀ := cell_but (c3.keeps k₉) b₁₀ (show L + 1 + 1 + 1 ≠ L + 1 + 1 by omega)
  have nsL₁₀ := noSeq_ns F₁₀.ns
  have hLT : L ≠ T := lst_ne_ns lT₁₀ F₁₀.ns
  have hLK : L ≠ K := lst_ne_ns lK₁₀ F₁₀.ns
  have hLW : L ≠ W := lst_ne_ns lW₁₀ F₁₀.ns
  clear kb l p c1B c2B c3B lB pB kB BL BK hcK hB B
  obtain ⟨B, hB⟩ : ∃ B, B = hideAll h₁₀ [L, T] := ⟨_, rfl⟩
  have BL : B.get? L = none := by rw [hB]; exact hide_new (by simp)
  have BT : B.get? T = none := by rw [hB]; exact hide_new (by simp)
  have kB : Kept B h₁₀ := by rw [hB]; exact fun _ _ e => of_hideAll _ e
  have pB : Pairs B us qs := by
    rw [hB]; exact p₁₀.base fun Y hY => by
      rcases List.mem_cons.mp hY with rfl | hY
      · exact .inl nsL₁₀
      · rw [List.mem_singleton.mp hY]; exact .inr lT₁₀
  have lKB : Lst B K us := by rw [hB]; exact hideAll_list lK₁₀ (by simp [hKT, Ne.symm hLK])
  have lWB : Lst B W ws := by rw [hB]; exact hideAll_list lW₁₀ (by simp [hWT, Ne.symm hLW])
  have hcB : ∀ {c v}, h₁₀.IsCell c v → c ≠ L → B.IsCell c v := fun {c v} x hcL => by
    have hcT := lst_ne_cell lT₁₀ x
    obtain ⟨o, e, dd⟩ := x
    rw [hB]
    exact ⟨o, hideAll_get _ e (by simp [hcL, hcT]), dd⟩
  have c1B := hcB c1₁₀ (show L + 1 ≠ L by omega)
  have c2B := hcB c2₁₀ (show L + 1 + 1 ≠ L by omega)
  have c3B := hcB c3₁₀ (show L + 1 + 1 + 1 ≠ L by omega)
  have hmore : ∀ c ∈ [L + 1, L + 1 + 1, L + 1 + 1 + 1], c ≠ T := fun c hc => by
    rcases List.mem_cons.mp hc with rfl | hc
    · exact lst_ne_cell lT₁₀ c1₁₀
    · rcases List.mem_cons.mp hc with rfl | hc
      · exact lst_ne_cell lT₁₀ c2₁₀
      · rw [List.mem_singleton.mp hc]; exact lst_ne_cell lT₁₀ c3₁₀
  -- the second loop
  refine wpAny_execs_cons <| for_list ok'.hh <| eL F₁₀ mK ?_
  refine ⟨K, us, fun I i h => ∃ (m : Str → Option Value) (ut : List Value) (tps : List Int), Fr s.heap L h m ∧ m "things" = some (.ref a) ∧ m "capacities" = some (.ref b) ∧ m "half" = some (.int (H : Nat) th) ∧
      Kept B h ∧ Lst h T ut ∧ IntsAre ut tps ∧ Tops qs tps i, rfl, lK₁₀.isList, ?_, ?_, ?_, ?_, ?_, ?_⟩
  · intro I h' _ it k
    exact ⟨_, [], [], F₁₀.kept k, mt, mc, mh, Kept.trans kB k, lT₁₀.keeps k, .nil, ⟨rfl, fun j hj => absurd hj (Nat.not_lt_zero _), fun j hj => absurd hj (Nat.not_lt_zero _)⟩⟩
  · rintro I i h h' hI ⟨m, ut, tps, F, mt, mc, mh, kb, l, it', to⟩ it k
    have hI₀ : s.heap.get? I = none := fr_none F₁₀ hI
    exact ⟨m, ut, tps, Fr.but F k (it.ne_ns F.ns) hI₀, mt, mc, mh, kb_step kb k (by rw [hB]; exact hide_fresh hI), l.off it.ns k, it', to⟩
  · rintro I i h ⟨m, ut, tps, F, mt, mc, mh, kb, l, it', to⟩
    exact (lKB.keeps kb).isList
  · rintro I i v s' E' hv hit
    exact go1 rfl
  · rintro I i v h tk E' hI hv ⟨m, ut, tps, F, mt, mc, mh, kb, l, it', to⟩ hit
    obtain ⟨q, hq, av, t1, u1, rfl, hplB⟩ := Paired_get' pB i v hv
    have hil := get_lt hq
    have hIL : I ≠ L := fun q => (IsIt.of hit).ne_ns F.ns q.symm
    have hIT : I ≠ T := lst_ne_it l (IsIt.of hit)
    have hul : ut.length = tps.length := it'.length
    have htl : tps.length = i := to.len
    refine wpAny_assign_Name <| sL F fun h₁₁ F₁₁ b₁₁ => ?_
    dsimp only at b₁₁ ⊢
    have l₁₁ : Lst h₁₁ T ut := l.off (noSeq_ns F.ns) b₁₁
    have kb₁₁ : Kept B h₁₁ := kb_step kb b₁₁ BL
    have it₁₁ := it_but hit b₁₁ hIL
    obtain ⟨m₁₁, F₁₁, mt, mc, mh, m1⟩ : ∃ m₇ : Str → Option Value, Fr s.heap L h₁₁ m₇ ∧ m₇ "things" = some (.ref a) ∧ m₇ "capacities" = some (.ref b) ∧ m₇ "half" = some (.int (H : Nat) th) ∧ m₇ "one" = some (.ref av) :=
      ⟨_, F₁₁, ifn (by decide) mt, ifn (by decide) mc, ifn (by decide) mh, if_pos rfl⟩
    have hpl : h₁₁.IsList av #[.int q.1 t1, .int q.2 u1] := hplB.at fun o e => kb₁₁ _ _ e
    have X₁₁ := X.keeps F₁₁.keep
    refine wpAny_execs_cons <| wpAny_Expr_any <| MethodCall_ <| eC (c2B.keeps kb₁₁) <| l₁₁.meth PySem.F.slot_list_append PySem.F.type_list_append <| PyProof.Rows.callWith_method1 <| args_cons <| Call_ <| eB X₁₁ X.n_max <| PyProof.Rows.callWith_builtin1 <| args_cons <|
      wpAny_BinOp <| List_ <| args_cons <| Subscript_ <| eL F₁₁ m1 <| wpAny_Constant_int <| item_litK (vs := [.int q.1 t1, .int q.2 u1]) hpl (by decide) (by decide) rfl <| args_nil <| mkList (by simp) fun Y h₁₂ hY _ k₁₂ l₁₂ => ?_
    dsimp only at hY k₁₂ ⊢
    refine slc <| eC ((c2B.keeps kb₁₁).keeps k₁₂) <| pSome <| UnaryOp_ <| wpAny_Constant_int <| PyProof.Rows.neg_int <| pNone ⟨T, ut, some (-1), none, rfl, (l₁₁.keeps k₁₂).isList, by omega, .int _ _, .none, fun Z h₁₃ hZ k₁₃ l₁₃ => ?_⟩
    dsimp only at hZ k₁₃ ⊢
    rw [pick_last] at l₁₃
    refine addL (l₁₂.keeps k₁₃).isList l₁₃.isList (by rw [List.length_drop]; simp; omega) fun V h₁₄ hV k₁₄ l₁₄ => args_nil ?_
    dsimp only at hV k₁₄ ⊢
    refine maxL (ns := [q.2] ++ tps.drop (tps.length - 1)) ok'.hh l₁₄.isList (.cons _ _ (by rw [hul]; exact ints_drop _ it')) (by simp) fun h₁₅ M tM tk₁₅ k₁₅ hM hMle => args_nil ?_
    dsimp only at k₁₅ ⊢
    have kk : Kept h₁₁ h₁₅ := Kept.trans k₁₂ (Kept.trans k₁₃ (Kept.trans k₁₄ k₁₅))
    refine Lst.append (l₁₁.keeps kk) (by omega) fun h₁₆ k₁₆ l₁₆ => ?_
    dsimp only at k₁₆
    exact wpAny_execs_nil ⟨h₁₆, _, rfl, ⟨m₁₁, ut ++ [.int M tM], tps ++ [M], Fr.but (F₁₁.kept kk) k₁₆ hLT hT₀, mt, mc, mh, kb_step (Kept.trans kb₁₁ kk) k₁₆ BT, l₁₆, ints_app it' (.cons _ _ .nil), to.snoc hq hM hMle⟩, it_but (it_keeps it₁₁ kk) k₁₆ hIT⟩
  rintro I h₁₁ tk₁₁ hI ⟨m, ut, tps, F, mt, mc, mh, kb, l, itps, to⟩
  have X₁₁ := X.keeps F.keep
  -- firsts
  refine wpAny_execs_cons <| wpAny_Assign_Name <| call_of (f := G.fa) (st := stAt 7) (dV := .none) (kV := .none) (cd := G.ca) (eG X₁₁ X.na ⟨rfl, rfl⟩) <|
    args_cons <| slc <| eL F mt <| pNone <| pSome <| eL F mh ⟨a, vs, none, some (H : Nat), rfl, hl.at fun o e => F.keep _ _ e, by omega, .none, .int _ _, fun D₃ h₁₂ hD₃ k₁₂ l₁₂ => args_nil <| wpAny_evalAll_nil ⟨(X.keeps (F.kept k₁₂).keep).Fa, ?_⟩⟩
  rw [pick_to] at l₁₂
  refine all_call (ts := ts.take H) ok' (by omega) (X.keeps (F.kept k₁₂).keep) l₁₂.isList (Paired_take H (hp.keeps (F.kept k₁₂).keep)) (by rw [List.length_take]; omega) fun D₂ h₁₃ tk₁₃ us₂ hD₂ k₁₃ l₁₃ p₁₃ => ?_
  dsimp only at hD₃ k₁₂ hD₂ k₁₃ ⊢
  have F₁₃ := (F.kept k₁₂).kept k₁₃
  have kk₁₃ : Kept h₁₁ h₁₃ := Kept.trans k₁₂ k₁₃
  have hFl : (sumsOf (ts.take H)).length ≤ 256 := by
    rw [sumsOf_length, List.length_take]
    exact Nat.le_trans (Nat.pow_le_pow_right (by decide) (show min H ts.length ≤ 8 by omega)) (by decide)
  have hu2l : us₂.length = (sumsOf (ts.take H)).length := p₁₃.length
  refine sL F₁₃ fun h₁₄ F₁₄ b₁₄ => ?_
  dsimp only at b₁₄ ⊢
  have nsL₁₃ := noSeq_ns F₁₃.ns
  have kb₁₄ : Kept B h₁₄ := kb_step (Kept.trans kb kk₁₃) b₁₄ BL
  have l₁₄ : Lst h₁₄ D₂ us₂ := l₁₃.off nsL₁₃ b₁₄
  have p₁₄ := p₁₃.off nsL₁₃ b₁₄
  have lT₁₄ : Lst h₁₄ T ut := (l.keeps kk₁₃).off nsL₁₃ b₁₄
  -- told
  refine wpAny_execs_cons <| wpAny_Assign_Name <| List_ <| args_nil <| mkList (by simp) fun U h₁₅ hU _ k₁₅ l₁₅ => ?_
  dsimp only at hU k₁₅ ⊢
  have hU₀ : s.heap.get? U = none := fr_none F₁₄ hU
  refine sL (F₁₄.kept k₁₅) fun h₁₆ F₁₆ b₁₆ => ?_
  dsimp only at b₁₆ ⊢
  have nsL₁₅ := noSeq_ns (F₁₄.kept k₁₅).ns
  have hLU : L ≠ U := lst_ne_ns l₁₅ (F₁₄.kept k₁₅).ns
  have kb₁₆ : Kept B h₁₆ := kb_step (Kept.trans kb₁₄ k₁₅) b₁₆ BL
  have l₁₆ : Lst h₁₆ D₂ us₂ := (l₁₄.keeps k₁₅).off nsL₁₅ b₁₆
  have p₁₆ := (p₁₄.keeps k₁₅).off nsL₁₅ b₁₆
  have lT₁₆ : Lst h₁₆ T ut := (lT₁₄.keeps k₁₅).off nsL₁₅ b₁₆
  have lU₁₆ : Lst h₁₆ U [] := l₁₅.off nsL₁₅ b₁₆
  have lW₁₆ : Lst h₁₆ W ws := lWB.keeps kb₁₆
  have c1₁₆ := c1B.keeps kb₁₆
  have c2₁₆ := c2B.keeps kb₁₆
  have c3₁₆ := c3B.keeps kb₁₆
  have hTU : T ≠ U := fun q => by obtain ⟨n, e⟩ := lT₁₄; rw [q, hU] at e; cases e
  have hDU : D₂ ≠ U := fun q => by obtain ⟨n, e⟩ := l₁₄; rw [q, hU] at e; cases e
  have hWU : W ≠ U := fun q => by obtain ⟨n, e⟩ := lWB.keeps kb₁₄; rw [q, hU] at e; cases e
  have nsL₁₆ := noSeq_ns F₁₆.ns
  have hLD : L ≠ D₂ := lst_ne_ns l₁₆ F₁₆.ns
  obtain ⟨m₁₆, F₁₆, mc, mf, mU⟩ : ∃ m₇ : Str → Option Value, Fr s.heap L h₁₆ m₇ ∧ m₇ "capacities" = some (.ref b) ∧ m₇ "firsts" = some (.ref D₂) ∧ m₇ "told" = some (.ref U) :=
    ⟨_, F₁₆, ifn (by decide) (ifn (by decide) mc), ifn (by decide) (if_pos rfl), if_pos rfl⟩
  obtain ⟨B', hB'⟩ : ∃ B', B' = hideAll h₁₆ [L, L + 1 + 1 + 1, U] := ⟨_, rfl⟩
  have BL' : B'.get? L = none := by rw [hB']; exact hide_new (by simp)
  have B3' : B'.get? (L + 1 + 1 + 1) = none := by rw [hB']; exact hide_new (by simp)
  have BU' : B'.get? U = none := by rw [hB']; exact hide_new (by simp)
  have kB' : Kept B' h₁₆ := by rw [hB']; exact fun _ _ e => of_hideAll _ e
  have pB' : Pairs B' us₂ (sumsOf (ts.take H)) := by
    rw [hB']; exact p₁₆.base fun Y hY => by
      rcases List.mem_cons.mp hY with rfl | hY
      · exact .inl nsL₁₆
      · rcases List.mem_cons.mp hY with rfl | hY
        · exact .inl (noSeq_cell c3₁₆)
        · rw [List.mem_singleton.mp hY]; exact .inr lU₁₆
  have n3 : ∀ {D us}, Lst h₁₆ D us → D ≠ U → Lst B' D us := fun {D us} l hDU => by
    have h1 := lst_ne_ns l F₁₆.ns
    have h2 := lst_ne_cell l c3₁₆
    rw [hB']; exact hideAll_list l (by simp [hDU, Ne.symm h1, Ne.symm h2])
  have lD' := n3 l₁₆ hDU
  have lT' := n3 lT₁₆ hTU
  have lW' := n3 lW₁₆ hWU
  have hcB' : ∀ {c v}, h₁₆.IsCell c v → c ≠ L → c ≠ L + 1 + 1 + 1 → B'.IsCell c v := fun {c v} x hcL hc3 => by
    have hcT := lst_ne_cell lU₁₆ x
    obtain ⟨o, e, dd⟩ := x
    rw [hB']
    exact ⟨o, hideAll_get _ e (by simp [hcL, hcT, hc3]), dd⟩
  have c1' := hcB' c1₁₆ (show L + 1 ≠ L by omega) (show L + 1 ≠ L + 1 + 1 + 1 by omega)
  have c2' := hcB' c2₁₆ (show L + 1 + 1 ≠ L by omega) (show L + 1 + 1 ≠ L + 1 + 1 + 1 by omega)
  have h3U : L + 1 + 1 + 1 ≠ U := lst_ne_cell lU₁₆ c3₁₆
  have hutl : ut.length = qs.length := itps.length.trans (to.len.trans hul)
  have htpl : tps.length = qs.length := to.len.trans hul
  -- the third loop
  refine wpAny_execs_cons <| for_list ok'.hh <| eL F₁₆ mc ?_
  refine ⟨b, cvs, fun I i h => ∃ (m : Str → Option Value) (uu : List Value) (tolds : List Int) (v3 : Option Value), Fr s.heap L h m ∧ m "firsts" = some (.ref D₂) ∧ m "told" = some (.ref U) ∧
      Kept B' h ∧ Lst h U uu ∧ IntsAre uu tolds ∧ Paired (HB (sumsOf (ts.take H)) qs tps) (caps.take i) tolds ∧ h.IsCell (L + 1 + 1 + 1) v3, rfl, hb.at fun o e => F₁₆.keep _ _ e, ?_, ?_, ?_, ?_, ?_, ?_⟩
  · intro I h' _ it k
    exact ⟨_, [], [], none, F₁₆.kept k, mf, mU, Kept.trans kB' k, lU₁₆.keeps k, .nil, by rw [List.take_zero]; exact .nil, c3₁₆.keeps k⟩
  · rintro I i h h' hI ⟨m, uu, tolds, v3, F, mf, mU, kb, l, it', pp, cc⟩ it k
    have hI₀ : s.heap.get? I = none := fr_none F₁₆ hI
    exact ⟨m, uu, tolds, v3, Fr.but F k (it.ne_ns F.ns) hI₀, mf, mU, kb_step kb k (by rw [hB']; exact hide_fresh hI), l.off it.ns k, it', pp, cell_off cc it k⟩
  · rintro I i h ⟨m, uu, tolds, v3, F, mf, mU, kb, l, it', pp, cc⟩
    exact hb.at fun o e => F.keep _ _ e
  · rintro I i v s' E' hv hit
    exact go1 rfl
  · rintro I i v h tk E' hI hv ⟨m, uu, tolds, v3, F, mf, mU, kb, l, it', pp, cc⟩ hit
    obtain ⟨c, tc, hcc, rfl⟩ := ints_get' hc i v hv
    have hic := get_lt hcc
    have hcm : c ∈ caps := List.mem_of_getElem? hcc
    have hIL : I ≠ L := fun q => (IsIt.of hit).ne_ns F.ns q.symm
    have hIU : I ≠ U := lst_ne_it l (IsIt.of hit)
    have hI3 : I ≠ L + 1 + 1 + 1 := cell_ne_it cc (IsIt.of hit)
    have hul' : uu.length = tolds.length := it'.length
    have htl' : tolds.length ≤ 100 := by
      have := pp.length
      rw [List.length_take] at this
      omega
    refine wpAny_assign_Name <| sC cc fun h₁₇ cc₁₇ b₁₇ => ?_
    dsimp only at b₁₇ ⊢
    have nsC := noSeq_cell cc
    have F₁₇ := Fr.but F b₁₇ (show L ≠ L + 1 + 1 + 1 by omega) (fresh _ (show L ≤ L + 1 + 1 + 1 by omega))
    have l₁₇ : Lst h₁₇ U uu := l.off nsC b₁₇
    have kb₁₇ : Kept B' h₁₇ := kb_step kb b₁₇ B3'
    have it₁₇ := it_but hit b₁₇ hI3
    have X₁₇ := X.keeps F₁₇.keep
    have p₁₇ : Pairs h₁₇ us₂ (sumsOf (ts.take H)) := pB'.keeps kb₁₇
    -- best
    refine wpAny_execs_cons <| comp_asgL (cl := [("weights", L + 1), ("tops", L + 1 + 1), ("capacity", L + 1 + 1 + 1)]) (m := m) (fun v => decide ((readV h₁₇ v).1 ≤ c))
      (fun v y => ∀ q, PairV h₁₇ v q → ∃ r t, Cut (qs.map (·.1)) (· ≤ c - q.1) r ∧ 0 < r ∧ y = .int (q.2 + tps.getD (r - 1) 0) t) (by rfl) ok'.hh (by rfl) (by decide +kernel) (by rfl) (by decide +kernel) (by rfl) (by rfl) (by rfl) <| eL F₁₇ mf ?_
    refine ⟨D₂, us₂, rfl, (lD'.keeps kb₁₇).isList, by omega, F₁₇.ns, ?_, ?_, ?_⟩
    · intro C v m₃ s₃ E' hv hns hmx k
      obtain ⟨q₀, _, hq₀⟩ := Paired_mem p₁₇ v hv
      obtain ⟨av', t', u', rfl, hpl'⟩ := id hq₀
      have hpl₃ : s₃.heap.IsList av' #[.int q₀.1 t', .int q₀.2 u'] := hpl'.at fun o e => k _ _ e
      refine one_if <| wpAny_isTrue_Compare1 <| Subscript_ <| eN hns hmx <| wpAny_Constant_int <| item_litK (vs := [.int q₀.1 t', .int q₀.2 u']) hpl₃ (by decide) (by decide) rfl <| eC (cc₁₇.keeps k) <| PyProof.Rows.le_int <| wpAny_truthy_bool ⟨?_, ⟨_, _, rfl, Kept.refl _⟩⟩
      rw [readV_of hq₀]
    · intro C v m₃ s₃ E' hv hpv hns hmx k
      obtain ⟨q₀, hq₀m, hq₀⟩ := Paired_mem p₁₇ v hv
      rw [readV_of hq₀] at hpv
      have hpv : q₀.1 ≤ c := by simpa using hpv
      obtain ⟨av', t', u', rfl, hpl'⟩ := id hq₀
      have hpl₃ : s₃.heap.IsList av' #[.int q₀.1 t', .int q₀.2 u'] := hpl'.at fun o e => k _ _ e
      have X₃ := X₁₇.keeps k
      refine wpAny_BinOp <| Subscript_ <| eN hns hmx <| wpAny_Constant_int <| item_litK (vs := [.int q₀.1 t', .int q₀.2 u']) hpl₃ (by decide) (by decide) rfl <| Subscript_ <| eC ((c2'.keeps kb₁₇).keeps k) <| wpAny_BinOp <|
        call_of (f := G.fr) (st := stAt 2) (dV := .ref G.dr) (kV := .ref G.kr) (cd := G.cr) (eG X₃ X.nr ⟨rfl, rfl⟩) <| args_cons <| eC ((c1'.keeps kb₁₇).keeps k) <| args_cons <| wpAny_BinOp <| eC (cc₁₇.keeps k) <|
        Subscript_ <| eN hns hmx <| wpAny_Constant_int <| item_litK (vs := [.int q₀.1 t', .int q₀.2 u']) hpl₃ (by decide) (by decide) rfl <| sub_int <| args_nil <| wpAny_evalAll_nil ⟨X₃.Frr,
        br_int_call ok' (by omega) X₃ ((lW'.keeps kb₁₇).keeps k).isList iws so (by rw [List.length_map]; omega) fun r tr h₁₈ tk₁₈ k₁₈ cu => ?_⟩
      dsimp only at k₁₈ ⊢
      have hr : r ≤ qs.length := by have := cu.le; simpa using this
      have hr0 : 0 < r := by
        rcases Nat.eq_zero_or_pos r with e | e
        · exfalso
          obtain ⟨q1, hq1, hle⟩ := hSS c hcm q₀ hq₀m hpv
          have hq1' : q1 ∈ qs := pq.mem_iff.mpr hq1
          obtain ⟨j, hj, ej⟩ := List.getElem_of_mem hq1'
          have := cu.hi j (by omega) (by rw [List.length_map]; exact hj)
          rw [List.getD_eq_getElem?_getD, List.getElem?_map, List.getElem?_eq_getElem hj, ej] at this
          exact this hle
        · exact e
      have hr1 : r - 1 < tps.length := by omega
      obtain ⟨tt, htt⟩ := itps.get (r - 1) tps[r - 1] (List.getElem?_eq_getElem hr1)
      have hgd : tps.getD (r - 1) 0 = tps[r - 1] := by rw [List.getD_eq_getElem?_getD, List.getElem?_eq_getElem hr1]; rfl
      refine wpAny_Constant_int <| sub_int <| item_litK (v := .int tps[r - 1] tt) (((lT'.keeps kb₁₇).keeps k).keeps k₁₈).isList (by omega) (by omega) (by rw [show ((r : Int) - 1).toNat = r - 1 by omega]; exact htt) <| add_int ⟨⟨_, _, rfl, k₁₈⟩, fun q hq => ?_⟩
      cases hq.inj hq₀
      exact ⟨r, _, cu, hr0, by rw [hgd]⟩
    intro Db h₁₈ tk₁₈ ys hDb lb₁₈ ns₁₈ k₁₈ hP
    dsimp only at hDb ns₁₈ k₁₈ ⊢
    have F₁₈ : Fr s.heap L h₁₈ (fun z => if z = "best" then some (.ref Db) else m z) := ⟨ns₁₈, fun b o e => k₁₈ b o (fun q => by have q : b = L := q; rw [q, fresh L (Nat.le_refl _)] at e; cases e) (F₁₇.keep _ _ e), F₁₇.above⟩
    have nsL₁₇ := noSeq_ns F₁₇.ns
    have l₁₈ : Lst h₁₈ U uu := l₁₇.off nsL₁₇ k₁₈
    have kb₁₈ : Kept B' h₁₈ := kb_step kb₁₇ k₁₈ BL'
    have it₁₈ := it_but it₁₇ k₁₈ hIL
    have cc₁₈ := cell_but cc₁₇ k₁₈ (show L + 1 + 1 + 1 ≠ L by omega)
    obtain ⟨ns, ins, pns⟩ := paired_ints (K := fun v n => ∃ q ∈ sumsOf (ts.take H), PairV h₁₇ v q ∧ q.1 ≤ c ∧ ∃ r, Cut (qs.map (·.1)) (· ≤ c - q.1) r ∧ 0 < r ∧ n = q.2 + tps.getD (r - 1) 0) (fun v hv y hy => by
      obtain ⟨hv1, hv2⟩ := List.mem_filter.mp hv
      obtain ⟨q₀, hq₀m, hq₀⟩ := Paired_mem p₁₇ v hv1
      rw [readV_of hq₀] at hv2
      obtain ⟨r, t, a1, a2, a3⟩ := hy q₀ hq₀
      exact ⟨_, t, a3, q₀, hq₀m, hq₀, by simpa using hv2, r, a1, a2, rfl⟩) hP
    have all : ∀ q ∈ sumsOf (ts.take H), q.1 ≤ c → ∃ n ∈ ns, ∃ r, Cut (qs.map (·.1)) (· ≤ c - q.1) r ∧ 0 < r ∧ n = q.2 + tps.getD (r - 1) 0 := fun q hq hqc => by
      obtain ⟨v, hv, hvq⟩ := Paired_mem_r p₁₇ q hq
      obtain ⟨n, hn', q', _, hvq', _, r, a1, a2, a3⟩ := Paired_mem pns v (List.mem_filter.mpr ⟨hv, by rw [readV_of hvq]; simpa using hqc⟩)
      cases hvq.inj hvq'
      exact ⟨n, hn', r, a1, a2, a3⟩
    have hpos : 0 < ns.length := by
      obtain ⟨q, hq, hqc⟩ := hFS c hcm
      obtain ⟨n, hn', _⟩ := all q hq hqc
      exact List.length_pos_of_mem hn'
    refine wpAny_execs_cons <| wpAny_Expr_any <| MethodCall_ <| eL F₁₈ (ifn (by decide) mU) <| l₁₈.meth PySem.F.slot_list_append PySem.F.type_list_append <| PyProof.Rows.callWith_method1 <| args_cons <| Call_ <| eB (X.keeps F₁₈.keep) X.n_max <| PyProof.Rows.callWith_builtin1 <| args_cons <| eL F₁₈ (if_pos rfl) <| args_nil <|
      maxL ok'.hh lb₁₈.isList ins hpos fun h₁₉ M tM tk₁₉ k₁₉ hM hMle => args_nil ?_
    dsimp only at k₁₉ ⊢
    refine Lst.append (l₁₈.keeps k₁₉) (by omega) fun h₂₀ k₂₀ l₂₀ => ?_
    dsimp only at k₂₀
    refine wpAny_execs_nil ⟨h₂₀, _, rfl, ⟨_, uu ++ [.int M tM], tolds ++ [M], _, Fr.but (F₁₈.kept k₁₉) k₂₀ hLU hU₀, ifn (by decide) mf, ifn (by decide) mU, kb_step (Kept.trans kb₁₈ k₁₉) k₂₀ BU', l₂₀, ints_app it' (.cons _ _ .nil), ?_, cell_but (cc₁₈.keeps k₁₉) k₂₀ h3U⟩, it_but (it_keeps it₁₈ k₁₉) k₂₀ hIU⟩
    have e2 : caps.take (i + 1) = caps.take i ++ [c] := by rw [List.take_add_one, hcc]; rfl
    rw [e2]
    refine pp.snoc ⟨?_, fun q hq hqc => ?_⟩
    · obtain ⟨v, hv, q, hq, hvq, hqc, r, a1, a2, a3⟩ := Paired_mem_r pns M hM
      exact ⟨q, hq, hqc, r, a1, a2, a3⟩
    · obtain ⟨n, hn', r, a1, a2, a3⟩ := all q hq hqc
      exact ⟨r, a1, a2, by rw [← a3]; exact hMle n hn'⟩
  · rintro I h₁₇ tk₁₇ hI ⟨m, uu, tolds, v3, F, mf, mU, kb, l, it', pp, cc⟩
    refine wpAny_execs_cons <| wpAny_Return_some <| eL F mU ?_
    rw [List.take_of_length_le (l := caps) (by rw [hc.length]; exact Nat.le_refl _)] at pp
    exact h U h₁₇ _ uu tolds hU₀ F.keep l it' ⟨qs, tps, by rw [← hH]; exact pq, so, by rw [← hul]; exact to, by rw [← hH]; exact pp⟩
end
end Mine
end

-- part S12
section
open PySem PySem.W PySem.Calls PyProof.Rows
set_option Elab.async false
set_option maxRecDepth 100000
set_option maxHeartbeats 2000000
namespace Mine

abbrev PI := Int × Int
structure Front (S : PI → Prop) (row : List PI) : Prop where
  chain : row.Pairwise fun p q => p.1 < q.1 ∧ p.2 < q.2
  sub : ∀ p ∈ row, S p
  dom : ∀ s, S s → ∃ p ∈ row, p.1 ≤ s.1 ∧ s.2 ≤ p.2

theorem same_sorted : ∀ {l l' : List PI}, l.Pairwise (fun p q => p.1 < q.1) → l'.Pairwise (fun p q => p.1 < q.1) → (∀ p, p ∈ l ↔ p ∈ l') → l = l'
  | [], [], _, _, _ => rfl
  | [], b :: t, _, _, h => by have := (h b).mpr (by simp); simp at this
  | a :: t, [], _, _, h => by have := (h a).mp (by simp); simp at this
  | a :: t, b :: t', h1, h2, h => by
    obtain ⟨a1, a2⟩ := List.pairwise_cons.mp h1
    obtain ⟨b1, b2⟩ := List.pairwise_cons.mp h2
    have hab : a = b := by
      rcases List.mem_cons.mp ((h a).mp (by simp)) with e | e
      · exact e
      · rcases List.mem_cons.mp ((h b).mpr (by simp)) with e' | e'
        · exact e'.symm
        · have := b1 a e; have := a1 b e'; omega
    subst hab
    rw [same_sorted a2 b2 fun p => ⟨fun hp => ?_, fun hp => ?_⟩]
    · rcases List.mem_cons.mp ((h p).mp (by simp [hp])) with e | e
      · have := a1 p hp; rw [e] at this; omega
      · exact e
    · rcases List.mem_cons.mp ((h p).mpr (by simp [hp])) with e | e
      · have := b1 p hp; rw [e] at this; omega
      · exact e

theorem Front.only {S : PI → Prop} {r r' : List PI} (a : Front S r) (b : Front S r') : r = r' := by
  have half : ∀ {r r' : List PI}, Front S r → Front S r' → ∀ p ∈ r, p ∈ r' := fun {r r'} a b p hp => by
    obtain ⟨q, hq, q1, q2⟩ := b.dom p (a.sub p hp)
    obtain ⟨p', hp', p1, p2⟩ := a.dom q (b.sub q hq)
    have e : p' = p := by
      obtain ⟨i, hi, ei⟩ := List.getElem_of_mem hp
      obtain ⟨j, hj, ej⟩ := List.getElem_of_mem hp'
      rcases Nat.lt_trichotomy i j with l | l | l
      · have := List.pairwise_iff_getElem.mp a.chain i j hi hj l
        rw [ei, ej] at this; omega
      · subst l; rw [← ei, ← ej]
      · have := List.pairwise_iff_getElem.mp a.chain j i hj hi l
        rw [ei, ej] at this; omega
    have : q = p := by
      rw [e] at p1 p2
      have h1 : q.1 = p.1 := by omega
      have h2 : q.2 = p.2 := by omega
      exact Prod.ext h1 h2
    rw [← this]; exact hq
  exact same_sorted (a.chain.imp fun h => h.1) (b.chain.imp fun h => h.1) fun p => ⟨half a b p, half b a p⟩

theorem Front.congr {S S' : PI → Prop} {r : List PI} (a : Front S r) (h : ∀ p, S p → S' p) (h' : ∀ s, S' s → ∃ t, S t ∧ t.1 ≤ s.1 ∧ s.2 ≤ t.2) : Front S' r :=
  ⟨a.chain, fun p hp => h p (a.sub p hp), fun s hs => by
    obtain ⟨t, ht, t1, t2⟩ := h' s hs
    obtain ⟨p, hp, p1, p2⟩ := a.dom t ht
    exact ⟨p, hp, by omega, by omega⟩⟩
theorem Front.keys {S : PI → Prop} {r : List PI} (a : Front S r) : (r.map (·.1)).Pairwise (· ≤ ·) := by
  rw [List.pairwise_map]
  exact a.chain.imp fun h => by omega
theorem Front.at {S : PI → Prop} {r : List PI} (a : Front S r) {i j : Nat} (hij : i < j) (hj : j < r.length) : (r.getD i (0, 0)).1 < (r.getD j (0, 0)).1 ∧ (r.getD i (0, 0)).2 < (r.getD j (0, 0)).2 := by
  have hi : i < r.length := by omega
  have e1 : r.getD i (0, 0) = r[i] := by rw [List.getD_eq_getElem?_getD, List.getElem?_eq_getElem hi]; rfl
  have e2 : r.getD j (0, 0) = r[j] := by rw [List.getD_eq_getElem?_getD, List.getElem?_eq_getElem hj]; rfl
  rw [e1, e2]; exact List.pairwise_iff_getElem.mp a.chain i j hi hj hij
theorem getD_map_fst (r : List PI) (i : Nat) : (r.map (·.1)).getD i 0 = (r.getD i (0, 0)).1 := by
  rw [List.getD_eq_getElem?_getD, List.getD_eq_getElem?_getD, List.getElem?_map]
  cases r[i]? <;> rfl
theorem getD_mem' {r : List PI} {i : Nat} (h : i < r.length) : r.getD i (0, 0) ∈ r := by
  rw [List.getD_eq_getElem?_getD, List.getElem?_eq_getElem h]; exact List.getElem_mem h
theorem mem_getD' {r : List PI} {p : PI} (h : p ∈ r) : ∃ i, i < r.length ∧ r.getD i (0, 0) = p := by
  obtain ⟨i, hi, e⟩ := List.getElem_of_mem h
  exact ⟨i, hi, by rw [List.getD_eq_getElem?_getD, List.getElem?_eq_getElem hi, ← e]; rfl⟩
theorem mem_take' {r : List PI} {p : PI} {n : Nat} (h : p ∈ r.take n) : ∃ i, i < n ∧ i < r.length ∧ r.getD i (0, 0) = p := by
  obtain ⟨i, hi, e⟩ := List.getElem_of_mem h
  rw [List.length_take] at hi
  have hr : i < r.length := by omega
  refine ⟨i, by omega, hr, ?_⟩
  rw [List.getD_eq_getElem?_getD, List.getElem?_eq_getElem hr, ← e, List.getElem_take]; rfl
theorem mem_drop' {r : List PI} {p : PI} {n : Nat} (h : p ∈ r.drop n) : ∃ i, n ≤ i ∧ i < r.length ∧ r.getD i (0, 0) = p := by
  obtain ⟨i, hi, e⟩ := List.getElem_of_mem h
  rw [List.length_drop] at hi
  have hr : n + i < r.length := by omega
  refine ⟨n + i, by omega, hr, ?_⟩
  rw [List.getD_eq_getElem?_getD, List.getElem?_eq_getElem hr, ← e, List.getElem_drop]; rfl

theorem LayR.len {ps qs : List PI} {w v : Int} (h : LayR ps w v qs) : qs.length ≤ ps.length + 1 := by
  obtain ⟨r, _, ⟨_, _, rfl⟩ | ⟨_, q, j, c, h1, h2, _, _, rfl⟩⟩ := h
  · omega
  · rw [List.length_append, List.length_cons, List.length_take, List.length_drop]; omega
theorem LayR.front {S : PI → Prop} {ps qs : List PI} {w v : Int} (h : LayR ps w v qs) (a : Front S ps) : Front (fun p => S p ∨ p = (w, v)) qs := by
  obtain ⟨r, c, ⟨h0, hv, rfl⟩ | ⟨hno, q, j, c', hqj, hj, hle, hgt, rfl⟩⟩ := h
  · have hr := c.le
    rw [List.length_map] at hr
    refine a.congr (fun p hp => .inl hp) fun s hs => ?_
    rcases hs with hs | rfl
    · exact ⟨s, hs, Int.le_refl _, Int.le_refl _⟩
    · have := c.lo (r - 1) (by omega)
      rw [getD_map_fst] at this
      exact ⟨_, a.sub _ (getD_mem' (i := r - 1) (by omega)), this, hv⟩
  have hr := c.le
  have hq := c'.le
  rw [List.length_map] at hr hq
  have klo : ∀ i, i < r → (ps.getD i (0, 0)).1 ≤ w := fun i hi => by have := c.lo i hi; rwa [getD_map_fst] at this
  have khi : ∀ i, r ≤ i → i < ps.length → ¬ (ps.getD i (0, 0)).1 ≤ w := fun i h1 h2 => by have := c.hi i h1 (by rw [List.length_map]; exact h2); rwa [getD_map_fst] at this
  have klo' : ∀ i, i < q → (ps.getD i (0, 0)).1 < w := fun i hi => by have := c'.lo i hi; rwa [getD_map_fst] at this
  have khi' : ∀ i, q ≤ i → i < ps.length → ¬ (ps.getD i (0, 0)).1 < w := fun i h1 h2 => by have := c'.hi i h1 (by rw [List.length_map]; exact h2); rwa [getD_map_fst] at this
  have low : ∀ i, i < r → (ps.getD i (0, 0)).2 < v := fun i hi => by
    have h1 : ¬ v ≤ (ps.getD (r - 1) (0, 0)).2 := fun e => hno ⟨by omega, e⟩
    by_cases hir : i = r - 1
    · rw [hir]; omega
    · have := (a.at (i := i) (j := r - 1) (by omega) (by omega)).2; omega
  have hqr : q ≤ r := by
    rcases Nat.lt_or_ge r q with h1 | h1
    · have := klo' r h1; exact absurd (Int.le_of_lt this) (khi r (Nat.le_refl _) (by omega))
    · exact h1
  have hjr : ∀ i, j ≤ i → i < ps.length → v < (ps.getD i (0, 0)).2 ∧ r ≤ i := fun i h1 h2 => by
    have h3 : ¬ (ps.getD j (0, 0)).2 ≤ v := hgt (by omega)
    have h4 : v < (ps.getD i (0, 0)).2 := by
      by_cases hij : i = j
      · rw [hij]; omega
      · have := (a.at (i := j) (j := i) (by omega) h2).2; omega
    refine ⟨h4, ?_⟩
    rcases Nat.lt_or_ge i r with h5 | h5
    · have := low i h5; omega
    · exact h5
  refine ⟨?_, ?_, ?_⟩
  · refine List.pairwise_append.mpr ⟨List.Pairwise.take a.chain, List.pairwise_cons.mpr ⟨fun p hp => ?_, List.Pairwise.drop a.chain⟩, fun p hp p' hp' => ?_⟩
    · obtain ⟨i, h1, h2, rfl⟩ := mem_drop' hp
      obtain ⟨h3, h4⟩ := hjr i h1 h2
      have := khi i h4 h2
      exact ⟨by show w < _; omega, h3⟩
    · obtain ⟨i, h1, h2, rfl⟩ := mem_take' hp
      rcases List.mem_cons.mp hp' with rfl | hp'
      · exact ⟨klo' i h1, low i (by omega)⟩
      · obtain ⟨k, h3, h4, rfl⟩ := mem_drop' hp'
        exact a.at (by omega) h4
  · intro p hp
    rcases List.mem_append.mp hp with hp | hp
    · exact .inl (a.sub p (List.mem_of_mem_take hp))
    · rcases List.mem_cons.mp hp with rfl | hp
      · exact .inr rfl
      · exact .inl (a.sub p (List.mem_of_mem_drop hp))
  · intro s hs
    have self : ∃ p ∈ ps.take q ++ (w, v) :: ps.drop j, p.1 ≤ w ∧ v ≤ p.2 := ⟨(w, v), by simp, Int.le_refl _, Int.le_refl _⟩
    rcases hs with hs | rfl
    · obtain ⟨p, hp, p1, p2⟩ := a.dom s hs
      obtain ⟨i, hi, rfl⟩ := mem_getD' hp
      by_cases h1 : i < q
      · refine ⟨_, List.mem_append_left _ ?_, p1, p2⟩
        rw [List.getD_eq_getElem?_getD, List.getElem?_eq_getElem hi]
        exact List.mem_take_iff_getElem.mpr ⟨i, by omega, rfl⟩
      · by_cases h2 : i < j
        · have h3 := hle i (by omega) h2
          have h4 := khi' i (by omega) hi
          obtain ⟨p', hp', q1, q2⟩ := self
          exact ⟨p', hp', by omega, by omega⟩
        · refine ⟨_, List.mem_append_right _ (.tail _ ?_), p1, p2⟩
          rw [List.getD_eq_getElem?_getD, List.getElem?_eq_getElem hi]
          exact List.mem_drop_iff_getElem.mpr ⟨i - j, by omega, by simp [show j + (i - j) = i by omega]⟩
    · exact self
end Mine
end

-- part S13
section
open PySem PySem.W PySem.Calls PyProof.Rows
set_option Elab.async false
set_option maxRecDepth 100000
set_option maxHeartbeats 2000000
namespace Mine

def negP (p : PI) : PI := (p.1, -p.2)
theorem snoc_ind {α : Type} {M : List α → Prop} (h0 : M []) (h1 : ∀ l a, M l → M (l ++ [a])) : ∀ l, M l := by
  intro l
  have : ∀ n (l : List α), l.length = n → M l := by
    intro n
    induction n with
    | zero => intro l hl; rw [List.length_eq_zero_iff.mp hl]; exact h0
    | succ n ih =>
      intro l hl
      have hne : l ≠ [] := fun e => by rw [e] at hl; simp at hl
      rw [← List.dropLast_concat_getLast hne]
      exact h1 _ _ (ih _ (by rw [List.length_dropLast]; omega))
  exact this l.length l rfl

theorem keep_front : ∀ (qs : List PI), qs.Pairwise (fun p q => ltP q p = false) → Front (fun p => negP p ∈ qs) (keepOf qs) ∧ (qs ≠ [] → keepOf qs ≠ []) := by
  refine snoc_ind ?_ ?_
  · intro _
    exact ⟨⟨List.Pairwise.nil, fun p hp => by simp [keepOf] at hp, fun s hs => by simp at hs⟩, fun h => absurd rfl h⟩
  · intro qs q ih hs
    obtain ⟨h1, _, h3⟩ := List.pairwise_append.mp hs
    obtain ⟨F, ne⟩ := ih h1
    have before : ∀ p ∈ qs, p.1 < q.1 ∨ (p.1 = q.1 ∧ p.2 ≤ q.2) := fun p hp => by
      have := ltP_not.mp (h3 p hp q (by simp)); exact this
    have nn : ∀ p : PI, negP (negP p) = p := fun p => by simp [negP]
    rw [keepOf_snoc]
    by_cases hc : keepOf qs = [] ∨ ((keepOf qs).getLastD (0, 0)).2 < -q.2
    · have e : stepK (keepOf qs) q = keepOf qs ++ [(q.1, -q.2)] := by unfold stepK; rw [if_pos hc]
      rw [e]
      refine ⟨⟨List.pairwise_append.mpr ⟨F.chain, List.pairwise_singleton _ _, fun p hp p' hp' => ?_⟩, fun p hp => ?_, fun s hs => ?_⟩, fun _ h => by simp at h⟩
      · rw [List.mem_singleton] at hp'
        subst hp'
        rcases hc with hc | hc
        · rw [hc] at hp; cases hp
        · have hm := F.sub p hp
          have b := before _ hm
          have hlast : p.2 ≤ ((keepOf qs).getLastD (0, 0)).2 := by
            obtain ⟨i, hi, ei⟩ := mem_getD' hp
            have hl : (keepOf qs).getLastD (0, 0) = (keepOf qs).getD ((keepOf qs).length - 1) (0, 0) := by
              rw [List.getLastD_eq_getLast?, List.getLast?_eq_getElem?, List.getD_eq_getElem?_getD]
            rw [hl, ← ei]
            by_cases hil : i = (keepOf qs).length - 1
            · rw [hil]; exact Int.le_refl _
            · exact Int.le_of_lt (F.at (i := i) (j := (keepOf qs).length - 1) (by omega) (by omega)).2
          show p.1 < q.1 ∧ p.2 < -q.2
          unfold negP at b
          simp only at b
          omega
      · rcases List.mem_append.mp hp with hp | hp
        · exact List.mem_append_left _ (F.sub p hp)
        · rw [List.mem_singleton] at hp
          subst hp
          exact List.mem_append_right _ (by show negP (negP q) ∈ [q]; rw [nn]; simp)
      · rcases List.mem_append.mp hs with hs | hs
        · obtain ⟨p, hp, h⟩ := F.dom s hs
          exact ⟨p, List.mem_append_left _ hp, h⟩
        · rw [List.mem_singleton] at hs
          refine ⟨negP q, List.mem_append_right _ (by simp [negP]), ?_⟩
          rw [← hs, nn]
          exact ⟨Int.le_refl _, Int.le_refl _⟩
    · have e : stepK (keepOf qs) q = keepOf qs := by unfold stepK; rw [if_neg hc]
      rw [e]
      have hne : keepOf qs ≠ [] := fun e => hc (.inl e)
      have hle : ¬ ((keepOf qs).getLastD (0, 0)).2 < -q.2 := fun e => hc (.inr e)
      have hlm : (keepOf qs).getLastD (0, 0) ∈ keepOf qs := by
        rw [List.getLastD_eq_getLast?, List.getLast?_eq_some_getLast hne]; exact List.getLast_mem hne
      refine ⟨⟨F.chain, fun p hp => List.mem_append_left _ (F.sub p hp), fun s hs => ?_⟩, fun _ => hne⟩
      rcases List.mem_append.mp hs with hs | hs
      · exact F.dom s hs
      · rw [List.mem_singleton] at hs
        refine ⟨_, hlm, ?_, ?_⟩
        · have b := before _ (F.sub _ hlm)
          rw [← hs] at b
          unfold negP at b
          simp only at b
          omega
        · rw [← hs] at hle
          unfold negP at hle
          simp only at hle
          omega

theorem unbeaten_front {ps qs : List PI} (hp : qs.Perm (ps.map fun p => (p.1, -p.2))) (hs : qs.Pairwise (fun p q => ltP q p = false)) : Front (fun p => p ∈ ps) (keepOf qs) := by
  refine (keep_front qs hs).1.congr (fun p h => ?_) fun s h => ⟨s, ?_, Int.le_refl _, Int.le_refl _⟩
  · obtain ⟨p', h1, h2⟩ := List.mem_map.mp (hp.mem_iff.mp h)
    have : p' = p := by
      have a := congrArg Prod.fst h2
      have b := congrArg Prod.snd h2
      simp only [negP] at a b
      exact Prod.ext a (by omega)
    rw [← this]; exact h1
  · exact hp.mem_iff.mpr (List.mem_map.mpr ⟨s, h, rfl⟩)

def addP (p q : PI) : PI := (p.1 + q.1, p.2 + q.2)
theorem sums_nil : sumsOf [] = [(0, 0)] := rfl
theorem mem_snoc {ts : List PI} {t p : PI} : p ∈ sumsOf (ts ++ [t]) ↔ p ∈ sumsOf ts ∨ ∃ q ∈ sumsOf ts, p = addP q t := by
  rw [sumsOf_snoc, List.mem_append]
  refine or_congr Iff.rfl ⟨fun h => ?_, fun ⟨q, hq, e⟩ => ?_⟩
  · obtain ⟨q, hq, rfl⟩ := List.mem_map.mp h; exact ⟨q, hq, rfl⟩
  · exact List.mem_map.mpr ⟨q, hq, e.symm⟩
theorem zero_mem : ∀ ts : List PI, ((0, 0) : PI) ∈ sumsOf ts := by
  refine snoc_ind (by rw [sums_nil]; simp) fun ts t h => mem_snoc.mpr (.inl h)
theorem sums_app (a : List PI) : ∀ (b : List PI) (p : PI), p ∈ sumsOf (a ++ b) ↔ ∃ x ∈ sumsOf a, ∃ y ∈ sumsOf b, p = addP x y := by
  refine snoc_ind ?_ ?_
  · intro p
    rw [List.append_nil, sums_nil]
    refine ⟨fun h => ⟨p, h, (0, 0), by simp, by simp [addP]⟩, fun ⟨x, hx, y, hy, e⟩ => ?_⟩
    rw [List.mem_singleton] at hy
    subst hy
    rw [e]
    have : addP x (0, 0) = x := by simp [addP]
    rw [this]; exact hx
  · intro b t ih p
    rw [← List.append_assoc, mem_snoc]
    have as : ∀ x y z : PI, addP (addP x y) z = addP x (addP y z) := fun x y z => by simp [addP, Int.add_assoc]
    refine ⟨fun h => ?_, fun ⟨x, hx, y, hy, e⟩ => ?_⟩
    · rcases h with h | ⟨q, hq, e⟩
      · obtain ⟨x, hx, y, hy, e⟩ := (ih p).mp h
        exact ⟨x, hx, y, mem_snoc.mpr (.inl hy), e⟩
      · obtain ⟨x, hx, y, hy, e'⟩ := (ih q).mp hq
        exact ⟨x, hx, addP y t, mem_snoc.mpr (.inr ⟨y, hy, rfl⟩), by rw [e, e', as]⟩
    · rcases mem_snoc.mp hy with hy | ⟨z, hz, ez⟩
      · exact .inl ((ih p).mpr ⟨x, hx, y, hy, e⟩)
      · exact .inr ⟨addP x z, (ih _).mpr ⟨x, hx, z, hz, rfl⟩, by rw [e, ez, as]⟩
theorem sums_nonneg : ∀ ts : List PI, (∀ t ∈ ts, 0 ≤ t.1) → ∀ p ∈ sumsOf ts, 0 ≤ p.1 := by
  refine snoc_ind ?_ ?_
  · intro _ p hp; rw [sums_nil, List.mem_singleton] at hp; subst hp; exact Int.le_refl _
  · intro ts t ih h p hp
    have ih' := ih fun u hu => h u (by simp [hu])
    have ht := h t (by simp)
    rcases mem_snoc.mp hp with hp | ⟨q, hq, e⟩
    · exact ih' p hp
    · have := ih' q hq
      rw [e]; show 0 ≤ q.1 + t.1; omega

/-- the most that a set is worth which doesn't weigh more -/
structure Best (S : PI → Prop) (c M : Int) : Prop where
  has : ∃ p, S p ∧ p.1 ≤ c ∧ p.2 = M
  le : ∀ p, S p → p.1 ≤ c → p.2 ≤ M
theorem Best.only {S : PI → Prop} {c M M' : Int} (a : Best S c M) (b : Best S c M') : M = M' := by
  obtain ⟨p, h1, h2, h3⟩ := a.has
  obtain ⟨q, k1, k2, k3⟩ := b.has
  have := a.le q k1 k2
  have := b.le p h1 h2
  omega
theorem bests_only {S : PI → Prop} : ∀ {cs ms ms' : List Int}, Paired (Best S) cs ms → Paired (Best S) cs ms' → ms = ms'
  | _, _, _, .nil, .nil => rfl
  | _, _, _, .cons a h, .cons b h' => by rw [a.only b, bests_only h h']
theorem Front.best {S : PI → Prop} {row : List PI} {c : Int} {r : Nat} (a : Front S row) (cu : Cut (row.map (·.1)) (· ≤ c) r) (h0 : ∃ p, S p ∧ p.1 ≤ c) : 0 < r ∧ r ≤ row.length ∧ Best S c (row.getD (r - 1) (0, 0)).2 := by
  have hr := cu.le
  rw [List.length_map] at hr
  have lo : ∀ i, i < r → (row.getD i (0, 0)).1 ≤ c := fun i hi => by have := cu.lo i hi; rwa [getD_map_fst] at this
  have hi : ∀ i, r ≤ i → i < row.length → ¬ (row.getD i (0, 0)).1 ≤ c := fun i h1 h2 => by have := cu.hi i h1 (by rw [List.length_map]; exact h2); rwa [getD_map_fst] at this
  have place : ∀ s, S s → s.1 ≤ c → ∃ i, i < r ∧ s.2 ≤ (row.getD i (0, 0)).2 := fun s hs hsc => by
    obtain ⟨p, hp, p1, p2⟩ := a.dom s hs
    obtain ⟨i, hil, rfl⟩ := mem_getD' hp
    refine ⟨i, ?_, p2⟩
    rcases Nat.lt_or_ge i r with h | h
    · exact h
    · exact absurd (by omega) (hi i h hil)
  have h0' : 0 < r := by
    obtain ⟨s, hs, hsc⟩ := h0
    obtain ⟨i, hi, _⟩ := place s hs hsc
    omega
  refine ⟨h0', hr, ⟨_, a.sub _ (getD_mem' (i := r - 1) (by omega)), lo _ (by omega), rfl⟩, fun s hs hsc => ?_⟩
  obtain ⟨i, hi, h⟩ := place s hs hsc
  by_cases hir : i = r - 1
  · rw [← hir]; exact h
  · have := (a.at (i := i) (j := r - 1) (by omega) (by omega)).2; omega

theorem HB.best {FS SS qs : List PI} {tps : List Int} {c M : Int} (h : HB FS qs tps c M) (hp : qs.Perm SS) (to : Tops qs tps qs.length) (hn : ∀ p ∈ SS, 0 ≤ p.1) : Best (fun p => ∃ x ∈ FS, ∃ y ∈ SS, p = addP x y) c M := by
  obtain ⟨⟨q, hq, hqc, r, cu, h0, rfl⟩, hle⟩ := h
  have hr := cu.le
  rw [List.length_map] at hr
  refine ⟨?_, ?_⟩
  · obtain ⟨k, hk, e⟩ := to.mem (r - 1) (by omega)
    refine ⟨addP q (qs.getD k (0, 0)), ⟨q, hq, _, hp.mem_iff.mp (getD_mem' (by omega)), rfl⟩, ?_, by show q.2 + _ = _; rw [e]⟩
    have := cu.lo k (by omega)
    rw [getD_map_fst] at this
    show q.1 + _ ≤ c
    omega
  · rintro p ⟨x, hx, y, hy, rfl⟩ hpc
    have hpc : x.1 + y.1 ≤ c := hpc
    have hy0 := hn y hy
    obtain ⟨r', cu', h0', hM⟩ := hle x hx (by omega)
    have hr' := cu'.le
    rw [List.length_map] at hr'
    obtain ⟨k, hk, rfl⟩ := mem_getD' (hp.mem_iff.mpr hy)
    have hkr : k < r' := by
      rcases Nat.lt_or_ge k r' with g | g
      · exact g
      · have := cu'.hi k g (by rw [List.length_map]; exact hk)
        rw [getD_map_fst] at this
        exact absurd (by omega) this
    have := to.le (r' - 1) (by omega) k (by omega)
    show x.2 + _ ≤ _
    omega

theorem halves_best {ts : List PI} {caps tolds : List Int} (h : Halves ts caps tolds) (hn : ∀ t ∈ ts, 0 ≤ t.1) : Paired (Best fun p => p ∈ sumsOf ts) caps tolds := by
  obtain ⟨qs, tps, h1, h2, h3, h4⟩ := h
  refine Paired_mono (fun c M hb => ?_) h4
  have b := HB.best hb h1 h3 (sums_nonneg _ fun t ht => hn t (List.mem_of_mem_drop ht))
  have eq : ∀ p, p ∈ sumsOf ts ↔ ∃ x ∈ sumsOf (ts.take (ts.length / 2)), ∃ y ∈ sumsOf (ts.drop (ts.length / 2)), p = addP x y := fun p => by
    have := sums_app (ts.take (ts.length / 2)) (ts.drop (ts.length / 2)) p
    rwa [List.take_append_drop] at this
  obtain ⟨p, p1, p2, p3⟩ := b.has
  exact ⟨⟨p, (eq p).mpr p1, p2, p3⟩, fun s hs hc => b.le s ((eq s).mp hs) hc⟩
end Mine
end

-- part B12
section
open PySem PySem.W PySem.Calls PyProof.Rows
set_option Elab.async false
set_option maxRecDepth 100000
set_option maxHeartbeats 2000000
namespace Mine

/-- what stands at I is made of fields -/
def IsFl (h : Heap) (I : Addr) : Prop := ∃ o f, h.get? I = some o ∧ o.data = .fields f
theorem IsFl.ns {h : Heap} {I : Addr} (x : IsFl h I) : NoSeq h I := by
  obtain ⟨o, f, a, b⟩ := x; exact ⟨o, a, fun xs n e => by rw [b] at e; cases e⟩
theorem IsFl.ne_ns {h : Heap} {I a : Addr} {m : Str → Option Value} (it : IsFl h I) (x : h.Ns a m) : a ≠ I := fun q => by
  obtain ⟨o, es, ep, ho, hd, _⟩ := x
  obtain ⟨oi, f, hi, hdi⟩ := it
  rw [q, hi] at ho; cases ho; rw [hdi] at hd; cases hd
theorem IsFl.cell_off {h h' : Heap} {I a : Addr} {v : Option Value} (x : h.IsCell a v) (it : IsFl h I) (k : KeptBut I h h') : h'.IsCell a v := by
  obtain ⟨o, e, d⟩ := x
  obtain ⟨oi, f, hi, hdi⟩ := it
  refine ⟨o, k _ _ (fun q => ?_) e, d⟩
  rw [q, hi] at e; cases e; rw [hdi] at d; cases d

section
variable {prog : Program} {w : World} {A : Around} {E : Value → Shared → Prop} {s : Shared}

theorem for_range {env : Env} {target iter : Expr} {body : List Stmt} {pos : Pos} {Q : Flow → Shared → Prop} (hh : A.handled = none)
    (h : wpAny (model prog w) A (eval iter env) (fun xv s₁ => ∃ (r : Addr) (n : Nat) (t u v : Tok) (J : Addr → Nat → Heap → Prop), xv = .ref r ∧ IsRange s₁.heap r 0 (n : Int) 1 t u v ∧ n ≤ 1000 ∧
      (∀ I h', s₁.heap.get? I = none → Kept s₁.heap h' → J I 0 h') ∧
      (∀ I i h h', s₁.heap.get? I = none → J I i h → IsFl h I → KeptBut I h h' → J I i h') ∧
      (∀ I i tk' h tk E', s₁.heap.get? I = none → i < n → J I i h → IsFl h I →
        wpAny (model prog w) A (assign target env (.int (i : Nat) tk')) (fun _ s₂ => wpAny (model prog w) A (execs body env) (fun f s₃ => f = .next ∧
          ∃ h' tk', s₃ = { s₁ with heap := h', toks := tk' } ∧ J I (i + 1) h' ∧ ∀ o, h.get? I = some o → h'.get? I = some o) E' s₂) E' { s₁ with heap := h, toks := tk }) ∧
      (∀ I h tk, s₁.heap.get? I = none → J I n h → Q .next { s₁ with heap := h, toks := tk })) E s)
    (hgo : ∀ I v (s' : Shared) E', wpAny (model prog w) A (letOwnedTupleGo target I v) (fun _ s'' => s'' = s') E' s')
    (hs : ∀ x, foldedSetIterable iter env x = pure x := by intro _; rfl) :
    wpAny (model prog w) A (exec (.For target iter body [] pos) env) Q E s := by
  refine wpAny_For (wpAny_mono h (fun xv s₁ h₁ => ?_) fun _ _ e => e) hs
  obtain ⟨r, n, t, u, v, J, rfl, hr, hn1, hJ0, hst, hturn, hdone⟩ := h₁
  have hsz : Builtin.Range.rangeSize 0 (n : Int) 1 = (n : Int) := by
    rw [rangeSize_one]; split <;> omega
  refine wpAny_pyIter_range hr (small_one (by decide) (by decide) (Int.le_trans (show -(2 ^ 62) ≤ (0 : Int) by decide) (Int.natCast_nonneg n)) (Int.lt_of_le_of_lt (show (n : Int) ≤ 1000 by omega) (by decide))) ?_
  rw [hsz]
  have hn : s₁.heap.get? s₁.heap.objs.size = none := Heap.get?_none_of_le (Nat.le_refl _)
  refine codeAny_forLoop_any (fun k s' => ∃ h' tk i, s' = { s₁ with heap := h', toks := tk } ∧ J s₁.heap.objs.size i h' ∧ IsRangeIter h' s₁.heap.objs.size (i : Nat) ((n : Int) - (i : Nat)) 1 ∧ i ≤ n ∧ k = n - i) ?_ n
    ⟨_, _, 0, rfl, hJ0 _ _ hn (fun b o e => Heap.get?_push_of_some _ e), by simpa using Heap.get?_push_size _ rfl, Nat.zero_le _, rfl⟩
  rintro k s' ⟨h', tk, i, rfl, hJ, hit, hi, rfl⟩
  by_cases hlt : i < n
  · refine wpAny_pyNext_range_item hit (by omega) fun h₁ hit₁ hs₁ => ?_
    have hJ₁ := hst _ _ _ _ hn hJ ⟨_, _, hit, rfl⟩ (same_but hs₁)
    refine wpAny_mono (hgo _ _ _ _) ?_ fun _ _ e => e
    rintro _ _ rfl
    refine wpAny_mono (hturn _ i _ h₁ _ _ hn hlt hJ₁ ⟨_, _, hit₁, rfl⟩) (fun _ s₂ h₂ => wpAny_mono h₂ (fun f s₃ h₃ => ?_) fun _ _ e => e) fun _ _ e => e
    obtain ⟨rfl, h'', tk', rfl, a, b⟩ := h₃
    refine ⟨n - (i + 1), by omega, h'', tk', i + 1, rfl, a, ?_, hlt, rfl⟩
    have := b _ hit₁
    rw [show ((n : Int) - (i : Nat) - 1) = (n : Int) - ((i + 1 : Nat) : Int) by omega, show ((i : Nat) : Int) + 1 = ((i + 1 : Nat) : Int) by omega] at this
    exact this
  · refine wpAny_pyNext_range_end hh hit (by omega) fun h₁ he₁ => ?_
    refine wpAny_execs_nil ?_
    have : i = n := by omega
    subst this
    exact hdone _ _ _ hn (hst _ _ _ _ hn hJ ⟨_, _, hit, rfl⟩ fun b o n e => he₁ b o n e)

theorem copyL {l : Addr} {vs : List Value} {Q : Value → Shared → Prop} (hl : s.heap.IsList l vs.toArray) (hz : vs.length ≤ 1000)
    (h : ∀ D h', s.heap.get? D = none → Kept s.heap h' → Lst h' D vs → Q (.ref D) { s with heap := h' }) : wpAny (model prog w) A (call (.type "list") [.ref l]) Q E s := by
  obtain ⟨o, ho, hc, n, hd⟩ := hl
  exact call_list_seq (hsz := by rw [List.size_toArray, sizeLine_eq]; omega) l (.inl rfl) ho hc hd fun h' c' hk hD => h _ h' (Heap.get?_none_of_le (Nat.le_refl _)) hk ⟨c', hD⟩
end
end Mine
end

-- part B13
section
open PySem PySem.W PySem.Calls PyProof.Rows
set_option Elab.async false
set_option maxRecDepth 100000
set_option maxHeartbeats 2000000
namespace Mine

theorem abs_pos (a : Int) : 0 ≤ (if a < 0 then -a else a) := by split <;> omega
theorem fmod_pos (a : Int) {b : Int} (hb : 0 < b) : 0 ≤ a.fmod b ∧ a.fmod b < b := ⟨Int.fmod_nonneg_of_pos a hb, Int.fmod_lt_of_pos a hb⟩

section
variable {w : World} {A : Around} {E : Value → Shared → Prop} {s : Shared} {h₀ : Heap} {L : Nat} {f : Addr} {m : Str → Option Value} {cd : Value} {G : GD}

abbrev envLaw (L : Nat) (f : Addr) (cd : Value) : Env := envOfC (fName (stAt 10)) (fScope (stAt 10)) L f cd

inductive AllC : List Expr → List Int → Prop
  | nil : AllC [] []
  | cons {n : Int} {k} {p : Pos} {es ns} : AllC es ns → AllC (.Constant (.int n) k p :: es) (n :: ns)
theorem args_lits {M : Model} {env : Env} {pos : Pos} : ∀ {es : List Expr} {ns : List Int} {s : Shared} {Q : List Value → Shared → Prop}, AllC es ns → (∀ vs tk, IntsAre vs ns → Q vs { s with toks := tk }) → wpAny M A (spliced (backTo pos (starEach es env))) Q E s
  | _, _, s, Q, .nil, h => args_nil (h [] s.toks .nil)
  | _, _, s, Q, .cons r, h => args_cons (wpAny_Constant_int (args_lits r fun vs tk hv => h _ tk (.cons _ _ hv)))

theorem with_exprs {R : Prop} (e₁ e₂ : Expr) (F : Expr → Expr → Prop) (main : F e₁ e₂ → R) (key : F e₁ e₂) : R := main key

theorem law_p1 {d : Nat} {Q : Flow → Shared → Prop} {l : Addr} {vs : List Value} {ns : List Int} (ok : Ok A d) (hd : d ≤ 15) (X : Glo G h₀) (F : Fr h₀ L s.heap m) (hfr : ∀ b, L ≤ b → h₀.get? b = none)
    (ms : m "script" = some (.ref l)) (hl : h₀.IsList l vs.toArray) (hI : IntsAre vs ns) (hn : ns.length ≤ 63)
    (c1 : s.heap.IsCell (L + 1) none) (c2 : s.heap.IsCell (L + 1 + 1) none) (c3 : s.heap.IsCell (L + 1 + 1 + 1) none)
    (h : ∀ h' tk m' T N tvs nvs ts nums, Fr h₀ L h' m' → m' "things" = some (.ref T) → m' "numbers" = some (.ref N) → Lst h' T tvs → Pairs h' tvs ts → Lst h' N nvs → IntsAre nvs nums → nums.length ≤ 200 →
      2 ≤ ts.length → ts.length ≤ 8 → (∀ t ∈ ts, 1 ≤ t.1 ∧ 0 ≤ t.2) → h'.IsCell (L + 1) none → h'.IsCell (L + 1 + 1) none → h'.IsCell (L + 1 + 1 + 1) none →
      wpAny (model P w) A (execs ((fBody (stAt 10)).drop 5) (envLaw L f cd)) Q E { s with heap := h', toks := tk }) :
    wpAny (model P w) A (execs (fBody (stAt 10)) (envLaw L f cd)) Q E s := by
  have hlen : vs.length = ns.length := hI.length
  -- first
  refine wpAny_execs_cons <| wpAny_Assign_Name <| wpAny_IfExp <| isTrue_plain <| eL F ms <| wpAny_truthy_list (hl.at fun o e => F.keep _ _ e) (by rw [List.size_toArray]; exact nat_fit (by omega)) ?_
  refine' with_exprs _ _ (fun e₁ e₂ => ∀ {Q' : Value → Shared → Prop}, (∀ x t tk, 0 ≤ x → Q' (.int x t) { s with toks := tk }) →
    (if (!vs.toArray.isEmpty) = true then wpAny (model P w) A (eval e₁ (envLaw L f cd)) Q' E { s with toks := s.toks + 1 + 1 } else wpAny (model P w) A (eval e₂ (envLaw L f cd)) Q' E { s with toks := s.toks + 1 + 1 })) (fun s1 => ?mainE) ?keyE
  case mainE =>
    refine s1 fun x₀ t₀ tk₀ hx₀ => ?_
    clear s1
    refine sL F fun h₁ F₁ b₁ => ?_
    dsimp only at b₁ ⊢
    have c1 := cell_but c1 b₁ (show L + 1 ≠ L by omega)
    have c2 := cell_but c2 b₁ (show L + 1 + 1 ≠ L by omega)
    have c3 := cell_but c3 b₁ (show L + 1 + 1 + 1 ≠ L by omega)
    obtain ⟨m₁, F₁, ms, mf⟩ : ∃ m' : Str → Option Value, Fr h₀ L h₁ m' ∧ m' "script" = some (.ref l) ∧ m' "first" = some (.int x₀ t₀) := ⟨_, F₁, ifn (by decide) ms, if_pos rfl⟩
    -- count
    refine wpAny_execs_cons <| wpAny_Assign_Name <| wpAny_BinOp <| wpAny_Constant_int <| wpAny_BinOp <| eL F₁ mf <| wpAny_Constant_int <| mod_int' (by decide) <| add_int ?_
    obtain ⟨n, hn2, hn8, en⟩ : ∃ n : Nat, 2 ≤ n ∧ n ≤ 8 ∧ (2 : Int) + x₀.fmod 7 = (n : Nat) := by
      obtain ⟨q1, q2⟩ := fmod_pos x₀ (b := 7) (by decide)
      exact ⟨(2 + x₀.fmod 7).toNat, by omega, by omega, by omega⟩
    rw [en]
    refine sL F₁ fun h₂ F₂ b₂ => ?_
    dsimp only at b₂ ⊢
    have c1 := cell_but c1 b₂ (show L + 1 ≠ L by omega)
    have c2 := cell_but c2 b₂ (show L + 1 + 1 ≠ L by omega)
    have c3 := cell_but c3 b₂ (show L + 1 + 1 + 1 ≠ L by omega)
    obtain ⟨m₂, F₂, ms, mf, mn⟩ : ∃ m' : Str → Option Value, Fr h₀ L h₂ m' ∧ m' "script" = some (.ref l) ∧ m' "first" = some (.int x₀ t₀) ∧ ∃ t, m' "count" = some (.int (n : Nat) t) := ⟨_, F₂, ifn (by decide) ms, ifn (by decide) mf, _, if_pos rfl⟩
    obtain ⟨tn, mn⟩ := mn
    -- numbers
    refine wpAny_execs_cons <| wpAny_Assign_Name <| wpAny_BinOp <| Call_ <| eB (X.keeps F₂.keep) X.n_list <| PyProof.Rows.callWith_type1 <| args_cons <| slc <| eL F₂ ms <| pSome <| wpAny_Constant_int <| pNone ⟨l, vs, some (1 : Nat), none, rfl, hl.at fun o e => F₂.keep _ _ e, by omega, .int _ _, .none, fun D₁ h₃ hD₁ k₃ l₃ => args_nil ?_⟩
    rw [pick_from] at l₃
    dsimp only at hD₁ k₃ ⊢
    refine copyL l₃.isList (by rw [List.length_drop]; omega) fun D₂ h₄ hD₂ k₄ l₄ => ?_
    dsimp only at hD₂ k₄ ⊢
    refine List_ ?_
    refine args_lits (ns := [3, 5, 1, 2, 7, 9, 4, 4, 6, 1, 2, 8, 5, 7, 1, 1]) ?_ ?_
    · repeat' constructor
    intro lvs ltk hlv
    have hlvl := hlv.length
    refine mkList (by rw [hlvl]; simp) fun D₃ h₅ hD₃ _ k₅ l₅ => ?_
    dsimp only at hD₃ k₅ ⊢
    refine addL (l₄.keeps k₅).isList l₅.isList (by rw [List.length_drop, hlvl]; simp; omega) fun N h₆ hN k₆ l₆ => ?_
    dsimp only at hN k₆ ⊢
    have k₂₆ : Kept h₂ h₆ := Kept.trans k₃ (Kept.trans k₄ (Kept.trans k₅ k₆))
    obtain ⟨nvs, nums, l₆, inum, hnl, hnl'⟩ : ∃ nvs nums, Lst h₆ N nvs ∧ IntsAre nvs nums ∧ 16 ≤ nums.length ∧ nums.length ≤ 200 :=
      ⟨_, _, l₆, ints_app (ints_drop 1 hI) hlv, by rw [List.length_append]; simp, by rw [List.length_append, List.length_drop]; simp; omega⟩
    have F₆ := F₂.kept k₂₆
    have nsL₆ := noSeq_ns F₆.ns
    refine sL F₆ fun h₇ F₇ b₇ => ?_
    dsimp only at b₇ ⊢
    have l₇ := l₆.off nsL₆ b₇
    have c1 := cell_but (c1.keeps k₂₆) b₇ (show L + 1 ≠ L by omega)
    have c2 := cell_but (c2.keeps k₂₆) b₇ (show L + 1 + 1 ≠ L by omega)
    have c3 := cell_but (c3.keeps k₂₆) b₇ (show L + 1 + 1 + 1 ≠ L by omega)
    obtain ⟨m₇, F₇, mf, mn, mN⟩ : ∃ m' : Str → Option Value, Fr h₀ L h₇ m' ∧ m' "first" = some (.int x₀ t₀) ∧ m' "count" = some (.int (n : Nat) tn) ∧ m' "numbers" = some (.ref N) := ⟨_, F₇, ifn (by decide) mf, ifn (by decide) mn, if_pos rfl⟩
    -- things
    refine wpAny_execs_cons <| wpAny_Assign_Name <| List_ <| args_nil <| mkList (by simp) fun T h₈ hT _ k₈ l₈ => ?_
    dsimp only at hT k₈ ⊢
    have hT₀ := fr_none F₇ hT
    have hNT : N ≠ T := fun q => by obtain ⟨n, e⟩ := l₇; rw [q, hT] at e; cases e
    have F₈ := F₇.kept k₈
    have nsL₈ := noSeq_ns F₈.ns
    refine sL F₈ fun h₉ F₉ b₉ => ?_
    dsimp only at b₉ ⊢
    have lT₉ := l₈.off nsL₈ b₉
    have lN₉ := (l₇.keeps k₈).off nsL₈ b₉
    have c1 := cell_but (c1.keeps k₈) b₉ (show L + 1 ≠ L by omega)
    have c2 := cell_but (c2.keeps k₈) b₉ (show L + 1 + 1 ≠ L by omega)
    have c3 := cell_but (c3.keeps k₈) b₉ (show L + 1 + 1 + 1 ≠ L by omega)
    have hLT : L ≠ T := lst_ne_ns lT₉ F₉.ns
    have hLN : L ≠ N := lst_ne_ns lN₉ F₉.ns
    obtain ⟨m₉, F₉, mf, mn, mN, mT⟩ : ∃ m' : Str → Option Value, Fr h₀ L h₉ m' ∧ m' "first" = some (.int x₀ t₀) ∧ m' "count" = some (.int (n : Nat) tn) ∧ m' "numbers" = some (.ref N) ∧ m' "things" = some (.ref T) := ⟨_, F₉, ifn (by decide) mf, ifn (by decide) mn, ifn (by decide) mN, if_pos rfl⟩
    refine wpAny_execs_cons <| for_range ok.hh (Call_ <| eB (X.keeps F₉.keep) X.n_range <| PyProof.Rows.callWith_type1 <| args_cons <| eL F₉ mn <| args_nil <| call_range_1 ?_) (fun I v s' E' => go1 rfl)
    have kr : ∀ ob, Kept h₉ (h₉.push ob) := fun ob b o e => Heap.get?_push_of_some _ e
    obtain ⟨B, hB⟩ : ∃ B, B = hideAll h₉ [L, T] := ⟨_, rfl⟩
    have BL : B.get? L = none := by rw [hB]; exact hide_new (by simp)
    have BT : B.get? T = none := by rw [hB]; exact hide_new (by simp)
    have kB : Kept B h₉ := by rw [hB]; exact fun _ _ e => of_hideAll _ e
    have lNB : Lst B N nvs := by rw [hB]; exact hideAll_list lN₉ (by simp [hNT, Ne.symm hLN])
    have hcB : ∀ {c v}, h₉.IsCell c v → c ≠ L → B.IsCell c v := fun {c v} x hcL => by
      have hcT := lst_ne_cell lT₉ x
      obtain ⟨o, e, dd⟩ := x
      rw [hB]
      exact ⟨o, hideAll_get _ e (by simp [hcL, hcT]), dd⟩
    have c1B := hcB c1 (show L + 1 ≠ L by omega)
    have c2B := hcB c2 (show L + 1 + 1 ≠ L by omega)
    have c3B := hcB c3 (show L + 1 + 1 + 1 ≠ L by omega)
    refine ⟨_, n, _, _, _, fun I i h => ∃ (m : Str → Option Value) (us : List Value) (ts : List PI), Fr h₀ L h m ∧ m "first" = some (.int x₀ t₀) ∧ m "numbers" = some (.ref N) ∧ m "things" = some (.ref T) ∧
        Kept B h ∧ Lst h T us ∧ Pairs (h.hide T) us ts ∧ ts.length = i ∧ (∀ t ∈ ts, 1 ≤ t.1 ∧ 0 ≤ t.2), rfl, IsRange.new _ _ _ _ _ _ _, by omega, ?_, ?_, ?_, ?_⟩
    · intro I h' _ k
      have k' := Kept.trans (kr _) k
      exact ⟨m₉, [], [], F₉.kept k', mf, mN, mT, Kept.trans kB k', lT₉.keeps k', .nil, rfl, fun t ht => by cases ht⟩
    · rintro I i h h' hI ⟨m, us, ts, F, mf, mN, mT, kb, l, p, pl, pp⟩ it k
      have hI₉ : h₉.get? I = none := by
        cases e : h₉.get? I with
        | none => rfl
        | some o => exact absurd ((kr _ _ _ e).symm.trans hI) (by simp)
      have hI₀ : h₀.get? I = none := fr_none F₉ hI₉
      have hIT : I ≠ T := fun q => it.ns.ne l.isList q.symm
      exact ⟨m, us, ts, Fr.but F k (it.ne_ns F.ns) hI₀, mf, mN, mT, kb_step kb k (by rw [hB]; exact hide_fresh hI₉), l.off it.ns k, pb it.ns hIT k p, pl, pp⟩
    · rintro I i tk' h tk E' hI hin ⟨m, us, ts, F, mf, mN, mT, kb, l, p, pl, pp⟩ hit
      have hIL : I ≠ L := fun q => hit.ne_ns F.ns q.symm
      have hIT : I ≠ T := fun q => hit.ns.ne l.isList q.symm
      have hul : us.length = ts.length := p.length
      refine wpAny_assign_Name <| sL F fun h₁₀ F₁₀ b₁₀ => ?_
      dsimp only at b₁₀ ⊢
      obtain ⟨m₁₀, F₁₀, mf, mN, mT, mk⟩ : ∃ m' : Str → Option Value, Fr h₀ L h₁₀ m' ∧ m' "first" = some (.int x₀ t₀) ∧ m' "numbers" = some (.ref N) ∧ m' "things" = some (.ref T) ∧ m' "k" = some (.int (i : Nat) tk') :=
        ⟨_, F₁₀, ifn (by decide) mf, ifn (by decide) mN, ifn (by decide) mT, if_pos rfl⟩
      have kb₁₀ := kb_step kb b₁₀ BL
      have nsL := noSeq_ns F.ns
      have l₁₀ := l.off nsL b₁₀
      have p₁₀ := pb nsL hLT b₁₀ p
      have i1 : 2 * i < nums.length := by omega
      have i2 : 2 * i + 1 < nums.length := by omega
      obtain ⟨ta, hta⟩ := inum.get (2 * i) nums[2 * i] (List.getElem?_eq_getElem i1)
      obtain ⟨tb, htb⟩ := inum.get (2 * i + 1) nums[2 * i + 1] (List.getElem?_eq_getElem i2)
      -- a
      refine wpAny_execs_cons <| wpAny_Assign_Name <| Call_ <| eB (X.keeps F₁₀.keep) X.n_abs <| PyProof.Rows.callWith_builtin1 <| args_cons <| Subscript_ <| eL F₁₀ mN <| wpAny_BinOp <| wpAny_Constant_int <| eL F₁₀ mk <| PyProof.Rows.mul_int (hm := .of_left (by decide)) <|
        item_litK (v := .int nums[2 * i] ta) (lNB.keeps kb₁₀).isList (by omega) (by omega) (by rw [show ((2 : Int) * (i : Nat)).toNat = 2 * i by omega]; exact hta) <| args_nil <| call_abs_int fun ua tka => ?_
      refine sL F₁₀ fun h₁₁ F₁₁ b₁₁ => ?_
      dsimp only at b₁₁ ⊢
      obtain ⟨xa, hxa, exa⟩ : ∃ xa, 0 ≤ xa ∧ xa = (if nums[2 * i] < 0 then -nums[2 * i] else nums[2 * i]) := ⟨_, abs_pos _, rfl⟩
      rw [← exa] at F₁₁
      obtain ⟨m₁₁, F₁₁, mf, mN, mT, mk, ma⟩ : ∃ m' : Str → Option Value, Fr h₀ L h₁₁ m' ∧ m' "first" = some (.int x₀ t₀) ∧ m' "numbers" = some (.ref N) ∧ m' "things" = some (.ref T) ∧ m' "k" = some (.int (i : Nat) tk') ∧ m' "a" = some (.int xa ua) :=
        ⟨_, F₁₁, ifn (by decide) mf, ifn (by decide) mN, ifn (by decide) mT, ifn (by decide) mk, if_pos rfl⟩
      have kb₁₁ := kb_step kb₁₀ b₁₁ BL
      have nsL₁₀ := noSeq_ns F₁₀.ns
      have l₁₁ := l₁₀.off nsL₁₀ b₁₁
      have p₁₁ := pb nsL₁₀ hLT b₁₁ p₁₀
      -- b
      refine wpAny_execs_cons <| wpAny_Assign_Name <| Call_ <| eB (X.keeps F₁₁.keep) X.n_abs <| PyProof.Rows.callWith_builtin1 <| args_cons <| Subscript_ <| eL F₁₁ mN <| wpAny_BinOp <| wpAny_BinOp <| wpAny_Constant_int <| eL F₁₁ mk <| PyProof.Rows.mul_int (hm := .of_left (by decide)) <| wpAny_Constant_int <| add_int <|
        item_litK (v := .int nums[2 * i + 1] tb) (lNB.keeps kb₁₁).isList (by omega) (by omega) (by rw [show ((2 : Int) * (i : Nat) + 1).toNat = 2 * i + 1 by omega]; exact htb) <| args_nil <| call_abs_int fun ub tkb => ?_
      refine sL F₁₁ fun h₁₂ F₁₂ b₁₂ => ?_
      dsimp only at b₁₂ ⊢
      obtain ⟨xb, hxb, exb⟩ : ∃ xb, 0 ≤ xb ∧ xb = (if nums[2 * i + 1] < 0 then -nums[2 * i + 1] else nums[2 * i + 1]) := ⟨_, abs_pos _, rfl⟩
      rw [← exb] at F₁₂
      obtain ⟨m₁₂, F₁₂, mf, mN, mT, ma, mb⟩ : ∃ m' : Str → Option Value, Fr h₀ L h₁₂ m' ∧ m' "first" = some (.int x₀ t₀) ∧ m' "numbers" = some (.ref N) ∧ m' "things" = some (.ref T) ∧ m' "a" = some (.int xa ua) ∧ m' "b" = some (.int xb ub) :=
        ⟨_, F₁₂, ifn (by decide) mf, ifn (by decide) mN, ifn (by decide) mT, ifn (by decide) ma, if_pos rfl⟩
      have kb₁₂ := kb_step kb₁₁ b₁₂ BL
      have nsL₁₁ := noSeq_ns F₁₁.ns
      have l₁₂ := l₁₁.off nsL₁₁ b₁₂
      have p₁₂ := pb nsL₁₁ hLT b₁₂ p₁₁
      have keep : ∀ o, h.get? I = some o → h₁₂.get? I = some o := fun o e => b₁₂ _ _ hIL (b₁₁ _ _ hIL (b₁₀ _ _ hIL e))
      -- the new thing
      have fin : ∀ (Y : Addr) (h₁₃ : Heap) (tk₁₃ : Nat) (y : PI) (ty tz : Tok), h₁₂.get? Y = none → Kept h₁₂ h₁₃ → Lst h₁₃ Y [.int y.1 ty, .int y.2 tz] → 1 ≤ y.1 → 0 ≤ y.2 →
          wpAny (model P w) A (call (.builtin "list.append") [.ref T, .ref Y]) (fun _ s₃ => ∃ h' tk', s₃ = { s with heap := h', toks := tk' } ∧
            (∃ (m : Str → Option Value) (us : List Value) (ts : List PI), Fr h₀ L h' m ∧ m "first" = some (.int x₀ t₀) ∧ m "numbers" = some (.ref N) ∧ m "things" = some (.ref T) ∧
              Kept B h' ∧ Lst h' T us ∧ Pairs (h'.hide T) us ts ∧ ts.length = i + 1 ∧ (∀ t ∈ ts, 1 ≤ t.1 ∧ 0 ≤ t.2)) ∧ ∀ o, h.get? I = some o → h'.get? I = some o) E' { s with heap := h₁₃, toks := tk₁₃ } := by
        intro Y h₁₃ tk₁₃ y ty tz hY k₁₃ lY y1 y2
        have hYT : Y ≠ T := by
          obtain ⟨n, e⟩ := l₁₂
          intro q; rw [q, e] at hY; cases hY
        refine Lst.append (l₁₂.keeps k₁₃) (by omega) fun h₁₄ k₁₄ l₁₄ => ?_
        dsimp only at k₁₄
        have kk : KeptBut T h₁₂ h₁₄ := KeptBut.trans (Kept.but k₁₃ T) k₁₄
        refine ⟨h₁₄, _, rfl, ⟨m₁₂, us ++ [.ref Y], ts ++ [y], Fr.but (F₁₂.kept k₁₃) k₁₄ hLT hT₀, mf, mN, mT, kb_step (Kept.trans kb₁₂ k₁₃) k₁₄ BT, l₁₄, Paired_append (p₁₂.keeps kk.hide2) (.cons (pairV_to ⟨Y, ty, tz, rfl, lY.isList⟩ k₁₄ fun q => hYT (by cases q; rfl)) .nil), by rw [List.length_append, pl]; rfl, ?_⟩, fun o e => kk _ _ hIT (keep o e)⟩
        intro t ht
        rcases List.mem_append.mp ht with ht | ht
        · exact pp t ht
        · rw [List.mem_singleton.mp ht]; exact ⟨y1, y2⟩
      refine wpAny_execs_cons <| wpAny_Expr_any <| MethodCall_ <| eL F₁₂ mT <| l₁₂.meth PySem.F.slot_list_append PySem.F.type_list_append <| PyProof.Rows.callWith_method1 <| args_cons <| wpAny_IfExp <| wpAny_isTrue_Compare1 <| wpAny_BinOp <| wpAny_BinOp <| eL F₁₂ mf <| wpAny_Constant_int <| floordiv_int (by decide) <| wpAny_Constant_int <| mod_int' (by decide) <| wpAny_Constant_int <| PyProof.Rows.eq_int <| wpAny_truthy_bool ?_
      by_cases hz : ((x₀.fdiv 7).fmod 2 == 0) = true
      · rw [if_pos hz]
        refine List_ <| args_cons <| wpAny_BinOp <| wpAny_BinOp <| eL F₁₂ ma <| wpAny_Constant_int <| mod_int' (by decide) <| wpAny_Constant_int <| add_int <| args_cons <| wpAny_BinOp <| eL F₁₂ mb <| wpAny_Constant_int <| mod_int' (by decide) <| args_nil <| mkList (by simp) fun Y h₁₃ hY _ k₁₃ l₁₃ => args_nil ?_
        dsimp only at hY k₁₃ ⊢
        refine wpAny_mono (fin Y h₁₃ _ (xa.fmod 19 + 1, xb.fmod 30) _ _ hY k₁₃ l₁₃ (by have := (fmod_pos xa (b := 19) (by decide)).1; show 1 ≤ xa.fmod 19 + 1; omega) (fmod_pos xb (b := 30) (by decide)).1) (fun _ s₃ r => ?_) fun _ _ e => e
        exact wpAny_execs_nil ⟨rfl, r⟩
      · rw [if_neg hz]
        refine List_ <| args_cons <| wpAny_BinOp <| eL F₁₂ ma <| wpAny_Constant_int <| add_int <| args_cons <| eL F₁₂ mb <| args_nil <| mkList (by simp) fun Y h₁₃ hY _ k₁₃ l₁₃ => args_nil ?_
        dsimp only at hY k₁₃ ⊢
        refine wpAny_mono (fin Y h₁₃ _ (xa + 1, xb) _ _ hY k₁₃ l₁₃ (by show 1 ≤ xa + 1; omega) hxb) (fun _ s₃ r => ?_) fun _ _ e => e
        exact wpAny_execs_nil ⟨rfl, r⟩
    · rintro I h₁₀ tk₁₀ hI ⟨m, us, ts, F, mf, mN, mT, kb, l, p, pl, pp⟩
      exact h h₁₀ _ m T N us nvs ts nums F mT mN l (p.keeps ((Kept.refl _).hide)) (lNB.keeps kb) inum hnl' (by omega) (by omega) pp (c1B.keeps kb) (c2B.keeps kb) (c3B.keeps kb)
  case keyE =>
    intro Q' hQ'
    cases hI with
    | nil =>
      rw [if_neg (by simp)]
      exact wpAny_Constant_int (hQ' _ _ _ (by decide))
    | @cons a t vs ns r =>
      rw [if_pos (by simp)]
      refine Call_ <| eB (X.keeps F.keep) X.n_abs <| PyProof.Rows.callWith_builtin1 <| args_cons <| Subscript_ <| eL F ms <| wpAny_Constant_int <| item_litK (vs := .int a t :: vs) (hl.at fun o e => F.keep _ _ e) (by decide) (by decide) rfl <| args_nil <| call_abs_int fun u tk => hQ' _ _ _ (abs_pos a)
end
end Mine
end

-- part B14
section
open PySem PySem.W PySem.Calls PyProof.Rows
set_option Elab.async false
set_option maxRecDepth 100000
set_option maxHeartbeats 2000000
namespace Mine

theorem PairV.hide2 {h : Heap} {K L : Addr} {v : Value} {p : PI} (x : PairV (h.hide K) v p) (ns : NoSeq h L) : PairV (hideAll h [L, K]) v p := by
  obtain ⟨a, t, u, rfl, o, ho, hc, n, hd⟩ := x
  have hK : a ≠ K := fun q => by rw [q, Heap.hide_self] at ho; cases ho
  have ho' := Heap.of_hide ho
  have hL : a ≠ L := fun q => by
    obtain ⟨o', e', g⟩ := ns
    rw [q, e'] at ho'; cases ho'; exact g _ _ hd
  exact ⟨a, t, u, rfl, o, hideAll_get _ ho' (by simp [hK, hL]), hc, n, hd⟩
theorem Pairs.hide2 {h : Heap} {K L : Addr} {vs : List Value} {ps : List PI} (x : Pairs (h.hide K) vs ps) (ns : NoSeq h L) : Pairs (hideAll h [L, K]) vs ps := Paired_mono (fun _ _ y => y.hide2 ns) x

def Grow (S : PI → Prop) (row : List PI) (k : Nat) (t : PI) (p : PI) : Prop := S p ∨ ∃ q ∈ row.take k, p = addP q t

section
variable {w : World} {A : Around} {E : Value → Shared → Prop} {s : Shared} {h₀ : Heap} {L : Nat} {f : Addr} {m : Str → Option Value} {cd : Value} {G : GD}

theorem law_p2 {d : Nat} {Q : Flow → Shared → Prop} {T N : Addr} {tvs nvs : List Value} {ts : List PI} (ok : Ok A d) (hd : d ≤ 15) (X : Glo G h₀) (F : Fr h₀ L s.heap m) (hfr : ∀ b, L ≤ b → h₀.get? b = none)
    (mT : m "things" = some (.ref T)) (mN : m "numbers" = some (.ref N)) (lT : Lst s.heap T tvs) (pT : Pairs s.heap tvs ts) (lN : Lst s.heap N nvs) (hn : ts.length ≤ 8)
    (c1 : s.heap.IsCell (L + 1) none) (c2 : s.heap.IsCell (L + 1 + 1) none) (c3 : s.heap.IsCell (L + 1 + 1 + 1) none)
    (h : ∀ h' tk m' K rvs row, Fr h₀ L h' m' → m' "things" = some (.ref T) → m' "numbers" = some (.ref N) → Lst h' T tvs → Pairs h' tvs ts → Lst h' N nvs → Lst h' K rvs → Pairs h' rvs row → Front (fun p => p ∈ sumsOf ts) row → row.length ≤ 256 →
      h'.IsCell (L + 1) (some (.ref K)) → h'.IsCell (L + 1 + 1) none → h'.IsCell (L + 1 + 1 + 1) none →
      wpAny (model P w) A (execs ((fBody (stAt 10)).drop 7) (envLaw L f cd)) Q E { s with heap := h', toks := tk }) :
    wpAny (model P w) A (execs ((fBody (stAt 10)).drop 5) (envLaw L f cd)) Q E s := by
  have htl : tvs.length = ts.length := pT.length
  -- row
  refine wpAny_execs_cons <| wpAny_Assign_Name <| List_ <| args_cons <| List_ <| args_cons <| wpAny_Constant_int <| args_cons <| wpAny_Constant_int <| args_nil <| mkList (by simp) fun Y h₁ hY _ k₁ l₁ => args_nil <| mkList (by simp) fun K h₂ hK _ k₂ l₂ => ?_
  dsimp only at hY k₁ hK k₂ ⊢
  have k₀₂ : Kept s.heap h₂ := Kept.trans k₁ k₂
  have F₂ := F.kept k₀₂
  have hK₀ : h₀.get? K = none := fr_none (F.kept k₁) hK
  have hYK : Y ≠ K := fun q => by obtain ⟨n, e⟩ := l₁; rw [q, hK] at e; cases e
  have hTK : T ≠ K := fun q => by obtain ⟨n, e⟩ := lT.keeps k₁; rw [q, hK] at e; cases e
  have hNK : N ≠ K := fun q => by obtain ⟨n, e⟩ := lN.keeps k₁; rw [q, hK] at e; cases e
  have pY : PairV h₁ (.ref Y) (0, 0) := ⟨Y, _, _, rfl, l₁.isList⟩
  have nsC := noSeq_cell (c1.keeps k₀₂)
  refine sC (c1.keeps k₀₂) fun h₃ c1 b₃ => ?_
  dsimp only at b₃ ⊢
  have F₃ := Fr.but F₂ b₃ (show L ≠ L + 1 by omega) (hfr _ (show L ≤ L + 1 by omega))
  have l₃ : Lst h₃ K [.ref Y] := l₂.off nsC b₃
  have lT₃ := (lT.keeps k₀₂).off nsC b₃
  have lN₃ := (lN.keeps k₀₂).off nsC b₃
  have pT₃ := (pT.keeps k₀₂).off nsC b₃
  have hC1K : L + 1 ≠ K := lst_ne_cell l₃ c1
  have pY₃ : PairV (h₃.hide K) (.ref Y) (0, 0) := (pairV_to pY (Kept.but k₂ K) fun q => hYK (by cases q; rfl)).off (nsC.hide hC1K) (b₃.inHide K)
  have pT₃K : Pairs (h₃.hide K) tvs ts := (pT.keeps (kept_hideNew (Kept.trans k₁ k₂) (by
    cases e : s.heap.get? K with
    | none => rfl
    | some o => rw [k₁ _ _ e] at hK; cases hK))).off (nsC.hide hC1K) (b₃.inHide K)
  have c2 := cell_but (c2.keeps k₀₂) b₃ (show L + 1 + 1 ≠ L + 1 by omega)
  have c3 := cell_but (c3.keeps k₀₂) b₃ (show L + 1 + 1 + 1 ≠ L + 1 by omega)
  have nsL := noSeq_ns F₃.ns
  have hLK : L ≠ K := lst_ne_ns l₃ F₃.ns
  have hLT : L ≠ T := lst_ne_ns lT₃ F₃.ns
  have hLN : L ≠ N := lst_ne_ns lN₃ F₃.ns
  obtain ⟨B, hB⟩ : ∃ B, B = hideAll h₃ [L, K] := ⟨_, rfl⟩
  have BL : B.get? L = none := by rw [hB]; exact hide_new (by simp)
  have BK : B.get? K = none := by rw [hB]; exact hide_new (by simp)
  have kB : Kept B h₃ := by rw [hB]; exact fun _ _ e => of_hideAll _ e
  have lTB : Lst B T tvs := by rw [hB]; exact hideAll_list lT₃ (by simp [hTK, Ne.symm hLT])
  have lNB : Lst B N nvs := by rw [hB]; exact hideAll_list lN₃ (by simp [hNK, Ne.symm hLN])
  have pTB : Pairs B tvs ts := by rw [hB]; exact pT₃K.hide2 nsL
  have hcB : ∀ {c v}, h₃.IsCell c v → c ≠ L → B.IsCell c v := fun {c v} x hcL => by
    have hcT := lst_ne_cell l₃ x
    obtain ⟨o, e, dd⟩ := x
    rw [hB]
    exact ⟨o, hideAll_get _ e (by simp [hcL, hcT]), dd⟩
  have c1B := hcB c1 (show L + 1 ≠ L by omega)
  have c2B := hcB c2 (show L + 1 + 1 ≠ L by omega)
  have c3B := hcB c3 (show L + 1 + 1 + 1 ≠ L by omega)
  -- the outer loop
  refine wpAny_execs_cons <| for_list ok.hh <| eL F₃ mT ?_
  refine ⟨T, tvs, fun I i h => ∃ (m : Str → Option Value) (rvs : List Value) (row : List PI), Fr h₀ L h m ∧ m "things" = some (.ref T) ∧ m "numbers" = some (.ref N) ∧ Kept B h ∧ Lst h K rvs ∧ Pairs (h.hide K) rvs row ∧
      Front (fun p => p ∈ sumsOf (ts.take i)) row ∧ row.length ≤ 2 ^ i, rfl, lT₃.isList, ?_, ?_, ?_, ?_, ?_, ?_⟩
  · intro I h' _ it k
    refine ⟨m, [.ref Y], [(0, 0)], F₃.kept k, mT, mN, Kept.trans kB k, l₃.keeps k, pk k (.cons pY₃ .nil), ?_, by simp⟩
    rw [List.take_zero, sums_nil]
    exact ⟨List.pairwise_singleton _ _, fun p hp => hp, fun s hs => ⟨s, hs, Int.le_refl _, Int.le_refl _⟩⟩
  · rintro I i h h' hI ⟨m, rvs, row, F, mT, mN, kb, l, p, fr, rl⟩ it k
    have hI₀ : h₀.get? I = none := fr_none F₃ hI
    have hIK : I ≠ K := lst_ne_it l it
    exact ⟨m, rvs, row, Fr.but F k (it.ne_ns F.ns) hI₀, mT, mN, kb_step kb k (by rw [hB]; exact hide_fresh hI), l.off it.ns k, pb it.ns hIK k p, fr, rl⟩
  · rintro I i h ⟨m, rvs, row, F, mT, mN, kb, l, p, fr, rl⟩
    exact (lTB.keeps kb).isList
  · rintro I i v s' E' hv hit
    obtain ⟨p, _, av, t, u, rfl, _⟩ := Paired_mem pTB v hv
    exact go2 rfl hit
  · rintro I i v h tk E' hI hv ⟨m, rvs, row, F, mT, mN, kb, l, p, fr, rl⟩ hit
    obtain ⟨⟨x, y⟩, hxy, av, t, u, rfl, hplB⟩ := Paired_get' pTB i v hv
    have hil := get_lt hxy
    have hIL : I ≠ L := fun q => (IsIt.of hit).ne_ns F.ns q.symm
    have hIK : I ≠ K := lst_ne_it l (IsIt.of hit)
    have hrl : row.length ≤ 128 := Nat.le_trans rl (Nat.le_trans (Nat.pow_le_pow_right (by decide) (show i ≤ 7 by omega)) (by decide))
    have hrv : rvs.length = row.length := p.length
    refine assign2 ok.hh (hplB.at fun o e => kb _ _ e) fun h₄ k₄ => ?_
    dsimp only at k₄ ⊢
    refine sL (F.kept k₄) fun h₅ F₅ b₅ => sL F₅ fun h₆ F₆ b₆ => ?_
    dsimp only at b₅ b₆ ⊢
    have ns₄ := noSeq_ns (F.kept k₄).ns
    have ns₅ := noSeq_ns F₅.ns
    have l₆ : Lst h₆ K rvs := ((l.keeps k₄).off ns₄ b₅).off ns₅ b₆
    have p₆ : Pairs (h₆.hide K) rvs row := pb ns₅ hLK b₆ (pb ns₄ hLK b₅ (pk k₄ p))
    have kb₆ : Kept B h₆ := kb_step (kb_step (Kept.trans kb k₄) b₅ BL) b₆ BL
    have it₆ : h₆.IsListIter I T (i + 1) := it_but (it_but (it_keeps hit k₄) b₅ hIL) b₆ hIL
    obtain ⟨m₆, F₆, mT, mN, mw, mv⟩ : ∃ m', Fr h₀ L h₆ m' ∧ m' "things" = some (.ref T) ∧ m' "numbers" = some (.ref N) ∧ m' "weight" = some (.int x t) ∧ m' "worth" = some (.int y u) :=
      ⟨_, F₆, ifn (by decide) (ifn (by decide) mT), ifn (by decide) (ifn (by decide) mN), ifn (by decide) (if_pos rfl), if_pos rfl⟩
    -- the inner loop
    refine wpAny_execs_cons <| for_list ok.hh <| Call_ <| eB (X.keeps F₆.keep) X.n_list <| PyProof.Rows.callWith_type1 <| args_cons <| eC (c1B.keeps kb₆) <| args_nil <| copyL l₆.isList (by omega) fun D h₇ hD k₇ l₇ => ?_
    dsimp only at hD k₇ ⊢
    have F₇ := F₆.kept k₇
    have l₇K := l₆.keeps k₇
    have p₇ := pk (K := K) k₇ p₆
    have nsL₇ := noSeq_ns F₇.ns
    have hDK : D ≠ K := fun q => by obtain ⟨n, e⟩ := l₆; rw [← q, hD] at e; cases e
    have hDL : D ≠ L := fun q => lst_ne_ns l₇ F₇.ns q.symm
    obtain ⟨B', hB'⟩ : ∃ B', B' = hideAll h₇ [L, K] := ⟨_, rfl⟩
    have BL' : B'.get? L = none := by rw [hB']; exact hide_new (by simp)
    have BK' : B'.get? K = none := by rw [hB']; exact hide_new (by simp)
    have kB' : Kept B' h₇ := by rw [hB']; exact fun _ _ e => of_hideAll _ e
    have kBB' : Kept B B' := fun b o e => by
      have e7 := k₇ _ _ (kb₆ _ _ e)
      rw [hB']
      exact hideAll_get _ e7 (fun hm => by
        rcases List.mem_cons.mp hm with q | hm
        · rw [q, BL] at e; cases e
        · rw [List.mem_singleton.mp hm, BK] at e; cases e)
    have lDB' : Lst B' D rvs := by rw [hB']; exact hideAll_list l₇ (by simp [hDL, hDK])
    have pB' : Pairs B' rvs row := by rw [hB']; exact p₇.hide2 nsL₇
    have itB' : B'.IsListIter I T (i + 1) := by
      obtain ⟨o, ho, r⟩ := it_keeps it₆ k₇
      rw [hB']
      exact ⟨o, hideAll_get _ ho (by simp [hIL, hIK]), r⟩
    refine ⟨D, rvs, fun I' k h => ∃ (m : Str → Option Value) (rv' : List Value) (row' : List PI), Fr h₀ L h m ∧ m "things" = some (.ref T) ∧ m "numbers" = some (.ref N) ∧ m "weight" = some (.int x t) ∧ m "worth" = some (.int y u) ∧ Kept B' h ∧ Lst h K rv' ∧ Pairs (h.hide K) rv' row' ∧
        Front (Grow (fun p => p ∈ sumsOf (ts.take i)) row k (x, y)) row' ∧ row'.length ≤ row.length + k, rfl, l₇.isList, ?_, ?_, ?_, ?_, ?_, ?_⟩
    · intro I' h' _ it k
      refine ⟨m₆, rvs, row, F₇.kept k, mT, mN, mw, mv, Kept.trans kB' k, l₇K.keeps k, pk k p₇, ?_, Nat.le_refl _⟩
      refine fr.congr (fun p hp => .inl hp) fun s hs => ?_
      rcases hs with hs | ⟨q, hq, _⟩
      · exact ⟨s, hs, Int.le_refl _, Int.le_refl _⟩
      · rw [List.take_zero] at hq; cases hq
    · rintro I' k h h' hI' ⟨m, rv', row', F, mT, mN, mw, mv, kb', l, p, fr', rl'⟩ it kk
      have hI₀ : h₀.get? I' = none := fr_none F₇ hI'
      have hIK : I' ≠ K := lst_ne_it l it
      exact ⟨m, rv', row', Fr.but F kk (it.ne_ns F.ns) hI₀, mT, mN, mw, mv, kb_step kb' kk (by rw [hB']; exact hide_fresh hI'), l.off it.ns kk, pb it.ns hIK kk p, fr', rl'⟩
    · rintro I' k h ⟨m, rv', row', F, mT, mN, mw, mv, kb', l, p, fr', rl'⟩
      exact (lDB'.keeps kb').isList
    · rintro I' k v s' E' hv hit
      exact go1 rfl
    · rintro I' k v h tk E' hI' hv ⟨m, rv', row', F, mT, mN, mw, mv, kb', l, p, fr', rl'⟩ hit'
      obtain ⟨q, hq, aq, t1, u1, rfl, hqB⟩ := Paired_get' pB' k v hv
      have hkl := get_lt hq
      have hIL' : I' ≠ L := fun q => (IsIt.of hit').ne_ns F.ns q.symm
      have hIK' : I' ≠ K := lst_ne_it l (IsIt.of hit')
      refine wpAny_assign_Name <| sL F fun h₈ F₈ b₈ => ?_
      dsimp only at b₈ ⊢
      have nsL := noSeq_ns F.ns
      have l₈ : Lst h₈ K rv' := l.off nsL b₈
      have p₈ : Pairs (h₈.hide K) rv' row' := pb nsL hLK b₈ p
      have kb₈ : Kept B' h₈ := kb_step kb' b₈ BL'
      have it₈ := it_but hit' b₈ hIL'
      obtain ⟨m₈, F₈, mT, mN, mw, mv, m1⟩ : ∃ m', Fr h₀ L h₈ m' ∧ m' "things" = some (.ref T) ∧ m' "numbers" = some (.ref N) ∧ m' "weight" = some (.int x t) ∧ m' "worth" = some (.int y u) ∧ m' "one" = some (.ref aq) :=
        ⟨_, F₈, ifn (by decide) mT, ifn (by decide) mN, ifn (by decide) mw, ifn (by decide) mv, if_pos rfl⟩
      have X₈ := X.keeps F₈.keep
      have hpl : h₈.IsList aq #[.int q.1 t1, .int q.2 u1] := hqB.at fun o e => kb₈ _ _ e
      refine wpAny_execs_cons <| wpAny_Expr_any <| call_of (f := G.fy) (st := stAt 6) (dV := .none) (kV := .none) (cd := G.cy) (eG X₈ X.ny ⟨rfl, rfl⟩) <| args_cons <| eC ((c1B.keeps kBB').keeps kb₈) <|
        args_cons <| wpAny_BinOp <| Subscript_ <| eL F₈ m1 <| wpAny_Constant_int <| item_litK (vs := [.int q.1 t1, .int q.2 u1]) hpl (by decide) (by decide) rfl <| eL F₈ mw <| add_int <|
        args_cons <| wpAny_BinOp <| Subscript_ <| eL F₈ m1 <| wpAny_Constant_int <| item_litK (vs := [.int q.1 t1, .int q.2 u1]) hpl (by decide) (by decide) rfl <| eL F₈ mv <| add_int <| args_nil <| wpAny_evalAll_nil ⟨X₈.Fy,
        lay_call ok (by omega) X₈ l₈ p₈ fr'.keys (by omega) fun h₉ tk₉ us qs k₉ l₉ p₉ lr => ?_⟩
      dsimp only at k₉ ⊢
      refine wpAny_execs_nil ⟨h₉, _, rfl, ⟨m₈, us, qs, Fr.but F₈ k₉ hLK hK₀, mT, mN, mw, mv, kb_step kb₈ k₉ BK', l₉, p₉, ?_, by have := lr.len; omega⟩, it_but it₈ k₉ hIK'⟩
      have e2 : row.take (k + 1) = row.take k ++ [q] := by rw [List.take_add_one, hq]; rfl
      refine (lr.front fr').congr (fun p hp => ?_) fun s hs => ⟨s, ?_, Int.le_refl _, Int.le_refl _⟩
      · rcases hp with (hp | ⟨q', hq', e⟩) | hp
        · exact .inl hp
        · exact .inr ⟨q', by rw [e2]; exact List.mem_append_left _ hq', e⟩
        · exact .inr ⟨q, by rw [e2]; simp, hp⟩
      · rcases hs with hs | ⟨q', hq', e⟩
        · exact .inl (.inl hs)
        · rw [e2] at hq'
          rcases List.mem_append.mp hq' with hq' | hq'
          · exact .inl (.inr ⟨q', hq', e⟩)
          · rw [List.mem_singleton] at hq'
            subst hq'
            exact .inr e
    · rintro I' h₈ tk₈ hI' ⟨m, rv', row', F, mT, mN, mw, mv, kb', l, p, fr', rl'⟩
      refine wpAny_execs_nil ⟨h₈, _, rfl, ⟨m, rv', row', F, mT, mN, Kept.trans kBB' kb', l, p, ?_, by rw [Nat.pow_succ]; omega⟩, it_keeps itB' kb'⟩
      have e2 : ts.take (i + 1) = ts.take i ++ [(x, y)] := by rw [List.take_add_one, hxy]; rfl
      have e3h : rvs.length = row.length := hrv
      rw [e3h] at fr'
      refine fr'.congr (fun p hp => ?_) fun s hs => ?_
      · rw [e2]
        rcases hp with hp | ⟨q, hq, e⟩
        · exact mem_snoc.mpr (.inl hp)
        · exact mem_snoc.mpr (.inr ⟨q, fr.sub q (List.mem_of_mem_take hq), e⟩)
      · rw [e2] at hs
        rcases mem_snoc.mp hs with hs | ⟨q, hq, e⟩
        · exact ⟨s, .inl hs, Int.le_refl _, Int.le_refl _⟩
        · obtain ⟨r, hr, r1, r2⟩ := fr.dom q hq
          refine ⟨addP r (x, y), .inr ⟨r, by rw [List.take_of_length_le (Nat.le_refl _)]; exact hr, rfl⟩, ?_, ?_⟩
          · rw [e]; show r.1 + x ≤ q.1 + x; omega
          · rw [e]; show q.2 + y ≤ r.2 + y; omega
  · rintro I h₄ tk₄ hI ⟨m, rvs, row, F, mT, mN, kb, l, p, fr, rl⟩
    have e : ts.take tvs.length = ts := List.take_of_length_le (by omega)
    rw [e] at fr
    exact h h₄ _ m K rvs row F mT mN (lTB.keeps kb) (pTB.keeps kb) (lNB.keeps kb) l (p.keeps ((Kept.refl _).hide)) fr (Nat.le_trans rl (Nat.le_trans (Nat.pow_le_pow_right (by decide) (show tvs.length ≤ 8 by omega)) (by decide))) (c1B.keeps kb) (c2B.keeps kb) (c3B.keeps kb)
end
end Mine
end

-- part B15
section
open PySem PySem.W PySem.Calls PyProof.Rows
set_option Elab.async false
set_option maxRecDepth 100000
set_option maxHeartbeats 2000000
namespace Mine

section
variable {prog : Program} {w : World} {A : Around} {E : Value → Shared → Prop} {s : Shared} {env : Env}

theorem env1 {scope : Scope} {globals : Addr} {cl : List (Str × Addr)} {qual : Str} {x : Str} {Q : Env → Shared → Prop}
    (hone : ∀ n acc, cellsFrom n scope.names acc = (x, n) :: acc) (hpush : ∀ h, pushCells h scope.names = h.push { cls := .type "cell", data := .cell none })
    (h : ∀ h', Kept s.heap h' → h'.Ns s.heap.objs.size (fun _ => none) → h'.IsCell (s.heap.objs.size + 1) none →
      Q { scope := scope, locals := s.heap.objs.size, globals := globals, cells := (x, s.heap.objs.size + 1) :: cl, qual := qual, func := none, code := env.code, frame := env.frame, builtins := env.builtins } { s with heap := h' }) :
    wpAny (model prog w) A (newFunctionEnv scope globals cl [] qual none .none (some env)) Q E s := by
  simp only [newFunctionEnv, Option.isSome_some, if_true]
  refine wpAny_bind (wpAny_alloc ?_)
  refine wpAny_bind (wpAny_layCells _ (fun name kind cells => by cases hkc : kind == NameKind.cell <;> simp [hkc]) _ _ _ _ ?_)
  rw [List.forIn_nil]
  refine wpAny_bind (wpAny_pure (wpAny_pure ?_))
  rw [show ({ s with heap := s.heap.push { cls := .type "dict", data := .dict #[] } } : Shared).heap.objs.size = s.heap.objs.size + 1 from Heap.size_push ..]
  rw [hone, hpush]
  have e1 : (s.heap.push { cls := .type "dict", data := .dict #[] }).objs.size = s.heap.objs.size + 1 := Heap.size_push ..
  exact h _ (fun b o e => Heap.get?_push_of_some _ (Heap.get?_push_of_some _ e)) ((Heap.Ns.new s.heap (.type "dict")).keeps fun b o e => Heap.get?_push_of_some _ e) ⟨_, by rw [← e1]; exact Heap.get?_push_size _ rfl, rfl⟩

/-- a comprehension over a name that is a cell of its own, of plain values, given to a local name -/
theorem comp_asgX {elt iter : Expr} {x y : Str} {px py pos spos : Pos} {ifs : List Expr} {scope : Scope} {cl : List (Str × Addr)} {Q : Flow → Shared → Prop} {m : Str → Option Value}
    (p : Value → Bool) (F : Value → Value → Prop)
    (hsw : swapsWith (.ListComp elt [⟨.Name x px, iter, ifs, 0⟩] scope pos) (some (.Name y py)) spos.line env = pure true)
    (hh : A.handled = none) (hclos : closureFor scope env = pure cl) (hone : ∀ n acc, cellsFrom n scope.names acc = (x, n) :: acc) (hpush : ∀ h, pushCells h scope.names = h.push { cls := .type "cell", data := .cell none }) (hkind : scope.kind = .function)
    (hnames : ∀ y ∈ scope.names, y.2 = .local → scope.names.lookup y.1 = some .local) (hxk : (relabel scope env).names.lookup x = some .cell)
    (hy : env.kindOf y = some .local) (hp : (env.scope.kind == .class || (env.scope.kind == .module && env.locals != env.globals)) = false)
    (h : wpAny (model prog w) A (eval iter env) (fun xv s₁ => ∃ (l : Addr) (vs : List Value), xv = .ref l ∧ s₁.heap.IsList l vs.toArray ∧ vs.length ≤ 1000 ∧ s₁.heap.Ns env.locals m ∧
      (∀ C c v (s₃ : Shared) E', v ∈ vs → s₃.heap.IsCell c (some v) → Kept s₁.heap s₃.heap →
        wpAny (model prog w) A (forIn ifs true fun c' r => if r = true then do let ok ← isTrue c' (compEnvC scope ((x, c) :: cl) C env) (eval c' (compEnvC scope ((x, c) :: cl) C env)); pure (ForInStep.yield ok) else pure (ForInStep.yield r))
          (fun ok s₄ => ok = p v ∧ Keeps s₃ s₄) E' s₃) ∧
      (∀ C c v (s₃ : Shared) E', v ∈ vs → p v = true → s₃.heap.IsCell c (some v) → Kept s₁.heap s₃.heap →
        wpAny (model prog w) A (eval elt (compEnvC scope ((x, c) :: cl) C env)) (fun y s₄ => Keeps s₃ s₄ ∧ F v y) E' s₃) ∧
      (∀ D h' tk ys, s₁.heap.get? D = none → Lst h' D ys → h'.Ns env.locals (fun z => if z = y then some (.ref D) else m z) → KeptBut env.locals s₁.heap h' → Paired F (vs.filter p) ys → Q .next { s₁ with heap := h', toks := tk })) E s)
    (hs : ∀ x, foldedSetIterable iter env x = pure x := by intro _; rfl) :
    wpAny (model prog w) A (exec (.Assign [.Name y py] (.ListComp elt [⟨.Name x px, iter, ifs, 0⟩] scope pos) spos) env) Q E s := by
  rw [exec_Assign_Name_used _ _ _ _ hsw]
  refine wpAny_bind (wpAny_standAt (wpAny_bind ?_))
  show wpAny _ A (do let _ ← comprehension (.ListComp elt [⟨.Name x px, iter, ifs, 0⟩] scope pos) scope env _ (newList []) false (eval iter env) (some (assign (.Name y py) env))) _ _ s
  refine wpAny_bind (wpAny_mono (Q := fun _ s' => Q .next s') ?_ (fun _ s' hq => wpAny_pure (wpAny_pure hq)) fun _ _ e => e)
  refine wpAny_comprehension_free rfl hs hclos hkind hnames (wpAny_mono h (fun xv s₁ h₁ => ?_) fun _ _ e => e)
  obtain ⟨l, vs, rfl, hl, hn, hm, htests, helt, hQ⟩ := h₁
  refine wpAny_pyIter_list hl (mkList (by simp) fun D h₂ hD hDs k₂ l₂ => ?_)
  dsimp only at hD hDs k₂ ⊢
  refine env1 hone hpush fun h₃ K₃ hns₃ hc₃ => ?_
  dsimp only at K₃ hns₃ hc₃ ⊢
  have hIl : ∀ b o, s₁.heap.get? b = some o → b < s₁.heap.objs.size := fun b o e => Heap.lt_size e
  have kI : Kept s₁.heap (s₁.heap.push { cls := .type "list_iterator", data := .fields #[.ref l, .int 0 0] }) := fun b o e => Heap.get?_push_of_some _ e
  have hIg : (s₁.heap.push { cls := .type "list_iterator", data := .fields #[.ref l, .int 0 0] }).get? s₁.heap.objs.size = some { cls := .type "list_iterator", data := .fields #[.ref l, .int 0 0] } := Heap.get?_push_size _ rfl
  generalize s₁.heap.push { cls := .type "list_iterator", data := .fields #[.ref l, .int 0 0] } = H₁ at *
  obtain ⟨C, hC⟩ : ∃ C, C = h₂.objs.size := ⟨_, rfl⟩
  obtain ⟨c, hcc⟩ : ∃ c, c = h₂.objs.size + 1 := ⟨_, rfl⟩
  rw [← hcc] at hc₃ ⊢
  rw [← hC] at hns₃ ⊢
  have hCn : ∀ b o, h₂.get? b = some o → b ≠ C := fun b o e => by rw [hC]; exact Nat.ne_of_lt (Heap.lt_size e)
  have hcn : ∀ b o, h₂.get? b = some o → b ≠ c := fun b o e => by rw [hcc]; exact Nat.ne_of_lt (Nat.lt_succ_of_lt (Heap.lt_size e))
  have hCc : C ≠ c := by rw [hC, hcc]; exact Nat.ne_of_lt (Nat.lt_succ_self _)
  obtain ⟨nD, eD⟩ := l₂
  have hDI : D ≠ s₁.heap.objs.size := fun q => by rw [q, hIg] at hD; cases hD
  have hDC : D ≠ C := hCn _ _ eD
  have hDc : D ≠ c := hcn _ _ eD
  have hIC : s₁.heap.objs.size ≠ C := hCn _ _ (k₂ _ _ hIg)
  have hIc : s₁.heap.objs.size ≠ c := hcn _ _ (k₂ _ _ hIg)
  have K₁ : Kept s₁.heap h₃ := Kept.trans kI (Kept.trans k₂ K₃)
  have old : ∀ b o, s₁.heap.get? b = some o → b ∉ [s₁.heap.objs.size, D, C, c] := fun b o e m => by
    rcases List.mem_cons.mp m with q | m
    · exact Nat.lt_irrefl _ (q ▸ hIl _ _ e)
    · rcases List.mem_cons.mp m with q | m
      · rw [← q, kI _ _ e] at hD; cases hD
      · rcases List.mem_cons.mp m with q | m
        · exact hCn _ _ (k₂ _ _ (kI _ _ e)) q
        · exact hcn _ _ (k₂ _ _ (kI _ _ e)) (List.mem_singleton.mp m)
  obtain ⟨ol, hol, hol'⟩ := id hl
  have hDn : s₁.heap.get? D = none := by
    cases e : s₁.heap.get? D with
    | none => rfl
    | some o => rw [kI _ _ e] at hD; cases hD
  have hCn' : s₁.heap.get? C = none := by
    cases e : s₁.heap.get? C with
    | none => rfl
    | some o => exact absurd rfl (hCn _ _ (k₂ _ _ (kI _ _ e)))
  have hcn' : s₁.heap.get? c = none := by
    cases e : s₁.heap.get? c with
    | none => rfl
    | some o => exact absurd rfl (hcn _ _ (k₂ _ _ (kI _ _ e)))
  have hLC : env.locals ≠ C := by rintro q; obtain ⟨o, _, _, ho, _⟩ := hm; rw [q, hCn'] at ho; cases ho
  have hLD : env.locals ≠ D := by rintro q; obtain ⟨o, _, _, ho, _⟩ := hm; rw [q, hDn] at ho; cases ho
  have hit₃ : h₃.IsListIter s₁.heap.objs.size l 0 := ⟨_, K₃ _ _ (k₂ _ _ hIg), rfl, rfl⟩
  have loop : ∀ s₂ : Shared, s₂.heap = h₃ → (∃ tk, s₂ = { s₁ with heap := h₃, toks := tk }) →
      codeAny (model prog w) A (.compLoop (.ListComp elt [⟨.Name x px, iter, ifs, 0⟩] scope pos) 0 (.ref s₁.heap.objs.size) (.ref D) (compEnvC scope ((x, c) :: cl) C env))
        (compPost (model prog w) A E (some (assign (.Name y py) env)) (fun _ s' => Q .next s') (.ref D) C) s₂ := by
    rintro s₂ - ⟨tk, rfl⟩
    refine comp_loop (W' := [C, c]) (fun v h => h.IsCell c (some v)) (fun h => (∃ m, h.Ns C m) ∧ ∃ v, h.IsCell c v) p (fun _ => F) hh (old _ _ hol) hDI (by simp [hIC, hIc]) (by simp [hDC, hDc]) hn
      hit₃ (hl.at fun o e => K₁ _ _ e) ⟨nD, K₃ _ _ eD⟩ ⟨⟨_, hns₃⟩, _, hc₃⟩ ?_ ?_ ?_ (fun _ _ _ _ _ e => e) ?_ ?_ ?_ ?_
    · rintro h h' ⟨⟨m, o, es, ep, ho, r⟩, v, oc, hoc, rc⟩ k
      exact ⟨⟨m, o, es, ep, k _ _ (by simp only [List.mem_cons, List.not_mem_nil, or_false, not_or]; exact ⟨Ne.symm hIC, Ne.symm hDC⟩) ho, r⟩, v, oc, k _ _ (by simp only [List.mem_cons, List.not_mem_nil, or_false, not_or]; exact ⟨Ne.symm hIc, Ne.symm hDc⟩) hoc, rc⟩
    · rintro v h h' ⟨oc, hoc, rc⟩ k
      exact ⟨oc, k _ _ (by simp only [List.mem_cons, List.not_mem_nil, or_false, not_or]; exact ⟨Ne.symm hIc, Ne.symm hDc⟩) hoc, rc⟩
    · rintro h ⟨⟨m, o, es, ep, ho, r⟩, v, oc, hoc, rc⟩ b hb
      rcases List.mem_cons.mp hb with rfl | hb
      · exact ⟨o, ho⟩
      · rw [List.mem_singleton.mp hb]; exact ⟨oc, hoc⟩
    · rintro v s₃ E' ⟨⟨m, hm⟩, v', hv'⟩
      refine wpAny_assign_Name (wpAny_storeName_cell hkind hxk (by simp [compEnvC]) hv' (fun h' hc' hs' => ⟨h', _, rfl, ⟨⟨_, hm.sameBut hs' hCc⟩, _, hc'⟩, hc', fun b o n e => same_but hs' b o (fun q => n (q ▸ .tail _ (.head _))) e⟩))
    · rintro v s₃ E' hv hbd _ k
      exact htests _ _ v s₃ E' hv hbd fun b o e => k b o (old b o e) (K₁ b o e)
    · rintro v s₃ E' hv hpv hbd _ k
      exact wpAny_mono (helt _ _ v s₃ E' hv hpv hbd fun b o e => k b o (old b o e) (K₁ b o e)) (fun _ _ q => ⟨q.1, fun _ _ => q.2⟩) fun _ _ e => e
    · rintro h' tk ys ⟨⟨m', hns⟩, _⟩ hL k hP
      have hk : Kept s₁.heap h' := fun b o e => k b o (old b o e) (K₁ b o e)
      show wpAny _ A (assign (.Name y py) env (.ref D)) _ _ _
      refine wpAny_assign_Name (wpAny_storeName_local hy (hm.keeps hk) (fun h₂ hn₂ hs₂ => ?_) hp)
      refine ⟨m', hns.sameBut hs₂ (Ne.symm hLC), fun h₃ hs₃ => ?_⟩
      refine hQ D h₃ _ ys hDn ((hL.but (same_but hs₂) (Ne.symm hLD)).but (same_but hs₃) hDC) (hn₂.sameBut hs₃ hLC) (fun b o hbL e => ?_) hP
      exact same_but hs₃ b o (by rintro rfl; rw [hCn'] at e; cases e) (same_but hs₂ b o hbL (hk b o e))
  exact codeAny_compStart_list (loop _ rfl ⟨_, rfl⟩) (wpAny_pyIter_listiter hit₃ (loop _ rfl ⟨_, rfl⟩))
end
end Mine
end

-- part B16
section
open PySem PySem.W PySem.Calls PyProof.Rows
set_option Elab.async false
set_option maxRecDepth 100000
set_option maxHeartbeats 2000000
namespace Mine

theorem PairV.off2 {h : Heap} {W : List Addr} {v : Value} {p : PI} (x : PairV h v p) (hW : ∀ Y ∈ W, NoSeq h Y) : PairV (hideAll h W) v p := x.base fun Y hY => .inl (hW Y hY)
theorem ints_mem : ∀ {vs : List Value} {ns : List Int}, IntsAre vs ns → ∀ v ∈ vs, ∃ n t, n ∈ ns ∧ v = .int n t
  | _, _, .cons n t h, v, hv => by
    rcases List.mem_cons.mp hv with rfl | hv
    · exact ⟨n, t, by simp, rfl⟩
    · obtain ⟨n', t', h1, h2⟩ := ints_mem h v hv
      exact ⟨n', t', by simp [h1], h2⟩
theorem sum_ge : ∀ (ts : List PI), (∀ t ∈ ts, 1 ≤ t.1) → (ts.length : Int) ≤ (ts.map (·.1)).sum
  | [], _ => by simp
  | t :: r, h => by
    have := sum_ge r fun u hu => h u (by simp [hu])
    have := h t (by simp)
    simp only [List.map_cons, List.sum_cons, List.length_cons]
    omega
/-- from plain values with a law each to numbers -/
theorem paired_laws {K : Int → Int → Prop} : ∀ {cvs ys : List Value} {cs : List Int}, IntsAre cvs cs → Paired (fun v y => ∀ c t, c ∈ cs → v = .int c t → ∃ M t', y = .int M t' ∧ K c M) cvs ys → ∃ ms, IntsAre ys ms ∧ Paired K cs ms := by
  suffices h : ∀ {cvs ys : List Value} {cs : List Int} (all : List Int), (∀ c ∈ cs, c ∈ all) → IntsAre cvs cs → Paired (fun v y => ∀ c t, c ∈ all → v = .int c t → ∃ M t', y = .int M t' ∧ K c M) cvs ys → ∃ ms, IntsAre ys ms ∧ Paired K cs ms from
    fun {cvs ys cs} hi hp => h cs (fun _ hc => hc) hi hp
  intro cvs ys cs all hsub hi
  induction hi generalizing ys with
  | nil => intro hp; cases hp; exact ⟨[], .nil, .nil⟩
  | cons n t r ih =>
    intro hp
    cases hp with
    | cons a b =>
      obtain ⟨M, t', rfl, hk⟩ := a n t (hsub n (by simp)) rfl
      obtain ⟨ms, h1, h2⟩ := ih (fun c hc => hsub c (by simp [hc])) b
      exact ⟨M :: ms, .cons M t' h1, .cons hk h2⟩

section
variable {w : World} {A : Around} {E : Value → Shared → Prop} {s : Shared} {h₀ : Heap} {L : Nat} {f : Addr} {m : Str → Option Value} {cd : Value} {G : GD}

theorem law_p3 {d : Nat} {Q : Flow → Shared → Prop} {T N K : Addr} {tvs nvs rvs : List Value} {ts row : List PI} {nums : List Int} (ok : Ok A d) (hd : d ≤ 15) (X : Glo G h₀) (F : Fr h₀ L s.heap m) (hfr : ∀ b, L ≤ b → h₀.get? b = none)
    (mT : m "things" = some (.ref T)) (mN : m "numbers" = some (.ref N)) (lT : Lst s.heap T tvs) (pT : Pairs s.heap tvs ts) (lN : Lst s.heap N nvs) (iN : IntsAre nvs nums) (lK : Lst s.heap K rvs) (pK : Pairs s.heap rvs row)
    (fr : Front (fun p => p ∈ sumsOf ts) row) (hrl : row.length ≤ 256) (hnl : nums.length ≤ 200) (hn2 : 2 ≤ ts.length) (hn : ts.length ≤ 8) (hts : ∀ t ∈ ts, 1 ≤ t.1 ∧ 0 ≤ t.2)
    (c1 : s.heap.IsCell (L + 1) (some (.ref K))) (c2 : s.heap.IsCell (L + 1 + 1) none) (c3 : s.heap.IsCell (L + 1 + 1 + 1) none)
    (h : ∀ h' tk m', Fr h₀ L h' m' → Q (.ret (.bool true)) { s with heap := h', toks := tk }) :
    wpAny (model P w) A (execs ((fBody (stAt 10)).drop 7) (envLaw L f cd)) Q E s := by
  have X₀ := X.keeps F.keep
  have htl : tvs.length = ts.length := pT.length
  have hrv : rvs.length = row.length := pK.length
  -- pairs
  refine wpAny_execs_cons <| wpAny_Assign_Name <| call_of (f := G.fa) (st := stAt 7) (dV := .none) (kV := .none) (cd := G.ca) (eG X₀ X.na ⟨rfl, rfl⟩) <| args_cons <| eL F mT <| args_nil <| wpAny_evalAll_nil ⟨X₀.Fa, all_call ok (by omega) X₀ lT.isList pT hn fun D₁ h₁ tk₁ us₁ hD₁ k₁ l₁ p₁ => ?_⟩
  dsimp only at hD₁ k₁ ⊢
  have nsC := noSeq_cell (c2.keeps k₁)
  refine sC (c2.keeps k₁) fun h₂ c2 b₂ => ?_
  dsimp only at b₂ ⊢
  have F₂ := Fr.but (F.kept k₁) b₂ (show L ≠ L + 1 + 1 by omega) (hfr _ (show L ≤ L + 1 + 1 by omega))
  have l₂ := l₁.off nsC b₂
  have p₂ := p₁.off nsC b₂
  have lT₂ := (lT.keeps k₁).off nsC b₂
  have pT₂ := (pT.keeps k₁).off nsC b₂
  have lN₂ := (lN.keeps k₁).off nsC b₂
  have lK₂ := (lK.keeps k₁).off nsC b₂
  have pK₂ := (pK.keeps k₁).off nsC b₂
  have c1 := cell_but (c1.keeps k₁) b₂ (show L + 1 ≠ L + 1 + 1 by omega)
  have c3 := cell_but (c3.keeps k₁) b₂ (show L + 1 + 1 + 1 ≠ L + 1 + 1 by omega)
  have hS : (sumsOf ts).length ≤ 256 := by
    rw [sumsOf_length]
    exact Nat.le_trans (Nat.pow_le_pow_right (by decide) hn) (by decide)
  have hul : us₁.length = (sumsOf ts).length := p₂.length
  -- a base
  obtain ⟨B, hB⟩ : ∃ B, B = hideAll h₂ [L, L + 1 + 1 + 1] := ⟨_, rfl⟩
  have nsW : ∀ Y ∈ [L, L + 1 + 1 + 1], NoSeq h₂ Y := fun Y hY => by
    rcases List.mem_cons.mp hY with rfl | hY
    · exact noSeq_ns F₂.ns
    · rw [List.mem_singleton.mp hY]; exact noSeq_cell c3
  have BL : B.get? L = none := by rw [hB]; exact hide_new (by simp)
  have B3 : B.get? (L + 1 + 1 + 1) = none := by rw [hB]; exact hide_new (by simp)
  have kB : Kept B h₂ := by rw [hB]; exact fun _ _ e => of_hideAll _ e
  have toB : ∀ {D us}, Lst h₂ D us → Lst B D us := fun {D us} l => by
    have h1 := lst_ne_ns l F₂.ns
    have h2 := lst_ne_cell l c3
    rw [hB]; exact hideAll_list l (by simp [Ne.symm h1, Ne.symm h2])
  have toBp : ∀ {us ps}, Pairs h₂ us ps → Pairs B us ps := fun {us ps} p => by
    rw [hB]; exact Paired_mono (fun _ _ x => x.off2 nsW) p
  have toBc : ∀ {c v}, h₂.IsCell c v → c ≠ L → c ≠ L + 1 + 1 + 1 → B.IsCell c v := fun {c v} x hcL hc3 => by
    obtain ⟨o, e, dd⟩ := x
    rw [hB]
    exact ⟨o, hideAll_get _ e (by simp [hcL, hc3]), dd⟩
  have lD := toB l₂
  have pD := toBp p₂
  have lTB := toB lT₂
  have pTB := toBp pT₂
  have lNB := toB lN₂
  have lKB := toB lK₂
  have pKB := toBp pK₂
  have c1B := toBc c1 (show L + 1 ≠ L by omega) (show L + 1 ≠ L + 1 + 1 + 1 by omega)
  have c2B := toBc c2 (show L + 1 + 1 ≠ L by omega) (show L + 1 + 1 ≠ L + 1 + 1 + 1 by omega)
  -- the row is the unbeaten
  have X₂ := X.keeps F₂.keep
  refine wpAny_execs_cons <| wpAny_If <| wpAny_isTrue_Compare1 <| eC c1 <| call_of (f := G.fu) (st := stAt 8) (dV := .none) (kV := .none) (cd := G.cu) (eG X₂ X.nu ⟨rfl, rfl⟩) <| args_cons <| eC c2 <| args_nil <| wpAny_evalAll_nil ⟨X₂.Fu, unbeaten_call ok (by omega) X₂ l₂.isList p₂ hS fun D₂ h₃ tk₃ us₃ qs hD₂ k₃ l₃ p₃ hperm hsort => ?_⟩
  dsimp only at hD₂ k₃ ⊢
  have erow : row = keepOf qs := fr.only (unbeaten_front hperm hsort)
  refine ne_pairsK ok (by omega) (lK₂.keeps k₃).isList (pK₂.keeps k₃) l₃.isList p₃ (wpAny_truthy_bool ?_)
  rw [if_neg (by simp [erow])]
  refine wpAny_execs_nil ?_
  have F₃ := F₂.kept k₃
  have kb₃ : Kept B h₃ := Kept.trans kB k₃
  have p₃T := pTB.keeps kb₃
  have c3 := c3.keeps k₃
  clear p₃ l₃ hperm hsort k₃ hD₂ erow
  -- whole
  refine wpAny_execs_cons <| wpAny_Assign_Name <| Call_ <| eB (X.keeps F₃.keep) X.n_sum <| PyProof.Rows.callWith_builtin1 <| args_cons <| comp_val (cl := []) (fun _ => true) (fun _ v y => ∀ q, PairV h₃ v q → ∃ t, y = .int q.1 t) (fun _ _ _ _ _ e => e) ok.hh (by rfl) (by decide +kernel) (by rfl) (by decide +kernel) (by rfl) <| eL F₃ mT ?_
  refine ⟨T, tvs, rfl, (lTB.keeps kb₃).isList, by omega, ?_, ?_, ?_⟩
  · intro C v m₃ s₃ E' _ _ _ _
    rw [List.forIn_nil]
    exact wpAny_pure ⟨rfl, keeps_refl _⟩
  · intro C v m₃ s₃ E' hv _ hns hmx k
    obtain ⟨q₀, _, hq₀⟩ := Paired_mem p₃T v hv
    obtain ⟨av', t', u', rfl, hpl'⟩ := id hq₀
    have hpl₃ : s₃.heap.IsList av' #[.int q₀.1 t', .int q₀.2 u'] := hpl'.at fun o e => k _ _ e
    refine Subscript_ <| eN hns hmx <| wpAny_Constant_int <| item_litK (vs := [.int q₀.1 t', .int q₀.2 u']) hpl₃ (by decide) (by decide) rfl ⟨⟨_, _, rfl, Kept.refl _⟩, fun _ _ q hq => ?_⟩
    cases hq.inj hq₀
    exact ⟨_, rfl⟩
  intro D₄ h₄ tk₄ ys hD₄ l₄ k₄ hP
  dsimp only at hD₄ k₄ ⊢
  have e1 : tvs.filter (fun _ => true) = tvs := List.filter_eq_self.mpr fun _ _ => rfl
  rw [e1] at hP
  have iws : IntsAre ys (ts.map (·.1)) := ints_of (Paired_map (K := fun y n => ∃ t, y = Value.int n t) (fun q : Int × Int => q.1) (fun _ _ e => e) (Paired_comp (K := fun (z : Value) (q : Int × Int) => ∃ t, z = .int q.1 t) (fun _ _ _ f g => g _ f) p₃T hP))
  refine args_nil <| sumL ok.hh l₄.isList iws fun h₅ tW tk₅ k₅ => ?_
  dsimp only at k₅ ⊢
  obtain ⟨W, hW⟩ : ∃ W, W = (ts.map (·.1)).sum := ⟨_, rfl⟩
  rw [← hW]
  have hW2 : 2 ≤ W := by
    have := sum_ge ts fun t ht => (hts t ht).1
    rw [hW]; omega
  have k₃₅ : Kept h₃ h₅ := Kept.trans k₄ k₅
  have c3₅ := c3.keeps k₃₅
  refine sC c3₅ fun h₆ c3 b₆ => ?_
  dsimp only at b₆ ⊢
  have F₆ := Fr.but (F₃.kept k₃₅) b₆ (show L ≠ L + 1 + 1 + 1 by omega) (hfr _ (show L ≤ L + 1 + 1 + 1 by omega))
  have kb₆ : Kept B h₆ := kb_step (Kept.trans kb₃ k₃₅) b₆ B3
  have X₆ := X.keeps F₆.keep
  -- capacities
  refine wpAny_execs_cons <| wpAny_Assign_Name <| wpAny_BinOp <| List_ <| args_cons <| wpAny_Constant_int <| args_cons <| eC c3 <| args_cons <| wpAny_BinOp <| eC c3 <| wpAny_Constant_int <| sub_int <| args_nil <| mkList (by simp) fun D₇ h₇ hD₇ _ k₇ l₇ => ?_
  dsimp only at hD₇ k₇ ⊢
  have X₇ := X₆.keeps k₇
  have F₇ := F₆.kept k₇
  refine comp_val (cl := [("whole", L + 1 + 1 + 1)]) (fun _ => true) (fun _ v y => ∃ n t, 0 ≤ n ∧ y = .int n t) (fun _ _ _ _ _ e => e) ok.hh (by rfl) (by decide +kernel) (by rfl) (by decide +kernel) (by rfl) <| slc <| eL F₇ mN <| pNone <| pSome <| wpAny_Constant_int ⟨N, nvs, none, some (6 : Nat), rfl, ((lNB.keeps kb₆).keeps k₇).isList, by rw [iN.length]; omega, .none, .int _ _, fun D₈ h₈ hD₈ k₈ l₈ => ?_⟩
  rw [pick_to] at l₈
  dsimp only at hD₈ k₈ ⊢
  have k₇₈ : Kept h₆ h₈ := Kept.trans k₇ k₈
  refine ⟨D₈, nvs.take 6, rfl, l₈.isList, by rw [List.length_take]; omega, ?_, ?_, ?_⟩
  · intro C v m₃ s₃ E' _ _ _ _
    rw [List.forIn_nil]
    exact wpAny_pure ⟨rfl, keeps_refl _⟩
  · intro C v m₃ s₃ E' hv _ hns hmx k
    obtain ⟨n, t, _, rfl⟩ := ints_mem iN v (List.mem_of_mem_take hv)
    refine wpAny_BinOp <| Call_ <| eB ((X₆.keeps k₇₈).keeps k) X.n_abs <| PyProof.Rows.callWith_builtin1 <| args_cons <| eN hns hmx <| args_nil <| call_abs_int fun u tk => wpAny_BinOp <| eC ((c3.keeps k₇₈).keeps k) <| wpAny_Constant_int <| add_int <| mod_int' (by omega) ⟨⟨_, _, rfl, Kept.refl _⟩, fun _ _ => ⟨_, _, (fmod_pos _ (by omega)).1, rfl⟩⟩
  intro D₉ h₉ tk₉ zs hD₉ l₉ k₉ hP₉
  have hD₉ : h₈.get? D₉ = none := hD₉
  have k₉ : Kept h₈ h₉ := k₉
  have e9 : (nvs.take 6).filter (fun _ => true) = nvs.take 6 := List.filter_eq_self.mpr fun _ _ => rfl
  rw [e9] at hP₉
  have hzl : zs.length ≤ 6 := by have := hP₉.length; rw [List.length_take] at this; omega
  obtain ⟨zn, izs, hzn⟩ : ∃ zn, IntsAre zs zn ∧ ∀ c ∈ zn, 0 ≤ c := by
    obtain ⟨ns, a, b⟩ := paired_ints (K := fun _ n => 0 ≤ n) (fun v _ y hy => by obtain ⟨n, t, h1, h2⟩ := hy; exact ⟨n, t, h2, h1⟩) hP₉
    exact ⟨ns, a, fun c hc => by obtain ⟨_, _, hk⟩ := Paired_mem_r b c hc; exact hk⟩
  have hznl : zn.length ≤ 6 := by rw [← izs.length]; exact hzl
  have k₇₉ : Kept h₇ h₉ := Kept.trans k₈ k₉
  refine addL (l₇.keeps k₇₉).isList l₉.isList (by simp; omega) fun V h₁₀ hV k₁₀ l₁₀ => ?_
  have hV : h₉.get? V = none := hV
  have k₁₀ : Kept h₉ h₁₀ := k₁₀
  obtain ⟨cvs, caps, l₁₀, icv, hcl, hc0⟩ : ∃ cvs caps, Lst h₁₀ V cvs ∧ IntsAre cvs caps ∧ caps.length ≤ 20 ∧ ∀ c ∈ caps, 0 ≤ c :=
    ⟨_, _, l₁₀, .cons 0 _ (.cons W _ (.cons (W - 1) _ izs)), by simp; omega, fun c hc => by
      rcases List.mem_cons.mp hc with rfl | hc
      · exact Int.le_refl _
      · rcases List.mem_cons.mp hc with rfl | hc
        · omega
        · rcases List.mem_cons.mp hc with rfl | hc
          · omega
          · exact hzn c hc⟩
  have k₆₁₀ : Kept h₆ h₁₀ := Kept.trans k₇ (Kept.trans k₇₉ k₁₀)
  have F₁₀ := F₆.kept k₆₁₀
  have nsL₁₀ := noSeq_ns F₁₀.ns
  refine sL F₁₀ fun h₁₁ F₁₁ b₁₁ => ?_
  dsimp only at b₁₁ ⊢
  have l₁₁ := l₁₀.off nsL₁₀ b₁₁
  have kb₁₁ : Kept B h₁₁ := kb_step (Kept.trans kb₆ k₆₁₀) b₁₁ BL
  have hVL : V ≠ L := fun q => lst_ne_ns l₁₁ F₁₁.ns q.symm
  obtain ⟨m₁₁, F₁₁, mT, mc⟩ : ∃ m', Fr h₀ L h₁₁ m' ∧ m' "things" = some (.ref T) ∧ m' "capacities" = some (.ref V) := ⟨_, F₁₁, ifn (by decide) mT, if_pos rfl⟩
  have hcvl : cvs.length = caps.length := icv.length
  have X₁₁ := X.keeps F₁₁.keep
  have z0 : ∀ c ∈ caps, ∃ p, p ∈ sumsOf ts ∧ p.1 ≤ c := fun c hc => ⟨(0, 0), zero_mem ts, hc0 c hc⟩
  have pD₁₁ := pD.keeps kb₁₁
  have lD₁₁ := lD.keeps kb₁₁
  have c2₁₁ := c2B.keeps kb₁₁
  -- due
  refine wpAny_execs_cons <| comp_asgX (cl := [("pairs", L + 1 + 1)]) (m := m₁₁) (fun _ => true) (fun v y => ∀ c t, c ∈ caps → v = .int c t → ∃ M t', y = .int M t' ∧ Best (fun p => p ∈ sumsOf ts) c M)
    (by rfl) ok.hh (by rfl) (fun _ _ => rfl) (fun _ => rfl) (by rfl) (by decide +kernel) (by rfl) (by rfl) (by rfl) <| eL F₁₁ mc ?_
  refine ⟨V, cvs, rfl, l₁₁.isList, by omega, F₁₁.ns, ?_, ?_, ?_⟩
  · intro C c v s₃ E' _ _ _
    rw [List.forIn_nil]
    exact wpAny_pure ⟨rfl, keeps_refl _⟩
  · intro C c v s₃ E' hv _ hcell k
    obtain ⟨cap, t, hcm, rfl⟩ := ints_mem icv v hv
    have p₃ : Pairs s₃.heap us₁ (sumsOf ts) := pD₁₁.keeps k
    refine Call_ <| eB (X₁₁.keeps k) X.n_max <| PyProof.Rows.callWith_builtin1 <| args_cons <| comp_val (cl := [("capacity", c)]) (fun v => decide ((readV s₃.heap v).1 ≤ cap)) (fun _ v y => ∀ q, PairV s₃.heap v q → ∃ t, y = .int q.2 t) (fun _ _ _ _ _ e => e) ok.hh (by rfl) (by decide +kernel) (by rfl) (by decide +kernel) (by rfl) <| eC (c2₁₁.keeps k) ?_
    refine ⟨D₁, us₁, rfl, (lD₁₁.keeps k).isList, by omega, ?_, ?_, ?_⟩
    · intro C' v' m₄ s₄ E'' hv' hns hmx k'
      obtain ⟨q₀, _, hq₀⟩ := Paired_mem p₃ v' hv'
      obtain ⟨av', t', u', rfl, hpl'⟩ := id hq₀
      have hpl₃ : s₄.heap.IsList av' #[.int q₀.1 t', .int q₀.2 u'] := hpl'.at fun o e => k' _ _ e
      refine one_if <| wpAny_isTrue_Compare1 <| Subscript_ <| eN hns hmx <| wpAny_Constant_int <| item_litK (vs := [.int q₀.1 t', .int q₀.2 u']) hpl₃ (by decide) (by decide) rfl <| eC (hcell.keeps k') <| PyProof.Rows.le_int <| wpAny_truthy_bool ⟨?_, ⟨_, _, rfl, Kept.refl _⟩⟩
      rw [readV_of hq₀]
    · intro C' v' m₄ s₄ E'' hv' _ hns hmx k'
      obtain ⟨q₀, _, hq₀⟩ := Paired_mem p₃ v' hv'
      obtain ⟨av', t', u', rfl, hpl'⟩ := id hq₀
      have hpl₃ : s₄.heap.IsList av' #[.int q₀.1 t', .int q₀.2 u'] := hpl'.at fun o e => k' _ _ e
      refine Subscript_ <| eN hns hmx <| wpAny_Constant_int <| item_litK (vs := [.int q₀.1 t', .int q₀.2 u']) hpl₃ (by decide) (by decide) rfl ⟨⟨_, _, rfl, Kept.refl _⟩, fun _ _ q hq => ?_⟩
      cases hq.inj hq₀
      exact ⟨_, rfl⟩
    · intro D' h' tk' ys hD' l' k' hP
      have k' : Kept s₃.heap h' := k'
      obtain ⟨ns, ins, pns⟩ := paired_ints (K := fun v n => ∃ q ∈ sumsOf ts, PairV s₃.heap v q ∧ q.1 ≤ cap ∧ n = q.2) (fun v hv y hy => by
        obtain ⟨hv1, hv2⟩ := List.mem_filter.mp hv
        obtain ⟨q₀, hq₀m, hq₀⟩ := Paired_mem p₃ v hv1
        rw [readV_of hq₀] at hv2
        obtain ⟨t, a3⟩ := hy q₀ hq₀
        exact ⟨_, t, a3, q₀, hq₀m, hq₀, by simpa using hv2, rfl⟩) hP
      have all : ∀ q ∈ sumsOf ts, q.1 ≤ cap → q.2 ∈ ns := fun q hq hqc => by
        obtain ⟨v, hv, hvq⟩ := Paired_mem_r p₃ q hq
        obtain ⟨n, hn', q', _, hvq', _, a3⟩ := Paired_mem pns v (List.mem_filter.mpr ⟨hv, by rw [readV_of hvq]; simpa using hqc⟩)
        cases hvq.inj hvq'
        rw [← a3]; exact hn'
      have hpos : 0 < ns.length := by
        obtain ⟨q, hq, hqc⟩ := z0 cap hcm
        exact List.length_pos_of_mem (all q hq hqc)
      refine args_nil <| maxL ok.hh l'.isList ins hpos fun h'' M tM tk'' k'' hM hMle => ⟨⟨h'', _, rfl, Kept.trans k' k''⟩, fun c' t' hc' e => ?_⟩
      cases e
      refine ⟨M, tM, rfl, ?_, fun q hq hqc => hMle _ (all q hq hqc)⟩
      obtain ⟨v, _, q, hq, _, hqc, e⟩ := Paired_mem_r pns M hM
      exact ⟨q, hq, hqc, e.symm⟩
  intro Dd h₁₂ tk₁₂ dvs hDd ld ns₁₂ k₁₂ hPd
  have hDd : h₁₁.get? Dd = none := hDd
  have k₁₂ : KeptBut L h₁₁ h₁₂ := k₁₂
  have ef : cvs.filter (fun _ => true) = cvs := List.filter_eq_self.mpr fun _ _ => rfl
  rw [ef] at hPd
  obtain ⟨dues, idv, bdue⟩ := paired_laws icv hPd
  have F₁₂ : Fr h₀ L h₁₂ (fun z => if z = "due" then some (.ref Dd) else m₁₁ z) := ⟨ns₁₂, fun b o e => k₁₂ b o (fun q => by rw [q, hfr L (Nat.le_refl _)] at e; cases e) (F₁₁.keep _ _ e), F₁₁.above⟩
  have nsL₁₁ := noSeq_ns F₁₁.ns
  have l₁₂ := l₁₁.off nsL₁₁ k₁₂
  have kb₁₂ : Kept B h₁₂ := kb_step kb₁₁ k₁₂ BL
  obtain ⟨m₁₂, F₁₂, mT, mc, md⟩ : ∃ m', Fr h₀ L h₁₂ m' ∧ m' "things" = some (.ref T) ∧ m' "capacities" = some (.ref V) ∧ m' "due" = some (.ref Dd) := ⟨_, F₁₂, ifn (by decide) mT, ifn (by decide) mc, if_pos rfl⟩
  have X₁₂ := X.keeps F₁₂.keep
  have lK₁₂ := lKB.keeps kb₁₂
  have pK₁₂ := pKB.keeps kb₁₂
  have c1₁₂ := c1B.keeps kb₁₂
  -- told
  refine wpAny_execs_cons <| comp_asgL (cl := [("row", L + 1)]) (m := m₁₂) (fun _ => true) (fun v y => ∀ c t, c ∈ caps → v = .int c t → ∃ M t', y = .int M t' ∧ Best (fun p => p ∈ sumsOf ts) c M)
    (by rfl) ok.hh (by rfl) (by decide +kernel) (by rfl) (by decide +kernel) (by rfl) (by rfl) (by rfl) <| eL F₁₂ mc ?_
  refine ⟨V, cvs, rfl, l₁₂.isList, by omega, F₁₂.ns, ?_, ?_, ?_⟩
  · intro C v m₃ s₃ E' _ _ _ _
    rw [List.forIn_nil]
    exact wpAny_pure ⟨rfl, keeps_refl _⟩
  · intro C v m₃ s₃ E' hv _ hns hmx k
    obtain ⟨cap, t, hcm, rfl⟩ := ints_mem icv v hv
    have X₃ := X₁₂.keeps k
    refine Subscript_ <| Subscript_ <| eC (c1₁₂.keeps k) <| wpAny_BinOp <| call_of (f := G.fr) (st := stAt 2) (dV := .ref G.dr) (kV := .ref G.kr) (cd := G.cr) (eG X₃ X.nr ⟨rfl, rfl⟩) <| args_cons <| eC (c1₁₂.keeps k) <| args_cons <| eN hns hmx <| args_nil <|
      kwAll_cons <| eG X₃ X.nw <| kwAll_nil ⟨X₃.Frr, br_key_call ok (by omega) X₃ (lK₁₂.keeps k).isList (pK₁₂.keeps k) fr.keys (by omega) fun r tr h' tk k' cu => ?_⟩
    have k' : Kept s₃.heap h' := k'
    obtain ⟨r0, rr, best⟩ := fr.best cu (z0 cap hcm)
    have hr1 : r - 1 < row.length := by omega
    obtain ⟨v, hv', av, tp, tq, rfl, hpl⟩ := Paired_get pK₁₂ (r - 1) row[r - 1] (List.getElem?_eq_getElem hr1)
    have hpl' : h'.IsList av #[.int row[r - 1].1 tp, .int row[r - 1].2 tq] := hpl.at fun o e => k' _ _ (k _ _ e)
    have hg : row.getD (r - 1) (0, 0) = row[r - 1] := by rw [List.getD_eq_getElem?_getD, List.getElem?_eq_getElem hr1]; rfl
    rw [hg] at best
    refine wpAny_Constant_int <| sub_int <| item_litK (v := .ref av) ((lK₁₂.keeps k).keeps k').isList (by omega) (by omega) (by rw [show ((r : Int) - 1).toNat = r - 1 by omega]; exact hv') <| wpAny_Constant_int <| item_litK (vs := [.int row[r - 1].1 tp, .int row[r - 1].2 tq]) hpl' (by decide) (by decide) rfl ⟨⟨h', _, rfl, k'⟩, fun c' t' hc' e => ?_⟩
    cases e
    exact ⟨_, _, rfl, best⟩
  intro Dt h₁₃ tk₁₃ wvs hDt lt ns₁₃ k₁₃ hPt
  have hDt : h₁₂.get? Dt = none := hDt
  have k₁₃ : KeptBut L h₁₂ h₁₃ := k₁₃
  rw [ef] at hPt
  obtain ⟨tolds, itv, btold⟩ := paired_laws icv hPt
  have F₁₃ : Fr h₀ L h₁₃ (fun z => if z = "told" then some (.ref Dt) else m₁₂ z) := ⟨ns₁₃, fun b o e => k₁₃ b o (fun q => by rw [q, hfr L (Nat.le_refl _)] at e; cases e) (F₁₂.keep _ _ e), F₁₂.above⟩
  have nsL₁₂ := noSeq_ns F₁₂.ns
  have ld₁₃ := ld.off nsL₁₂ k₁₃
  have l₁₃ := l₁₂.off nsL₁₂ k₁₃
  have kb₁₃ : Kept B h₁₃ := kb_step kb₁₂ k₁₃ BL
  obtain ⟨m₁₃, F₁₃, mT, mc, md, mt⟩ : ∃ m', Fr h₀ L h₁₃ m' ∧ m' "things" = some (.ref T) ∧ m' "capacities" = some (.ref V) ∧ m' "due" = some (.ref Dd) ∧ m' "told" = some (.ref Dt) := ⟨_, F₁₃, ifn (by decide) mT, ifn (by decide) mc, ifn (by decide) md, if_pos rfl⟩
  have X₁₃ := X.keeps F₁₃.keep
  -- the answer
  have e1' : tolds = dues := bests_only btold bdue
  refine wpAny_execs_cons <| wpAny_Return_some <| BoolOp_and <| wpAny_Compare1 <| eL F₁₃ mt <| eL F₁₃ md <| eq_intsK lt.isList itv ld₁₃.isList idv (ok.units64 (by omega)) <| wpAny_truthy_bool ?_
  rw [if_pos (by simp [e1'])]
  refine BoolOp_one <| wpAny_Compare1 <| call_of (f := G.fh) (st := stAt 9) (dV := .none) (kV := .none) (cd := G.ch) (eG X₁₃ X.nh ⟨rfl, rfl⟩) <| args_cons <| eL F₁₃ mT <| args_cons <| eL F₁₃ mc <| args_nil <| wpAny_evalAll_nil ⟨X₁₃.Fh,
    halves_call ok (by omega) X₁₃ (lTB.keeps kb₁₃).isList (pTB.keeps kb₁₃) hn l₁₃.isList icv (by omega) (fun c hc => ⟨(0, 0), zero_mem _, hc0 c hc⟩) (fun c hc q hq hqc => ⟨(0, 0), zero_mem _, by show (0 : Int) ≤ c - q.1; omega⟩) fun D₁₄ h₁₄ tk₁₄ us₁₄ halves hD₁₄ k₁₄ l₁₄ i₁₄ hh => ?_⟩
  have k₁₄ : Kept h₁₃ h₁₄ := k₁₄
  have e2' : halves = dues := bests_only (halves_best hh fun t ht => by have := (hts t ht).1; omega) bdue
  refine eL (F₁₃.kept k₁₄) md <| eq_intsK l₁₄.isList i₁₄ (ld₁₃.keeps k₁₄).isList idv (ok.units64 (by omega)) ?_
  rw [decide_eq_true e2']
  exact h h₁₄ _ _ (F₁₃.kept k₁₄)
end
end Mine
end

-- part B17
section
open PySem PySem.W PySem.Calls PyProof.Rows
set_option Elab.async false
set_option maxRecDepth 100000
set_option maxHeartbeats 2000000
namespace Mine
section
variable {w : World} {A : Around} {E : Value → Shared → Prop} {s : Shared} {h₀ : Heap} {L : Nat} {f : Addr} {m : Str → Option Value} {cd : Value} {G : GD}

theorem law_body {d : Nat} {Q : Flow → Shared → Prop} {l : Addr} {vs : List Value} {ns : List Int} (ok : Ok A d) (hd : d ≤ 15) (X : Glo G h₀) (F : Fr h₀ L s.heap m) (hfr : ∀ b, L ≤ b → h₀.get? b = none)
    (ms : m "script" = some (.ref l)) (hl : h₀.IsList l vs.toArray) (hI : IntsAre vs ns) (hn : ns.length ≤ 63)
    (c1 : s.heap.IsCell (L + 1) none) (c2 : s.heap.IsCell (L + 1 + 1) none) (c3 : s.heap.IsCell (L + 1 + 1 + 1) none)
    (h : ∀ h' tk m', Fr h₀ L h' m' → Q (.ret (.bool true)) { s with heap := h', toks := tk }) :
    wpAny (model P w) A (execs (fBody (stAt 10)) (envLaw L f cd)) Q E s := by
  refine law_p1 ok hd X F hfr ms hl hI hn c1 c2 c3 fun h₁ tk₁ m₁ T N tvs nvs ts nums F₁ mT mN lT pT lN iN hnl hn2 hn8 hts c1 c2 c3 => ?_
  refine law_p2 ok hd X F₁ hfr mT mN lT pT lN hn8 c1 c2 c3 fun h₂ tk₂ m₂ K rvs row F₂ mT mN lT pT lN lK pK fr hrl c1 c2 c3 => ?_
  exact law_p3 ok hd X F₂ hfr mT mN lT pT lN iN lK pK fr hrl hnl hn2 hn8 hts c1 c2 c3 fun h₃ tk₃ m₃ F₃ => h h₃ tk₃ m₃ F₃
end
end Mine
end

-- part B18
section
open PySem PySem.W PySem.Calls PyProof.Rows
set_option Elab.async false
set_option maxRecDepth 100000
set_option maxHeartbeats 2000000
namespace Mine

theorem fnAt_K {K : Frag} {h : Heap} {f : Addr} {q : Str} {ps : Arguments} {bd : List Stmt} {sc : Scope} {st : Stmt} {dV kV cd oc doc pm ct : Value} {od an : Option Addr} {sl : Array (Option Value)} (X : K.In h) (hq : fName st = q) (hp : fArgs st = ps) (hb : fBody st = bd) (hs : fScope st = sc)
    (e : K.lookup f = some ⟨oc, od, .func (fnOf q q ps bd sc dV kV doc pm an cd ct), sl⟩) (hc : codeIn K cd q = true) : FnAt h f st dV kV cd := by
  subst hq hp hb hs
  exact ⟨oc, od, sl, doc, pm, an, ct, X _ _ e, codeRec_of X hc⟩
theorem dfAt_K {K : Frag} {h : Heap} {d : Addr} {n : Nat} {t : Tok} {od : Option Addr} {sl : Array (Option Value)} (X : K.In h) (e : K.lookup d = some ⟨.type "tuple", od, .seq #[.int 0 t, .none] n, sl⟩) : DfAt h d :=
  ⟨_, n, t, X _ _ e, rfl, rfl⟩
theorem kdAt_K {K : Frag} {h : Heap} {k : Addr} {n : Nat} {t : Tok} {hs : Int} {oc : Value} {od : Option Addr} {sl : Array (Option Value)} (X : K.In h) (e : K.lookup k = some ⟨oc, od, .dict #[⟨hs, .str "key" t, .none⟩] n, sl⟩) : KdAt h k :=
  ⟨nsFind #[⟨hs, .str "key" t, .none⟩], ⟨_, #[⟨hs, .str "key" t, .none⟩], n, X _ _ e, rfl, fun en hen => by
    have : en = ⟨hs, .str "key" t, .none⟩ := by simpa using hen
    rw [this]; exact ⟨_, _, rfl⟩, fun _ => rfl⟩, by rfl⟩
theorem nb_K {K : Frag} {h : Heap} {mg mb : Str → Option Value} {x : Str} {v : Value} (X : K.In h) (g : h.Ns mainGlobals mg) (hb : ∀ x : Str, x ≠ "__name__" → mb x = bootBuiltins x) (e : nsIn K mainGlobals x = some none) (hn : x ≠ "__name__") (hv : bootBuiltins x = some v) : mg x = none ∧ mb x = some v :=
  ⟨mg_none_of X g e, (hb x hn).trans hv⟩
theorem glo_K {K : Frag} {h : Heap} {mg mb : Str → Option Value} {fi fr fl fw fy fa fu fh : Addr} {ci cr cl cw cy ca cu ch : Value} {di dr dl ki kr kl : Addr} {oci doci pmi cti : Value} {odi ani : Option Addr} {sli : Array (Option Value)} {psi : Arguments} {bdi : List Stmt} {sci : Scope} {ocr docr pmr ctr : Value} {odr anr : Option Addr} {slr : Array (Option Value)} {psr : Arguments} {bdr : List Stmt} {scr : Scope} {ocl docl pml ctl : Value} {odl anl : Option Addr} {sll : Array (Option Value)} {psl : Arguments} {bdl : List Stmt} {scl : Scope} {ocw docw pmw ctw : Value} {odw anw : Option Addr} {slw : Array (Option Value)} {psw : Arguments} {bdw : List Stmt} {scw : Scope} {ocy docy pmy cty : Value} {ody any : Option Addr} {sly : Array (Option Value)} {psy : Arguments} {bdy : List Stmt} {scy : Scope} {oca doca pma cta : Value} {oda ana : Option Addr} {sla : Array (Option Value)} {psa : Arguments} {bda : List Stmt} {sca : Scope} {ocu docu pmu ctu : Value} {odu anu : Option Addr} {slu : Array (Option Value)} {psu : Arguments} {bdu : List Stmt} {scu : Scope} {och doch pmh cth : Value} {odh anh : Option Addr} {slh : Array (Option Value)} {psh : Arguments} {bdh : List Stmt} {sch : Scope} {ndi nki : Nat} {tdi tki : Tok} {hki : Int} {koi : Value} {ddi kdi : Option Addr} {dsi ksi : Array (Option Value)} {ndr nkr : Nat} {tdr tkr : Tok} {hkr : Int} {kor : Value} {ddr kdr : Option Addr} {dsr ksr : Array (Option Value)} {ndl nkl : Nat} {tdl tkl : Tok} {hkl : Int} {kol : Value} {ddl kdl : Option Addr} {dsl ksl : Array (Option Value)}
    (X : K.In h) (g : h.Ns mainGlobals mg) (b : h.Ns builtinsNs mb) (nl : h.NoLimit) (hb : ∀ x : Str, x ≠ "__name__" → mb x = bootBuiltins x)
    (ni : nsIn K mainGlobals "insort_right" = some (some (.ref fi)))
    (nr : nsIn K mainGlobals "bisect_right" = some (some (.ref fr)))
    (nl' : nsIn K mainGlobals "bisect_left" = some (some (.ref fl)))
    (nw : nsIn K mainGlobals "_law_weight" = some (some (.ref fw)))
    (ny : nsIn K mainGlobals "_law_lay" = some (some (.ref fy)))
    (na : nsIn K mainGlobals "_law_all" = some (some (.ref fa)))
    (nu : nsIn K mainGlobals "_law_unbeaten" = some (some (.ref fu)))
    (nh : nsIn K mainGlobals "_law_halves" = some (some (.ref fh)))
    (b_abs : nsIn K mainGlobals "abs" = some none)
    (b_len : nsIn K mainGlobals "len" = some none)
    (b_list : nsIn K mainGlobals "list" = some none)
    (b_range : nsIn K mainGlobals "range" = some none)
    (b_sorted : nsIn K mainGlobals "sorted" = some none)
    (b_max : nsIn K mainGlobals "max" = some none)
    (b_sum : nsIn K mainGlobals "sum" = some none)
    (ei : K.lookup fi = some ⟨oci, odi, .func (fnOf "insort_right" "insort_right" psi bdi sci (.ref di) (.ref ki) doci pmi ani ci cti), sli⟩)
    (qi : codeIn K ci "insort_right" = true)
    (er : K.lookup fr = some ⟨ocr, odr, .func (fnOf "bisect_right" "bisect_right" psr bdr scr (.ref dr) (.ref kr) docr pmr anr cr ctr), slr⟩)
    (qr : codeIn K cr "bisect_right" = true)
    (el : K.lookup fl = some ⟨ocl, odl, .func (fnOf "bisect_left" "bisect_left" psl bdl scl (.ref dl) (.ref kl) docl pml anl cl ctl), sll⟩)
    (ql : codeIn K cl "bisect_left" = true)
    (ew : K.lookup fw = some ⟨ocw, odw, .func (fnOf "_law_weight" "_law_weight" psw bdw scw (.none) (.none) docw pmw anw cw ctw), slw⟩)
    (qw : codeIn K cw "_law_weight" = true)
    (ey : K.lookup fy = some ⟨ocy, ody, .func (fnOf "_law_lay" "_law_lay" psy bdy scy (.none) (.none) docy pmy any cy cty), sly⟩)
    (qy : codeIn K cy "_law_lay" = true)
    (ea : K.lookup fa = some ⟨oca, oda, .func (fnOf "_law_all" "_law_all" psa bda sca (.none) (.none) doca pma ana ca cta), sla⟩)
    (qa : codeIn K ca "_law_all" = true)
    (eu : K.lookup fu = some ⟨ocu, odu, .func (fnOf "_law_unbeaten" "_law_unbeaten" psu bdu scu (.none) (.none) docu pmu anu cu ctu), slu⟩)
    (qu : codeIn K cu "_law_unbeaten" = true)
    (eh : K.lookup fh = some ⟨och, odh, .func (fnOf "_law_halves" "_law_halves" psh bdh sch (.none) (.none) doch pmh anh ch cth), slh⟩)
    (qh : codeIn K ch "_law_halves" = true)
    (di' : K.lookup di = some ⟨.type "tuple", ddi, .seq #[.int 0 tdi, .none] ndi, dsi⟩)
    (ki' : K.lookup ki = some ⟨koi, kdi, .dict #[⟨hki, .str "key" tki, .none⟩] nki, ksi⟩)
    (dr' : K.lookup dr = some ⟨.type "tuple", ddr, .seq #[.int 0 tdr, .none] ndr, dsr⟩)
    (kr' : K.lookup kr = some ⟨kor, kdr, .dict #[⟨hkr, .str "key" tkr, .none⟩] nkr, ksr⟩)
    (dl' : K.lookup dl = some ⟨.type "tuple", ddl, .seq #[.int 0 tdl, .none] ndl, dsl⟩)
    (kl' : K.lookup kl = some ⟨kol, kdl, .dict #[⟨hkl, .str "key" tkl, .none⟩] nkl, ksl⟩)
    (hpi : fArgs (stAt 1) = psi) (hbi : fBody (stAt 1) = bdi) (hsi : fScope (stAt 1) = sci)
    (hpr : fArgs (stAt 2) = psr) (hbr : fBody (stAt 2) = bdr) (hsr : fScope (stAt 2) = scr)
    (hpl : fArgs (stAt 3) = psl) (hbl : fBody (stAt 3) = bdl) (hsl : fScope (stAt 3) = scl)
    (hpw : fArgs (stAt 5) = psw) (hbw : fBody (stAt 5) = bdw) (hsw : fScope (stAt 5) = scw)
    (hpy : fArgs (stAt 6) = psy) (hby : fBody (stAt 6) = bdy) (hsy : fScope (stAt 6) = scy)
    (hpa : fArgs (stAt 7) = psa) (hba : fBody (stAt 7) = bda) (hsa : fScope (stAt 7) = sca)
    (hpu : fArgs (stAt 8) = psu) (hbu : fBody (stAt 8) = bdu) (hsu : fScope (stAt 8) = scu)
    (hph : fArgs (stAt 9) = psh) (hbh : fBody (stAt 9) = bdh) (hsh : fScope (stAt 9) = sch) :
    Glo ⟨mg, mb, fi, fr, fl, fw, fy, fa, fu, fh, ci, cr, cl, cw, cy, ca, cu, ch, di, dr, dl, ki, kr, kl⟩ h :=
  { g := g, b := b, nl := nl, ni := mg_of X g ni, nr := mg_of X g nr, nL := mg_of X g nl', nw := mg_of X g nw, ny := mg_of X g ny, na := mg_of X g na, nu := mg_of X g nu, nh := mg_of X g nh
    nb := fun p hp => by
      simp only [bNames, List.mem_cons, List.not_mem_nil, or_false] at hp
      rcases hp with rfl | rfl | rfl | rfl | rfl | rfl | rfl
      · exact nb_K X g hb b_abs (by decide) (by decide +kernel)
      · exact nb_K X g hb b_len (by decide) (by decide +kernel)
      · exact nb_K X g hb b_list (by decide) (by decide +kernel)
      · exact nb_K X g hb b_range (by decide) (by decide +kernel)
      · exact nb_K X g hb b_sorted (by decide) (by decide +kernel)
      · exact nb_K X g hb b_max (by decide) (by decide +kernel)
      · exact nb_K X g hb b_sum (by decide) (by decide +kernel)
    Fi := fnAt_K X (by rfl) hpi hbi hsi ei qi
    Frr := fnAt_K X (by rfl) hpr hbr hsr er qr
    Fl := fnAt_K X (by rfl) hpl hbl hsl el ql
    Fw := fnAt_K X (by rfl) hpw hbw hsw ew qw
    Fy := fnAt_K X (by rfl) hpy hby hsy ey qy
    Fa := fnAt_K X (by rfl) hpa hba hsa ea qa
    Fu := fnAt_K X (by rfl) hpu hbu hsu eu qu
    Fh := fnAt_K X (by rfl) hph hbh hsh eh qh
    Di := dfAt_K X di'
    Ki := kdAt_K X ki'
    Dr := dfAt_K X dr'
    Kr := kdAt_K X kr'
    Dl := dfAt_K X dl'
    Kl := kdAt_K X kl' }
end Mine
end

section
open PySem PySem.W PySem.Calls PyProof.Rows
set_option Elab.async false
set_option maxRecDepth 100000
set_option maxHeartbeats 2000000
namespace Mine
theorem ok_top (env : Env) : Ok (callerA.deeper env) 10 := ⟨rfl, by show callerA.depth + 1 ≤ _; decide, by show callerA.units + 3 ≤ _; decide⟩
end Mine
end

open PySem PySem.W PySem.Calls PyProof.Rows Mine
set_option Elab.async false
set_option maxRecDepth 100000 in
set_option maxHeartbeats 8000000 in
theorem PySem.Challenge.cw_ec5005_01_holds : PySem.Challenge.rw_ec5005_01.Holds := by
  w_on
  o_law
  k_head
  (case hw => w_witness2)
  k_go0
  rename Frag.In _ _ => KX
  rename Glob _ _ _ _ _ _ _ _ => GL
  rename Heap.IsList _ _ _ => hL
  rename IntsAre _ _ => hI
  rename Fr _ _ _ _ => F
  rename News _ _ _ _ => N0
  rename (¬ _ < _) => hlen
  rename Shared.gens _ = _ => hgens
  rename_i o2 o1 o0 d2 d1 d0 X0
  obtain ⟨GG, XX⟩ : ∃ GG : GD, Glo GG _ := by
    refine' ⟨_, glo_K KX GL.g GL.b GL.nolimit GL.builtins ?ni ?nr ?nl ?nw ?ny ?na ?nu ?nh ?babs ?blen ?blist ?brange ?bsorted ?bmax ?bsum ?ei ?qi ?er ?qr ?el ?ql ?ew ?qw ?ey ?qy ?ea ?qa ?eu ?qu ?eh ?qh ?di ?ki ?dr ?kr ?dl ?kl ?hpi ?hbi ?hsi ?hpr ?hbr ?hsr ?hpl ?hbl ?hsl ?hpw ?hbw ?hsw ?hpy ?hby ?hsy ?hpa ?hba ?hsa ?hpu ?hbu ?hsu ?hph ?hbh ?hsh⟩
    (case ni => k_is)
    (case nr => k_is)
    (case nl => k_is)
    (case nw => k_is)
    (case ny => k_is)
    (case na => k_is)
    (case nu => k_is)
    (case nh => k_is)
    (case babs => k_is)
    (case blen => k_is)
    (case blist => k_is)
    (case brange => k_is)
    (case bsorted => k_is)
    (case bmax => k_is)
    (case bsum => k_is)
    (case ei => k_is)
    (case qi => k_is)
    (case er => k_is)
    (case qr => k_is)
    (case el => k_is)
    (case ql => k_is)
    (case ew => k_is)
    (case qw => k_is)
    (case ey => k_is)
    (case qy => k_is)
    (case ea => k_is)
    (case qa => k_is)
    (case eu => k_is)
    (case qu => k_is)
    (case eh => k_is)
    (case qh => k_is)
    (case di => k_is)
    (case ki => k_is)
    (case dr => k_is)
    (case kr => k_is)
    (case dl => k_is)
    (case kl => k_is)
    (case hpi => rfl)
    (case hbi => rfl)
    (case hsi => rfl)
    (case hpr => rfl)
    (case hbr => rfl)
    (case hsr => rfl)
    (case hpl => rfl)
    (case hbl => rfl)
    (case hsl => rfl)
    (case hpw => rfl)
    (case hbw => rfl)
    (case hsw => rfl)
    (case hpy => rfl)
    (case hby => rfl)
    (case hsy => rfl)
    (case hpa => rfl)
    (case hba => rfl)
    (case hsa => rfl)
    (case hpu => rfl)
    (case hbu => rfl)
    (case hsu => rfl)
    (case hph => rfl)
    (case hbh => rfl)
    (case hsh => rfl)
  have hn := Nat.le_of_not_lt fun q => hlen (Int.ofNat_lt.mpr q)
  have c1 : Heap.IsCell _ _ none := ⟨o0, (N0 _ (.tail _ (.tail _ (.head _)))).1, d0⟩
  have c2 : Heap.IsCell _ _ none := ⟨o1, (N0 _ (.tail _ (.head _))).1, d1⟩
  have c3 : Heap.IsCell _ _ none := ⟨o2, (N0 _ (.head _)).1, d2⟩
  refine law_body (d := 10) (ok_top _) (by decide) XX F (fun b hb => Heap.get?_none_of_le hb) rfl hL hI hn c1 c2 c3 (fun h' tk m' F' => ?_)
  refine goodW_bool F' hgens (fun _ => rfl) ?_
  wrow_post
