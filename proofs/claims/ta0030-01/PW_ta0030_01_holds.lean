import PyProof.Rows.All
import Wide.All
import OpenK.AllK
import Wide.FinOn
import KE.KUnpack
import PyProof.Rows.RaiseClass
import PyProof.Rows.FactsExc_ZeroDivisionError
import KE.KLam
import PyProof.Rows.SeqIn
import PyProof.Rows.RuleC_bool
import PyProof.Rows.SeqMore2
import PySem.Challenge.RW_ta0030_01
open PySem PySem.Spec PySem.Calls PySem.W PyProof.Rows
set_option Elab.async false
set_option maxRecDepth 100000
set_option autoImplicit false
set_option linter.all false
set_option maxHeartbeats 8000000
set_option compiler.extract_closed false
namespace Mine
/-! VH1 -/
/-! the head at once: the tactic that would cut the top into pieces (and lay a twin of every object) is turned into one refinement, its run closed by the kernel -/
noncomputable def vw : Program := view PySem.Challenge.pw_ta0030_01 [1, 3, 4, 5, 6, 7, 8, 9, 14, 15, 16, 17, 18]
local macro_rules | `(tactic| o_head $H) => `(tactic| refine holds_open (q := vw) (loose := [Str.ofString "bisect_right", Str.ofString "bisect_left"]) (Xt := fun s => xlAt vw [] s && recOk (RowW.records (OpenRow.toRowW (OpenLaw.row PySem.Challenge.rw_ta0030_01))) s) (XP := XL vw []) (Yf := Hook.obs $H) (Ya := Hook.val $H) (YP := Hook.says $H) (N := 1140)
  (by intro w; kernel_rfl) (Hook.of $H) (Hook.keeps $H) (fun s e => xl_of s (Bool.and_eq_true_iff.mp e).1) XL.keeps (by rfl) (by rfl) (by rfl) (fun s e => recFacts_of (Bool.and_eq_true_iff.mp e).2) (by rfl) (by first | assumption | decide +kernel) (by decide +kernel) ⟨rfl, rfl, rfl, rfl, rfl, by decide +kernel⟩ ?hw ?hc)
open_top hd for PySem.Challenge.rw_ta0030_01

/-! VL1 -/
/-- values as plain data; `ref k`: the k-th list that the frame has made and may still change -/
inductive V where
  | none | bool (b : Bool) | int (i : Int) | bytes (b : List UInt8)
  | list (vs : List V) | tup (vs : List V) | ref (k : Nat) | range (a b c : Int) | lam (k : Nat)
  deriving Inhabited

structure Ghost where
  P : Addr → Obj → Prop
  adr : List Addr
  lm : Nat → FuncData → Prop

/-- a list's object with nothing else in it -/
noncomputable abbrev LsO (o : Obj) : Prop := o.cls = .type "list" ∧ o.dict = none ∧ o.slots = #[]

mutual
inductive VR (G : Ghost) : Value → V → Prop
  | none : VR G .none .none
  | bool (b) : VR G (.bool b) (.bool b)
  | int (i t) : VR G (.int i t) (.int i)
  | bytes (b t) : VR G (.bytes b t) (.bytes b.toList)
  | list {a o vs n ds} : G.P a o → LsO o → o.data = .seq vs n → VRs G vs.toList ds → VR G (.ref a) (.list ds)
  | tup {a o vs n ds} : G.P a o → o.cls = .type "tuple" → o.data = .seq vs n → VRs G vs.toList ds → VR G (.ref a) (.tup ds)
  | ref {a k} : G.adr[k]? = some a → VR G (.ref a) (.ref k)
  | range {a o x y z t u v} : G.P a o → o = { cls := .type "range", data := .fields #[.int x t, .int y u, .int z v] } → VR G (.ref a) (.range x y z)
  | lam {a c o oc fd k} : G.P a o → o.cls = .type "function" → o.data = .func fd → G.lm k fd → G.P c oc → fd.code = .ref c → (∀ h : Heap, h.get? c = some oc → h.CodeRec fd.code fd.qualname) → VR G (.ref a) (.lam k)
inductive VRs (G : Ghost) : List Value → List V → Prop
  | nil : VRs G [] []
  | cons {v d vs ds} : VR G v d → VRs G vs ds → VRs G (v :: vs) (d :: ds)
end

theorem VR.int_inv {G : Ghost} {v : Value} {i : Int} (h : VR G v (.int i)) : ∃ t, v = .int i t := by cases h; exact ⟨_, rfl⟩
theorem VR.none_inv {G : Ghost} {v : Value} (h : VR G v .none) : v = .none := by cases h; rfl
theorem VR.bool_inv {G : Ghost} {v : Value} {b : Bool} (h : VR G v (.bool b)) : v = .bool b := by cases h; rfl
theorem VR.ref_inv {G : Ghost} {v : Value} {k : Nat} (h : VR G v (.ref k)) : ∃ a, v = .ref a ∧ G.adr[k]? = some a := by cases h; exact ⟨_, rfl, by assumption⟩
theorem VR.bytes_inv {G : Ghost} {v : Value} {b : List UInt8} (h : VR G v (.bytes b)) : ∃ r t, v = .bytes r t ∧ r.toList = b := by cases h; exact ⟨_, _, rfl, rfl⟩
inductive VR.IsTupI (G : Ghost) (v : Value) (ds : List V) : Prop
  | mk (a : Addr) (o : Obj) (vs : Array Value) (n : Nat) (e : v = .ref a) (p : G.P a o) (c : o.cls = .type "tuple") (d : o.data = .seq vs n) (r : VRs G vs.toList ds) : IsTupI G v ds
theorem VR.tup_inv {G : Ghost} {v : Value} {ds : List V} (h : VR G v (.tup ds)) : VR.IsTupI G v ds := by
  cases h with
  | tup p c d r => exact ⟨_, _, _, _, rfl, p, c, d, r⟩
theorem VRs.nil_inv {G : Ghost} {vs : List Value} (h : VRs G vs []) : vs = [] := by cases h; rfl
theorem VRs.cons_inv {G : Ghost} {vs : List Value} {d : V} {ds : List V} (h : VRs G vs (d :: ds)) : ∃ v r, vs = v :: r ∧ VR G v d ∧ VRs G r ds := by
  cases h with
  | cons p r => exact ⟨_, _, rfl, p, r⟩
theorem VRs.one_inv {G : Ghost} {vs : List Value} {d : V} (h : VRs G vs [d]) : ∃ v, vs = [v] ∧ VR G v d := by
  obtain ⟨v, r, rfl, p, q⟩ := h.cons_inv
  obtain rfl := q.nil_inv
  exact ⟨v, rfl, p⟩
theorem VRs.int1 {G : Ghost} {vs : List Value} {a : Int} (h : VRs G vs [.int a]) : ∃ t, vs = [.int a t] := by
  obtain ⟨v, rfl, p⟩ := h.one_inv
  obtain ⟨t, rfl⟩ := p.int_inv
  exact ⟨t, rfl⟩
theorem VRs.int2 {G : Ghost} {vs : List Value} {a b : Int} (h : VRs G vs [.int a, .int b]) : ∃ t u, vs = [.int a t, .int b u] := by
  obtain ⟨v, r, rfl, p, q⟩ := h.cons_inv
  obtain ⟨t, rfl⟩ := p.int_inv
  obtain ⟨u, rfl⟩ := q.int1
  exact ⟨t, u, rfl⟩
theorem VRs.int3 {G : Ghost} {vs : List Value} {a b c : Int} (h : VRs G vs [.int a, .int b, .int c]) : ∃ t u w, vs = [.int a t, .int b u, .int c w] := by
  obtain ⟨v, r, rfl, p, q⟩ := h.cons_inv
  obtain ⟨t, rfl⟩ := p.int_inv
  obtain ⟨u, w, rfl⟩ := q.int2
  exact ⟨t, u, w, rfl⟩

structure Ghost.Le (G G' : Ghost) : Prop where
  P : ∀ a o, G.P a o → G'.P a o
  adr : ∀ (k : Nat) (a : Addr), G.adr[k]? = some a → G'.adr[k]? = some a
  lm : G.lm = G'.lm

theorem Ghost.Le.refl {G : Ghost} : G.Le G := ⟨fun _ _ h => h, fun _ _ h => h, rfl⟩
theorem Ghost.Le.trans {G G' G'' : Ghost} (h : G.Le G') (k : G'.Le G'') : G.Le G'' := ⟨fun _ _ x => k.P _ _ (h.P _ _ x), fun _ _ x => k.adr _ _ (h.adr _ _ x), h.lm.trans k.lm⟩

theorem VR.mono {G G' : Ghost} (h : G.Le G') {v : Value} {d : V} (r : VR G v d) : VR G' v d :=
  @VR.rec G (motive_1 := fun v d _ => VR G' v d) (motive_2 := fun vs ds _ => VRs G' vs ds) .none .bool .int .bytes (fun p c e _ ih => .list (h.P _ _ p) c e ih) (fun p c e _ ih => .tup (h.P _ _ p) c e ih)
    (fun a => .ref (h.adr _ _ a)) (fun p o => .range (h.P _ _ p) o) (fun p c d l q e f => .lam (h.P _ _ p) c d (h.lm ▸ l) (h.P _ _ q) e f) .nil (fun _ _ p q => .cons p q) v d r
theorem VRs.mono {G G' : Ghost} (h : G.Le G') {vs : List Value} {ds : List V} (r : VRs G vs ds) : VRs G' vs ds := by
  induction ds generalizing vs with
  | nil => obtain rfl := r.nil_inv; exact .nil
  | cons d ds ih =>
    obtain ⟨v, vs', rfl, p, q⟩ := r.cons_inv
    exact .cons (VR.mono h p) (ih q)
theorem VRs.length {G : Ghost} {vs : List Value} {ds : List V} (r : VRs G vs ds) : vs.length = ds.length := by
  induction ds generalizing vs with
  | nil => obtain rfl := r.nil_inv; rfl
  | cons d ds ih =>
    obtain ⟨v, vs', rfl, p, q⟩ := r.cons_inv
    exact congrArg (· + 1) (ih q)
theorem VRs.append {G : Ghost} {vs : List Value} {ds : List V} {vs' : List Value} {ds' : List V} (r : VRs G vs ds) (k : VRs G vs' ds') : VRs G (vs ++ vs') (ds ++ ds') := by
  induction ds generalizing vs with
  | nil => obtain rfl := r.nil_inv; exact k
  | cons d ds ih =>
    obtain ⟨v, vs', rfl, p, q⟩ := r.cons_inv
    exact .cons p (ih q)
theorem VRs.get {G : Ghost} {vs : List Value} {ds : List V} (r : VRs G vs ds) {k : Nat} {d : V} (h : ds[k]? = some d) : ∃ v, vs[k]? = some v ∧ VR G v d := by
  induction ds generalizing vs k with
  | nil => cases h
  | cons d ds ih =>
    obtain ⟨v, vs', rfl, p, q⟩ := r.cons_inv
    cases k with
    | zero => cases h; exact ⟨_, rfl, p⟩
    | succ k => exact ih q h
theorem VRs.get' {G : Ghost} {vs : List Value} {ds : List V} (r : VRs G vs ds) {k : Nat} {v : Value} (h : vs[k]? = some v) : ∃ d, ds[k]? = some d ∧ VR G v d := by
  induction ds generalizing vs k with
  | nil => obtain rfl := r.nil_inv; cases h
  | cons d ds ih =>
    obtain ⟨v, vs', rfl, p, q⟩ := r.cons_inv
    cases k with
    | zero => cases h; exact ⟨_, rfl, p⟩
    | succ k => exact ih q h

structure St where
  loc : Str → Option V
  mu : List (Bool × List V)

/-- the program and its top -/
structure Tbl where
  prog : Program
  w : World
  K : Frag
  mg : Str → Option Value
  mb : Str → Option Value
  /-- where the codes of defs that are made within a def are noted; and those defs' long name -/
  tabs : Addr → Option Str
  /-- the functions that a frame makes, by number; what is known of each frame -/
  lm : Nat → FuncData → Prop
  fact : Bool → Env → Prop

noncomputable def Tbl.Plain (T : Tbl) : Prop := ∀ b e, T.fact b e
noncomputable def TabOk (T : Tbl) (P : Addr → Obj → Prop) (h : Heap) : Prop := ∀ Q q, T.tabs Q = some q → ∃ ps : Array Value, h.get? Q = some (tabObj ps) ∧ TriplesOk ps.toList ∧
  ∀ pos cv, codeAmong pos ps.toList = some cv → ∃ c oc, cv = .ref c ∧ P c oc ∧ ∀ h' : Heap, h'.get? c = some oc → h'.CodeRec cv q
theorem TabOk.mono {T : Tbl} {P P' : Addr → Obj → Prop} {h h' : Heap} (t : TabOk T P h) (hP : ∀ a o, P a o → P' a o) (hk : ∀ b o q, T.tabs b = some q → h.get? b = some o → h'.get? b = some o) : TabOk T P' h' := fun Q q e => by
  obtain ⟨ps, h1, h2, h3⟩ := t Q q e
  refine ⟨ps, hk _ _ _ e h1, h2, fun pos cv hc => ?_⟩
  obtain ⟨c, oc, g1, g2, g3⟩ := h3 pos cv hc
  exact ⟨c, oc, g1, hP _ _ g2, g3⟩

structure TopF (T : Tbl) (h : Heap) : Prop where
  g : h.Ns mainGlobals T.mg
  b : h.Ns builtinsNs T.mb
  nolimit : h.NoLimit
  builtins : ∀ x : Str, x ≠ "__name__" → T.mb x = bootBuiltins x
  K : T.K.In h
  bmain : ∃ bm ob, T.mg "__builtins__" = some (.ref bm) ∧ bm ≠ builtinsNs ∧ bm ≠ mainGlobals ∧ h.get? bm = some ob ∧ ob.cls = .type "module" ∧ ob.dict = some builtinsNs ∧ ob.data = .plain ∧ T.tabs bm = none
  tabG : T.tabs mainGlobals = none
  tabB : T.tabs builtinsNs = none
  tabS : T.tabs cStatics = none
  tabK : ∀ a o, T.K.lookup a = some o → T.tabs a = none
theorem TopF.keeps {T : Tbl} {h h' : Heap} (t : TopF T h) (hk : ∀ b o, T.tabs b = none → h.get? b = some o → h'.get? b = some o) : TopF T h' where
  g := t.g.at' fun o e => hk _ o t.tabG e
  b := t.b.at' fun o e => hk _ o t.tabB e
  nolimit := let ⟨mc, a, b⟩ := t.nolimit; ⟨mc, a.at' fun o e => hk _ o t.tabS e, b⟩
  builtins := t.builtins
  K := fun a o e => hk a o (t.tabK a o e) (t.K a o e)
  bmain := let ⟨bm, ob, h1, h2, h3, h4, h5, h6, h7, h8⟩ := t.bmain; ⟨bm, ob, h1, h2, h3, hk _ _ h8 h4, h5, h6, h7, h8⟩
  tabG := t.tabG
  tabB := t.tabB
  tabS := t.tabS
  tabK := t.tabK

/-- what is fixed of a block: the program, how many calls may still nest, its scope, whether its cells may be stored into -/
structure Cx where
  T : Tbl
  d : Nat
  sc : Scope
  own : Bool

structure Ctx where
  A : Around
  env : Env
  k₀ : Addr → Obj → Prop
  P₀ : Addr → Obj → Prop
  g₀ : Shared

structure Ok (C : Cx) (X : Ctx) : Prop where
  scope : X.env.scope = C.sc
  kind : C.sc.kind = .function
  globals : X.env.globals = mainGlobals
  builtins : X.env.builtins = builtinsNs
  handled : X.A.handled = none
  depth : X.A.depth + C.d < recursionLimit
  units : X.A.units + 8 * C.d + 200 < cLine
  top : ∀ h : Heap, (∀ a o, X.k₀ a o → h.get? a = some o) → TopF C.T h
  names : (X.env.cells.map (·.1)).Nodup
  apart : ∀ n c n' c', (n, c) ∈ X.env.cells → (n', c') ∈ X.env.cells → n ≠ n' → c ≠ c'
  cL : ∀ n c, (n, c) ∈ X.env.cells → c ≠ X.env.locals
  L0 : ∀ o, ¬ X.k₀ X.env.locals o
  c0 : C.own = true → ∀ n c, (n, c) ∈ X.env.cells → ∀ o, ¬ X.k₀ c o
  cells : ∀ n, X.env.kindOf n = some .cell → ∃ c, (n, c) ∈ X.env.cells
  fact : C.T.fact C.own X.env

/-- a place that the block neither keeps nor changes -/
structure Off0 (X : Ctx) (G : Ghost) (b : Addr) : Prop where
  P : ∀ o, ¬ G.P b o
  k : ∀ o, ¬ X.k₀ b o
  L : b ≠ X.env.locals
  c : ∀ n c, (n, c) ∈ X.env.cells → b ≠ c
  adr : b ∉ G.adr
structure Off (C : Cx) (X : Ctx) (G : Ghost) (b : Addr) : Prop extends Off0 X G b where
  t : C.T.tabs b = none

structure Rep (C : Cx) (X : Ctx) (G : Ghost) (σ : St) (s : Shared) : Prop where
  same : s.gens = X.g₀.gens ∧ s.drawn = X.g₀.drawn ∧ s.os = X.g₀.os
  lmT : G.lm = C.T.lm
  loc : ∃ (m cm : Str → Option Value), s.heap.Ns X.env.locals m ∧ (∀ n c, (n, c) ∈ X.env.cells → s.heap.IsCell c (cm n)) ∧
    ∀ n v, σ.loc n = some v → (X.env.kindOf n = some .local ∧ ∃ val, m n = some val ∧ VR G val v) ∨
      ((X.env.kindOf n = some .cell ∨ X.env.kindOf n = some .free) ∧ (∃ c, (n, c) ∈ X.env.cells) ∧ ∃ val, cm n = some val ∧ VR G val v)
  pers : ∀ a o, G.P a o → s.heap.get? a = some o
  keep : ∀ a o, X.k₀ a o → s.heap.get? a = some o
  grow : ∀ a o, G.P a o → X.P₀ a o ∨ ∀ o', ¬ X.k₀ a o'
  sub : ∀ a o, X.P₀ a o → G.P a o
  notL : ∀ o, ¬ G.P X.env.locals o
  notC : C.own = true → ∀ n c, (n, c) ∈ X.env.cells → ∀ o, ¬ G.P c o
  adrC : ∀ n c, (n, c) ∈ X.env.cells → c ∉ G.adr
  adrL : X.env.locals ∉ G.adr
  nd : G.adr.Nodup
  adr0 : ∀ a ∈ G.adr, ∀ o, ¬ X.k₀ a o
  len : G.adr.length = σ.mu.length
  mu : ∀ (k : Nat) (fr : Bool) (ds : List V), σ.mu[k]? = some (fr, ds) → ∃ (a : Addr) (o : Obj) (vs : Array Value) (n : Nat), G.adr[k]? = some a ∧ s.heap.get? a = some o ∧ LsO o ∧ o.data = .seq vs n ∧ VRs G vs.toList ds ∧
    (fr = true → G.P a o) ∧ (fr = false → ∀ o', ¬ G.P a o')
  tabOff : ∀ Q q, C.T.tabs Q = some q → Off0 X G Q
  tab : TabOk C.T G.P s.heap

noncomputable def Bad : Value → Shared → Prop := fun _ _ => False
noncomputable abbrev Cx.M (C : Cx) : Model := model C.T.prog C.T.w

inductive Post (C : Cx) (X : Ctx) (G : Ghost) (Φ : V → St → Prop) (val : Value) (s' : Shared) : Prop
  | mk (G' : Ghost) (σ' : St) (v : V) (le : G.Le G') (rep : Rep C X G' σ' s') (vr : VR G' val v) (phi : Φ v σ') : Post C X G Φ val s'
theorem Post.le {C : Cx} {X : Ctx} {G G' : Ghost} {Φ : V → St → Prop} {val : Value} {s' : Shared} (h : G.Le G') (p : Post C X G' Φ val s') : Post C X G Φ val s' :=
  let ⟨G'', σ', v, a, b, c, d⟩ := p; ⟨G'', σ', v, h.trans a, b, c, d⟩
theorem Post.mono {C : Cx} {X : Ctx} {G : Ghost} {Φ Ψ : V → St → Prop} {val : Value} {s' : Shared} (p : Post C X G Φ val s') (h : ∀ v σ, Φ v σ → Ψ v σ) : Post C X G Ψ val s' :=
  let ⟨G'', σ', v, a, b, c, d⟩ := p; ⟨G'', σ', v, a, b, c, h _ _ d⟩

noncomputable def We (C : Cx) (σ : St) (e : Expr) (Φ : V → St → Prop) : Prop :=
  ∀ X, Ok C X → ∀ G s, Rep C X G σ s → wpAny C.M X.A (eval e X.env) (Post C X G Φ) Bad s

theorem We.mono {C : Cx} {σ : St} {e : Expr} {Φ Ψ : V → St → Prop} (h : We C σ e Φ) (k : ∀ v σ', Φ v σ' → Ψ v σ') : We C σ e Ψ :=
  fun X ok G s R => wpAny_mono (h X ok G s R) (fun _ _ p => p.mono k) fun _ _ h => h

/-- a test -/
inductive PostT (C : Cx) (X : Ctx) (G : Ghost) (Φ : Bool → St → Prop) (b : Bool) (s' : Shared) : Prop
  | mk (G' : Ghost) (σ' : St) (le : G.Le G') (rep : Rep C X G' σ' s') (phi : Φ b σ') : PostT C X G Φ b s'
noncomputable def Wt (C : Cx) (σ : St) (e : Expr) (Φ : Bool → St → Prop) : Prop :=
  ∀ X, Ok C X → ∀ G s, Rep C X G σ s → wpAny C.M X.A (isTrue e X.env (eval e X.env)) (PostT C X G Φ) Bad s

/-- the state under another heap that keeps all that is known -/
theorem Rep.toks {C : Cx} {X : Ctx} {G : Ghost} {σ : St} {s : Shared} (R : Rep C X G σ s) (t : Nat) : Rep C X G σ { s with toks := t } :=
  ⟨R.same, R.lmT, R.loc, R.pers, R.keep, R.grow, R.sub, R.notL, R.notC, R.adrC, R.adrL, R.nd, R.adr0, R.len, R.mu, R.tabOff, R.tab⟩

theorem Rep.frameLt {C : Cx} {X : Ctx} {G : Ghost} {σ : St} {s : Shared} (R : Rep C X G σ s) : X.env.locals < s.heap.objs.size := let ⟨_, _, h, _⟩ := R.loc; h.lt
theorem Rep.cellLt {C : Cx} {X : Ctx} {G : Ghost} {σ : St} {s : Shared} (R : Rep C X G σ s) {n : Str} {c : Addr} (hc : (n, c) ∈ X.env.cells) : c < s.heap.objs.size := let ⟨_, _, _, h, _⟩ := R.loc; (h n c hc).lt
theorem Rep.adrGet {C : Cx} {X : Ctx} {G : Ghost} {σ : St} {s : Shared} (R : Rep C X G σ s) {a : Addr} (ha : a ∈ G.adr) : ∃ o, s.heap.get? a = some o := by
  obtain ⟨k, hk, e⟩ := List.mem_iff_getElem.mp ha
  have hk' : k < σ.mu.length := R.len ▸ hk
  obtain ⟨a', o, _, _, h1, h2, _⟩ := R.mu k (σ.mu[k]).1 (σ.mu[k]).2 (by simp [hk'])
  rw [List.getElem?_eq_getElem hk, e] at h1
  cases h1
  exact ⟨o, h2⟩

/-- a heap that has grown, or changed where the block keeps nothing -/
theorem Rep.grown {C : Cx} {X : Ctx} {G : Ghost} {σ : St} {s : Shared} (R : Rep C X G σ s) {h' : Heap} (t : Nat) (hk : ∀ a o, s.heap.get? a = some o → h'.get? a = some o) :
    Rep C X G σ { s with heap := h', toks := t } := by
  obtain ⟨m, cm, h1, h2, h3⟩ := R.loc
  refine ⟨R.same, R.lmT, ⟨m, cm, h1.keeps hk, fun n c hc => (h2 n c hc).keeps hk, h3⟩, fun a o h => hk _ _ (R.pers a o h), fun a o h => hk _ _ (R.keep a o h), R.grow, R.sub, R.notL, R.notC, R.adrC, R.adrL, R.nd, R.adr0, R.len, ?_, R.tabOff, R.tab.mono (fun _ _ h => h) fun b o _ _ e => hk b o e⟩
  intro k fr ds hm
  obtain ⟨a, o, vs, n, e1, e2, r⟩ := R.mu k fr ds hm
  exact ⟨a, o, vs, n, e1, hk _ _ e2, r⟩

/-- what is new may be counted as never to change -/
theorem Rep.freeze {C : Cx} {X : Ctx} {G : Ghost} {σ : St} {s : Shared} (R : Rep C X G σ s) {a : Addr} {o : Obj} (hg : s.heap.get? a = some o) (h0 : ∀ o, ¬ X.k₀ a o)
    (hL : a ≠ X.env.locals) (hC : C.own = true → ∀ n c, (n, c) ∈ X.env.cells → a ≠ c) (hA : ∀ (k : Nat) (b : Addr), G.adr[k]? = some b → b = a → ∃ ds, σ.mu[k]? = some (true, ds)) (hT : C.T.tabs a = none) :
    Rep C X ⟨fun b p => G.P b p ∨ (b = a ∧ p = o), G.adr, G.lm⟩ σ s ∧ G.Le ⟨fun b p => G.P b p ∨ (b = a ∧ p = o), G.adr, G.lm⟩ := by
  have le : G.Le ⟨fun b p => G.P b p ∨ (b = a ∧ p = o), G.adr, G.lm⟩ := ⟨fun _ _ h => .inl h, fun _ _ h => h, rfl⟩
  refine ⟨⟨R.same, R.lmT, ?_, ?_, R.keep, ?_, fun b p h => .inl (R.sub b p h), ?_, ?_, R.adrC, R.adrL, R.nd, R.adr0, R.len, ?_, ?_, R.tab.mono (fun _ _ h => .inl h) fun _ _ _ _ e => e⟩, le⟩
  · obtain ⟨m, cm, h1, h2, h3⟩ := R.loc
    refine ⟨m, cm, h1, h2, fun n v hv => ?_⟩
    rcases h3 n v hv with ⟨k, val, e, r⟩ | ⟨k, c, val, e, r⟩
    · exact .inl ⟨k, val, e, r.mono le⟩
    · exact .inr ⟨k, c, val, e, r.mono le⟩
  · rintro b p (h | ⟨rfl, rfl⟩)
    · exact R.pers b p h
    · exact hg
  · rintro b p (h | ⟨rfl, rfl⟩)
    · exact R.grow b p h
    · exact .inr h0
  · rintro p (h | ⟨h, _⟩)
    · exact R.notL p h
    · exact hL h.symm
  · rintro ho n c hc p (h | ⟨h, _⟩)
    · exact R.notC ho n c hc p h
    · exact hC ho n c hc h.symm
  · intro k fr ds hm
    obtain ⟨b, p, vs, n, e1, e2, e3, e4, r, f1, f2⟩ := R.mu k fr ds hm
    refine ⟨b, p, vs, n, e1, e2, e3, e4, r.mono le, fun h => .inl (f1 h), ?_⟩
    rintro h p' (q | ⟨q, _⟩)
    · exact f2 h p' q
    · obtain ⟨ds', hd⟩ := hA k b e1 q
      rw [hm] at hd
      cases hd
      cases h
  · intro Q q hq
    have o0 := R.tabOff Q q hq
    refine ⟨?_, o0.k, o0.L, o0.c, o0.adr⟩
    rintro p (h | ⟨h, _⟩)
    · exact o0.P p h
    · subst h
      rw [hT] at hq; cases hq

theorem Rep.newTab {C : Cx} {X : Ctx} {G : Ghost} {σ : St} {s : Shared} (R : Rep C X G σ s) : C.T.tabs s.heap.objs.size = none := by
  cases h : C.T.tabs s.heap.objs.size with
  | none => rfl
  | some q =>
    obtain ⟨ps, e, _⟩ := R.tab _ _ h
    exact absurd (Heap.lt_size e) (Nat.lt_irrefl _)

/-- a new object that is never to change -/
theorem Rep.push {C : Cx} {X : Ctx} {G : Ghost} {σ : St} {s : Shared} (R : Rep C X G σ s) (o : Obj) (t : Nat) (hf : o.isFreed = false := by rfl) :
    Rep C X ⟨fun b p => G.P b p ∨ (b = s.heap.objs.size ∧ p = o), G.adr, G.lm⟩ σ { s with heap := s.heap.push o, toks := t } ∧ G.Le ⟨fun b p => G.P b p ∨ (b = s.heap.objs.size ∧ p = o), G.adr, G.lm⟩ := by
  have R' := R.grown (h' := s.heap.push o) t fun a p h => Heap.get?_push_of_some _ h
  refine R'.freeze (a := s.heap.objs.size) (o := o) (Heap.get?_push_size _ hf) ?_ (Nat.ne_of_gt R.frameLt) (fun _ n c hc => Nat.ne_of_gt (R.cellLt hc)) ?_ R.newTab
  · exact fun p hq => absurd (Heap.lt_size (R.keep _ _ hq)) (Nat.lt_irrefl _)
  · intro k b hb e
    obtain ⟨p, hp⟩ := R.adrGet (List.mem_of_getElem? hb)
    exact absurd (Heap.lt_size hp) (e ▸ Nat.lt_irrefl _)

/-- a new list that may still change -/
theorem Rep.pushMut {C : Cx} {X : Ctx} {G : Ghost} {σ : St} {s : Shared} (R : Rep C X G σ s) {vs : List Value} {ds : List V} (hv : VRs G vs ds) (t : Nat) :
    Rep C X ⟨G.P, G.adr ++ [s.heap.objs.size], G.lm⟩ ⟨σ.loc, σ.mu ++ [(false, ds)]⟩ { s with heap := s.heap.push { cls := .type "list", data := .seq vs.toArray }, toks := t } ∧ G.Le ⟨G.P, G.adr ++ [s.heap.objs.size], G.lm⟩ := by
  have le : G.Le ⟨G.P, G.adr ++ [s.heap.objs.size], G.lm⟩ := ⟨fun _ _ h => h, fun k a h => by
    show (G.adr ++ [s.heap.objs.size])[k]? = some a
    rw [List.getElem?_append_left (List.getElem?_eq_some_iff.mp h).1]; exact h, rfl⟩
  have R' := R.grown (h' := s.heap.push { cls := .type "list", data := .seq vs.toArray }) t fun a p h => Heap.get?_push_of_some _ h
  have new0 : ∀ o, ¬ X.k₀ s.heap.objs.size o := fun p hq => absurd (Heap.lt_size (R.keep _ _ hq)) (Nat.lt_irrefl _)
  have newP : ∀ o, ¬ G.P s.heap.objs.size o := fun o h => absurd (Heap.lt_size (R.pers _ _ h)) (Nat.lt_irrefl _)
  refine ⟨⟨R'.same, R'.lmT, ?_, R'.pers, R'.keep, R.grow, R.sub, R.notL, R.notC, ?_, ?_, ?_, ?_, ?_, ?_, ?_, R'.tab⟩, le⟩
  · obtain ⟨m, cm, h1, h2, h3⟩ := R'.loc
    refine ⟨m, cm, h1, h2, fun n v hv => ?_⟩
    rcases h3 n v hv with ⟨k, val, e, r⟩ | ⟨k, c, val, e, r⟩
    · exact .inl ⟨k, val, e, r.mono le⟩
    · exact .inr ⟨k, c, val, e, r.mono le⟩
  · intro n c hc hm
    rcases List.mem_append.mp hm with h | h
    · exact R.adrC n c hc h
    · exact absurd (R.cellLt hc) (List.mem_singleton.mp h ▸ Nat.lt_irrefl _)
  · intro hm
    rcases List.mem_append.mp hm with h | h
    · exact R.adrL h
    · exact absurd R.frameLt (List.mem_singleton.mp h ▸ Nat.lt_irrefl _)
  · refine List.nodup_append.mpr ⟨R.nd, by simp, ?_⟩
    intro a ha b hb e
    rw [List.mem_singleton.mp hb] at e
    obtain ⟨p, hp⟩ := R.adrGet ha
    exact absurd (Heap.lt_size hp) (e ▸ Nat.lt_irrefl _)
  · intro a ha
    rcases List.mem_append.mp ha with h | h
    · exact R.adr0 a h
    · rw [List.mem_singleton.mp h]; exact new0
  · simp [R.len]
  · intro k fr ds' hm
    rcases Nat.lt_trichotomy k σ.mu.length with hk | hk | hk
    · rw [List.getElem?_append_left hk] at hm
      obtain ⟨a, o, us, n, e1, e2, e3, e4, r, f1, f2⟩ := R'.mu k fr ds' hm
      exact ⟨a, o, us, n, le.adr _ _ e1, e2, e3, e4, r.mono le, f1, f2⟩
    · subst hk
      rw [List.getElem?_append_right (Nat.le_refl _)] at hm
      simp only [Nat.sub_self, List.getElem?_cons_zero, Option.some.injEq, Prod.mk.injEq] at hm
      obtain ⟨rfl, rfl⟩ := hm
      refine ⟨s.heap.objs.size, _, vs.toArray, 0, ?_, Heap.get?_push_size _ rfl, ⟨rfl, rfl, rfl⟩, rfl, ?_, fun h => (by cases h), fun _ => newP⟩
      · rw [← R.len, List.getElem?_append_right (Nat.le_refl _)]; simp
      · simpa using hv.mono le
    · rw [List.getElem?_append_right (Nat.le_of_lt hk)] at hm
      obtain ⟨x, hx⟩ : ∃ x, k - σ.mu.length = x + 1 := ⟨k - σ.mu.length - 1, by omega⟩
      rw [hx] at hm
      simp at hm
  · intro Q q hq
    have o0 := R.tabOff Q q hq
    refine ⟨o0.P, o0.k, o0.L, o0.c, fun hm => ?_⟩
    rcases List.mem_append.mp hm with h | h
    · exact o0.adr h
    · rw [List.mem_singleton.mp h, R.newTab] at hq; cases hq

/-! VL2 -/
noncomputable def St.set (σ : St) (n : Str) (v : V) : St := ⟨fun y => if y = n then some v else σ.loc y, σ.mu⟩

noncomputable def kindOk (C : Cx) (n : Str) : Bool := match C.sc.names.lookup n with
  | some .local => true
  | some .cell => C.own
  | _ => false

theorem lookup_mem {α : Type} : ∀ {l : List (Str × α)} {n : Str} {c : α}, (l.map (·.1)).Nodup → (n, c) ∈ l → l.lookup n = some c
  | (m, d) :: r, n, c, hn, hm => by
    simp only [List.map_cons, List.nodup_cons] at hn
    rcases List.mem_cons.mp hm with e | h
    · cases e; simp
    · have hne : n ≠ m := fun e => hn.1 (e ▸ List.mem_map.mpr ⟨_, h, rfl⟩)
      have : (n == m) = false := by simpa using hne
      rw [List.lookup_cons, this]
      exact lookup_mem hn.2 h

theorem store_wp {C : Cx} {X : Ctx} (ok : Ok C X) {G : Ghost} {σ : St} {s : Shared} (R : Rep C X G σ s) {n : Str} {val : Value} {v : V} (hv : VR G val v) (hk : kindOk C n = true)
    {Q : Unit → Shared → Prop} {E : Value → Shared → Prop} (h : ∀ s', Rep C X G (σ.set n v) s' → Q () s') : wpAny C.M X.A (storeName X.env n val) Q E s := by
  have hko : X.env.kindOf n = C.sc.names.lookup n := by unfold Env.kindOf; rw [ok.scope]
  have hkf : X.env.scope.kind = .function := by rw [ok.scope]; exact ok.kind
  obtain ⟨m, cm, h1, h2, h3⟩ := R.loc
  unfold kindOk at hk
  split at hk
  · rename_i hl
    refine wpAny_storeName_local (hko.trans hl) h1 (fun h' hn' hs' => h _ ?_) (by rw [hkf]; rfl)
    have keep : ∀ a o, a ≠ X.env.locals → s.heap.get? a = some o → h'.get? a = some o := fun a o ha e => (hs'.2 a ha).trans e
    refine ⟨R.same, R.lmT, ⟨_, cm, hn', fun k c hm => (h2 k c hm).sameBut hs' (ok.cL k c hm), fun k w hw => ?_⟩, fun a o hp => keep a o (fun e => R.notL o (e ▸ hp)) (R.pers a o hp),
      fun a o e => keep a o (fun e' => ok.L0 o (e' ▸ e)) (R.keep a o e), R.grow, R.sub, R.notL, R.notC, R.adrC, R.adrL, R.nd, R.adr0, R.len, fun k fr ds hm => ?_, R.tabOff, R.tab.mono (fun _ _ h => h) fun b o q hq e => keep b o (R.tabOff b q hq).L e⟩
    · unfold St.set at hw
      dsimp only at hw
      by_cases e : k = n
      · subst e
        rw [if_pos rfl] at hw
        cases hw
        exact .inl ⟨hko.trans hl, val, by simp, hv⟩
      · rw [if_neg e] at hw
        rcases h3 k w hw with ⟨a, u, b, c⟩ | q
        · exact .inl ⟨a, u, by simp [e, b], c⟩
        · exact .inr q
    · obtain ⟨a, o, vs, n', e1, e2, r⟩ := R.mu k fr ds hm
      exact ⟨a, o, vs, n', e1, keep a o (fun e => R.adrL (e ▸ List.mem_of_getElem? e1)) e2, r⟩
  · rename_i hl
    have hl' : X.env.kindOf n = some .cell := hko.trans hl
    obtain ⟨c, hcm⟩ := ok.cells n hl'
    refine wpAny_storeName_cell hkf hl' (lookup_mem ok.names hcm) (h2 n c hcm) (fun h' hc' hs' => h _ ?_)
    have keep : ∀ a o, a ≠ c → s.heap.get? a = some o → h'.get? a = some o := fun a o ha e => (hs'.2 a ha).trans e
    refine ⟨R.same, R.lmT, ⟨m, fun y => if y = n then some val else cm y, h1.sameBut hs' (ok.cL n c hcm).symm, fun k d hm => ?_, fun k w hw => ?_⟩, fun a o hp => keep a o (fun e => R.notC hk n c hcm o (e ▸ hp)) (R.pers a o hp),
      fun a o e => keep a o (fun e' => ok.c0 hk n c hcm o (e' ▸ e)) (R.keep a o e), R.grow, R.sub, R.notL, R.notC, R.adrC, R.adrL, R.nd, R.adr0, R.len, fun k fr ds hm => ?_, R.tabOff, R.tab.mono (fun _ _ h => h) fun b o q hq e => keep b o ((R.tabOff b q hq).c n c hcm) e⟩
    · by_cases e : k = n
      · subst e
        have : d = c := Option.some.inj ((lookup_mem ok.names hm).symm.trans (lookup_mem ok.names hcm))
        subst this
        simpa using hc'
      · have := (h2 k d hm).sameBut hs' (ok.apart k d n c hm hcm e)
        simpa [if_neg e] using this
    · unfold St.set at hw
      dsimp only at hw
      by_cases e : k = n
      · subst e
        rw [if_pos rfl] at hw
        cases hw
        exact .inr ⟨.inl hl', ⟨c, hcm⟩, val, by simp, hv⟩
      · rw [if_neg e] at hw
        rcases h3 k w hw with q | ⟨a, b, u, p, q⟩
        · exact .inl q
        · exact .inr ⟨a, b, u, by simp [e, p], q⟩
    · obtain ⟨a, o, vs, n', e1, e2, r⟩ := R.mu k fr ds hm
      exact ⟨a, o, vs, n', e1, keep a o (fun e => R.adrC n c hcm (e ▸ List.mem_of_getElem? e1)) e2, r⟩
  · cases hk

section
variable {C : Cx} {σ : St} {Φ : V → St → Prop} {Ψ : Bool → St → Prop} {pos : Pos}

theorem We.name {n : Str} {v : V} (hv : σ.loc n = some v) (h : Φ v σ) (hd : (n == ("__debug__" : Str)) = false := by decide) (hcd : (n == ("__classdict__" : Str)) = false := by decide) : We C σ (.Name n pos) Φ := by
  intro X ok G s R
  have hkf : X.env.scope.kind = .function := by rw [ok.scope]; exact ok.kind
  obtain ⟨m, cm, h1, h2, h3⟩ := R.loc
  rcases h3 n v hv with ⟨k, val, e, r⟩ | ⟨k, ⟨c, hc⟩, val, e, r⟩
  · exact wpAny_Name (wpAny_loadName_local hkf k h1 e ⟨G, σ, v, .refl, R, r, h⟩) hd
  · rcases k with k | k
    · exact wpAny_Name (wpAny_loadName_cell hkf k (lookup_mem ok.names hc) (e ▸ h2 n c hc) ⟨G, σ, v, .refl, R, r, h⟩) hd
    · exact wpAny_Name (wpAny_loadName_free hkf k (lookup_mem ok.names hc) (e ▸ h2 n c hc) ⟨G, σ, v, .refl, R, r, h⟩ hcd) hd

theorem We.int {i : Int} {k : Nat} (h : Φ (.int i) σ) : We C σ (.Constant (.int i) k pos) Φ := fun _ _ G _ R => wpAny_Constant_int ⟨G, σ, _, .refl, R.toks _, .int _ _, h⟩
theorem We.none {k : Nat} (h : Φ .none σ) : We C σ (.Constant .none k pos) Φ := fun _ _ G _ R => wpAny_Constant_none ⟨G, σ, _, .refl, R, .none, h⟩
theorem We.bytes {b : List UInt8} {k : Nat} (h : Φ (.bytes b) σ) : We C σ (.Constant (.bytes b) k pos) Φ := fun X _ G s R => by
  show wpAny _ _ (mkTextBytes b.toArray) _ _ s
  unfold mkTextBytes
  refine wpAny_bind (wpAny_fresh (wpAny_pure ⟨G, σ, _, .refl, R.toks _, ?_, h⟩))
  have := VR.bytes (G := G) b.toArray s.toks
  simpa using this

noncomputable def Bi (C : Cx) (σ : St) (op : Operator) (a b : V) (Φ : V → St → Prop) : Prop :=
  ∀ X, Ok C X → ∀ G s va vb, Rep C X G σ s → VR G va a → VR G vb b → wpAny C.M X.A (binaryOp op va vb) (Post C X G Φ) Bad s
noncomputable def Un (C : Cx) (σ : St) (op : UnaryOp) (a : V) (Φ : V → St → Prop) : Prop :=
  ∀ X, Ok C X → ∀ G s va, Rep C X G σ s → VR G va a → wpAny C.M X.A (unaryOp op va) (Post C X G Φ) Bad s
noncomputable def Cm (C : Cx) (σ : St) (op : CmpOp) (a b : V) (Φ : V → St → Prop) : Prop :=
  ∀ X, Ok C X → ∀ G s va vb, Rep C X G σ s → VR G va a → VR G vb b → wpAny C.M X.A (compareOp op va vb) (Post C X G Φ) Bad s
noncomputable def Tr (C : Cx) (σ : St) (a : V) (Φ : Bool → St → Prop) : Prop :=
  ∀ X, Ok C X → ∀ G s va, Rep C X G σ s → VR G va a → wpAny C.M X.A (truthy va) (PostT C X G Φ) Bad s

theorem PostT.le {X : Ctx} {G G' : Ghost} {b : Bool} {s' : Shared} (h : G.Le G') (p : PostT C X G' Ψ b s') : PostT C X G Ψ b s' := let ⟨G'', σ', a, r, q⟩ := p; ⟨G'', σ', h.trans a, r, q⟩

theorem We.bin {l r : Expr} {op : Operator} (h : We C σ l fun a σ₁ => We C σ₁ r fun b σ₂ => Bi C σ₂ op a b Φ) : We C σ (.BinOp l op r pos) Φ := fun X ok G s R =>
  wpAny_BinOp (wpAny_mono (h X ok G s R) (fun _ s₁ ⟨G₁, _, _, l₁, R₁, r₁, h₁⟩ => wpAny_mono (h₁ X ok G₁ s₁ R₁)
    (fun _ s₂ ⟨G₂, _, _, l₂, R₂, r₂, h₂⟩ => wpAny_mono (h₂ X ok G₂ s₂ _ _ R₂ (r₁.mono l₂) r₂) (fun _ _ p => p.le (l₁.trans l₂)) fun _ _ e => e) fun _ _ e => e) fun _ _ e => e)
theorem We.un {x : Expr} {op : UnaryOp} (h : We C σ x fun a σ₁ => Un C σ₁ op a Φ) : We C σ (.UnaryOp op x pos) Φ := fun X ok G s R =>
  UnaryOp_ (wpAny_mono (h X ok G s R) (fun _ s₁ ⟨G₁, _, _, l₁, R₁, r₁, h₁⟩ => wpAny_mono (h₁ X ok G₁ s₁ _ R₁ r₁) (fun _ _ p => p.le l₁) fun _ _ e => e) fun _ _ e => e)
theorem We.cmp {l r : Expr} {op : CmpOp} (h : We C σ l fun a σ₁ => We C σ₁ r fun b σ₂ => Cm C σ₂ op a b Φ) (hm : behindInMarks op r = false := by rfl) : We C σ (.Compare l [op] [r] pos) Φ := fun X ok G s R =>
  wpAny_Compare1 (wpAny_mono (h X ok G s R) (fun _ s₁ ⟨G₁, _, _, l₁, R₁, r₁, h₁⟩ => wpAny_mono (h₁ X ok G₁ s₁ R₁)
    (fun _ s₂ ⟨G₂, _, _, l₂, R₂, r₂, h₂⟩ => wpAny_mono (h₂ X ok G₂ s₂ _ _ R₂ (r₁.mono l₂) r₂) (fun _ _ p => p.le (l₁.trans l₂)) fun _ _ e => e) fun _ _ e => e) fun _ _ e => e) hm
theorem We.ifexp {t b o : Expr} (h : Wt C σ t fun c σ₁ => if c = true then We C σ₁ b Φ else We C σ₁ o Φ) : We C σ (.IfExp t b o pos) Φ := fun X ok G s R =>
  IfExp_ (wpAny_mono (h X ok G s R) (fun c s₁ ⟨G₁, σ₁, l₁, R₁, h₁⟩ => by
    cases c
    · exact wpAny_mono (h₁ X ok G₁ s₁ R₁) (fun _ _ p => p.le l₁) fun _ _ e => e
    · exact wpAny_mono (h₁ X ok G₁ s₁ R₁) (fun _ _ p => p.le l₁) fun _ _ e => e) fun _ _ e => e)

theorem Wt.cmp {l r : Expr} {op : CmpOp} (h : We C σ l fun a σ₁ => We C σ₁ r fun b σ₂ => Cm C σ₂ op a b fun c σ₃ => Tr C σ₃ c Ψ) (hm : behindInMarks op r = false := by rfl) : Wt C σ (.Compare l [op] [r] pos) Ψ := fun X ok G s R =>
  wpAny_isTrue_Compare1 (wpAny_mono (h X ok G s R) (fun _ s₁ ⟨G₁, _, _, l₁, R₁, r₁, h₁⟩ => wpAny_mono (h₁ X ok G₁ s₁ R₁)
    (fun _ s₂ ⟨G₂, _, _, l₂, R₂, r₂, h₂⟩ => wpAny_mono (h₂ X ok G₂ s₂ _ _ R₂ (r₁.mono l₂) r₂)
      (fun _ s₃ ⟨G₃, _, _, l₃, R₃, r₃, h₃⟩ => wpAny_mono (h₃ X ok G₃ s₃ _ R₃ r₃) (fun _ _ p => p.le ((l₁.trans l₂).trans l₃)) fun _ _ e => e) fun _ _ e => e) fun _ _ e => e) fun _ _ e => e) hm
theorem Wt.not {x : Expr} (h : Wt C σ x fun c σ₁ => Ψ (!c) σ₁) : Wt C σ (.UnaryOp .Not x pos) Ψ := fun X ok G s R =>
  isTrue_not (wpAny_mono (h X ok G s R) (fun _ _ ⟨G₁, σ₁, l₁, R₁, h₁⟩ => ⟨G₁, σ₁, l₁, R₁, h₁⟩) fun _ _ e => e)
noncomputable def plainTest : Expr → Bool
  | .UnaryOp .Not _ _ | .BoolOp .. | .IfExp .. | .Compare .. => false
  | _ => true
theorem Wt.plain {e : Expr} (h : We C σ e fun a σ₁ => Tr C σ₁ a Ψ) (hp : plainTest e = true := by rfl) : Wt C σ e Ψ := fun X ok G s R => by
  refine isTrue_plain (wpAny_mono (h X ok G s R) (fun _ s₁ ⟨G₁, _, _, l₁, R₁, r₁, h₁⟩ => wpAny_mono (h₁ X ok G₁ s₁ _ R₁ r₁) (fun _ _ p => p.le l₁) fun _ _ e => e) fun _ _ e => e) ?_
  cases e with
  | UnaryOp op x p => cases op <;> first | rfl | cases hp
  | _ => first | rfl | cases hp

noncomputable def Wal (C : Cx) (op : BoolOp) (σ : St) (es : List Expr) (Ψ : Bool → St → Prop) : Prop :=
  ∀ X, Ok C X → ∀ G s, Rep C X G σ s → wpAny C.M X.A (allTrue op es X.env) (PostT C X G Ψ) Bad s
theorem Wt.all {op : BoolOp} {es : List Expr} (h : Wal C op σ es Ψ) : Wt C σ (.BoolOp op es pos) Ψ := fun X ok G s R => wpAny_isTrue_BoolOp (h X ok G s R)
theorem Wal.and_nil (h : Ψ true σ) : Wal C .And σ [] Ψ := fun _ _ G _ R => wpAny_allTrue_And_nil ⟨G, σ, .refl, R, h⟩
theorem Wal.or_nil (h : Ψ false σ) : Wal C .Or σ [] Ψ := fun _ _ G _ R => wpAny_allTrue_Or_nil ⟨G, σ, .refl, R, h⟩
theorem Wal.and {x : Expr} {r : List Expr} (h : Wt C σ x fun c σ₁ => if c = true then Wal C .And σ₁ r Ψ else Ψ false σ₁) : Wal C .And σ (x :: r) Ψ := fun X ok G s R =>
  wpAny_allTrue_And_cons (wpAny_mono (h X ok G s R) (fun c s₁ ⟨G₁, σ₁, l₁, R₁, h₁⟩ => by
    cases c
    · exact ⟨G₁, σ₁, l₁, R₁, h₁⟩
    · exact wpAny_mono (h₁ X ok G₁ s₁ R₁) (fun _ _ p => p.le l₁) fun _ _ e => e) fun _ _ e => e)
theorem Wal.or {x : Expr} {r : List Expr} (h : Wt C σ x fun c σ₁ => if c = true then Ψ true σ₁ else Wal C .Or σ₁ r Ψ) : Wal C .Or σ (x :: r) Ψ := fun X ok G s R =>
  wpAny_allTrue_Or_cons (wpAny_mono (h X ok G s R) (fun c s₁ ⟨G₁, σ₁, l₁, R₁, h₁⟩ => by
    cases c
    · exact wpAny_mono (h₁ X ok G₁ s₁ R₁) (fun _ _ p => p.le l₁) fun _ _ e => e
    · exact ⟨G₁, σ₁, l₁, R₁, h₁⟩) fun _ _ e => e)
end

/-! statements -/
inductive Fl where
  | next | brk | cont | ret (v : V)
inductive FR (G : Ghost) : Flow → Fl → Prop
  | next : FR G .next .next
  | brk : FR G .brk .brk
  | cont : FR G .cont .cont
  | ret {v : Value} {d : V} (r : VR G v d) : FR G (.ret v) (.ret d)
inductive PostS (C : Cx) (X : Ctx) (G : Ghost) (Φ : Fl → St → Prop) (f : Flow) (s' : Shared) : Prop
  | mk (G' : Ghost) (σ' : St) (d : Fl) (le : G.Le G') (rep : Rep C X G' σ' s') (fr : FR G' f d) (phi : Φ d σ') : PostS C X G Φ f s'
noncomputable def Ws (C : Cx) (σ : St) (st : Stmt) (Φ : Fl → St → Prop) : Prop := ∀ X, Ok C X → ∀ G s, Rep C X G σ s → wpAny C.M X.A (exec st X.env) (PostS C X G Φ) Bad s
noncomputable def Wx (C : Cx) (σ : St) (ss : List Stmt) (Φ : Fl → St → Prop) : Prop := ∀ X, Ok C X → ∀ G s, Rep C X G σ s → wpAny C.M X.A (execs ss X.env) (PostS C X G Φ) Bad s
section
variable {C : Cx} {σ : St} {Φ : Fl → St → Prop} {pos : Pos} {rest : List Stmt}
theorem PostS.le {X : Ctx} {G G' : Ghost} {f : Flow} {s' : Shared} (h : G.Le G') (p : PostS C X G' Φ f s') : PostS C X G Φ f s' :=
  let ⟨G'', σ', v, a, b, c, d⟩ := p; ⟨G'', σ', v, h.trans a, b, c, d⟩
theorem PostS.mono {X : Ctx} {G : Ghost} {Ψ : Fl → St → Prop} {f : Flow} {s' : Shared} (p : PostS C X G Φ f s') (h : ∀ v σ, Φ v σ → Ψ v σ) : PostS C X G Ψ f s' :=
  let ⟨G'', σ', v, a, b, c, d⟩ := p; ⟨G'', σ', v, a, b, c, h _ _ d⟩
theorem Wx.mono {ss : List Stmt} {Ψ : Fl → St → Prop} (h : Wx C σ ss Φ) (k : ∀ v σ', Φ v σ' → Ψ v σ') : Wx C σ ss Ψ :=
  fun X ok G s R => wpAny_mono (h X ok G s R) (fun _ _ p => p.mono k) fun _ _ h => h
theorem Ws.mono {st : Stmt} {Ψ : Fl → St → Prop} (h : Ws C σ st Φ) (k : ∀ v σ', Φ v σ' → Ψ v σ') : Ws C σ st Ψ :=
  fun X ok G s R => wpAny_mono (h X ok G s R) (fun _ _ p => p.mono k) fun _ _ h => h
theorem Wx.nil (h : Φ .next σ) : Wx C σ [] Φ := fun _ _ G _ R => wpAny_execs_nil ⟨G, σ, Fl.next, .refl, R, .next, h⟩
/-- what follows a statement -/
noncomputable def After (C : Cx) (rest : List Stmt) (Φ : Fl → St → Prop) : Fl → St → Prop
  | .next, σ' => Wx C σ' rest Φ
  | f, σ' => Φ f σ'
theorem Wx.cons {st : Stmt} (h : Ws C σ st (After C rest Φ)) : Wx C σ (st :: rest) Φ := fun X ok G s R =>
  wpAny_execs_cons (wpAny_mono (h X ok G s R) (fun f s₁ ⟨G₁, σ₁, d, l₁, R₁, r₁, h₁⟩ => by
    cases r₁ with
    | next => exact wpAny_mono (h₁ X ok G₁ s₁ R₁) (fun _ _ p => p.le l₁) fun _ _ e => e
    | brk => exact ⟨G₁, σ₁, _, l₁, R₁, .brk, h₁⟩
    | cont => exact ⟨G₁, σ₁, _, l₁, R₁, .cont, h₁⟩
    | ret r => exact ⟨G₁, σ₁, _, l₁, R₁, .ret r, h₁⟩) fun _ _ e => e)
theorem Ws.assign {x : Str} {px : Pos} {e : Expr} (h : We C σ e fun v σ₁ => Φ .next (σ₁.set x v)) (hk : kindOk C x = true := by rfl)
    (hsw : ∀ env, swapsWith e (some (.Name x px)) pos.line env = pure false := by intro _; rfl) : Ws C σ (.Assign [.Name x px] e pos) Φ := fun X ok G s R =>
  wpAny_Assign_Name (wpAny_mono (h X ok G s R) (fun _ s₁ ⟨G₁, σ₁, v, l₁, R₁, r₁, h₁⟩ => store_wp ok R₁ r₁ hk fun s' R' => ⟨G₁, _, Fl.next, l₁, R', .next, h₁⟩) fun _ _ e => e) (hsw _)
theorem Ws.ret {e : Expr} (h : We C σ e fun v σ₁ => Φ (.ret v) σ₁) : Ws C σ (.Return (some e) pos) Φ := fun X ok G s R =>
  wpAny_Return_some (wpAny_mono (h X ok G s R) (fun _ s₁ ⟨G₁, σ₁, v, l₁, R₁, r₁, h₁⟩ => ⟨G₁, σ₁, .ret v, l₁, R₁, .ret r₁, h₁⟩) fun _ _ e => e)
theorem Ws.ret0 (h : Φ (.ret .none) σ) : Ws C σ (.Return none pos) Φ := fun X ok G s R => wpAny_Return_none ⟨G, σ, .ret .none, .refl, R, .ret .none, h⟩
theorem Ws.if {t : Expr} {b o : List Stmt} (h : Wt C σ t fun c σ₁ => if c = true then Wx C σ₁ b Φ else Wx C σ₁ o Φ) : Ws C σ (.If t b o pos) Φ := fun X ok G s R =>
  wpAny_If (wpAny_mono (h X ok G s R) (fun c s₁ ⟨G₁, σ₁, l₁, R₁, h₁⟩ => by
    cases c
    · exact wpAny_mono (h₁ X ok G₁ s₁ R₁) (fun _ _ p => p.le l₁) fun _ _ e => e
    · exact wpAny_mono (h₁ X ok G₁ s₁ R₁) (fun _ _ p => p.le l₁) fun _ _ e => e) fun _ _ e => e)
end

/-! VL3 -/
mutual
noncomputable def V.isPure : V → Bool
  | .ref _ => false
  | .list vs => arePure vs
  | .tup vs => arePure vs
  | _ => true
noncomputable def arePure : List V → Bool
  | [] => true
  | v :: r => v.isPure && arePure r
end
noncomputable abbrev Ghost.bare (G : Ghost) : Ghost := ⟨G.P, [], G.lm⟩
theorem VR.bare {G : Ghost} {v : Value} {d : V} (r : VR G v d) : d.isPure = true → VR G.bare v d :=
  @VR.rec G (motive_1 := fun v d _ => d.isPure = true → VR G.bare v d) (motive_2 := fun vs ds _ => arePure ds = true → VRs G.bare vs ds) (fun _ => .none) (fun b _ => .bool b) (fun i t _ => .int i t) (fun b t _ => .bytes b t)
    (fun p c e _ ih h => .list p c e (ih h)) (fun p c e _ ih h => .tup p c e (ih h)) (fun _ h => absurd h Bool.false_ne_true) (fun p o _ => .range p o) (fun p c d l q e f _ => .lam p c d l q e f)
    (fun _ => .nil) (fun _ _ ih1 ih2 h => .cons (ih1 (Bool.and_eq_true_iff.mp h).1) (ih2 (Bool.and_eq_true_iff.mp h).2)) v d r
theorem VRs.bare {G : Ghost} {vs : List Value} {ds : List V} (r : VRs G vs ds) (h : arePure ds = true) : VRs G.bare vs ds := by
  induction ds generalizing vs with
  | nil => obtain rfl := r.nil_inv; exact .nil
  | cons d ds ih =>
    obtain ⟨v, vs', rfl, p, q⟩ := r.cons_inv
    have h' := Bool.and_eq_true_iff.mp h
    exact .cons (VR.bare p h'.1) (ih q h'.2)
theorem arePure_map_int (ns : List Int) : arePure (ns.map .int) = true := by
  induction ns with
  | nil => rfl
  | cons n r ih => simp [arePure, V.isPure, ih]
theorem arePure_append (a b : List V) : arePure (a ++ b) = (arePure a && arePure b) := by
  induction a with
  | nil => simp [arePure]
  | cons x r ih => simp [arePure, ih, Bool.and_assoc]

noncomputable def St.pur (σ : St) (v : V) : Option (V × St) := if v.isPure = true then some (v, σ) else match v with
  | .ref k => match σ.mu[k]? with
    | some (_, ds) => if arePure ds = true then some (.list ds, ⟨σ.loc, σ.mu.set k (true, ds)⟩) else none
    | none => none
  | _ => none
noncomputable def St.purs (σ : St) : List V → Option (List V × St)
  | [] => some ([], σ)
  | v :: r => match σ.pur v with
    | some (v', σ₁) => match σ₁.purs r with
      | some (r', σ₂) => some (v' :: r', σ₂)
      | none => none
    | none => none

section
variable {C : Cx} {X : Ctx} {G : Ghost} {σ σ' : St} {s : Shared}

/-- the heap has grown, and some of what is new counts as never to change -/
theorem Rep.extendS (R : Rep C X G σ s) {h' : Heap} {tk : Nat} {P' : Addr → Obj → Prop} {ex sf : Addr → Prop} (hex : ∀ a, ex a → Off C X G a) (hsf : ∀ a, sf a → a = X.env.locals ∧ (∀ o, ¬ X.k₀ a o) ∧ ∀ n c, (n, c) ∈ X.env.cells → c ≠ a) (hL : ∀ m, s.heap.Ns X.env.locals m → h'.Ns X.env.locals m)
    (hk : ∀ a o, C.T.tabs a = none → ¬ ex a → ¬ sf a → s.heap.get? a = some o → h'.get? a = some o) (hs : ∀ a o, G.P a o → P' a o)
    (hp : ∀ a o, P' a o → h'.get? a = some o) (hn : ∀ a o, P' a o → G.P a o ∨ s.heap.get? a = none ∨ ex a) (ht : TabOk C.T P' h') : Rep C X ⟨P', G.adr, G.lm⟩ σ { s with heap := h', toks := tk } ∧ G.Le ⟨P', G.adr, G.lm⟩ := by
  have le : G.Le ⟨P', G.adr, G.lm⟩ := ⟨hs, fun _ _ h => h, rfl⟩
  have noTab : ∀ a, (∀ q, C.T.tabs a = some q → False) → C.T.tabs a = none := fun a h => by
    cases e : C.T.tabs a with
    | none => rfl
    | some q => exact (h q e).elim
  obtain ⟨m, cm, h1, h2, h3⟩ := R.loc
  refine ⟨⟨R.same, R.lmT, ⟨m, cm, hL _ h1, fun n c hc => ?_, fun n v hv => ?_⟩, hp, fun a o e => hk a o (noTab _ fun q hq => (R.tabOff _ q hq).k o e) (fun x => (hex _ x).k o e) (fun x => (hsf _ x).2.1 o e) (R.keep a o e), ?_, fun b p h => hs _ _ (R.sub b p h), ?_, ?_, R.adrC, R.adrL, R.nd, R.adr0, R.len, ?_, ?_, ht⟩, le⟩
  · obtain ⟨o, e1, e2⟩ := h2 n c hc
    exact ⟨o, hk _ _ (noTab _ fun q hq => (R.tabOff _ q hq).c n c hc rfl) (fun x => (hex _ x).c n c hc rfl) (fun x => (hsf _ x).2.2 n c hc rfl) e1, e2⟩
  · rcases h3 n v hv with ⟨k, val, e, r⟩ | ⟨k, c, val, e, r⟩
    · exact .inl ⟨k, val, e, r.mono le⟩
    · exact .inr ⟨k, c, val, e, r.mono le⟩
  · intro a o h
    rcases hn a o h with q | q | q
    · exact R.grow a o q
    · exact .inr fun p e => by rw [R.keep _ _ e] at q; cases q
    · exact .inr (hex a q).k
  · intro o h
    rcases hn _ o h with q | q | q
    · exact R.notL o q
    · obtain ⟨oL, _, _, e, _⟩ := h1
      rw [e] at q; cases q
    · exact (hex _ q).L rfl
  · intro ho n c hc o h
    rcases hn _ o h with q | q | q
    · exact R.notC ho n c hc o q
    · obtain ⟨oc, e, _⟩ := h2 n c hc
      rw [e] at q; cases q
    · exact (hex _ q).c n c hc rfl
  · intro k fr ds hm
    obtain ⟨a, o, vs, n, e1, e2, e3, e4, r, f1, f2⟩ := R.mu k fr ds hm
    refine ⟨a, o, vs, n, e1, hk _ _ (noTab _ fun q hq => (R.tabOff _ q hq).adr (List.mem_of_getElem? e1)) (fun x => (hex _ x).adr (List.mem_of_getElem? e1)) (fun x => R.adrL ((hsf _ x).1 ▸ List.mem_of_getElem? e1)) e2, e3, e4, r.mono le, fun h => hs _ _ (f1 h), fun h o' q => ?_⟩
    rcases hn a o' q with q | q | q
    · exact f2 h o' q
    · rw [e2] at q; cases q
    · exact (hex _ q).adr (List.mem_of_getElem? e1)
  · intro Q q hq
    have o0 := R.tabOff Q q hq
    refine ⟨fun o h => ?_, o0.k, o0.L, o0.c, o0.adr⟩
    rcases hn Q o h with w | w | w
    · exact o0.P o w
    · obtain ⟨ps, e, _⟩ := R.tab Q q hq
      rw [e] at w; cases w
    · have := (hex _ w).t
      rw [hq] at this; cases this

theorem Rep.extendX (R : Rep C X G σ s) {h' : Heap} {tk : Nat} {P' : Addr → Obj → Prop} {ex : Addr → Prop} (hex : ∀ a, ex a → Off C X G a) (hk : ∀ a o, C.T.tabs a = none → ¬ ex a → s.heap.get? a = some o → h'.get? a = some o) (hs : ∀ a o, G.P a o → P' a o)
    (hp : ∀ a o, P' a o → h'.get? a = some o) (hn : ∀ a o, P' a o → G.P a o ∨ s.heap.get? a = none ∨ ex a) (ht : TabOk C.T P' h') : Rep C X ⟨P', G.adr, G.lm⟩ σ { s with heap := h', toks := tk } ∧ G.Le ⟨P', G.adr, G.lm⟩ :=
  R.extendS (sf := fun _ => False) hex (fun _ h => h.elim) (fun m h1 => h1.at' fun o e => hk _ o (by
    cases q : C.T.tabs X.env.locals with
    | none => rfl
    | some q' => exact ((R.tabOff _ q' q).L rfl).elim) (fun x => (hex _ x).L rfl) e) (fun a o h1 h2 _ e => hk a o h1 h2 e) hs hp hn ht

theorem Rep.extend (R : Rep C X G σ s) {h' : Heap} {tk : Nat} {P' : Addr → Obj → Prop} (hk : ∀ a o, C.T.tabs a = none → s.heap.get? a = some o → h'.get? a = some o) (hs : ∀ a o, G.P a o → P' a o)
    (hp : ∀ a o, P' a o → h'.get? a = some o) (hn : ∀ a o, P' a o → G.P a o ∨ s.heap.get? a = none) (ht : TabOk C.T P' h') : Rep C X ⟨P', G.adr, G.lm⟩ σ { s with heap := h', toks := tk } ∧ G.Le ⟨P', G.adr, G.lm⟩ :=
  R.extendX (ex := fun _ => False) (fun _ h => h.elim) (fun a o h _ e => hk a o h e) hs hp (fun a o h => (hn a o h).elim .inl fun q => .inr (.inl q)) ht
theorem Rep.congr (R : Rep C X G σ s) {s' : Shared} (hh : s'.heap = s.heap) (hs : s'.gens = X.g₀.gens ∧ s'.drawn = X.g₀.drawn ∧ s'.os = X.g₀.os) : Rep C X G σ s' := by
  obtain ⟨a1, a2, a3, a4, a5⟩ := s'
  obtain ⟨b1, b2, b3, b4, b5⟩ := s
  dsimp only at hh
  subst hh
  exact ⟨hs, R.lmT, R.loc, R.pers, R.keep, R.grow, R.sub, R.notL, R.notC, R.adrC, R.adrL, R.nd, R.adr0, R.len, R.mu, R.tabOff, R.tab⟩

/-- a list may be declared never to change again -/
theorem Rep.fix (R : Rep C X G σ s) {k : Nat} {fr : Bool} {ds : List V} (hk : σ.mu[k]? = some (fr, ds)) {a : Addr} (ha : G.adr[k]? = some a) :
    ∃ P', Rep C X ⟨P', G.adr, G.lm⟩ ⟨σ.loc, σ.mu.set k (true, ds)⟩ s ∧ G.Le ⟨P', G.adr, G.lm⟩ ∧ ∃ o vs n, P' a o ∧ LsO o ∧ o.data = .seq vs n ∧ VRs G vs.toList ds := by
  obtain ⟨a', o, vs, n, e1, e2, e3, e4, r, f1, f2⟩ := R.mu k fr ds hk
  rw [ha] at e1; cases e1
  have le : G.Le ⟨fun b p => G.P b p ∨ (b = a ∧ p = o), G.adr, G.lm⟩ := ⟨fun _ _ h => .inl h, fun _ _ h => h, rfl⟩
  have hkl : k < σ.mu.length := (List.getElem?_eq_some_iff.mp hk).1
  have haL : a ≠ X.env.locals := fun e => R.adrL (e ▸ List.mem_of_getElem? ha)
  have haC : ∀ n c, (n, c) ∈ X.env.cells → a ≠ c := fun n c hc e => R.adrC n c hc (e ▸ List.mem_of_getElem? ha)
  refine ⟨fun b p => G.P b p ∨ (b = a ∧ p = o), ⟨R.same, R.lmT, ?_, ?_, R.keep, ?_, fun b p h => .inl (R.sub b p h), ?_, ?_, R.adrC, R.adrL, R.nd, R.adr0, by simpa using R.len, ?_, ?_, R.tab.mono (fun _ _ h => .inl h) fun _ _ _ _ e => e⟩, le, o, vs, n, .inr ⟨rfl, rfl⟩, e3, e4, r⟩
  · obtain ⟨m, cm, h1, h2, h3⟩ := R.loc
    refine ⟨m, cm, h1, h2, fun n v hv => ?_⟩
    rcases h3 n v hv with ⟨k, val, e, r⟩ | ⟨k, c, val, e, r⟩
    · exact .inl ⟨k, val, e, r.mono le⟩
    · exact .inr ⟨k, c, val, e, r.mono le⟩
  · rintro b p (h | ⟨rfl, rfl⟩)
    · exact R.pers b p h
    · exact e2
  · rintro b p (h | ⟨rfl, rfl⟩)
    · exact R.grow b p h
    · exact .inr (R.adr0 _ (List.mem_of_getElem? ha))
  · rintro p (h | ⟨h, _⟩)
    · exact R.notL p h
    · exact haL h.symm
  · rintro ho n c hc p (h | ⟨h, _⟩)
    · exact R.notC ho n c hc p h
    · exact haC n c hc h.symm
  · intro j fr' ds' hm
    by_cases hj : j = k
    · subst hj
      rw [List.getElem?_set_self hkl] at hm
      cases hm
      exact ⟨a, o, vs, n, ha, e2, e3, e4, r.mono le, fun _ => .inr ⟨rfl, rfl⟩, fun h => by cases h⟩
    · rw [List.getElem?_set_ne (fun e => hj e.symm)] at hm
      obtain ⟨b, p, us, n', g1, g2, g3, g4, r', q1, q2⟩ := R.mu j fr' ds' hm
      refine ⟨b, p, us, n', g1, g2, g3, g4, r'.mono le, fun h => .inl (q1 h), ?_⟩
      rintro h p' (q | ⟨q, _⟩)
      · exact q2 h p' q
      · subst q
        have h1 : j < G.adr.length := (List.getElem?_eq_some_iff.mp g1).1
        have h2 : k < G.adr.length := (List.getElem?_eq_some_iff.mp ha).1
        exact hj ((List.getElem?_inj h1 R.nd).mp (g1.trans ha.symm))
  · intro Q q hq
    have o0 := R.tabOff Q q hq
    refine ⟨?_, o0.k, o0.L, o0.c, o0.adr⟩
    rintro p (h | ⟨h, _⟩)
    · exact o0.P p h
    · exact o0.adr (h ▸ List.mem_of_getElem? ha)

theorem Rep.pur (R : Rep C X G σ s) {val : Value} {v v' : V} (hv : VR G val v) (h : σ.pur v = some (v', σ')) : ∃ P', Rep C X ⟨P', G.adr, G.lm⟩ σ' s ∧ G.Le ⟨P', G.adr, G.lm⟩ ∧ VR ⟨P', [], G.lm⟩ val v' := by
  unfold St.pur at h
  split at h
  · rename_i hp
    cases h
    exact ⟨G.P, R, .refl, hv.bare hp⟩
  · split at h
    · rename_i k _
      split at h
      · rename_i fr ds hk
        split at h
        · rename_i hp
          cases h
          obtain ⟨a, rfl, ha⟩ := hv.ref_inv
          obtain ⟨P', R', le, o, vs, n, h1, h2, h3, h4⟩ := R.fix hk ha
          exact ⟨P', R', le, .list h1 h2 h3 ((h4.mono le).bare hp)⟩
        · cases h
      · cases h
    · cases h

theorem Rep.purs (vals : List Value) : ∀ {G : Ghost} {σ : St} (R : Rep C X G σ s) {vs vs' : List V} (hv : VRs G vals vs) (h : σ.purs vs = some (vs', σ')), ∃ P', Rep C X ⟨P', G.adr, G.lm⟩ σ' s ∧ G.Le ⟨P', G.adr, G.lm⟩ ∧ VRs ⟨P', [], G.lm⟩ vals vs' := by
  induction vals with
  | nil =>
    intro G σ R vs vs' hv h
    cases hv
    cases h
    exact ⟨G.P, R, .refl, .nil⟩
  | cons val vals ih =>
    intro G σ R vs vs' hv h
    cases hv with
    | cons p r =>
      simp only [St.purs] at h
      split at h
      · rename_i v' σ₁ h1
        split at h
        · rename_i r' σ₂ h2
          cases h
          obtain ⟨P₁, R₁, l₁, q₁⟩ := R.pur p h1
          obtain ⟨P₂, R₂, l₂, q₂⟩ := ih R₁ (r.mono l₁) h2
          exact ⟨P₂, R₂, l₁.trans l₂, .cons (VR.mono (G := ⟨P₁, [], G.lm⟩) (G' := ⟨P₂, [], G.lm⟩) ⟨l₂.P, fun _ _ h => h, rfl⟩ q₁) q₂⟩
        · cases h
      · cases h
end

structure Room (A : Around) (d : Nat) : Prop where
  handled : A.handled = none
  depth : A.depth + d < recursionLimit
  units : A.units + 8 * d + 200 < cLine

/-- what a call leaves behind -/
inductive CallPost (T : Tbl) (G : Ghost) (s : Shared) (Ψ : V → Prop) (r : Result) (s' : Shared) : Prop
  | mk (val : Value) (h' : Heap) (tk : Tok) (P' : Addr → Obj → Prop) (v : V) (e : r = .ok (.ret val)) (es : s' = { s with heap := h', toks := tk }) (keep : ∀ b o, T.tabs b = none → s.heap.get? b = some o → h'.get? b = some o)
      (sub : ∀ a o, G.P a o → P' a o) (pers : ∀ a o, P' a o → h'.get? a = some o) (new : ∀ a o, P' a o → G.P a o ∨ s.heap.get? a = none) (tab : TabOk T P' h') (vr : VR ⟨P', [], G.lm⟩ val v) (psi : Ψ v) : CallPost T G s Ψ r s'

inductive FnAt (T : Tbl) (n : Str) : Prop
  | mk (a : Addr) (fd : FuncData) (oc : Value) (od : Option Addr) (osl : Array (Option Value)) (h1 : T.mg n = some (.ref a)) (h2 : T.K.lookup a = some ⟨oc, od, .func fd, osl⟩) : FnAt T n
/-- a def of the text: at these arguments it hands back a value of which Ψ holds -/
noncomputable def FnOk (T : Tbl) (d : Nat) (n : Str) (args : List V) (Ψ : V → Prop) : Prop :=
  ∀ a, T.mg n = some (.ref a) → ∀ A s G vals, Room A (d + 1) → TopF T s.heap → (∀ a o, G.P a o → s.heap.get? a = some o) → (∀ Q q, T.tabs Q = some q → ∀ o, ¬ G.P Q o) → TabOk T G.P s.heap → G.adr = [] → G.lm = T.lm → VRs G vals args →
      codeAny (model T.prog T.w) A (.call (.ref a) ⟨vals, []⟩) (CallPost T G s Ψ) s

theorem Ok.room {C : Cx} {X : Ctx} (ok : Ok C X) : Room X.A C.d := ⟨ok.handled, ok.depth, ok.units⟩
theorem Room.le {A : Around} {d e : Nat} (r : Room A d) (h : e ≤ d) : Room A e := ⟨r.handled, by have := r.depth; omega, by have := r.units; omega⟩
theorem Rep.top {C : Cx} {X : Ctx} {G : Ghost} {σ : St} {s : Shared} (R : Rep C X G σ s) (ok : Ok C X) : TopF C.T s.heap := ok.top _ R.keep

/-- a row of expressions -/
inductive PostL (C : Cx) (X : Ctx) (G : Ghost) (Φ : List V → St → Prop) (vals : List Value) (s' : Shared) : Prop
  | mk (G' : Ghost) (σ' : St) (vs : List V) (le : G.Le G') (rep : Rep C X G' σ' s') (vr : VRs G' vals vs) (phi : Φ vs σ') : PostL C X G Φ vals s'
noncomputable def Wes (C : Cx) (σ : St) (es : List Expr) (Φ : List V → St → Prop) : Prop :=
  ∀ X, Ok C X → ∀ G s, Rep C X G σ s → ∀ pos, wpAny C.M X.A (spliced (backTo pos (starEach es X.env))) (PostL C X G Φ) Bad s
noncomputable def noStar : Expr → Bool
  | .Starred .. => false
  | _ => true
section
variable {C : Cx} {σ : St} {pos : Pos} {Φ : V → St → Prop}
theorem Wes.nil {Φ : List V → St → Prop} (h : Φ [] σ) : Wes C σ [] Φ := fun X ok G s R pos => spliced_nil ⟨G, σ, [], .refl, R, .nil, h⟩
theorem starEach_cons {e : Expr} {r : List Expr} {env : Env} (h : noStar e = true) : starEach (e :: r) env = (false, eval e env) :: starEach r env := by
  cases e <;> first | rfl | cases h
theorem Wes.cons {Φ : List V → St → Prop} {e : Expr} {r : List Expr} (h : We C σ e fun v σ₁ => Wes C σ₁ r fun vs σ₂ => Φ (v :: vs) σ₂) (hn : noStar e = true := by rfl) : Wes C σ (e :: r) Φ := fun X ok G s R pos => by
  rw [starEach_cons hn]
  show wpAny _ _ (spliced ((false, eval e X.env) :: backTo pos (starEach r X.env))) _ _ s
  refine spliced_cons (wpAny_mono (h X ok G s R) (fun val s₁ ⟨G₁, σ₁, v, l₁, R₁, r₁, h₁⟩ => ?_) fun _ _ e => e)
  refine wpAny_mono (h₁ X ok G₁ s₁ R₁ pos) (fun vals s₂ ⟨G₂, σ₂, vs, l₂, R₂, r₂, h₂⟩ => ?_) fun _ _ e => e
  exact ⟨G₂, σ₂, v :: vs, l₁.trans l₂, R₂, .cons (r₁.mono l₂) r₂, h₂⟩

theorem length_ok {n : Nat} (h : n ≤ 1000) : n ≤ sizeLine := Nat.le_trans h (by decide)
theorem We.tuple {es : List Expr} {k : Nat} (h : Wes C σ es fun vs σ₁ => vs.length ≤ 1000 ∧ Φ (.tup vs) σ₁) : We C σ (.Tuple es k pos) Φ := fun X ok G s R => by
  refine Tuple_ (wpAny_mono (h X ok G s R pos) (fun vals s₁ ⟨G₁, σ₁, vs, l₁, R₁, r₁, hz, h₁⟩ => ?_) fun _ _ e => e)
  have P := R₁.push { cls := .type "tuple", data := .seq vals.toArray } s₁.toks
  exact wpAny_newObj_type ⟨_, σ₁, .tup vs, l₁.trans P.2, P.1, .tup (.inr ⟨rfl, rfl⟩) rfl rfl (by simpa using r₁.mono P.2), h₁⟩ (by show vals.toArray.size ≤ sizeLine; rw [List.size_toArray, r₁.length]; exact length_ok hz)
theorem We.list {es : List Expr} (h : Wes C σ es fun vs σ₁ => vs.length ≤ 1000 ∧ Φ (.ref σ₁.mu.length) ⟨σ₁.loc, σ₁.mu ++ [(false, vs)]⟩) : We C σ (.List es pos) Φ := fun X ok G s R => by
  refine List_ (wpAny_mono (h X ok G s R pos) (fun vals s₁ ⟨G₁, σ₁, vs, l₁, R₁, r₁, hz, h₁⟩ => ?_) fun _ _ e => e)
  have P := R₁.pushMut r₁ s₁.toks
  refine wpAny_newObj_type ⟨_, _, .ref σ₁.mu.length, l₁.trans P.2, P.1, .ref ?_, h₁⟩ (by show vals.toArray.size ≤ sizeLine; rw [List.size_toArray, r₁.length]; exact length_ok hz)
  show (G₁.adr ++ [s₁.heap.objs.size])[σ₁.mu.length]? = _
  rw [← R₁.len, List.getElem?_append_right (Nat.le_refl _)]; simp

/-- what the names say -/
theorem global_wp {X : Ctx} (ok : Ok C X) {G : Ghost} {s : Shared} (R : Rep C X G σ s) {n : Str} {v : Value} (hk : C.sc.names.lookup n = some .globalImplicit) (hg : C.T.mg n = some v)
    {Q : Value → Shared → Prop} {E : Value → Shared → Prop} (h : Q v s) (hd : (n == ("__debug__" : Str)) = false) : wpAny C.M X.A (eval (.Name n pos) X.env) Q E s := by
  have hkf : X.env.scope.kind = .function := by rw [ok.scope]; exact ok.kind
  refine Calls.Name_function_global hkf (by unfold Env.kindOf; rw [ok.scope]; exact hk) (Calls.loadGlobal_global ?_ hg h) hd
  rw [ok.globals]; exact (R.top ok).g
theorem builtin_wp {X : Ctx} (ok : Ok C X) {G : Ghost} {s : Shared} (R : Rep C X G σ s) {n : Str} {v : Value} (hk : C.sc.names.lookup n = some .globalImplicit) (hg : C.T.mg n = none) (hb : bootBuiltins n = some v) (hn : n ≠ "__name__")
    {Q : Value → Shared → Prop} {E : Value → Shared → Prop} (h : Q v s) (hd : (n == ("__debug__" : Str)) = false) : wpAny C.M X.A (eval (.Name n pos) X.env) Q E s := by
  have hkf : X.env.scope.kind = .function := by rw [ok.scope]; exact ok.kind
  refine Calls.Name_function_global hkf (by unfold Env.kindOf; rw [ok.scope]; exact hk) (Calls.loadGlobal_builtin ?_ hg ?_ ((R.top ok).builtins n hn |>.trans hb) h) hd
  · rw [ok.globals]; exact (R.top ok).g
  · rw [ok.builtins]; exact (R.top ok).b

inductive CallOk (T : Tbl) (d : Nat) (f : Str) (Φ : V → St → Prop) (vs : List V) (σ₁ : St) : Prop
  | mk (vs' : List V) (σ₂ : St) (Ψ : V → Prop) (h1 : σ₁.purs vs = some (vs', σ₂)) (h2 : FnOk T d f vs' Ψ) (h3 : ∀ r, Ψ r → Φ r σ₂) : CallOk T d f Φ vs σ₁
/-- a call of a def of the text -/
theorem We.call {f : Str} {pf : Pos} {es : List Expr} {d : Nat} (hat : FnAt C.T f)
    (h : Wes C σ es (CallOk C.T d f Φ)) (hd : d + 1 ≤ C.d := by decide) (hf : C.sc.names.lookup f = some .globalImplicit := by rfl)
    (hb : (f == ("__debug__" : Str)) = false := by decide) (ha : es.all noStar = true := by rfl) : We C σ (.Call (.Name f pf) es [] pos) Φ := fun X ok G s R => by
  obtain ⟨a, fd, oc, od, osl, hg, hK⟩ := hat
  show wpAny _ _ (eval (.Name f pf) X.env >>= fun fv => callWith pos fv [] (backTo pos (starEach es X.env)) []) _ _ s
  refine wpAny_bind (global_wp ok R hf hg ?_ hb)
  refine callWith_function (o := ⟨oc, od, .func fd, osl⟩) (fd := fd) ?_
  have main := wpAny_mono (h X ok G s R pos) (E' := Bad) (Q' := fun vals s₁ => (s₁.heap.get? a = some ⟨oc, od, .func fd, osl⟩ ∧ True) ∧ wpAny C.M X.A (PySem.call (.ref a) vals []) (Post C X G Φ) Bad s₁) (fun vals s₁ ⟨G₁, σ₁, vs, l₁, R₁, r₁, vs', σ₂, Ψ, h1, h2, h3⟩ => ?_) fun _ _ e => e
  · cases es with
    | nil =>
      show wpAny _ _ (evalArgs (.ref a) true [] []) _ _ s
      have main' : wpAny C.M X.A (spliced []) (fun vals s₁ => (s₁.heap.get? a = some ⟨oc, od, .func fd, osl⟩ ∧ True) ∧ wpAny C.M X.A (PySem.call (.ref a) vals []) (Post C X G Φ) Bad s₁) Bad s := main
      unfold evalArgs
      show wpAny _ _ (spliced [] >>= _) _ _ s
      refine wpAny_bind (wpAny_mono main' (fun vals s₁ h' => ?_) fun _ _ e => e)
      exact wpAny_holding (wpAny_bind (wpAny_pure (wpAny_bind (wpAny_pure (wpAny_pure ⟨⟨h'.1.1, rfl⟩, h'.2⟩)))))
    | cons e r =>
      have he : noStar e = true := by simp only [List.all_cons, Bool.and_eq_true] at ha; exact ha.1
      rw [starEach_cons he] at main ⊢
      exact evalArgs_plain (wpAny_mono main (fun vals s₁ h' => ⟨⟨h'.1.1, rfl⟩, h'.2⟩) fun _ _ e => e)
  · obtain ⟨P₂, R₂, l₂, r₂⟩ := R₁.purs vals r₁ h1
    refine ⟨⟨(R₁.top ok).K _ _ hK, trivial⟩, wpAny_call ?_⟩
    refine codeAny_mono (h2 a hg X.A s₁ ⟨P₂, [], G₁.lm⟩ vals (ok.room.le hd) (R₁.top ok) R₂.pers (fun Q q hq => (R₂.tabOff Q q hq).P) R₂.tab rfl R₁.lmT r₂) ?_
    rintro r s' ⟨val, h', tk, P', v, rfl, rfl, hk, hs, hp, hn, ht, hv, hΨ⟩
    obtain ⟨R₃, l₃⟩ := R₂.extend (tk := tk) hk hs hp hn ht
    exact ⟨_, σ₂, v, (l₁.trans l₂).trans l₃, R₃, VR.mono (G := ⟨P', [], G₁.lm⟩) (G' := ⟨P', G₁.adr, G₁.lm⟩) ⟨fun _ _ h => h, fun k a h => by simp at h, rfl⟩ hv, h3 v hΨ⟩
end

/-! VL4 -/
/-! one more object that is kept while a part runs -/
noncomputable def Ctx.plus (X : Ctx) (b : Addr) (p : Obj) (P : Addr → Obj → Prop) : Ctx := { X with k₀ := fun a o => X.k₀ a o ∨ (a = b ∧ o = p), P₀ := P }
section
variable {C : Cx} {X : Ctx} {G G' : Ghost} {σ σ' : St} {s s' : Shared} {b : Addr} {p : Obj}
theorem Ok.plus (ok : Ok C X) (o : Off C X G b) : Ok C (X.plus b p G.P) where
  scope := ok.scope
  kind := ok.kind
  globals := ok.globals
  builtins := ok.builtins
  handled := ok.handled
  depth := ok.depth
  units := ok.units
  top := fun h hk => ok.top h fun a q e => hk a q (.inl e)
  names := ok.names
  apart := ok.apart
  cL := ok.cL
  L0 := by
    rintro q (h | ⟨h, _⟩)
    · exact ok.L0 q h
    · exact o.L h.symm
  c0 := by
    rintro ho n c hc q (h | ⟨h, _⟩)
    · exact ok.c0 ho n c hc q h
    · exact o.c n c hc h.symm
  cells := ok.cells
  fact := ok.fact
theorem Rep.plus (R : Rep C X G σ s) (o : Off C X G b) (hb : s.heap.get? b = some p) : Rep C (X.plus b p G.P) G σ s where
  same := R.same
  lmT := R.lmT
  loc := R.loc
  pers := R.pers
  keep := by
    rintro a q (h | ⟨rfl, rfl⟩)
    · exact R.keep a q h
    · exact hb
  grow := fun a q h => .inl h
  sub := fun a q h => h
  notL := R.notL
  notC := R.notC
  adrC := R.adrC
  adrL := R.adrL
  nd := R.nd
  adr0 := by
    rintro a ha q (h | ⟨h, _⟩)
    · exact R.adr0 a ha q h
    · exact o.adr (h ▸ ha)
  len := R.len
  mu := R.mu
  tabOff := fun Q q hq => by
    have o0 := R.tabOff Q q hq
    refine ⟨o0.P, ?_, o0.L, o0.c, o0.adr⟩
    rintro p (h | ⟨h, _⟩)
    · exact o0.k p h
    · subst h
      have := o.t
      rw [hq] at this; cases this
  tab := R.tab
theorem Rep.minus (R : Rep C X G σ s) (o : Off C X G b) (R' : Rep C (X.plus b p G.P) G' σ' s') : Rep C X G' σ' s' ∧ Off C X G' b ∧ s'.heap.get? b = some p := by
  refine ⟨⟨R'.same, R'.lmT, R'.loc, R'.pers, fun a q h => R'.keep a q (.inl h), ?_, fun a q h => R'.sub a q (R.sub a q h), R'.notL, R'.notC, R'.adrC, R'.adrL, R'.nd, fun a ha q h => R'.adr0 a ha q (.inl h), R'.len, R'.mu, fun Q q hq => ?_, R'.tab⟩, ⟨⟨?_, o.k, o.L, o.c, ?_⟩, o.t⟩, R'.keep b p (.inr ⟨rfl, rfl⟩)⟩
  · intro a q h
    rcases R'.grow a q h with h1 | h1
    · exact R.grow a q h1
    · exact .inr fun q' h2 => h1 q' (.inl h2)
  · have o0 := R'.tabOff Q q hq
    exact ⟨o0.P, fun p h => o0.k p (.inl h), o0.L, o0.c, o0.adr⟩
  · intro q h
    rcases R'.grow b q h with h1 | h1
    · exact o.P q h1
    · exact h1 p (.inr ⟨rfl, rfl⟩)
  · intro h
    exact R'.adr0 b h p (.inr ⟨rfl, rfl⟩)
/-- a change at a place that the block keeps nothing of -/
theorem Rep.off (R : Rep C X G σ s) (o : Off C X G b) {h' : Heap} (t : Nat) (hk : ∀ a q, a ≠ b → s.heap.get? a = some q → h'.get? a = some q) : Rep C X G σ { s with heap := h', toks := t } := by
  obtain ⟨m, cm, h1, h2, h3⟩ := R.loc
  refine ⟨R.same, R.lmT, ⟨m, cm, h1.at' fun q e => hk _ _ o.L.symm e, fun n c hc => ?_, h3⟩, fun a q h => hk _ _ (fun e => o.P q (e ▸ h)) (R.pers a q h), fun a q h => hk _ _ (fun e => o.k q (e ▸ h)) (R.keep a q h), R.grow, R.sub, R.notL, R.notC, R.adrC, R.adrL, R.nd, R.adr0, R.len, ?_, R.tabOff, R.tab.mono (fun _ _ h => h) fun a p q hq e => hk a p (fun e' => by rw [e', o.t] at hq; cases hq) e⟩
  · obtain ⟨q, e1, e2⟩ := h2 n c hc
    exact ⟨q, hk _ _ (o.c n c hc).symm e1, e2⟩
  · intro k fr ds hm
    obtain ⟨a, q, vs, n, e1, e2, r⟩ := R.mu k fr ds hm
    exact ⟨a, q, vs, n, e1, hk _ _ (fun e => o.adr (e ▸ List.mem_of_getElem? e1)) e2, r⟩
/-- a place that the heap has not yet -/
theorem Rep.offNew (R : Rep C X G σ s)   : Off C X G s.heap.objs.size where
  P := fun q h => absurd (Heap.lt_size (R.pers _ _ h)) (Nat.lt_irrefl _)
  k := fun q h => absurd (Heap.lt_size (R.keep _ _ h)) (Nat.lt_irrefl _)
  L := Nat.ne_of_gt R.frameLt
  c := fun n c hc => Nat.ne_of_gt (R.cellLt hc)
  adr := fun h => by
    obtain ⟨q, hq⟩ := R.adrGet h
    exact absurd (Heap.lt_size hq) (Nat.lt_irrefl _)
  t := R.newTab
end

/-! stores -/
inductive PostU (C : Cx) (X : Ctx) (G : Ghost) (Φ : St → Prop) (u : Unit) (s' : Shared) : Prop
  | mk (G' : Ghost) (σ' : St) (le : G.Le G') (rep : Rep C X G' σ' s') (phi : Φ σ') : PostU C X G Φ u s'
noncomputable def Asg (C : Cx) (σ : St) (t : Expr) (d : V) (Φ : St → Prop) : Prop :=
  ∀ X, Ok C X → ∀ G s val, Rep C X G σ s → VR G val d → wpAny C.M X.A (assign t X.env val) (PostU C X G Φ) Bad s
section
variable {C : Cx} {σ : St} {pos : Pos} {Φ : St → Prop}
theorem Asg.name {n : Str} {d : V} (h : Φ (σ.set n d)) (hk : kindOk C n = true := by rfl) : Asg C σ (.Name n pos) d Φ := fun X ok G s val R hv =>
  wpAny_assign_Name (store_wp ok R hv hk fun s' R' => ⟨G, _, .refl, R', h⟩)
noncomputable def Asgs (C : Cx) (σ : St) (ts : List Expr) (ds : List V) (Φ : St → Prop) : Prop :=
  ∀ X, Ok C X → ∀ G s vals, Rep C X G σ s → VRs G vals ds → wpAny C.M X.A (assignInOrder ((assignEach ts X.env).map (·.2)) vals) (PostU C X G Φ) Bad s
theorem Asgs.nil (h : Φ σ) : Asgs C σ [] [] Φ := fun X ok G s vals R hv => by
  cases hv
  exact wpAny_pure ⟨G, σ, .refl, R, h⟩
theorem Asgs.cons {n : Str} {d : V} {ts : List Expr} {ds : List V} (h : Asgs C (σ.set n d) ts ds Φ) (hk : kindOk C n = true := by rfl) : Asgs C σ (.Name n pos :: ts) (d :: ds) Φ := fun X ok G s vals R hv => by
  cases hv with
  | cons p r =>
    show wpAny _ _ (assignInOrder (assign (.Name n pos) X.env :: (assignEach ts X.env).map (·.2)) (_ :: _)) _ _ s
    refine wpAny_bind (wpAny_holding (wpAny_assign_Name (store_wp ok R p hk fun s' R' => ?_)))
    exact h X ok G s' _ R' r
noncomputable def isName : Expr → Bool
  | .Name .. => true
  | _ => false
theorem assignEach_len {env : Env} : ∀ {ts : List Expr}, ts.all isName = true → (assignEach ts env).length = ts.length ∧ (assignEach ts env).findIdx? (·.1) = none
  | [], _ => ⟨rfl, rfl⟩
  | t :: r, h => by
    simp only [List.all_cons, Bool.and_eq_true] at h
    have ih := assignEach_len (env := env) h.2
    cases t <;> first | cases h.1 | skip
    refine ⟨?_, ?_⟩
    · show ((false, _) :: assignEach r env).length = _
      rw [List.length_cons, List.length_cons, ih.1]
    · show List.findIdx? (·.1) ((false, _) :: assignEach r env) = none
      rw [List.findIdx?_cons]; simp [ih.2]
theorem Asg.tuple {ts : List Expr} {k : Nat} {ds : List V} (h : Asgs C σ ts ds Φ) (hl : ts.length = ds.length := by rfl) (hn : ts.all isName = true := by rfl) : Asg C σ (.Tuple ts k pos) (.tup ds) Φ := fun X ok G s val R hv => by
  cases hv with
  | @tup a o vs n _ hp hc hd r =>
    have ht : IsTup s.heap a vs := ⟨o, R.pers _ _ hp, hc, n, hd⟩
    have e := assignEach_len (env := X.env) hn
    have hlen : vs.size = ds.length := by have := r.length; simpa using this
    refine wpAny_assign_Tuple ok.handled ht (by rw [e.1, hlen, hl]) e.2 fun h' he => ?_
    have R' : Rep C X G σ { s with heap := h' } := R.off (b := s.heap.objs.size) R.offNew s.toks fun b q hb e => he b q hb e
    exact h X ok G _ _ R' r
end

/-! for -/
noncomputable def LoopK (Φ : Fl → St → Prop) (next : St → Prop) : Fl → St → Prop
  | .next, σ => next σ
  | .cont, σ => next σ
  | .brk, σ => Φ .next σ
  | .ret v, σ => Φ (.ret v) σ
noncomputable def Wfor (C : Cx) (t : Expr) (body : List Stmt) (Φ : Fl → St → Prop) : List V → St → Prop
  | [], σ => Φ .next σ
  | d :: r, σ => Asg C σ t d fun σ₁ => Wx C σ₁ body (LoopK Φ fun σ₂ => Wfor C t body Φ r σ₂)

/-- what a block may know of the frames around, and a way out that it may take -/
structure Esc (C : Cx) where
  Fr : Ctx → Prop
  Ot : Ctx → Flow → Shared → Prop
  plusF : ∀ X G σ s b p, Rep C X G σ s → Fr X → Fr (X.plus b p G.P)
  plusO : ∀ X G σ s b p f s', Rep C X G σ s → Ot (X.plus b p G.P) f s' → Ot X f s'
  ret : ∀ X f s', Ot X f s' → ∃ v, f = .ret v
noncomputable def Esc.no (C : Cx) : Esc C := ⟨fun _ => True, fun _ _ _ => False, fun _ _ _ _ _ _ _ _ => trivial, fun _ _ _ _ _ _ _ _ _ h => h, fun _ _ _ h => h.elim⟩
noncomputable def WxO (C : Cx) (K : Esc C) (σ : St) (ss : List Stmt) (Φ : Fl → St → Prop) : Prop := ∀ X, Ok C X → K.Fr X → ∀ G s, Rep C X G σ s → wpAny C.M X.A (execs ss X.env) (fun f s' => PostS C X G Φ f s' ∨ K.Ot X f s') Bad s
noncomputable def WsO (C : Cx) (K : Esc C) (σ : St) (st : Stmt) (Φ : Fl → St → Prop) : Prop := ∀ X, Ok C X → K.Fr X → ∀ G s, Rep C X G σ s → wpAny C.M X.A (exec st X.env) (fun f s' => PostS C X G Φ f s' ∨ K.Ot X f s') Bad s
theorem WsO.of {C : Cx} {K : Esc C} {σ : St} {st : Stmt} {Φ : Fl → St → Prop} (h : Ws C σ st Φ) : WsO C K σ st Φ := fun X ok _ G s R => wpAny_mono (h X ok G s R) (fun _ _ h => .inl h) fun _ _ h => h
/-- what follows a statement -/
noncomputable def AfterO (C : Cx) (K : Esc C) (rest : List Stmt) (Φ : Fl → St → Prop) : Fl → St → Prop
  | .next, σ' => WxO C K σ' rest Φ
  | f, σ' => Φ f σ'
theorem WxO.cons {C : Cx} {K : Esc C} {σ : St} {st : Stmt} {rest : List Stmt} {Φ : Fl → St → Prop} (h : WsO C K σ st (AfterO C K rest Φ)) : WxO C K σ (st :: rest) Φ := fun X ok hF G s R =>
  wpAny_execs_cons (wpAny_mono (h X ok hF G s R) (fun f s₁ hq => by
    rcases hq with ⟨G₁, σ₁, d, l₁, R₁, r₁, h₁⟩ | ho
    · cases r₁ with
      | next => exact wpAny_mono (h₁ X ok hF G₁ s₁ R₁) (fun _ _ p => p.imp (fun p => p.le l₁) id) fun _ _ e => e
      | brk => exact .inl ⟨G₁, σ₁, _, l₁, R₁, .brk, h₁⟩
      | cont => exact .inl ⟨G₁, σ₁, _, l₁, R₁, .cont, h₁⟩
      | ret r => exact .inl ⟨G₁, σ₁, _, l₁, R₁, .ret r, h₁⟩
    · obtain ⟨v, rfl⟩ := K.ret _ _ _ ho
      exact .inr ho) fun _ _ e => e)
/-- a statement of the plain kind ahead -/
theorem WxO.one {C : Cx} {K : Esc C} {σ : St} {st : Stmt} {rest : List Stmt} {Φ : Fl → St → Prop} (h : Ws C σ st (AfterO C K rest Φ)) : WxO C K σ (st :: rest) Φ := WxO.cons (WsO.of h)
theorem WxO.of {C : Cx} {K : Esc C} {σ : St} {ss : List Stmt} {Φ : Fl → St → Prop} (h : Wx C σ ss Φ) : WxO C K σ ss Φ := fun X ok _ G s R => wpAny_mono (h X ok G s R) (fun _ _ h => .inl h) fun _ _ h => h
theorem WxO.nil {C : Cx} {K : Esc C} {σ : St} {Φ : Fl → St → Prop} (h : Φ .next σ) : WxO C K σ [] Φ := WxO.of (Wx.nil h)
noncomputable def WforO (C : Cx) (K : Esc C) (t : Expr) (body : List Stmt) (Φ : Fl → St → Prop) : List V → St → Prop
  | [], σ => Φ .next σ
  | d :: r, σ => Asg C σ t d fun σ₁ => WxO C K σ₁ body (LoopK Φ fun σ₂ => WforO C K t body Φ r σ₂)
theorem Asg.mono' {C : Cx} {σ : St} {t : Expr} {d : V} {Φ Ψ : St → Prop} (h : Asg C σ t d Φ) (k : ∀ σ', Φ σ' → Ψ σ') : Asg C σ t d Ψ :=
  fun X ok G s val R hv => wpAny_mono (h X ok G s val R hv) (fun _ _ ⟨a, b, c, d, e⟩ => ⟨a, b, c, d, k _ e⟩) fun _ _ e => e
theorem WforO.of {C : Cx} {K : Esc C} {t : Expr} {body : List Stmt} {Φ : Fl → St → Prop} : ∀ (ds : List V) {σ : St}, Wfor C t body Φ ds σ → WforO C K t body Φ ds σ
  | [], _, h => h
  | _ :: r, _, h => Asg.mono' h fun _ h₁ => WxO.of (Wx.mono h₁ fun f σ₂ => by
    cases f with
    | next => exact WforO.of r
    | cont => exact WforO.of r
    | brk => exact id
    | ret v => exact id)

/-- an iterator that has the items still to hand out -/
structure Iter (C : Cx) (X : Ctx) (G : Ghost) (it : Addr) (items : List V) (St : Nat → Heap → Prop) : Prop where
  walk : ∃ fp P, Walks C.T.prog C.T.w X.A it fp [it] items.length P St ∧ (∀ b ∈ fp, b = it ∨ ∃ o, G.P b o) ∧ ∀ i v, P i v → ∃ d, items[i]? = some d ∧ VR G v d

theorem Iter.mono {C : Cx} {X : Ctx} {G G' : Ghost} {it : Addr} {items : List V} {St : Nat → Heap → Prop} (I : Iter C X G it items St) (h : G.Le G') : Iter C X G' it items St := by
  obtain ⟨fp, P, W, h1, h2⟩ := I.walk
  refine ⟨fp, P, W, fun b hb => ?_, fun i v hv => ?_⟩
  · rcases h1 b hb with e | ⟨o, e⟩
    · exact .inl e
    · exact .inr ⟨o, h.P _ _ e⟩
  · obtain ⟨d, e, r⟩ := h2 i v hv
    exact ⟨d, e, r.mono h⟩

theorem codeAny_forLoopT {prog : Program} {w : World} {A : Around} {s : Shared} {R : Result → Shared → Prop} {target it body orelse env} (I : Nat → Shared → Prop)
    (turn : ∀ n s, I n s → wpAny (model prog w) A (pyNext it) (fun r s₁ => match r with
      | none => wpAny (model prog w) A (execs orelse env) (fun f s₃ => R (.ok f) s₃) (notedBy (model prog w) A env fun e s' => R (.error e) s') s₁
      | some v => wpAny (model prog w) A (letOwnedTupleGo target it v) (fun _ s₁ => wpAny (model prog w) A (assign target env v) (fun _ s₂ => wpAny (model prog w) A (execs body env) (fun f s₃ => match f with
          | .next | .cont => ∃ m, m < n ∧ I m s₃
          | .brk => R (.ok .next) s₃
          | .ret v => R (.ok (.ret v)) s₃) (notedBy (model prog w) A env fun e s' => R (.error e) s') s₂) (notedBy (model prog w) A env fun e s' => R (.error e) s') s₁) (notedBy (model prog w) A env fun e s' => R (.error e) s') s₁) (notedBy (model prog w) A env fun e s' => R (.error e) s') s)
    (n : Nat) (h : I n s) : codeAny (model prog w) A (.forLoop target it body orelse env) R s := by
  refine codeAny_loop' rfl I (fun n s hI => ?_) n h
  show wpAny _ _ ((forTurn target it body orelse env).onRaise (fun x => do noteFrame x env; theTreesLotGoes x)) _ _ s
  refine wpAny_noted ?_
  simp only [forTurn]
  refine wpAny_bind (wpAny_standAt (wpAny_bind (wpAny_onRaise (wpAny_mono (turn n s hI) (fun r s₁ h₁ => ?_) fun _ _ h' => wpAny_standAt h'))))
  cases r with
  | none => exact wpAny_pure (.inr ⟨rfl, codeAny_block h₁⟩)
  | some v =>
    refine wpAny_bind (wpAny_mono h₁ (fun _ s₁ h₁ => ?_) fun _ _ h' => h')
    refine wpAny_bind (wpAny_mono h₁ (fun _ s₂ h₂ => wpAny_bind (wpAny_mono h₂ (fun f s₃ h₃ => ?_) fun _ _ h' => h')) fun _ _ h' => h')
    cases f with
    | next => exact wpAny_pure (.inl ⟨rfl, h₃⟩)
    | cont => exact wpAny_pure (.inl ⟨rfl, h₃⟩)
    | brk => exact wpAny_pure h₃
    | ret v => exact wpAny_pure h₃

inductive TurnI (C : Cx) (X : Ctx) (G : Ghost) (it : Addr) (items : List V) (St : Nat → Heap → Prop) (W : List V → Mine.St → Prop) (m : Nat) (s' : Shared) : Prop
  | mk (i : Nat) (G' : Ghost) (σ' : Mine.St) (hi : i ≤ items.length) (hm : m = items.length - i) (le : G.Le G') (rep : Rep C X G' σ' s') (off : Off C X G' it) (st : St i s'.heap) (h : W (items.drop i) σ') : TurnI C X G it items St W m s'
section
variable {C : Cx} {X : Ctx} {Φ : Fl → St → Prop}
theorem forLoop_wp (ok : Ok C X) {G : Ghost} {σ : St} {s : Shared} {it : Addr} {items : List V} {St : Nat → Heap → Prop} (R : Rep C X G σ s) (I : Iter C X G it items St) (off : Off C X G it) (hst : St 0 s.heap) (hit : ∃ p, s.heap.get? it = some p)
    (K : Esc C) (hF : K.Fr X) {t : Expr} {body : List Stmt} (hgo : ∀ (s : Shared) (v : Value) (Q : Unit → Shared → Prop) (E : Value → Shared → Prop) (i : Nat), St i s.heap → Q () s → wpAny C.M X.A (letOwnedTupleGo t (.ref it) v) Q E s)
    (hget : ∀ i h, St i h → ∃ p, h.get? it = some p) (h : WforO C K t body Φ items σ)
    {R' : Result → Shared → Prop} (hR : ∀ f s', PostS C X G Φ f s' ∨ K.Ot X f s' → R' (.ok f) s') : codeAny C.M X.A (.forLoop t (.ref it) body [] X.env) R' s := by
  refine codeAny_forLoopT (TurnI C X G it items St (WforO C K t body Φ)) ?_ items.length ⟨0, G, σ, Nat.zero_le _, rfl, .refl, R, off, hst, h⟩
  rintro m s' ⟨i, G₁, σ₁, hi, rfl, l₁, R₁, o₁, st₁, h₁⟩
  obtain ⟨fp, P, W, hfp, hP⟩ := (I.mono l₁).walk
  rcases Nat.lt_or_ge i items.length with hlt | hge
  · refine W.item i s' _ _ hlt st₁ fun v h' tk hv st₂ hk => ?_
    obtain ⟨d, hd, rv⟩ := hP i v hv
    have R₂ : Rep C X G₁ σ₁ { s' with heap := h', toks := tk } := R₁.off o₁ tk fun a q ha e => hk a q (by simpa using ha) e
    have hdrop : items.drop i = d :: items.drop (i + 1) := by
      rw [List.drop_eq_getElem_cons hlt]
      have := List.getElem?_eq_getElem hlt
      rw [hd] at this
      rw [Option.some.inj this]
    rw [hdrop] at h₁
    refine hgo _ v _ _ (i + 1) st₂ ?_
    obtain ⟨p, hp⟩ := hget _ _ st₂
    have okp : Ok C (X.plus it p G₁.P) := ok.plus o₁
    have R₂' : Rep C (X.plus it p G₁.P) G₁ σ₁ { s' with heap := h', toks := tk } := R₂.plus o₁ hp
    have frame : ∀ {G' : Ghost} {σ' : Mine.St} {s'' : Shared}, Rep C (X.plus it p G₁.P) G' σ' s'' → St (i + 1) s''.heap := by
      intro G' σ' s'' R''
      refine W.frame _ _ _ st₂ fun b hb o ho => ?_
      rcases hfp b hb with e | ⟨q, hq⟩
      · subst e
        rw [hp] at ho; cases ho
        exact R''.keep _ _ (.inr ⟨rfl, rfl⟩)
      · have := R₂.pers _ _ hq
        rw [this] at ho; cases ho
        exact R''.pers _ _ (R''.sub _ _ hq)
    refine wpAny_mono (h₁ _ okp G₁ _ v R₂' rv) (fun _ s₃ ⟨G₃, σ₃, l₃, R₃, h₃⟩ => ?_) fun _ _ e => e.elim
    refine wpAny_mono (h₃ _ okp (K.plusF _ _ _ _ _ _ R₂ hF) G₃ s₃ R₃) (fun f s₄ hq => ?_) fun _ _ e => e.elim
    rcases hq with ⟨G₄, σ₄, d', l₄, R₄, fr, h₄⟩ | ho
    rotate_left
    · have ho' := K.plusO _ _ _ _ _ _ _ _ R₂ ho
      obtain ⟨v, rfl⟩ := K.ret _ _ _ ho'
      exact hR _ _ (.inr ho')
    obtain ⟨R₅, o₅, _⟩ := R₂.minus o₁ R₄
    have l₅ : G.Le G₄ := (l₁.trans l₃).trans l₄
    have back : WforO C K t body Φ (items.drop (i + 1)) σ₄ → ∃ m, m < items.length - i ∧ TurnI C X G it items St (WforO C K t body Φ) m s₄ := fun h => ⟨items.length - (i + 1), by omega, i + 1, G₄, σ₄, hlt, rfl, l₅, R₅, o₅, frame R₄, h⟩
    cases fr with
    | next => exact back h₄
    | brk => exact hR _ _ (.inl ⟨G₄, σ₄, .next, l₅, R₅, .next, h₄⟩)
    | cont => exact back h₄
    | ret r => exact hR _ _ (.inl ⟨G₄, σ₄, .ret _, l₅, R₅, .ret r, h₄⟩)
  · have hie : i = items.length := Nat.le_antisymm hi hge
    subst hie
    refine W.done s' _ _ st₁ fun h' tk hk => wpAny_execs_nil (hR _ _ (.inl ?_))
    have R₂ : Rep C X G₁ σ₁ { s' with heap := h', toks := tk } := R₁.off o₁ tk fun a q ha e => hk a q (by simpa using ha) e
    rw [List.drop_length] at h₁
    exact ⟨G₁, σ₁, .next, l₁, R₂, .next, h₁⟩

/-- while, by a word over the state and a number that every turn lowers -/
theorem Ws.while {σ : St} {pos : Pos} {t : Expr} {body : List Stmt} (Inv : Nat → St → Prop) (n : Nat) (h0 : Inv n σ)
    (step : ∀ n σ, Inv n σ → Wt C σ t fun b σ₁ => if b = true then Wx C σ₁ body (LoopK Φ fun σ₂ => ∃ m, m < n ∧ Inv m σ₂) else Φ .next σ₁) : Ws C σ (.While t body [] pos) Φ := fun X ok G s R => by
  refine wpAny_While (codeAny_whileLoop (fun m s' => ∃ G' σ', G.Le G' ∧ Rep C X G' σ' s' ∧ Inv m σ') ?_ n ⟨G, σ, .refl, R, h0⟩)
  rintro m s' ⟨G₁, σ₁, l₁, R₁, h₁⟩
  refine wpAny_mono (step m σ₁ h₁ X ok G₁ s' R₁) (fun b s₂ ⟨G₂, σ₂, l₂, R₂, h₂⟩ => ?_) fun _ _ e => e.elim
  cases b
  · exact wpAny_execs_nil ⟨G₂, σ₂, .next, l₁.trans l₂, R₂, .next, h₂⟩
  · refine wpAny_mono (h₂ X ok G₂ s₂ R₂) (fun f s₃ ⟨G₃, σ₃, d, l₃, R₃, fr, h₃⟩ => ?_) fun _ _ e => e.elim
    have l : G.Le G₃ := (l₁.trans l₂).trans l₃
    cases fr with
    | next =>
      obtain ⟨k, hk, hi⟩ := h₃
      exact ⟨k, hk, G₃, σ₃, l, R₃, hi⟩
    | brk => exact ⟨G₃, σ₃, .next, l, R₃, .next, h₃⟩
    | cont =>
      obtain ⟨k, hk, hi⟩ := h₃
      exact ⟨k, hk, G₃, σ₃, l, R₃, hi⟩
    | ret r => exact ⟨G₃, σ₃, .ret _, l, R₃, .ret r, h₃⟩
end

/-! VL5 -/
noncomputable def ownedIts : List String := ["enumerate", "zip", "dict_itemiterator", "dict_reverseitemiterator", "odict_iterator", "itertools.zip_longest", "itertools.pairwise"]
/-- the iterator's object at each state -/
noncomputable def ItSt (it : Addr) (St : Nat → Heap → Prop) : Prop := ∀ i h, St i h → ∃ o n, h.get? it = some o ∧ o.cls = .type n ∧ ownedIts.contains n = false

theorem letGo_wp {M : Model} {A : Around} {t : Expr} {it : Addr} {St : Nat → Heap → Prop} (hs : ItSt it St) (s : Shared) (v : Value) (Q : Unit → Shared → Prop) (E : Value → Shared → Prop) (i : Nat) (h : St i s.heap) (hq : Q () s) :
    wpAny M A (letOwnedTupleGo t (.ref it) v) Q E s := by
  obtain ⟨o, n, ho, hc, hn⟩ := hs i _ h
  unfold letOwnedTupleGo
  have main : wpAny M A (do
      let (.ref r, .ref a) := ((Value.ref it), v) | return
      let o ← load r
      match o.cls, o.data with
      | .type n, .fields vs =>
        if ["enumerate", "zip", "dict_itemiterator", "dict_reverseitemiterator", "odict_iterator", "itertools.zip_longest", "itertools.pairwise"].contains n && vs[0]? == some (rawInt a) then
          rule "for.unpacks-the-owned-tuple"
          updateField r 0 .none
      | _, _ => pure ()) Q E s := by
    cases v with
    | ref a =>
      refine wpAny_bind (wpAny_load ho ?_)
      rw [hc]
      have hn' : (["enumerate", "zip", "dict_itemiterator", "dict_reverseitemiterator", "odict_iterator", "itertools.zip_longest", "itertools.pairwise"].contains n) = false := hn
      cases hd : o.data <;> dsimp only <;> first
        | exact wpAny_pure hq
        | (rw [hn']; simp only [Bool.false_and, Bool.false_eq_true, if_false]; exact wpAny_pure hq)
    | _ => exact wpAny_pure hq
  cases t <;> first | exact main | exact wpAny_pure hq

theorem Ghost.bare_le {G : Ghost} : G.bare.Le G := ⟨fun _ _ h => h, fun k a h => by simp at h, rfl⟩
/-- what the pyIter of a value gives -/
noncomputable def ItPost (C : Cx) (X : Ctx) (G : Ghost) (σ : St) (items : List V) (s : Shared) (val : Value) (s' : Shared) : Prop :=
  (∀ a o, s.heap.get? a = some o → s'.heap.get? a = some o) ∧ ∃ it St, val = .ref it ∧ Rep C X G σ s' ∧ Iter C X G.bare it items St ∧ Off C X G it ∧ St 0 s'.heap ∧ ItSt it St
noncomputable def Src (C : Cx) (v : V) (items : List V) : Prop :=
  ∀ X, Ok C X → ∀ G σ s val, Rep C X G σ s → VR G.bare val v → wpAny C.M X.A (pyIter val) (ItPost C X G σ items s) Bad s

section
variable {C : Cx}
theorem Src.list {ds : List V} : Src C (.list ds) ds := fun X ok G σ s val R hv => by
  cases hv with
  | @list a o vs n _ hp hc hd r =>
    have hl : s.heap.IsList a vs := ⟨o, R.pers _ _ hp, hc.1, n, hd⟩
    have hne : a ≠ s.heap.objs.size := Nat.ne_of_lt (Heap.lt_size (R.pers _ _ hp))
    refine wpAny_pyIter_list hl ⟨fun b q e => Heap.get?_push_of_some _ e, _, fun i h => h.IsListIter s.heap.objs.size a i ∧ h.IsList a vs, rfl, R.grown s.toks fun b q e => Heap.get?_push_of_some _ e, ⟨[s.heap.objs.size, a], fun i v => vs[i]? = some v, ?_, ?_, ?_⟩, R.offNew, ⟨⟨_, Heap.get?_push_size _ rfl, rfl, rfl⟩, hl.push _⟩, ?_⟩
    · have W := Walks.list (prog := C.T.prog) (w := C.T.w) ok.handled s.heap.objs.size a hne vs
      have e : vs.size = ds.length := by have := r.length; simpa using this
      rw [e] at W
      exact W
    · intro b hb
      rcases List.mem_cons.mp hb with e | h
      · exact .inl e
      · exact .inr ⟨o, List.mem_singleton.mp h ▸ hp⟩
    · exact fun i v hi => r.get' (by simpa using hi)
    · rintro i h ⟨⟨q, e1, e2, _⟩, _⟩
      exact ⟨q, _, e1, e2, rfl⟩
noncomputable def rangeV (a c : Int) (n : Nat) : List V := (List.range n).map fun (i : Nat) => V.int (a + (i : Int) * c)
theorem rangeV_length (a c : Int) (n : Nat) : (rangeV a c n).length = n := by simp [rangeV]
theorem Src.range {a b c : Int} {n : Nat} (hn : Builtin.Range.rangeSize a b c = (n : Int)) (hs : Builtin.Range.small a b c = true) : Src C (.range a b c) (rangeV a c n) := fun X ok G σ s val R hv => by
  cases hv with
  | @range r o x y z t u v hp ho =>
    have hr : IsRange s.heap r a b c t u v := by
      have := R.pers _ _ hp
      rw [ho] at this
      exact this
    refine wpAny_pyIter_range hr hs ⟨fun b q e => Heap.get?_push_of_some _ e, _, fun i h => IsRangeIter h s.heap.objs.size (a + (i : Nat) * c) ((n : Int) - (i : Nat)) c, rfl, R.grown s.toks fun b q e => Heap.get?_push_of_some _ e, ⟨[s.heap.objs.size], fun i v => i < n ∧ ∃ t, v = .int (a + (i : Int) * c) t, ?_, ?_, ?_⟩, R.offNew, (by
      show IsRangeIter _ _ _ _ _
      rw [hn]
      have e1 : a + ((0 : Nat) : Int) * c = a := by simp
      have e2 : (n : Int) - ((0 : Nat) : Int) = n := by simp
      rw [e1, e2]
      exact Heap.get?_push_size _ rfl), ?_⟩
    · rw [rangeV_length]
      have W := Walks.range (prog := C.T.prog) (w := C.T.w) ok.handled s.heap.objs.size a c n
      exact ⟨W.sub, W.frame, fun i s Q E hi st hQ => W.item i s Q E hi st fun v h' tk hv => hQ v h' tk ⟨hi, hv⟩, W.done, W.self⟩
    · exact fun b hb => .inl (List.mem_singleton.mp hb)
    · rintro i w ⟨hi, t, rfl⟩
      exact ⟨.int (a + (i : Int) * c), by simp [rangeV, hi], .int _ _⟩
    · intro i h st
      exact ⟨_, _, st, rfl, rfl⟩
end

inductive IterOk (C : Cx) (W : List V → St → Prop) (v : V) (σ₁ : St) : Prop
  | mk (v' : V) (σ₂ : St) (items : List V) (h1 : σ₁.pur v = some (v', σ₂)) (h2 : Src C v' items) (h3 : W items σ₂) : IterOk C W v σ₁
section
variable {C : Cx} {σ : St} {pos : Pos} {Φ : Fl → St → Prop}
theorem WsO.for {K : Esc C} {t iter : Expr} {body : List Stmt} (h : We C σ iter (IterOk C (WforO C K t body Φ)))
    (hs : ∀ x env, foldedSetIterable iter env x = pure x := by intro _ _; rfl) : WsO C K σ (.For t iter body [] pos) Φ := fun X ok hF G s R => by
  refine wpAny_For (wpAny_mono (h X ok G s R) (fun val s₁ ⟨G₁, σ₁, v, l₁, R₁, r₁, v', σ₂, items, h1, h2, h3⟩ => ?_) fun _ _ e => e) (fun x => hs x _)
  obtain ⟨P₂, R₂, l₂, r₂⟩ := R₁.pur r₁ h1
  refine wpAny_mono (h2 X ok _ σ₂ s₁ val R₂ r₂) (fun itv s₂ ⟨_, it, St, e, R₃, I, off, st, hst⟩ => ?_) fun _ _ e => e
  subst e
  refine forLoop_wp ok R₃ (I.mono Ghost.bare_le) off st (let ⟨o, _, e, _⟩ := hst _ _ st; ⟨o, e⟩) K hF (fun s v Q E i hi hq => letGo_wp hst s v Q E i hi hq) (fun i h hi => let ⟨o, _, e, _⟩ := hst _ _ hi; ⟨o, e⟩) h3 fun f s' p => ?_
  exact p.imp (fun p => p.le (l₁.trans l₂)) id
theorem Ws.for {t iter : Expr} {body : List Stmt} (h : We C σ iter (IterOk C (Wfor C t body Φ)))
    (hs : ∀ x env, foldedSetIterable iter env x = pure x := by intro _ _; rfl) : Ws C σ (.For t iter body [] pos) Φ := fun X ok G s R =>
  wpAny_mono (WsO.for (K := Esc.no C) (We.mono h fun _ _ ⟨v', σ₂, items, h1, h2, h3⟩ => ⟨v', σ₂, items, h1, h2, WforO.of _ h3⟩) hs X ok trivial G s R) (fun _ _ p => p.elim id False.elim) fun _ _ e => e
end

/-! a def of the text. -/
structure FnIs (T : Tbl) (n : Str) (params : Arguments) (body : List Stmt) (scope : Scope) (fd : FuncData) : Prop where
  at_ : ∃ a oc od osl, T.mg n = some (.ref a) ∧ T.K.lookup a = some ⟨oc, od, .func fd, osl⟩
  params : fd.params = params
  body : fd.body = .stmts body
  scope : fd.scope = scope
  globals : fd.globals = mainGlobals
  closure : fd.closure = []
  builtins : fd.builtins = builtinsNs
  code : codeIn T.K fd.code fd.qualname = true

theorem FnIs.at {T : Tbl} {n : Str} {params : Arguments} {body : List Stmt} {scope : Scope} {fd : FuncData} (F : FnIs T n params body scope fd) : FnAt T n :=
  let ⟨a, oc, od, osl, h1, h2⟩ := F.at_; ⟨a, fd, oc, od, osl, h1, h2⟩

noncomputable def bindV (ns : List Str) (args : List V) : Str → Option V := fun n => (ns.zip args).lookup n
noncomputable def bindsOk (sc : Scope) (ns : List Str) : Bool := ns.all (fun n => sc.names.lookup n == some .local || sc.names.lookup n == some .cell) && decide ns.Nodup && decide ((cellsFrom 0 sc.names []).map (·.1)).Nodup &&
  sc.kind == .function && !sc.isCoroutine && !sc.isGenerator

noncomputable def retOf : Fl → V
  | .ret v => v
  | _ => .none
/-- what the body must hand back -/
inductive Ret (Ψ : V → Prop) (f : Fl) (σ : St) : Prop
  | mk (v' : V) (σ' : St) (h1 : σ.pur (retOf f) = some (v', σ')) (h2 : Ψ v') : Ret Ψ f σ

theorem bindL_lookup (kindOf : Str → Option NameKind) : ∀ (binds : List (Str × Value)) (m : Str → Option Value) (n : Str), (binds.map (·.1)).Nodup → kindOf n = some .local →
    bindL kindOf binds m n = match binds.lookup n with | some v => some v | none => m n
  | [], m, n, _, _ => rfl
  | (k, v) :: r, m, n, hn, hk => by
    simp only [List.map_cons, List.nodup_cons] at hn
    unfold bindL
    rw [bindL_lookup kindOf r _ n hn.2 hk]
    by_cases e : n = k
    · subst e
      have : r.lookup n = none := by
        cases q : r.lookup n with
        | none => rfl
        | some w => exact absurd (List.mem_map.mpr ⟨_, mem_of_lookup q, rfl⟩) hn.1
      simp [this, hk]
    · have e' : (n == k) = false := by simpa using e
      rw [List.lookup_cons, e']
      cases r.lookup n with
      | some w => rfl
      | none =>
        dsimp only
        split
        · simp [e]
        · rfl
theorem bindC_lookup (kindOf : Str → Option NameKind) : ∀ (binds : List (Str × Value)) (m : Str → Option Value) (n : Str), (binds.map (·.1)).Nodup → kindOf n ≠ some .local →
    bindC kindOf binds m n = match binds.lookup n with | some v => some v | none => m n
  | [], m, n, _, _ => rfl
  | (k, v) :: r, m, n, hn, hk => by
    simp only [List.map_cons, List.nodup_cons] at hn
    unfold bindC
    rw [bindC_lookup kindOf r _ n hn.2 hk]
    by_cases e : n = k
    · subst e
      have : r.lookup n = none := by
        cases q : r.lookup n with
        | none => rfl
        | some w => exact absurd (List.mem_map.mpr ⟨_, mem_of_lookup q, rfl⟩) hn.1
      simp [this, hk]
    · have e' : (n == k) = false := by simpa using e
      rw [List.lookup_cons, e']
      cases r.lookup n with
      | some w => rfl
      | none =>
        dsimp only
        split
        · rfl
        · simp [e]
theorem zip_lookup {G : Ghost} : ∀ {ns : List Str} {vals : List Value} {ds : List V} {n : Str} {d : V}, VRs G vals ds → (ns.zip ds).lookup n = some d → ∃ v, (ns.zip vals).lookup n = some v ∧ VR G v d
  | [], _, _, _, _, _, h => by simp at h
  | _ :: _, _, _, _, _, .nil, h => by simp at h
  | k :: r, _, _, n, d, .cons (v := v) (d := d') p q, h => by
    rw [List.zip_cons_cons, List.lookup_cons] at h
    rw [List.zip_cons_cons, List.lookup_cons]
    split at h
    · rename_i e
      cases h
      exact ⟨v, rfl, p⟩
    · exact zip_lookup q h
theorem zip_fst {α β : Type} : ∀ {ns : List α} {vs : List β}, ns.length ≤ vs.length → (ns.zip vs).map (·.1) = ns
  | [], _, _ => rfl
  | _ :: _, [], h => by simp at h
  | a :: r, b :: q, h => by simp [zip_fst (Nat.le_of_succ_le_succ h)]

noncomputable def valOf : Flow → Value
  | .ret v => v
  | _ => .none
theorem FR.val {G : Ghost} {f : Flow} {f' : Fl} (h : FR G f f') : VR G (valOf f) (retOf f') := by
  cases h with
  | ret r => exact r
  | _ => exact .none

noncomputable def Tbl.nest (T : Tbl) (lm : Nat → FuncData → Prop) (fact : Bool → Env → Prop) : Tbl := { T with lm := lm, fact := fact }
theorem TopF.nest {T : Tbl} {h : Heap} (t : TopF T h) (lm : Nat → FuncData → Prop) (fact : Bool → Env → Prop) : TopF (T.nest lm fact) h := ⟨t.g, t.b, t.nolimit, t.builtins, t.K, t.bmain, t.tabG, t.tabB, t.tabS, t.tabK⟩
/-- what stands when a def's body is entered -/
structure Entered (T : Tbl) (d : Nat) (sc : Scope) (fd : FuncData) (lm' : Env → Nat → FuncData → Prop) (fact' : Env → Bool → Env → Prop) (A : Around) (s : Shared) (G : Ghost) (σ : St) (env : Env) (s₁ : Shared) : Prop where
  scope : env.scope = sc
  code : env.code = fd.code
  qual : env.qual = fd.qualname ++ ".<locals>."
  frame : env.frame = some env.locals
  ok : Ok ⟨T.nest (lm' env) (fact' env), d, sc, true⟩ { A := A.deeper env, env := env, k₀ := fun b o => T.tabs b = none ∧ s.heap.get? b = some o, P₀ := G.P, g₀ := s }
  rep : Rep ⟨T.nest (lm' env) (fact' env), d, sc, true⟩ { A := A.deeper env, env := env, k₀ := fun b o => T.tabs b = none ∧ s.heap.get? b = some o, P₀ := G.P, g₀ := s } ⟨G.P, G.adr, lm' env⟩ σ s₁
theorem enter_env {T : Tbl} {d : Nat} {args : List V} {scope : Scope} {fd : FuncData} (fS : fd.scope = scope) (fG : fd.globals = mainGlobals) (fC : fd.closure = []) (fB : fd.builtins = builtinsNs) {ns : List Str}
    (lm' : Env → Nat → FuncData → Prop) (fact' : Env → Bool → Env → Prop) (hl : ns.length = args.length) (hk : bindsOk scope ns = true)
    (hf : ∀ env, env.scope = scope → env.code = fd.code → env.qual = fd.qualname ++ ".<locals>." → (∀ x, scope.names.lookup x = some .cell → (env.cells.lookup x).isSome = true) → fact' env true env)
    {a : Addr} {A : Around} {s : Shared} {G : Ghost} {full : List Value} (room : Room A (d + 1)) (top : TopF T s.heap) (pers : ∀ a o, G.P a o → s.heap.get? a = some o)
    (tabP : ∀ Q q, T.tabs Q = some q → ∀ o, ¬ G.P Q o) (tab : TabOk T G.P s.heap) (hadr : G.adr = []) (hvv : ∀ env, VRs ⟨G.P, G.adr, lm' env⟩ full args) {Z : Env → Shared → Prop} {M : Model} {B : Around} {E : Value → Shared → Prop}
    (k : ∀ env s₁, Entered T d scope fd lm' fact' A s G ⟨bindV ns args, []⟩ env s₁ → Z env s₁) :
    wpAny M B (newFunctionEnv fd.scope fd.globals fd.closure (ns.zip full) (fd.qualname ++ ".<locals>.") (some a) fd.code none fd.builtins) (fun env s₂ => s₂.heap.NoLimit ∧ Z env s₂) E s := by
  simp only [bindsOk, Bool.and_eq_true, List.all_eq_true, decide_eq_true_eq, Bool.not_eq_true', beq_iff_eq, Bool.or_eq_true] at hk
  obtain ⟨⟨⟨⟨⟨k1, k2⟩, k3⟩, k4⟩, k5⟩, k6⟩ := hk
  have hlen : full.length = args.length := (hvv default).length
  have hfst : (ns.zip full).map (·.1) = ns := zip_fst (by rw [hlen, ← hl]; exact Nat.le_refl _)
  have hcells : ∀ n', ((cellsFrom n' scope.names []).map (·.1)).Nodup := fun n' => (cellsFrom_names scope.names 0 n' [] [] rfl) ▸ k3
  have hsome : ∀ n' x, scope.names.lookup x = some .cell → ((cellsFrom n' scope.names []).lookup x).isSome = true := fun n' x hx => cellsFrom_some _ _ _ (.inl hx)
  rw [fC]
  refine wpAny_newFunctionEnv_cells (by rw [fS]; exact k4) ?_ fun env he s₁ x => ?_
  · intro y hy
    have hm : y.1 ∈ ns := by rw [← hfst]; exact List.mem_map.mpr ⟨y, hy, rfl⟩
    rw [fS]
    rcases k1 _ hm with q | q
    · exact .inl q
    · exact .inr ⟨q, hsome _ _ q⟩
  · refine ⟨top.nolimit.keeps x.toInCall.keep, ?_⟩
    have he' : env = { scope := scope, locals := s.heap.objs.size, globals := mainGlobals, cells := cellsFrom (s.heap.objs.size + 1) scope.names [], qual := fd.qualname ++ ".<locals>.", func := some a, code := fd.code, frame := some s.heap.objs.size, builtins := builtinsNs } := by
      rw [he]; unfold newEnv; simp only [fS, fG, fB]
    have eL : env.locals = s.heap.objs.size := by rw [he']
    have eC : env.cells = cellsFrom (s.heap.objs.size + 1) scope.names [] := by rw [he']
    have eS : env.scope = scope := by rw [he']
    let X : Ctx := { A := A.deeper env, env := env, k₀ := fun b o => T.tabs b = none ∧ s.heap.get? b = some o, P₀ := G.P, g₀ := s }
    have hlt : ∀ b o, s.heap.get? b = some o → b < s.heap.objs.size := fun b o e => Heap.lt_size e
    have hnew : ∀ k c, (k, c) ∈ env.cells → s.heap.objs.size < c := fun k c hc => eL ▸ x.above k c hc
    have hsm : ∀ x, scope.names.lookup x = some .cell → (env.cells.lookup x).isSome = true := fun x hx => by rw [eC]; exact hsome _ x hx
    have eK : env.code = fd.code := by rw [he']
    have eQ : env.qual = fd.qualname ++ ".<locals>." := by rw [he']
    have ok : Ok ⟨T.nest (lm' env) (fact' env), d, scope, true⟩ X := {
      scope := eS, kind := k4, globals := by show env.globals = _; rw [he'], builtins := by show env.builtins = _; rw [he'], handled := room.handled
      depth := by have := room.depth; show A.depth + 1 + d < recursionLimit; omega
      units := by have := room.units; show A.units + 3 + 8 * d + 200 < cLine; omega
      top := fun h' hk => (top.keeps fun b o ht e => hk b o ⟨ht, e⟩).nest _ _
      names := by show (env.cells.map (·.1)).Nodup; rw [eC]; exact hcells _
      apart := fun n1 c1 n2 c2 m1 m2 hne e => by subst e; exact hne (name_of_addr x.apart m1 m2)
      cL := fun k c hc e => by have := hnew k c hc; rw [e] at this; exact absurd (eL ▸ this) (Nat.lt_irrefl _)
      L0 := fun o e => absurd (hlt _ _ e.2) (by rw [show X.env.locals = s.heap.objs.size from eL]; exact Nat.lt_irrefl _)
      c0 := fun _ k c hc o e => absurd (hlt _ _ e.2) (Nat.not_lt.mpr (Nat.le_of_lt (hnew k c hc)))
      cells := fun k hk => by
        have hk' : scope.names.lookup k = some .cell := by unfold Env.kindOf at hk; rwa [show X.env.scope = scope from eS] at hk
        obtain ⟨c, hc⟩ := Option.isSome_iff_exists.mp (hsome (s.heap.objs.size + 1) k hk')
        exact ⟨c, by show (k, c) ∈ env.cells; rw [eC]; exact mem_of_lookup hc⟩
      fact := hf env eS eK eQ hsm }
    obtain ⟨h₁, tk, rfl, hkeep⟩ := x.done
    have hmem : ∀ k c, (k, c) ∈ env.cells → env.cells.lookup k = some c := fun k c hc => lookup_mem (by rw [eC]; exact hcells _) hc
    have R : Rep ⟨T.nest (lm' env) (fact' env), d, scope, true⟩ X ⟨G.P, G.adr, lm' env⟩ ⟨bindV ns args, []⟩ { s with heap := h₁, toks := tk } := {
      same := ⟨rfl, rfl, rfl⟩
      lmT := rfl
      loc := by
        refine ⟨_, _, x.toInCall.ns, fun k c hc => x.cell k c (hmem k c hc), fun k v hv' => ?_⟩
        obtain ⟨val, e, r⟩ := zip_lookup (hvv env) hv'
        have hm : k ∈ ns := by rw [← hfst]; exact List.mem_map.mpr ⟨_, mem_of_lookup e, rfl⟩
        have hkind : env.kindOf k = scope.names.lookup k := by unfold Env.kindOf; rw [eS]
        rcases k1 _ hm with q | q
        · refine .inl ⟨hkind.trans q, val, ?_, r⟩
          rw [bindL_lookup _ _ _ _ (by rw [hfst]; exact k2) (hkind.trans q), e]
        · refine .inr ⟨.inl (hkind.trans q), ok.cells k (hkind.trans q), val, ?_, r⟩
          rw [bindC_lookup _ _ _ _ (by rw [hfst]; exact k2) (by rw [hkind, q]; decide), e]
      pers := fun b o e => hkeep _ _ (pers _ _ e)
      keep := fun b o e => hkeep _ _ e.2
      grow := fun b o e => .inl e
      sub := fun b o e => e
      notL := fun o e => absurd (hlt _ _ (pers _ _ e)) (by rw [show X.env.locals = s.heap.objs.size from eL]; exact Nat.lt_irrefl _)
      notC := fun _ k c hc o e => absurd (hlt _ _ (pers _ _ e)) (Nat.not_lt.mpr (Nat.le_of_lt (hnew k c hc)))
      adrC := fun k c hc => by rw [hadr]; simp
      adrL := by rw [hadr]; simp
      nd := by rw [hadr]; simp
      adr0 := fun b hb => by rw [hadr] at hb; simp at hb
      len := by rw [hadr]; rfl
      mu := fun k fr ds hm => by simp at hm
      tabOff := fun Q q hq => by
        obtain ⟨ps, e, _⟩ := tab Q q hq
        refine ⟨tabP Q q hq, fun o h => ?_, fun e' => ?_, fun k c hc e' => ?_, by rw [hadr]; simp⟩
        · have h1 := h.1
          rw [show T.tabs Q = some q from hq] at h1; cases h1
        · have := hlt _ _ e
          rw [e', show X.env.locals = s.heap.objs.size from eL] at this
          exact absurd this (Nat.lt_irrefl _)
        · exact absurd (Nat.lt_trans (hnew k c hc) (e' ▸ hlt _ _ e)) (Nat.lt_irrefl _)
      tab := tab.mono (fun _ _ h => h) fun b o _ _ e => hkeep b o e }
    exact k env _ ⟨eS, eK, eQ, by rw [he'], ok, R⟩
theorem FnIs.enterK {T : Tbl} {d : Nat} {n : Str} {args args' : List V} {params : Arguments} {body : List Stmt} {scope : Scope} {fd : FuncData} (F : FnIs T n params body scope fd) (ar : List Value → Args) (ns : List Str)
    (lm' : Env → Nat → FuncData → Prop) (fact' : Env → Bool → Env → Prop)
    (hb : ∀ (s : Shared) (vals : List Value), TopF T s.heap → vals.length = args.length → ∃ full, (∀ G : Ghost, VRs G vals args → VRs G full args') ∧ BindsTo s fd (ar vals) (ns.zip full))
    (hl : ns.length = args'.length) (hk : bindsOk scope ns = true)
    (hf : ∀ env, env.scope = scope → env.code = fd.code → env.qual = fd.qualname ++ ".<locals>." → (∀ x, scope.names.lookup x = some .cell → (env.cells.lookup x).isSome = true) → fact' env true env)
    (harg : ∀ env (G : Ghost) vals ds, G.lm = T.lm → G.adr = [] → ds = args' → VRs G vals ds → VRs ⟨G.P, G.adr, lm' env⟩ vals ds)
    {a : Addr} (hg : T.mg n = some (.ref a)) {A : Around} {s : Shared} {G : Ghost} {vals : List Value} (room : Room A (d + 1)) (top : TopF T s.heap) (pers : ∀ a o, G.P a o → s.heap.get? a = some o)
    (tabP : ∀ Q q, T.tabs Q = some q → ∀ o, ¬ G.P Q o) (tab : TabOk T G.P s.heap) (hadr : G.adr = []) (hlm : G.lm = T.lm) (hv : VRs G vals args) {Rr : Result → Shared → Prop}
    (k : ∀ env s₁, Entered T d scope fd lm' fact' A s G ⟨bindV ns args', []⟩ env s₁ → wpAny (model T.prog T.w) (A.deeper env) (execs body env) (fun f s' => Rr (.ok (.ret (valOf f))) s')
      (fun e s' => wpAny (model T.prog T.w) (A.deeper env) (leaving env e) (fun _ s'' => Rr (.error e) s'') (fun e' s'' => Rr (.error e') s'') s') s₁) :
    codeAny (model T.prog T.w) A (.call (.ref a) (ar vals)) Rr s := by
  obtain ⟨a', oc, od, osl, h1, h2⟩ := F.at_
  rw [hg] at h1; cases h1
  obtain ⟨full, hdv, hbt⟩ := hb s vals top hv.length
  have hk' := hk
  simp only [bindsOk, Bool.and_eq_true, List.all_eq_true, decide_eq_true_eq, Bool.not_eq_true', beq_iff_eq, Bool.or_eq_true] at hk'
  obtain ⟨⟨⟨⟨⟨k1, k2⟩, k3⟩, k4⟩, k5⟩, k6⟩ := hk'
  refine codeAny_call_function (a := a) (o := ⟨oc, od, .func fd, osl⟩) (fd := fd) (by have := room.depth; omega) (top.K _ _ h2) rfl (by rw [F.scope]; exact k5) (by rw [F.scope]; exact k6) F.body (codeRec_of top.K F.code) (hbt _ _ _ _ ?_)
  refine enter_env (d := d) F.scope F.globals F.closure F.builtins lm' fact' hl hk hf room top pers tabP tab hadr (fun env => harg env G _ _ hlm hadr rfl (hdv G hv)) fun env s₁ N => codeAny_func ?_
  refine wpAny_mono (k env _ N) (fun f s' q => ?_) fun _ _ e => e
  cases f <;> exact q
theorem FnIs.enter {T : Tbl} {d : Nat} {n : Str} {args dargs : List V} {params : Arguments} {body : List Stmt} {scope : Scope} {fd : FuncData} (F : FnIs T n params body scope fd) (ns : List Str)
    (lm' : Env → Nat → FuncData → Prop) (fact' : Env → Bool → Env → Prop)
    (hb : ∀ (s : Shared) (vals : List Value), TopF T s.heap → vals.length = args.length → ∃ dvals, (∀ G : Ghost, VRs G dvals dargs) ∧ BindsTo s fd ⟨vals, []⟩ (ns.zip (vals ++ dvals)))
    (hl : ns.length = args.length + dargs.length) (hk : bindsOk scope ns = true)
    (hf : ∀ env, env.scope = scope → env.code = fd.code → env.qual = fd.qualname ++ ".<locals>." → (∀ x, scope.names.lookup x = some .cell → (env.cells.lookup x).isSome = true) → fact' env true env)
    (harg : ∀ env (G : Ghost) vals ds, G.lm = T.lm → G.adr = [] → ds = args ++ dargs → VRs G vals ds → VRs ⟨G.P, G.adr, lm' env⟩ vals ds)
    {a : Addr} (hg : T.mg n = some (.ref a)) {A : Around} {s : Shared} {G : Ghost} {vals : List Value} (room : Room A (d + 1)) (top : TopF T s.heap) (pers : ∀ a o, G.P a o → s.heap.get? a = some o)
    (tabP : ∀ Q q, T.tabs Q = some q → ∀ o, ¬ G.P Q o) (tab : TabOk T G.P s.heap) (hadr : G.adr = []) (hlm : G.lm = T.lm) (hv : VRs G vals args) {Rr : Result → Shared → Prop}
    (k : ∀ env s₁, Entered T d scope fd lm' fact' A s G ⟨bindV ns (args ++ dargs), []⟩ env s₁ → wpAny (model T.prog T.w) (A.deeper env) (execs body env) (fun f s' => Rr (.ok (.ret (valOf f))) s')
      (fun e s' => wpAny (model T.prog T.w) (A.deeper env) (leaving env e) (fun _ s'' => Rr (.error e) s'') (fun e' s'' => Rr (.error e') s'') s') s₁) :
    codeAny (model T.prog T.w) A (.call (.ref a) ⟨vals, []⟩) Rr s :=
  F.enterK (fun vals => ⟨vals, []⟩) ns lm' fact' (fun s vals top h => let ⟨dvals, h1, h2⟩ := hb s vals top h; ⟨vals ++ dvals, fun G r => r.append (h1 G), h2⟩) (by rw [List.length_append]; exact hl) hk hf harg hg room top pers tabP tab hadr hlm hv k
theorem FnOk.introG {T : Tbl} {d : Nat} {n : Str} {args dargs : List V} {Ψ : V → Prop} {params : Arguments} {body : List Stmt} {scope : Scope} {fd : FuncData} (F : FnIs T n params body scope fd) (ns : List Str)
    (lm' : Env → Nat → FuncData → Prop) (fact' : Env → Bool → Env → Prop)
    (hb : ∀ (s : Shared) (vals : List Value), TopF T s.heap → vals.length = args.length → ∃ dvals, (∀ G : Ghost, VRs G dvals dargs) ∧ BindsTo s fd ⟨vals, []⟩ (ns.zip (vals ++ dvals)))
    (hl : ns.length = args.length + dargs.length) (hk : bindsOk scope ns = true)
    (hf : ∀ env, env.scope = scope → env.code = fd.code → env.qual = fd.qualname ++ ".<locals>." → (∀ x, scope.names.lookup x = some .cell → (env.cells.lookup x).isSome = true) → fact' env true env)
    (harg : ∀ env (G : Ghost) vals ds, G.lm = T.lm → G.adr = [] → ds = args ++ dargs → VRs G vals ds → VRs ⟨G.P, G.adr, lm' env⟩ vals ds)
    (hret : ∀ env P val v, Ψ v → VR ⟨P, [], lm' env⟩ val v → VR ⟨P, [], T.lm⟩ val v)
    (h : ∀ env, env.scope = scope → env.code = fd.code → env.qual = fd.qualname ++ ".<locals>." → Wx ⟨T.nest (lm' env) (fact' env), d, scope, true⟩ ⟨bindV ns (args ++ dargs), []⟩ body (Ret Ψ)) : FnOk T d n args Ψ := by
  intro a hg A s G vals room top pers tabP tab hadr hlm hv
  refine F.enter ns lm' fact' hb hl hk hf harg hg room top pers tabP tab hadr hlm hv fun env s₁ N => ?_
  refine wpAny_mono (h env N.scope N.code N.qual _ N.ok _ _ N.rep) (fun f s' ⟨G', σ', f', le, R', fr, v', σ'', hp, hΨ⟩ => ?_) fun _ _ e => e.elim
  have rv := fr.val
  obtain ⟨P₂, R₂, l₂, r₂⟩ := R'.pur rv hp
  obtain ⟨sg, sd, so⟩ := R₂.same
  refine ⟨valOf f, s'.heap, s'.toks, P₂, v', rfl, ?_, fun b o ht e => R₂.keep b o ⟨ht, e⟩, fun b o e => R₂.sub b o e, R₂.pers, fun b o e => ?_, R₂.tab, ?_, hΨ⟩
  · obtain ⟨a1, a2, a3, a4, a5⟩ := s'
    have sg' : a2 = s.gens := sg
    have sd' : a3 = s.drawn := sd
    have so' : a5 = s.os := so
    subst sg' sd' so'
    rfl
  · rcases R₂.grow b o e with q | q
    · exact .inl q
    · right
      cases w : s.heap.get? b with
      | none => rfl
      | some o' =>
        cases ht : T.tabs b with
        | none => exact absurd ⟨ht, w⟩ (q o')
        | some q' => exact ((R₂.tabOff b q' ht).P o e).elim
  · have e1 : G'.lm = lm' env := le.lm.symm
    have r₃ : VR ⟨P₂, [], lm' env⟩ (valOf f) v' := e1 ▸ r₂
    exact hlm ▸ hret env P₂ _ _ hΨ r₃
theorem FnOk.intro {T : Tbl} {d : Nat} {n : Str} {args dargs : List V} {Ψ : V → Prop} {params : Arguments} {body : List Stmt} {scope : Scope} {fd : FuncData} (F : FnIs T n params body scope fd) (ns : List Str)
    (hb : ∀ (s : Shared) (vals : List Value), TopF T s.heap → vals.length = args.length → ∃ dvals, (∀ G : Ghost, VRs G dvals dargs) ∧ BindsTo s fd ⟨vals, []⟩ (ns.zip (vals ++ dvals)))
    (hl : ns.length = args.length + dargs.length) (hk : bindsOk scope ns = true) (hT : T.Plain)
    (h : Wx ⟨T, d, scope, true⟩ ⟨bindV ns (args ++ dargs), []⟩ body (Ret Ψ)) : FnOk T d n args Ψ :=
  FnOk.introG F ns (fun _ => T.lm) (fun _ => T.fact) hb hl hk (fun _ _ _ _ _ => hT _ _) (fun env G vals ds e _ _ r => by rw [← e]; exact r) (fun _ _ _ _ _ r => r) fun _ _ _ _ => h

/-! VL6 -/
/-! a list that grows -/
theorem app_wp {C : Cx} {X : Ctx} {G : Ghost} {σ : St} {s : Shared} (R : Rep C X G σ s) {k : Nat} {ds : List V} (hk : σ.mu[k]? = some (false, ds)) (hz : ds.length ≤ 1048576) {a : Addr} (ha : G.adr[k]? = some a) {val : Value} {v : V} (hv : VR G val v)
    {Q : Value → Shared → Prop} {E : Value → Shared → Prop} (h : ∀ s', Rep C X G ⟨σ.loc, σ.mu.set k (false, ds ++ [v])⟩ s' → Q .none s') : wpAny C.M X.A (PySem.call (.builtin "list.append") [.ref a, val]) Q E s := by
  obtain ⟨a', o, vs, n, e1, e2, e3, e4, r, f1, f2⟩ := R.mu k false ds hk
  rw [ha] at e1; cases e1
  have hl : s.heap.PlainList a vs := ⟨n, by
    obtain ⟨c, d, dt, sl⟩ := o
    obtain ⟨q1, q2, q3⟩ := e3
    dsimp only at q1 q2 q3 e4
    subst q1 q2 q3 e4
    exact e2⟩
  have hkl : k < σ.mu.length := (List.getElem?_eq_some_iff.mp hk).1
  refine wpAny_list_append_plain hl (fun h' hl' hs => h _ ?_) (by have := r.length; simp at this; rw [this]; exact Nat.le_trans hz (by decide))
  have keep : ∀ b p, b ≠ a → s.heap.get? b = some p → h'.get? b = some p := fun b p hb e => (hs.2 b hb).trans e
  have hPa := f2 rfl
  obtain ⟨m, cm, h1, h2, h3⟩ := R.loc
  obtain ⟨n', g1⟩ := hl'
  refine ⟨R.same, R.lmT, ⟨m, cm, h1.at' fun q e => keep _ q (fun e' => R.adrL (e' ▸ List.mem_of_getElem? ha)) e, fun j c hc => ?_, h3⟩, fun b p hp => keep b p (fun e => hPa p (e ▸ hp)) (R.pers b p hp), fun b p hp => keep b p (fun e => R.adr0 a (List.mem_of_getElem? ha) p (e ▸ hp)) (R.keep b p hp), R.grow, R.sub, R.notL, R.notC, R.adrC, R.adrL, R.nd, R.adr0, by simpa using R.len, ?_, R.tabOff, R.tab.mono (fun _ _ h => h) fun b p q hq e => keep b p (fun e' => (R.tabOff b q hq).adr (e' ▸ List.mem_of_getElem? ha)) e⟩
  · obtain ⟨p, q1, q2⟩ := h2 j c hc
    exact ⟨p, keep c p (fun e => R.adrC j c hc (e ▸ List.mem_of_getElem? ha)) q1, q2⟩
  · intro j fr ds' hm
    by_cases hj : j = k
    · subst hj
      rw [List.getElem?_set_self hkl] at hm
      cases hm
      refine ⟨a, _, vs.push val, n', ha, g1, ⟨rfl, rfl, rfl⟩, rfl, ?_, (fun h => absurd h (by decide)), fun _ => hPa⟩
      rw [Array.toList_push]
      exact r.append (.cons hv .nil)
    · rw [List.getElem?_set_ne (fun e => hj e.symm)] at hm
      obtain ⟨b, p, us, n2, q1, q2, q3⟩ := R.mu j fr ds' hm
      refine ⟨b, p, us, n2, q1, keep b p (fun e => ?_) q2, q3⟩
      subst e
      exact hj ((List.getElem?_inj (List.getElem?_eq_some_iff.mp q1).1 R.nd).mp (q1.trans ha.symm))

/-! comprehensions -/
noncomputable def Witems (C : Cx) (t : Expr) (body : St → (St → Prop) → Prop) : List V → St → (St → Prop) → Prop
  | [], σ, Φ => Φ σ
  | d :: r, σ, Φ => Asg C σ t d fun σ₁ => body σ₁ fun σ₂ => Witems C t body r σ₂ Φ
noncomputable def Wifs (C : Cx) : List Expr → St → (Bool → St → Prop) → Prop
  | [], σ, Ψ => Ψ true σ
  | c :: r, σ, Ψ => Wt C σ c fun b σ₁ => if b = true then Wifs C r σ₁ Ψ else Ψ false σ₁
inductive AppOk (k : Nat) (Ψ : List V → Prop) (σ₁ : St) : Prop
  | mk (ds : List V) (h1 : σ₁.mu[k]? = some (false, ds)) (h2 : ds.length ≤ 1048576) (h3 : Ψ ds) : AppOk k Ψ σ₁
noncomputable def Wbody (C : Cx) (elt : Expr) : List Comprehension → St → (St → Prop) → Prop
  | [], σ, Φ => We C σ elt fun v σ₁ => AppOk 0 (fun ds => Φ ⟨σ₁.loc, σ₁.mu.set 0 (false, ds ++ [v])⟩) σ₁
  | g :: rest, σ, Φ => (g.is_async = 0 ∧ ∀ x env, foldedSetIterable g.iter env x = pure x) ∧ We C σ g.iter (IterOk C fun items σ₂ =>
      Witems C g.target (fun σ₃ Φ' => Wifs C g.ifs σ₃ fun b σ₄ => if b = true then Wbody C elt rest σ₄ Φ' else Φ' σ₄) items σ₂ Φ)
noncomputable def Wturn (C : Cx) (elt : Expr) (rest : List Comprehension) (ifs : List Expr) (σ : St) (Φ : St → Prop) : Prop := Wifs C ifs σ fun b σ₁ => if b = true then Wbody C elt rest σ₁ Φ else Φ σ₁

noncomputable abbrev testsOf (ifs : List Expr) (env : Env) : Sem Bool := forIn ifs true fun c r => if r = true then do let ok ← isTrue c env (eval c env); pure (ForInStep.yield ok) else pure (ForInStep.yield r)
theorem tests_false {M : Model} {A : Around} {E : Value → Shared → Prop} {s : Shared} {env : Env} : ∀ (ifs : List Expr) {Q : Bool → Shared → Prop}, Q false s →
    wpAny M A (forIn ifs false fun c r => if r = true then do let ok ← isTrue c env (eval c env); pure (ForInStep.yield ok) else pure (ForInStep.yield r)) Q E s
  | [], _, h => wpAny_pure h
  | c :: r, _, h => by
    rw [List.forIn_cons]
    exact wpAny_bind (wpAny_pure (tests_false r h))
theorem tests_wp {C : Cx} {X : Ctx} (ok : Ok C X) : ∀ (ifs : List Expr) {G : Ghost} {σ : St} {s : Shared} {Ψ : Bool → St → Prop}, Rep C X G σ s → Wifs C ifs σ Ψ → wpAny C.M X.A (testsOf ifs X.env) (PostT C X G Ψ) Bad s
  | [], G, σ, s, Ψ, R, h => wpAny_pure ⟨G, σ, .refl, R, h⟩
  | c :: r, G, σ, s, Ψ, R, h => by
    unfold testsOf
    rw [List.forIn_cons]
    refine wpAny_bind ?_
    refine wpAny_bind (wpAny_mono (h X ok G s R) (fun b s₁ ⟨G₁, σ₁, l₁, R₁, h₁⟩ => wpAny_pure ?_) fun _ _ e => e)
    cases b
    · exact tests_false r ⟨G₁, σ₁, l₁, R₁, h₁⟩
    · exact wpAny_mono (tests_wp ok r R₁ h₁) (fun _ _ p => p.le l₁) fun _ _ e => e

/-- one turn of a clause -/
theorem compTurn_wp {prog : Program} {w : World} {A : Around} {s : Shared} {R : Result → Shared → Prop} {elt : Expr} {gens : List Comprehension} {scope : Scope} {pos : Pos} {depth : Nat} {it acc : Value} {env : Env} {t iter : Expr} {ifs : List Expr} (hg : gens[depth]? = some ⟨t, iter, ifs, 0⟩)
    (I : Nat → Shared → Prop)
    (turn : ∀ n s, I n s → wpAny (model prog w) A (pyNext it) (fun r s₁ => match r with
      | none => R (.ok .next) s₁
      | some v => wpAny (model prog w) A (letOwnedTupleGo t it v) (fun _ s₂ => wpAny (model prog w) A (assign t env v) (fun _ s₃ => wpAny (model prog w) A (testsOf ifs env) (fun ok s₄ =>
          if ok = true then (match gens[depth + 1]? with
            | some g' => g'.is_async = 0 ∧ (∀ x, foldedSetIterable g'.iter env x = pure x) ∧ wpAny (model prog w) A (eval g'.iter env) (fun x s₅ => wpAny (model prog w) A (pyIter x) (fun it' s₆ =>
                codeAny (model prog w) A (.compStart (.ListComp elt gens scope pos) (depth + 1) it' acc env) (fun r s' => ∃ f, r = .ok f ∧ ∃ m, m < n ∧ I m s') s₆) Bad s₅) Bad s₄
            | none => wpAny (model prog w) A (eval elt env) (fun x s₅ => wpAny (model prog w) A (PySem.call (.builtin "list.append") [acc, x]) (fun _ s₆ => ∃ m, m < n ∧ I m s₆) Bad s₅) Bad s₄)
          else ∃ m, m < n ∧ I m s₄) Bad s₃) Bad s₂) Bad s₁) Bad s)
    (n : Nat) (h : I n s) : codeAny (model prog w) A (.compLoop (.ListComp elt gens scope pos) depth it acc env) R s := by
  refine codeAny_loop' rfl I (fun n s hI => ?_) n h
  show wpAny _ A ((compTurn (.ListComp elt gens scope pos) depth it acc env).onRaise (fun x => do noteFrame x env; theTreesLotGoes x)) _ _ s
  refine wpAny_noted ?_
  simp only [compTurn, hg, bne_self_eq_false, Bool.false_eq_true, if_false]
  refine wpAny_bind (wpAny_standAt (wpAny_bind (wpAny_mono (turn n s hI) (fun r s₁ h₁ => ?_) fun _ _ h' => h'.elim)))
  cases r with
  | none => exact wpAny_pure h₁
  | some v =>
    refine wpAny_bind (wpAny_mono h₁ (fun _ s₂ h₂ => wpAny_bind (wpAny_mono h₂ (fun _ s₃ h₃ => wpAny_bind (wpAny_mono h₃ (fun ok s₄ h₄ => ?_) fun _ _ h' => h'.elim)) fun _ _ h' => h'.elim)) fun _ _ h' => h'.elim)
    cases ok with
    | false => exact wpAny_pure (.inl ⟨rfl, h₄⟩)
    | true =>
      simp only [if_true] at h₄ ⊢
      cases hn : gens[depth + 1]? with
      | none =>
        rw [hn] at h₄
        dsimp only at h₄ ⊢
        refine wpAny_bind (wpAny_bind (wpAny_mono h₄ (fun x s₅ h₅ => wpAny_bind (wpAny_mono h₅ (fun _ s₆ h₆ => wpAny_pure ?_) fun _ _ h' => h'.elim)) fun _ _ h' => h'.elim))
        exact wpAny_pure (.inl ⟨rfl, h₆⟩)
      | some g' =>
        rw [hn] at h₄
        dsimp only at h₄ ⊢
        obtain ⟨h0, hs, h₄⟩ := h₄
        have e0 : (g'.is_async != 0) = false := by rw [h0]; rfl
        simp only [e0, Bool.false_eq_true, if_false]
        refine wpAny_bind (wpAny_mono h₄ (fun x s₅ h₅ => wpAny_bind (wpAny_standAt (wpAny_bind (wpAny_of_eq (hs x) (wpAny_bind (wpAny_holding (wpAny_mono h₅ (fun it' s₆ h₆ => ?_) fun _ _ h' => h'.elim))))))) fun _ _ h' => h'.elim)
        refine wpAny_bind (wpAny_runOwn (codeAny_mono h₆ fun r s' hr => ?_))
        obtain ⟨f, rfl, hm⟩ := hr
        exact wpAny_pure (.inl ⟨rfl, hm⟩)
theorem compStart_wp {prog : Program} {w : World} {A : Around} {s : Shared} {R : Result → Shared → Prop} {elt : Expr} {gens : List Comprehension} {scope : Scope} {pos : Pos} {depth : Nat} {it acc : Value} {env : Env} {t iter : Expr} {ifs : List Expr} (hg : gens[depth]? = some ⟨t, iter, ifs, 0⟩)
    (h0 : codeAny (model prog w) A (.compLoop (.ListComp elt gens scope pos) depth it acc env) R s)
    (h : ∀ (Q : Value → Shared → Prop) (E : Value → Shared → Prop), Q it s → wpAny (model prog w) A (pyIter it) Q E s) :
    codeAny (model prog w) A (.compStart (.ListComp elt gens scope pos) depth it acc env) R s := by
  refine codeAny_of_tree ?_
  show wpAny _ _ ((compStart (.ListComp elt gens scope pos) depth it acc env).onRaise (fun x => do noteFrame x env; standAt theWindowsPlace)) _ _ s
  refine wpAny_notedAt ?_
  unfold compStart
  have hc : clausesOf (.ListComp elt gens scope pos) = gens := rfl
  simp only [hc, hg, Option.elim_some, bne_self_eq_false, Bool.false_eq_true, if_false]
  show wpAny _ _ (ask >>= _) _ _ s
  refine wpAny_bind (wpAny_askSetting (wpAny_ite ?_))
  split
  · first
      | exact wpAny_bind (wpAny_pure (wpAny_pure (And.intro rfl h0)))
      | exact wpAny_pure (And.intro rfl h0)
  · refine wpAny_bind (wpAny_rule (wpAny_bind (wpAny_standAt (wpAny_bind (h _ _ (wpAny_pure (And.intro rfl h0)))))))
theorem drop_get {α : Type} {l : List α} {k : Nat} {a : α} {r : List α} (h : l.drop k = a :: r) : l[k]? = some a ∧ l.drop (k + 1) = r := by
  refine ⟨?_, ?_⟩
  · have : (l.drop k)[0]? = some a := by rw [h]; rfl
    simpa using this
  · rw [← List.drop_drop, h]; rfl

/-- what is left of a turn whose tests hold -/
noncomputable def TurnTail (C : Cx) (X : Ctx) (elt : Expr) (gens : List Comprehension) (scope : Scope) (pos : Pos) (depth : Nat) (ac : Addr) (J : Shared → Prop) (s₄ : Shared) : Prop := match gens[depth + 1]? with
  | some g' => g'.is_async = 0 ∧ (∀ x, foldedSetIterable g'.iter X.env x = pure x) ∧ wpAny C.M X.A (eval g'.iter X.env) (fun x s₅ => wpAny C.M X.A (pyIter x) (fun it' s₆ =>
      codeAny C.M X.A (.compStart (.ListComp elt gens scope pos) (depth + 1) it' (.ref ac) X.env) (fun r s' => ∃ f, r = .ok f ∧ J s') s₆) Bad s₅) Bad s₄
  | none => wpAny C.M X.A (eval elt X.env) (fun x s₅ => wpAny C.M X.A (PySem.call (.builtin "list.append") [.ref ac, x]) (fun _ s₆ => J s₆) Bad s₅) Bad s₄
theorem comp_clause {C : Cx} {elt : Expr} {gens : List Comprehension} {scope : Scope} {pos : Pos} {ac : Addr} {rest : List Comprehension} {depth : Nat} {t iter : Expr} {ifs : List Expr} (hg : gens[depth]? = some ⟨t, iter, ifs, 0⟩)
    {X : Ctx} (ok : Ok C X) {G : Ghost} {σ : Mine.St} {s : Shared} {it : Addr} {items : List V} {St : Nat → Heap → Prop} {Φ : Mine.St → Prop} (R : Rep C X G σ s) (I : Iter C X G it items St) (off : Off C X G it) (hst : St 0 s.heap) (hit : ItSt it St)
    (h : Witems C t (Wturn C elt rest ifs) items σ Φ)
    (inner : ∀ (X' : Ctx), X'.A = X.A → X'.env = X.env → Ok C X' → ∀ (G₄ : Ghost) (σ₄ : Mine.St) (s₄ : Shared) (Φ' : Mine.St → Prop) (J : Shared → Prop), G.Le G₄ → Rep C X' G₄ σ₄ s₄ → Wbody C elt rest σ₄ Φ' → (∀ G₅ σ₅ s₅, G₄.Le G₅ → Rep C X' G₅ σ₅ s₅ → Φ' σ₅ → J s₅) → TurnTail C X' elt gens scope pos depth ac J s₄) :
    codeAny C.M X.A (.compStart (.ListComp elt gens scope pos) depth (.ref it) (.ref ac) X.env) (fun r s' => ∃ f, r = .ok f ∧ PostU C X G Φ () s') s := by
  refine compStart_wp hg (compTurn_wp hg (TurnI C X G it items St fun r σ' => Witems C t (Wturn C elt rest ifs) r σ' Φ) ?_ items.length ⟨0, G, σ, Nat.zero_le _, rfl, .refl, R, off, hst, h⟩)
    (fun Q E hq => let ⟨fp, P, W, _⟩ := I.walk; W.self 0 s Q E hst hq)
  rintro m s' ⟨i, G₁, σ₁, hi, rfl, l₁, R₁, o₁, st₁, h₁⟩
  obtain ⟨fp, P, W, hfp, hP⟩ := (I.mono l₁).walk
  rcases Nat.lt_or_ge i items.length with hlt | hge
  · refine W.item i s' _ _ hlt st₁ fun v h' tk hv st₂ hk => ?_
    obtain ⟨d, hd', rv⟩ := hP i v hv
    have R₂ : Rep C X G₁ σ₁ { s' with heap := h', toks := tk } := R₁.off o₁ tk fun a q ha e => hk a q (by simpa using ha) e
    have hdrop : items.drop i = d :: items.drop (i + 1) := by
      rw [List.drop_eq_getElem_cons hlt]
      have := List.getElem?_eq_getElem hlt
      rw [hd'] at this
      rw [Option.some.inj this]
    rw [hdrop] at h₁
    refine letGo_wp hit _ v _ _ (i + 1) st₂ ?_
    obtain ⟨p, _, hp, _⟩ := hit _ _ st₂
    have okp : Ok C (X.plus it p G₁.P) := ok.plus o₁
    have R₂' : Rep C (X.plus it p G₁.P) G₁ σ₁ { s' with heap := h', toks := tk } := R₂.plus o₁ hp
    have frame : ∀ {G' : Ghost} {σ' : Mine.St} {s'' : Shared}, Rep C (X.plus it p G₁.P) G' σ' s'' → St (i + 1) s''.heap := by
      intro G' σ' s'' R''
      refine W.frame _ _ _ st₂ fun b hb o ho => ?_
      rcases hfp b hb with e | ⟨q, hq⟩
      · subst e
        rw [hp] at ho; cases ho
        exact R''.keep _ _ (.inr ⟨rfl, rfl⟩)
      · have := R₂.pers _ _ hq
        rw [this] at ho; cases ho
        exact R''.pers _ _ (R''.sub _ _ hq)
    have back : ∀ {G₄ : Ghost} {σ₄ : Mine.St} {s₄ : Shared}, G₁.Le G₄ → Rep C (X.plus it p G₁.P) G₄ σ₄ s₄ → Witems C t (Wturn C elt rest ifs) (items.drop (i + 1)) σ₄ Φ →
        ∃ m, m < items.length - i ∧ TurnI C X G it items St (fun r σ' => Witems C t (Wturn C elt rest ifs) r σ' Φ) m s₄ := by
      intro G₄ σ₄ s₄ le R₄ h₄
      obtain ⟨R₅, o₅, _⟩ := R₂.minus o₁ R₄
      exact ⟨items.length - (i + 1), by omega, i + 1, G₄, σ₄, hlt, rfl, l₁.trans le, R₅, o₅, frame R₄, h₄⟩
    refine wpAny_mono (h₁ _ okp G₁ _ v R₂' rv) (fun _ s₃ ⟨G₃, σ₃, l₃, R₃, h₃⟩ => ?_) fun _ _ e => e.elim
    refine wpAny_mono (tests_wp okp ifs R₃ h₃) (fun b s₄ ⟨G₄, σ₄, l₄, R₄, h₄⟩ => ?_) fun _ _ e => e.elim
    cases b
    · exact back (l₃.trans l₄) R₄ h₄
    · exact inner (X.plus it p G₁.P) rfl rfl okp G₄ σ₄ s₄ _ _ ((l₁.trans l₃).trans l₄) R₄ h₄ fun G₅ σ₅ s₅ l₅ R₅ h₅ => back ((l₃.trans l₄).trans l₅) R₅ h₅
  · have hie : i = items.length := Nat.le_antisymm hi hge
    subst hie
    refine W.done s' _ _ st₁ fun h' tk hk => ⟨_, rfl, ?_⟩
    have R₂ : Rep C X G₁ σ₁ { s' with heap := h', toks := tk } := R₁.off o₁ tk fun a q ha e => hk a q (by simpa using ha) e
    rw [List.drop_length] at h₁
    exact ⟨G₁, σ₁, l₁, R₂, h₁⟩
theorem comp_ok {C : Cx} {elt : Expr} {gens : List Comprehension} {scope : Scope} {pos : Pos} {ac : Addr} : ∀ (rest : List Comprehension) (depth : Nat) (t iter : Expr) (ifs : List Expr), gens.drop depth = ⟨t, iter, ifs, 0⟩ :: rest →
    ∀ {X : Ctx} (ok : Ok C X) {G : Ghost} {σ : Mine.St} {s : Shared} {it : Addr} {items : List V} {St : Nat → Heap → Prop} {Φ : Mine.St → Prop}, Rep C X G σ s → G.adr[0]? = some ac → Iter C X G it items St → Off C X G it → St 0 s.heap → ItSt it St →
      Witems C t (Wturn C elt rest ifs) items σ Φ →
      codeAny C.M X.A (.compStart (.ListComp elt gens scope pos) depth (.ref it) (.ref ac) X.env) (fun r s' => ∃ f, r = .ok f ∧ PostU C X G Φ () s') s := by
  intro rest
  induction rest with
  | nil =>
    intro depth t iter ifs hd X ok G σ s it items St Φ R hac I off hst hit h
    obtain ⟨hg, hn⟩ := drop_get hd
    refine comp_clause hg ok R I off hst hit h ?_
    intro X' hA hE okp G₄ σ₄ s₄ Φ' J l₄ R₄ h₄ hJ
    have hnone : gens[depth + 1]? = none := by
      have : (gens.drop (depth + 1))[0]? = none := by rw [hn]; rfl
      simpa using this
    unfold TurnTail
    rw [hnone]
    refine wpAny_mono (h₄ _ okp G₄ s₄ R₄) (fun val s₅ ⟨G₅, σ₅, w, l₅, R₅, rw', ds, hm, hz, h₅⟩ => ?_) fun _ _ e => e.elim
    exact app_wp R₅ hm hz ((l₄.trans l₅).adr _ _ hac) rw' fun s₆ R₆ => hJ _ _ _ l₅ R₆ h₅
  | cons g rest ih =>
    intro depth t iter ifs hd X ok G σ s it items St Φ R hac I off hst hit h
    obtain ⟨hg, hn⟩ := drop_get hd
    refine comp_clause hg ok R I off hst hit h ?_
    intro X' hA hE okp G₄ σ₄ s₄ Φ' J l₄ R₄ h₄ hJ
    unfold TurnTail
    rw [(drop_get hn).1]
    obtain ⟨⟨ha, hfold⟩, h₄⟩ := h₄
    refine ⟨ha, fun x => hfold x _, ?_⟩
    refine wpAny_mono (h₄ _ okp G₄ s₄ R₄) (fun val s₅ ⟨G₅, σ₅, w, l₅, R₅, rw', w', σ₆, items', hpur, hsrc, h₆⟩ => ?_) fun _ _ e => e.elim
    obtain ⟨P₆, R₆, l₆, r₆⟩ := R₅.pur rw' hpur
    refine wpAny_mono (hsrc _ okp _ σ₆ s₅ val R₆ r₆) (fun itv s₇ ⟨_, it', St', e, R₇, I', off', st', hst'⟩ => ?_) fun _ _ e => e.elim
    subst e
    have lac : G₄.Le ⟨P₆, G₅.adr, G₅.lm⟩ := l₅.trans l₆
    obtain ⟨gt, gi, gf, ga⟩ := g
    simp only at ha
    subst ha
    refine codeAny_mono (ih (depth + 1) gt gi gf hn okp R₇ ((l₄.trans lac).adr _ _ hac) (I'.mono Ghost.bare_le) off' st' hst' h₆) ?_
    rintro r s₈ ⟨f, rfl, G₈, σ₈, l₈, R₈, h₈⟩
    exact ⟨f, rfl, hJ _ _ _ (lac.trans l₈) R₈ h₈⟩

/-! VL7 -/
noncomputable def freeNames (scope : Scope) : List Str := (scope.names.filter fun x => x.2 == .free).map (·.1)
noncomputable def relab (scope sc : Scope) : Scope := { scope with names := scope.names.map fun (n, k) => if (k == .free && sc.kind == .function && sc.names.lookup n == some .cell) then (n, .cell) else (n, k) }
noncomputable def compOk (scope sc : Scope) : Bool := scope.kind == .function && sc.kind == .function && scope.names.all (fun x => x.2 != .cell) && decide (scope.names.map (·.1)).Nodup && (freeNames scope).all (fun n => sc.names.lookup n == some .cell)

noncomputable def clF (env : Env) : List (Str × NameKind) → List (Str × Addr) → List (Str × Addr)
  | [], acc => acc
  | (n, k) :: r, acc => if k == .free then clF env r ((n, (env.cells.lookup n).getD 0) :: acc) else clF env r acc
theorem closure_eq {env : Env} : ∀ (names : List (Str × NameKind)) (acc : List (Str × Addr)), (∀ x ∈ names, x.2 = .free → (env.cells.lookup x.1).isSome = true) →
    (forIn names acc fun x cs => match x with | (name, kind) => if (kind == NameKind.free) = true then do let c ← cellOf env name; pure (ForInStep.yield ((name, c) :: cs)) else pure (ForInStep.yield cs) : Sem (List (Str × Addr))) = pure (clF env names acc)
  | [], acc, _ => by rw [List.forIn_nil]; rfl
  | (n, k) :: r, acc, h => by
    rw [List.forIn_cons]
    unfold clF
    by_cases hk : (k == NameKind.free) = true
    · obtain ⟨c, hc⟩ := Option.isSome_iff_exists.mp (h (n, k) (.head _) (by simpa using hk))
      simp only [hk, if_true, hc, Option.getD_some]
      have : cellOf env n = pure c := by unfold cellOf; rw [hc]
      rw [this, pure_bind, pure_bind]
      exact closure_eq r _ fun x hx => h x (.tail _ hx)
    · simp only [hk]
      simp only [Bool.false_eq_true, if_false, pure_bind]
      exact closure_eq r _ fun x hx => h x (.tail _ hx)
theorem closureFor_eq {scope : Scope} {env : Env} (h : ∀ x ∈ scope.names, x.2 = .free → (env.cells.lookup x.1).isSome = true) : closureFor scope env = pure (clF env scope.names []) := by
  have := closure_eq scope.names [] h
  simp only [closureFor]
  refine Eq.trans ?_ this
  exact bind_pure _
theorem mem_clF {env : Env} : ∀ {names : List (Str × NameKind)} {acc : List (Str × Addr)} {n : Str} {c : Addr}, (n, c) ∈ clF env names acc → (n, c) ∈ acc ∨ ((n, NameKind.free) ∈ names ∧ (env.cells.lookup n).getD 0 = c)
  | [], _, _, _, h => .inl h
  | (m, k) :: r, acc, n, c, h => by
    unfold clF at h
    split at h
    · rename_i hk
      rcases mem_clF h with h | ⟨h1, h2⟩
      · rcases List.mem_cons.mp h with e | h
        · cases e
          have : k = .free := by simpa using hk
          subst this
          exact .inr ⟨.head _, rfl⟩
        · exact .inl h
      · exact .inr ⟨.tail _ h1, h2⟩
    · rcases mem_clF h with h | ⟨h1, h2⟩
      · exact .inl h
      · exact .inr ⟨.tail _ h1, h2⟩
theorem clF_mem {env : Env} : ∀ {names : List (Str × NameKind)} {acc : List (Str × Addr)} {n : Str}, ((n, NameKind.free) ∈ names ∨ ∃ c, (n, c) ∈ acc) → ∃ c, (n, c) ∈ clF env names acc
  | [], _, _, h => h.elim (fun h => by cases h) id
  | (m, k) :: r, acc, n, h => by
    unfold clF
    split
    · rcases h with h | ⟨c, h⟩
      · rcases List.mem_cons.mp h with e | h
        · cases e; exact clF_mem (.inr ⟨_, .head _⟩)
        · exact clF_mem (.inl h)
      · exact clF_mem (.inr ⟨c, .tail _ h⟩)
    · rename_i hk
      rcases h with h | ⟨c, h⟩
      · rcases List.mem_cons.mp h with e | h
        · cases e; exact absurd rfl hk
        · exact clF_mem (.inl h)
      · exact clF_mem (.inr ⟨c, h⟩)
theorem clF_names {env : Env} : ∀ {names : List (Str × NameKind)} {acc : List (Str × Addr)}, ((names.filter fun x => x.2 == .free).map (·.1) ++ acc.map (·.1)).Nodup → ((clF env names acc).map (·.1)).Nodup
  | [], acc, h => by simpa [clF] using h
  | (m, k) :: r, acc, h => by
    unfold clF
    split
    · rename_i hk
      refine clF_names ?_
      have e : (((m, k) :: r).filter fun x => x.2 == NameKind.free) = (m, k) :: r.filter fun x => x.2 == NameKind.free := by rw [List.filter_cons]; simp [hk]
      rw [e] at h
      simp only [List.map_cons, List.cons_append] at h
      simp only [List.map_cons]
      exact (List.perm_middle.symm.nodup_iff).mp h
    · rename_i hk
      refine clF_names ?_
      have e : (((m, k) :: r).filter fun x => x.2 == NameKind.free) = r.filter fun x => x.2 == NameKind.free := by rw [List.filter_cons]; simp [hk]
      rw [e] at h
      exact h
theorem relab_lookup {scope sc : Scope} {n : Str} {k : NameKind} (h : (relab scope sc).names.lookup n = some k) : (scope.names.lookup n = some k ∧ (k = .free → ¬ (sc.kind = .function ∧ sc.names.lookup n = some .cell))) ∨ (k = .cell ∧ scope.names.lookup n = some .free) := by
  unfold relab at h
  dsimp only at h
  generalize scope.names = names at h ⊢
  induction names with
  | nil => simp at h
  | cons x r ih =>
    obtain ⟨m, j⟩ := x
    rw [List.map_cons] at h
    rw [List.lookup_cons]
    by_cases e : (n == m) = true
    · rw [e]
      have em : n = m := by simpa using e
      subst em
      split at h
      · rename_i hc
        simp only [List.lookup_cons, beq_self_eq_true, Option.some.injEq] at h
        simp only [Bool.and_eq_true, beq_iff_eq] at hc
        exact .inr ⟨h.symm, by rw [hc.1.1]⟩
      · rename_i hc
        simp only [List.lookup_cons, beq_self_eq_true, Option.some.injEq] at h
        subst h
        refine .inl ⟨rfl, fun hf hh => hc ?_⟩
        subst hf
        simp [hh.1, hh.2]
    · have e' : (n == m) = false := by simpa using e
      rw [e']
      split at h <;> (simp only [List.lookup_cons, e'] at h; exact ih h)
theorem relab_cell {scope sc : Scope} {n : Str} (hk : sc.kind = .function) (h : scope.names.lookup n = some .free) (hs : sc.names.lookup n = some .cell) : (relab scope sc).names.lookup n = some .cell := by
  unfold relab
  dsimp only
  generalize scope.names = names at h
  induction names with
  | nil => simp at h
  | cons x r ih =>
    obtain ⟨m, j⟩ := x
    rw [List.lookup_cons] at h
    rw [List.map_cons]
    by_cases e : (n == m) = true
    · rw [e] at h
      have em : n = m := by simpa using e
      subst em
      cases h
      simp [hk, hs]
    · have e' : (n == m) = false := by simpa using e
      rw [e'] at h
      split <;> (simp only [List.lookup_cons, e']; exact ih h)

/-- what a comprehension's block sees of the block around it -/
noncomputable def St.caps (σ : St) : List Str → Option (List (Str × V) × St)
  | [] => some ([], σ)
  | n :: r => match σ.loc n with
    | some v => match σ.pur v with
      | some (v', σ₁) => match σ₁.caps r with
        | some (cs, σ₂) => some ((n, v') :: cs, σ₂)
        | none => none
      | none => none
    | none => none
theorem cell_inj {h : Heap} {c : Addr} {a b : Option Value} (x : h.IsCell c a) (y : h.IsCell c b) : a = b := by
  obtain ⟨o, e, d⟩ := x
  obtain ⟨o', e', d'⟩ := y
  rw [e] at e'; cases e'
  rw [d] at d'; cases d'; rfl
theorem Rep.caps {C : Cx} {X : Ctx} {s : Shared} : ∀ (ns : List Str) {G : Ghost} {σ σ' : St} {cs : List (Str × V)}, Rep C X G σ s → (∀ n ∈ ns, X.env.kindOf n = some .cell) → σ.caps ns = some (cs, σ') →
    ∃ P', Rep C X ⟨P', G.adr, G.lm⟩ σ' s ∧ G.Le ⟨P', G.adr, G.lm⟩ ∧ ∀ n v, cs.lookup n = some v → n ∈ ns ∧ ∃ c val, (n, c) ∈ X.env.cells ∧ s.heap.IsCell c (some val) ∧ VR ⟨P', [], G.lm⟩ val v
  | [], G, σ, σ', cs, R, _, h => by
    cases h
    exact ⟨G.P, R, .refl, fun n v hv => by simp at hv⟩
  | n :: r, G, σ, σ', cs, R, hk, h => by
    simp only [St.caps] at h
    split at h
    · rename_i v hv
      split at h
      · rename_i v' σ₁ hp
        split at h
        · rename_i cs' σ₂ hc
          cases h
          obtain ⟨m, cm, h1, h2, h3⟩ := R.loc
          rcases h3 n v hv with ⟨kl, _⟩ | ⟨_, ⟨c, hcm⟩, val, e, rv⟩
          · rw [hk n (.head _)] at kl; cases kl
          · obtain ⟨P₁, R₁, l₁, r₁⟩ := R.pur rv hp
            obtain ⟨P₂, R₂, l₂, h₂⟩ := Rep.caps r R₁ (fun k hk' => hk k (.tail _ hk')) hc
            refine ⟨P₂, R₂, l₁.trans l₂, fun k w hw => ?_⟩
            rw [List.lookup_cons] at hw
            by_cases ek : (k == n) = true
            · rw [ek] at hw
              cases hw
              have : k = n := by simpa using ek
              subst this
              exact ⟨.head _, c, val, hcm, e ▸ h2 k c hcm, VR.mono (G := ⟨P₁, [], G.lm⟩) (G' := ⟨P₂, [], G.lm⟩) ⟨l₂.P, fun _ _ h => h, rfl⟩ r₁⟩
            · have ek' : (k == n) = false := by simpa using ek
              rw [ek'] at hw
              obtain ⟨q1, q2⟩ := h₂ k w hw
              exact ⟨.tail _ q1, q2⟩
        · cases h
      · cases h
    · cases h

theorem lookup_of_names {names : List (Str × NameKind)} {n : Str} {k : NameKind} (hn : (names.map (·.1)).Nodup) (hm : (n, k) ∈ names) : names.lookup n = some k := lookup_mem hn hm
theorem mem_freeNames {scope : Scope} {n : Str} (h : n ∈ freeNames scope) : (n, NameKind.free) ∈ scope.names := by
  obtain ⟨⟨m, k⟩, h1, h2⟩ := List.mem_map.mp h
  obtain ⟨h3, h4⟩ := List.mem_filter.mp h1
  simp only at h2 h4
  subst h2
  have : k = .free := by simpa using h4
  subst this
  exact h3

/-- how a comprehension ends, seen from the block around it -/
inductive FinOk (Ψ : List V → Prop) (σ' : St) : Prop
  | mk (fr : Bool) (ds : List V) (h1 : σ'.mu[0]? = some (fr, ds)) (h2 : arePure ds = true) (h3 : Ψ ds) : FinOk Ψ σ'
inductive CompDone (C : Cx) (X : Ctx) (G : Ghost) (σ : St) (Φ : List V → Prop) (L' : Addr) (acc : Value) (s' : Shared) : Prop
  | mk (G' : Ghost) (ds : List V) (le : G.Le G') (rep : Rep C X G' σ s') (off : Off C X G' L') (hns : ∃ m, s'.heap.Ns L' m) (vr : VR G' acc (.list ds)) (phi : Φ ds) : CompDone C X G σ Φ L' acc s'

noncomputable abbrev Cx.comp (C : Cx) (scope : Scope) : Cx := ⟨C.T, C.d, relab scope C.sc, false⟩

theorem comp_core {C : Cx} {X : Ctx} (hT : C.T.Plain) (ok : Ok C X) {G : Ghost} {σ : St} {s : Shared} (R : Rep C X G σ s) {scope : Scope} (hco : compOk scope C.sc = true) {cs : List (Str × V)} {elt t iter : Expr} {ifs : List Expr} {rest : List Comprehension} {pos : Pos} {val : Value} {v : V} {items : List V}
    (hv : VR G.bare val v) (hsrc : Src C v items) (hcs : ∀ n w, cs.lookup n = some w → n ∈ freeNames scope ∧ ∃ c val, (n, c) ∈ X.env.cells ∧ s.heap.IsCell c (some val) ∧ VR G.bare val w)
    {Φ : List V → Prop} (h : Witems (C.comp scope) t (Wturn (C.comp scope) elt rest ifs) items ⟨fun n => cs.lookup n, [(false, [])]⟩ (FinOk Φ)) :
    wpAny C.M X.A (pyIter val) (fun it s₂ => wpAny C.M X.A (newList []) (fun acc s₃ => wpAny C.M X.A (newFunctionEnv scope X.env.globals (clF X.env scope.names []) [] X.env.qual none .none (some X.env)) (fun cenv s₄ =>
      codeAny C.M X.A (.compStart (.ListComp elt (⟨t, iter, ifs, 0⟩ :: rest) scope pos) 0 it acc { cenv with scope := relabel scope X.env }) (fun r s' => ∃ f, r = .ok f ∧ CompDone C X G σ Φ cenv.locals acc s') s₄) Bad s₃) Bad s₂) Bad s := by
  simp only [compOk, Bool.and_eq_true, beq_iff_eq, List.all_eq_true, decide_eq_true_eq, bne_iff_ne, ne_eq] at hco
  obtain ⟨⟨⟨⟨k1, k2⟩, k3⟩, k4⟩, k5⟩ := hco
  -- the cells that it sees, before the source's iterator is made
  obtain ⟨m₀, cm, hn0, hcm0, hloc0⟩ := R.loc
  have hcval : ∀ n w, cs.lookup n = some w → n ∈ freeNames scope ∧ ∃ val, cm n = some val ∧ VR G.bare val w := fun n w hw => by
    obtain ⟨q1, c, val, q2, q3, q4⟩ := hcs n w hw
    exact ⟨q1, val, cell_inj (hcm0 n c q2) q3, q4⟩
  refine wpAny_mono (hsrc X ok G σ s val R hv) (fun itv s₂ ⟨hkp, it, St', e, R₂, I, off, hst, hit⟩ => ?_) fun _ _ e => e
  subst e
  have hcm : ∀ n c, (n, c) ∈ X.env.cells → s₂.heap.IsCell c (cm n) := fun n c hc => (hcm0 n c hc).keeps hkp
  obtain ⟨itO, _, hitO, _⟩ := hit _ _ hst
  refine wpAny_newObj_type (h := ?_) (by size_fits)
  -- the list, then the block's names
  have hacc : s₂.heap.objs.size = s₂.heap.objs.size := rfl
  refine wpAny_newFunctionEnv (fun x hx => k3 x hx) (fun x hx => by cases hx) (fun h' hns hsb => ?_) k1
  have hkeep : ∀ a o, s₂.heap.get? a = some o → h'.get? a = some o := fun a o e => by
    have h1 : (s₂.heap.push { cls := .type "list", data := .seq ([] : List Value).toArray }).get? a = some o := Heap.get?_push_of_some _ e
    have hne : a ≠ (s₂.heap.push { cls := .type "list", data := .seq ([] : List Value).toArray }).objs.size := Nat.ne_of_lt (Heap.lt_size h1)
    exact hsb.extBut a o hne (Heap.get?_push_of_some _ h1)
  have haccO : h'.get? s₂.heap.objs.size = some { cls := .type "list", data := .seq ([] : List Value).toArray } := by
    have h1 : (s₂.heap.push { cls := .type "list", data := .seq ([] : List Value).toArray }).get? s₂.heap.objs.size = some { cls := .type "list", data := .seq ([] : List Value).toArray } := Heap.get?_push_size _ rfl
    have hne : s₂.heap.objs.size ≠ (s₂.heap.push { cls := .type "list", data := .seq ([] : List Value).toArray }).objs.size := Nat.ne_of_lt (Heap.lt_size h1)
    exact hsb.extBut _ _ hne (Heap.get?_push_of_some _ h1)
  have hLsz : (s₂.heap.push { cls := .type "list", data := .seq ([] : List Value).toArray }).objs.size = s₂.heap.objs.size + 1 := Heap.size_push ..
  generalize hLe : (s₂.heap.push { cls := .type "list", data := .seq ([] : List Value).toArray }).objs.size = L' at hns hsb ⊢
  rw [hLe] at hLsz
  have acLt : ∀ {a o}, s₂.heap.get? a = some o → a < s₂.heap.objs.size := fun e => Heap.lt_size e
  have LNe : ∀ {a o}, s₂.heap.get? a = some o → a ≠ L' := fun {a o} e => Nat.ne_of_lt (Nat.lt_trans (acLt e) (by rw [hLsz]; exact Nat.lt_succ_self _))
  have Lbig : ∀ {a : Addr}, a < s₂.heap.objs.size → a ≠ L' := fun {a} h => Nat.ne_of_lt (Nat.lt_trans h (by rw [hLsz]; exact Nat.lt_succ_self _))
  have acNe : ∀ {a o}, s₂.heap.get? a = some o → a ≠ s₂.heap.objs.size := fun e => Nat.ne_of_lt (acLt e)
  let env' : Env := compEnvC scope (clF X.env scope.names []) L' X.env
  let X' : Ctx := { A := X.A, env := env', k₀ := fun a o => C.T.tabs a = none ∧ a ≠ it ∧ s₂.heap.get? a = some o, P₀ := G.P, g₀ := X.g₀ }
  let G' : Ghost := ⟨G.P, [s₂.heap.objs.size], G.lm⟩
  have hsc : env'.scope = relab scope C.sc := by show relabel scope X.env = _; unfold relabel relab Env.kindOf; rw [ok.scope]
  have noTab : ∀ a, (∀ q, C.T.tabs a = some q → False) → C.T.tabs a = none := fun a h => by
    cases e : C.T.tabs a with
    | none => rfl
    | some q => exact (h q e).elim
  have hcell : ∀ n c, (n, c) ∈ env'.cells → (n, NameKind.free) ∈ scope.names ∧ (n, c) ∈ X.env.cells := fun n c hc => by
    rcases mem_clF hc with h1 | ⟨h1, h2⟩
    · cases h1
    · refine ⟨h1, ?_⟩
      have hf : n ∈ freeNames scope := List.mem_map.mpr ⟨(n, .free), List.mem_filter.mpr ⟨h1, rfl⟩, rfl⟩
      have hkc : X.env.kindOf n = some .cell := by unfold Env.kindOf; rw [ok.scope]; exact k5 n hf
      obtain ⟨c', hc'⟩ := ok.cells n hkc
      rw [lookup_mem ok.names hc'] at h2
      exact h2 ▸ hc'
  have kOld : ∀ a o, X.k₀ a o → X'.k₀ a o := fun a o e => ⟨noTab _ fun q hq => (R₂.tabOff a q hq).k o e, fun e' => off.k o (e' ▸ e), R₂.keep a o e⟩
  have tabL : C.T.tabs L' = none := noTab _ fun q hq => by
    obtain ⟨ps, e, _⟩ := R₂.tab _ _ hq
    exact LNe e rfl
  have offL : ∀ {Gx : Ghost}, Gx.adr = G.adr → (∀ o, ¬ Gx.P L' o) → Off C X Gx L' := fun {Gx} e1 e2 => ⟨⟨e2, fun o e => LNe (R₂.keep _ _ e) rfl, fun e => Lbig R₂.frameLt e.symm, fun n c hc e => Lbig (R₂.cellLt hc) e.symm, by
    rw [e1]; intro hm
    obtain ⟨o, ho⟩ := R₂.adrGet hm
    exact LNe ho rfl⟩, tabL⟩
  have ok' : Ok (C.comp scope) X' := {
    scope := hsc, kind := k1, globals := ok.globals, builtins := ok.builtins, handled := ok.handled, depth := ok.depth, units := ok.units
    top := fun h2 hk => ok.top h2 fun a o e => hk a o (kOld a o e)
    names := clF_names (by simpa using (List.Nodup.sublist (List.Sublist.map _ List.filter_sublist) k4))
    apart := fun n1 c1 n2 c2 m1 m2 hne => ok.apart n1 c1 n2 c2 (hcell n1 c1 m1).2 (hcell n2 c2 m2).2 hne
    cL := fun n c hc e => by
      have := R₂.cellLt (hcell n c hc).2
      exact Lbig this e
    L0 := fun o e => LNe e.2.2 rfl
    c0 := fun e => by cases e
    cells := fun n hk => by
      have hk' : (relab scope C.sc).names.lookup n = some .cell := by unfold Env.kindOf at hk; rwa [show X'.env.scope = _ from hsc] at hk
      rcases relab_lookup hk' with ⟨q, _⟩ | ⟨_, q⟩
      · exact absurd rfl (k3 _ (mem_of_lookup q))
      · exact clF_mem (.inl (mem_of_lookup q))
    fact := hT _ _ }
  have R' : Rep (C.comp scope) X' G' ⟨fun n => cs.lookup n, [(false, [])]⟩ { s₂ with heap := h' } := {
    same := R₂.same
    lmT := R₂.lmT
    loc := by
      refine ⟨_, cm, hns, fun n c hc => (hcm n c (hcell n c hc).2).keeps hkeep, fun n w hw => ?_⟩
      obtain ⟨q1, val, q2, q3⟩ := hcval n w hw
      have hfm := mem_freeNames q1
      refine .inr ⟨?_, ?_, val, q2, VR.mono (G := G.bare) (G' := G') ⟨fun _ _ h => h, fun k a h => by simp at h, rfl⟩ q3⟩
      · refine .inl ?_
        unfold Env.kindOf
        rw [show X'.env.scope = _ from hsc]
        exact relab_cell k2 (lookup_of_names k4 hfm) (k5 n q1)
      · exact clF_mem (.inl hfm)
    pers := fun a o e => hkeep _ _ (R₂.pers a o e)
    keep := fun a o e => hkeep _ _ e.2.2
    grow := fun a o e => .inl e
    sub := fun a o e => e
    notL := fun o e => LNe (R₂.pers _ _ e) rfl
    notC := fun e => by cases e
    adrC := fun n c hc hm => by
      have := R₂.cellLt (hcell n c hc).2
      rw [List.mem_singleton.mp hm] at this
      exact absurd this (Nat.lt_irrefl _)
    adrL := fun hm => by
      have e : L' = s₂.heap.objs.size := List.mem_singleton.mp hm
      rw [hLsz] at e
      exact Nat.succ_ne_self _ e
    nd := by simp [G']
    adr0 := fun a ha o e => by
      rw [List.mem_singleton.mp ha] at e
      exact acNe e.2.2 rfl
    len := rfl
    mu := fun k fr ds hm => by
      cases k with
      | zero =>
        simp only [List.getElem?_cons_zero, Option.some.injEq, Prod.mk.injEq] at hm
        obtain ⟨rfl, rfl⟩ := hm
        exact ⟨s₂.heap.objs.size, _, #[], 0, rfl, haccO, ⟨rfl, rfl, rfl⟩, rfl, .nil, (fun e => by cases e), fun _ o e => acNe (R₂.pers _ _ e) rfl⟩
      | succ k => simp at hm
    tabOff := fun Q q hq => by
      obtain ⟨ps, e, _⟩ := R₂.tab Q q hq
      have o0 := R₂.tabOff Q q hq
      refine ⟨o0.P, fun o e' => ?_, LNe e, fun n c hc => o0.c n c (hcell n c hc).2, fun hm => acNe e (List.mem_singleton.mp hm)⟩
      have := e'.1
      rw [show (C.comp scope).T.tabs Q = some q from hq] at this; cases this
    tab := R₂.tab.mono (fun _ _ h => h) fun b o q _ e => hkeep b o e }
  have off' : Off (C.comp scope) X' G' it := ⟨⟨off.P, fun o e => e.2.1 rfl, LNe hitO, fun n c hc => off.c n c (hcell n c hc).2, fun hm => acNe hitO (List.mem_singleton.mp hm)⟩, off.t⟩
  have I' : Iter (C.comp scope) X' G' it items St' := by
    obtain ⟨fp, P, W, q1, q2⟩ := I.walk
    exact ⟨fp, P, W, q1, fun i v hv => let ⟨d, e, r⟩ := q2 i v hv; ⟨d, e, VR.mono (G := G.bare) (G' := G') ⟨fun _ _ h => h, fun k a h => by simp at h, rfl⟩ r⟩⟩
  have hst' : St' 0 h' := by
    obtain ⟨fp, P, W, q1, q2⟩ := I.walk
    exact W.frame _ _ _ hst fun b _ o e => hkeep b o e
  have main := comp_ok (C := C.comp scope) (elt := elt) (gens := ⟨t, iter, ifs, 0⟩ :: rest) (scope := scope) (pos := pos) (ac := s₂.heap.objs.size) rest 0 t iter ifs rfl ok' R' rfl I' off' hst' hit h
  refine codeAny_mono main ?_
  rintro r s' ⟨f, rfl, G₃, σ₃, l₃, R₃, fr, ds, hmu, hpure, hΦ⟩
  have hac : G₃.adr[0]? = some s₂.heap.objs.size := l₃.adr _ _ rfl
  obtain ⟨P₄, R₄, l₄, o, vs, n, p1, p2, p3, p4⟩ := R₃.fix hmu hac
  have ext := R₂.extendX (h' := s'.heap) (tk := s'.toks) (P' := P₄) (ex := fun a => a = it) (fun a e => e ▸ off) (fun a o ht hne e => R₄.keep a o ⟨ht, hne, e⟩) (fun a o e => l₄.P _ _ (l₃.P _ _ e)) R₄.pers (fun a o e => by
    rcases R₄.grow a o e with q | q
    · exact .inl q
    · cases w : s₂.heap.get? a with
      | none => exact .inr (.inl rfl)
      | some o' =>
        by_cases hi : a = it
        · exact .inr (.inr hi)
        · exact absurd ⟨noTab _ fun q' hq => (R₄.tabOff a q' hq).P o e, hi, w⟩ (q o')) R₄.tab
  refine ⟨f, rfl, ⟨P₄, G.adr, G.lm⟩, ds, ext.2, ext.1.congr rfl R₄.same, offL rfl R₄.notL, ?_, ?_, hΦ⟩
  · obtain ⟨m, _, q, _⟩ := R₄.loc
    exact ⟨m, q⟩
  · have r4 : VR ⟨P₄, [], G₃.lm⟩ (.ref s₂.heap.objs.size) (.list ds) := .list p1 p2 p3 ((p4.mono l₄).bare hpure)
    have e : G₃.lm = G.lm := l₃.lm.symm
    rw [e] at r4
    exact VR.mono (G := ⟨P₄, [], G.lm⟩) (G' := ⟨P₄, G.adr, G.lm⟩) ⟨fun _ _ h => h, fun k a h => by simp at h, rfl⟩ r4

/-- what the source of a comprehension must give -/
inductive CompSrcOk (C : Cx) (elt : Expr) (g : Comprehension) (rest : List Comprehension) (scope : Scope) (Φ : V → St → Prop) (v : V) (σ₁ : St) : Prop
  | mk (v' : V) (σ₂ : St) (items : List V) (cs : List (Str × V)) (σ₃ : St) (h1 : σ₁.pur v = some (v', σ₂)) (h2 : Src C v' items) (h3 : σ₂.caps (freeNames scope) = some (cs, σ₃))
      (h4 : Witems (C.comp scope) g.target (Wturn (C.comp scope) elt rest g.ifs) items ⟨fun n => cs.lookup n, [(false, [])]⟩ (FinOk fun ds => Φ (.list ds) σ₃)) : CompSrcOk C elt g rest scope Φ v σ₁

theorem comp_wp {C : Cx} {X : Ctx} (hT : C.T.Plain) (ok : Ok C X) {G : Ghost} {σ : St} {s : Shared} (R : Rep C X G σ s) {elt t iter : Expr} {ifs : List Expr} {rest : List Comprehension} {scope : Scope} {pos pos' : Pos} {Φ : V → St → Prop} {use : Option (Value → Sem Unit)} {Q : Value → Shared → Prop}
    (h : We C σ iter (CompSrcOk C elt ⟨t, iter, ifs, 0⟩ rest scope Φ)) (hco : compOk scope C.sc = true) (hs : ∀ x env, foldedSetIterable iter env x = pure x)
    (hQ : ∀ G₁ σ₁ acc L' s' ds, G.Le G₁ → Rep C X G₁ σ₁ s' → Off C X G₁ L' → (∃ m, s'.heap.Ns L' m) → VR G₁ acc (.list ds) → Φ (.list ds) σ₁ → compPost C.M X.A Bad use Q acc L' (.ok .next) s') :
    wpAny C.M X.A (comprehension (.ListComp elt (⟨t, iter, ifs, 0⟩ :: rest) scope pos) scope X.env pos' (newList []) false (eval iter X.env) use) Q Bad s := by
  have hco' := hco
  simp only [compOk, Bool.and_eq_true, beq_iff_eq, List.all_eq_true, decide_eq_true_eq, bne_iff_ne, ne_eq] at hco'
  obtain ⟨⟨⟨⟨k1, k2⟩, k3⟩, k4⟩, k5⟩ := hco'
  have hkc : ∀ n ∈ freeNames scope, X.env.kindOf n = some .cell := fun n hn => by unfold Env.kindOf; rw [ok.scope]; exact k5 n hn
  have hclos : closureFor scope X.env = pure (clF X.env scope.names []) := closureFor_eq fun x hx hf => by
    have hm : x.1 ∈ freeNames scope := List.mem_map.mpr ⟨x, List.mem_filter.mpr ⟨hx, by rw [hf]; rfl⟩, rfl⟩
    obtain ⟨c, hc⟩ := ok.cells _ (hkc _ hm)
    rw [lookup_mem ok.names hc]; rfl
  refine wpAny_comprehension_free rfl (fun x => hs x _) hclos k1 (fun x hx hl => by
    obtain ⟨n, k⟩ := x
    have hl' : k = .local := hl
    subst hl'
    exact lookup_mem k4 hx) ?_
  refine wpAny_mono (h X ok G s R) (fun val s₁ ⟨G₁, σ₁, v, l₁, R₁, r₁, v', σ₂, items, cs, σ₃, hp, hsrc, hc, hw⟩ => ?_) fun _ _ e => e
  obtain ⟨P₂, R₂, l₂, r₂⟩ := R₁.pur r₁ hp
  obtain ⟨P₃, R₃, l₃, h₃⟩ := Rep.caps _ R₂ hkc hc
  have rv : VR (Ghost.bare ⟨P₃, G₁.adr, G₁.lm⟩) val v' := VR.mono (G := ⟨P₂, [], G₁.lm⟩) (G' := ⟨P₃, [], G₁.lm⟩) ⟨l₃.P, fun _ _ h => h, rfl⟩ r₂
  have core := comp_core hT ok R₃ hco rv hsrc h₃ (elt := elt) (t := t) (iter := iter) (ifs := ifs) (rest := rest) (pos := pos) (Φ := fun ds => Φ (.list ds) σ₃) hw
  refine wpAny_mono core (fun it s₂ h₂ => wpAny_mono h₂ (fun acc s₃ h₃ => wpAny_mono h₃ (fun cenv s₄ h₄ => codeAny_mono h₄ ?_) fun _ _ e => e) fun _ _ e => e) fun _ _ e => e
  rintro r s' ⟨f, rfl, G₅, ds, l₅, R₅, off, hns, hv, hΦ⟩
  have := hQ G₅ σ₃ acc cenv.locals s' ds (((l₁.trans l₂).trans l₃).trans l₅) R₅ off hns hv hΦ
  cases use <;> exact this

theorem We.comp {C : Cx} {σ : St} {elt t iter : Expr} {ifs : List Expr} {rest : List Comprehension} {scope : Scope} {pos : Pos} {Φ : V → St → Prop}
    (hT : C.T.Plain) (h : We C σ iter (CompSrcOk C elt ⟨t, iter, ifs, 0⟩ rest scope Φ)) (hco : compOk scope C.sc = true := by rfl) (hs : ∀ x env, foldedSetIterable iter env x = pure x := by intro _ _; rfl) :
    We C σ (.ListComp elt (⟨t, iter, ifs, 0⟩ :: rest) scope pos) Φ := fun X ok G s R => by
  rw [eval_ListComp]
  refine comp_wp hT ok R h hco hs fun G₁ σ₁ acc L' s' ds le R₁ off ⟨m, hm⟩ hv hΦ => ⟨m, hm, fun h' hsb => ?_⟩
  exact ⟨G₁, σ₁, .list ds, le, R₁.off off s'.toks fun a q ha e => (hsb.2 a ha).trans e, hv, hΦ⟩

theorem Ws.assignComp {C : Cx} {σ : St} {x : Str} {px : Pos} {elt t iter : Expr} {ifs : List Expr} {rest : List Comprehension} {scope : Scope} {pos pos' : Pos} {Φ : Fl → St → Prop}
    (hT : C.T.Plain) (h : We C σ iter (CompSrcOk C elt ⟨t, iter, ifs, 0⟩ rest scope fun v σ₁ => Φ .next (σ₁.set x v))) (hk : kindOk C x = true := by rfl) (hco : compOk scope C.sc = true := by rfl) (hs : ∀ x env, foldedSetIterable iter env x = pure x := by intro _ _; rfl) :
    Ws C σ (.Assign [.Name x px] (.ListComp elt (⟨t, iter, ifs, 0⟩ :: rest) scope pos') pos) Φ := fun X ok G s R => by
  have hsw : ∃ b, swapsWith (.ListComp elt (⟨t, iter, ifs, 0⟩ :: rest) scope pos') (some (.Name x px)) pos.line X.env = pure b := ⟨_, rfl⟩
  obtain ⟨b, hsw⟩ := hsw
  cases b with
  | false =>
    refine wpAny_Assign_Name (wpAny_mono (We.comp (Φ := fun v σ₁ => Φ .next (σ₁.set x v)) hT h hco hs X ok G s R) (fun _ s₁ ⟨G₁, σ₁, v, l₁, R₁, r₁, h₁⟩ => store_wp ok R₁ r₁ hk fun s' R' => ⟨G₁, _, Fl.next, l₁, R', .next, h₁⟩) fun _ _ e => e) hsw
  | true =>
    rw [exec_Assign_Name_used _ _ _ _ hsw]
    refine wpAny_bind (wpAny_standAt (wpAny_bind ?_))
    show wpAny _ X.A (do let _ ← comprehension (.ListComp elt (⟨t, iter, ifs, 0⟩ :: rest) scope pos') scope X.env _ (newList []) false (eval iter X.env) (some (PySem.assign (.Name x px) X.env))) _ _ s
    refine wpAny_bind (wpAny_mono (comp_wp hT ok R (use := some (PySem.assign (.Name x px) X.env)) (Q := fun _ s' => PostS C X G Φ .next s') h hco hs fun G₁ σ₁ acc L' s' ds le R₁ off ⟨m, hm⟩ hv hΦ => ?_) (fun _ s' hq => wpAny_pure (wpAny_pure hq)) fun _ _ e => e)
    show wpAny _ _ (PySem.assign (.Name x px) X.env acc) _ _ _
    obtain ⟨oL, es, ep, ho, hd, hr⟩ := hm
    refine wpAny_assign_Name (store_wp (ok.plus (p := oL) off) (R₁.plus off ho) hv hk fun s₂ R₂ => ?_)
    obtain ⟨R₃, off₃, e₃⟩ := R₁.minus off R₂
    exact ⟨m, ⟨oL, es, ep, e₃, hd, hr⟩, fun h' hsb => ⟨G₁, _, Fl.next, le, R₃.off off₃ s₂.toks fun a q ha e => (hsb.2 a ha).trans e, .next, hΦ⟩⟩

/-! VL8 -/
noncomputable def Cx.u (C : Cx) : Prop := True
section
variable {C : Cx} {σ : St} {Φ : V → St → Prop} {a b : Int}
/-! ints -/
theorem Bi.add (h : Φ (.int (a + b)) σ) : Bi C σ .Add (.int a) (.int b) Φ := fun X ok G s va vb R ha hb => by
  obtain ⟨ta, rfl⟩ := ha.int_inv; obtain ⟨tb, rfl⟩ := hb.int_inv
  exact add_int ⟨G, σ, _, .refl, R.toks _, .int _ _, h⟩
theorem Bi.sub (h : Φ (.int (a - b)) σ) : Bi C σ .Sub (.int a) (.int b) Φ := fun X ok G s va vb R ha hb => by
  obtain ⟨ta, rfl⟩ := ha.int_inv; obtain ⟨tb, rfl⟩ := hb.int_inv
  exact PySem.P.sub_int ⟨G, σ, _, .refl, R.toks _, .int _ _, h⟩
theorem Bi.mul (h : Φ (.int (a * b)) σ) (hz : a.natAbs < 2 ^ 64 ∨ b.natAbs < 2 ^ 64) : Bi C σ .Mult (.int a) (.int b) Φ := fun X ok G s va vb R ha hb => by
  obtain ⟨ta, rfl⟩ := ha.int_inv; obtain ⟨tb, rfl⟩ := hb.int_inv
  refine PyProof.Rows.mul_int ⟨G, σ, _, .refl, R.toks _, .int _ _, h⟩ ?_
  rcases hz with hz | hz
  · exact IntMulOk.of_left (intBits_le hz)
  · have := intBits_le hz
    unfold IntMulOk
    have h' : ¬ (Builtin.Int.intBits b > shortFactorBits) := Nat.not_lt.mpr this
    rw [decide_eq_false h']; simp
theorem log2_lt {b : Int} (h : b.natAbs < 2 ^ 4096) : b.natAbs.log2 < 9000 := by
  by_cases h0 : b.natAbs = 0
  · rw [h0]; decide +kernel
  · have := (Nat.log2_lt h0).mpr h
    omega
theorem Bi.div (h : Φ (.int (a / b)) σ) (h0 : 0 < b) (hz : b.natAbs < 2 ^ 4096) : Bi C σ .FloorDiv (.int a) (.int b) Φ := fun X ok G s va vb R ha hb => by
  obtain ⟨ta, rfl⟩ := ha.int_inv; obtain ⟨tb, rfl⟩ := hb.int_inv
  refine floordiv_int (by omega) ⟨G, σ, _, .refl, R.toks _, .int _ _, ?_⟩ (.inl (PyProof.noPylong_of_log2 (log2_lt hz)))
  rw [Int.fdiv_eq_ediv_of_nonneg _ (by omega)]; exact h
theorem Bi.mod (h : Φ (.int (a % b)) σ) (h0 : 0 < b) : Bi C σ .Mod (.int a) (.int b) Φ := fun X ok G s va vb R ha hb => by
  obtain ⟨ta, rfl⟩ := ha.int_inv; obtain ⟨tb, rfl⟩ := hb.int_inv
  refine mod_int' (by omega) ⟨G, σ, _, .refl, R.toks _, .int _ _, ?_⟩
  rw [Int.fmod_eq_emod_of_nonneg _ (by omega)]; exact h
theorem Bi.pow (h : Φ (.int (a ^ b.toNat)) σ) (h0 : 0 ≤ b) (h1 : b ≤ 1000000) (ha : a.natAbs < 2 ^ 64) : Bi C σ .Pow (.int a) (.int b) Φ := fun X ok G s va vb R ha' hb => by
  obtain ⟨ta, rfl⟩ := ha'.int_inv; obtain ⟨tb, rfl⟩ := hb.int_inv
  exact pow_int_small h0 h1 ha ⟨G, σ, _, .refl, R.toks _, .int _ _, h⟩
theorem Bi.shr (h : Φ (.int (a / 2 ^ b.toNat)) σ) (h0 : 0 ≤ b) : Bi C σ .RShift (.int a) (.int b) Φ := fun X ok G s va vb R ha hb => by
  obtain ⟨ta, rfl⟩ := ha.int_inv; obtain ⟨tb, rfl⟩ := hb.int_inv
  refine rshift_int h0 ⟨G, σ, _, .refl, R.toks _, .int _ _, ?_⟩
  have : (0 : Int) ≤ 2 ^ b.toNat := Int.le_of_lt (Int.pow_pos (by decide))
  rw [Int.fdiv_eq_ediv_of_nonneg _ this]; exact h
theorem Bi.shl (h : Φ (.int (a * 2 ^ b.toNat)) σ) (h0 : 0 ≤ b) (h1 : b ≤ 1000000) (ha : a.natAbs < 2 ^ 4096) : Bi C σ .LShift (.int a) (.int b) Φ := fun X ok G s va vb R ha' hb => by
  obtain ⟨ta, rfl⟩ := ha'.int_inv; obtain ⟨tb, rfl⟩ := hb.int_inv
  refine lshift_int h0 ?_ ⟨G, σ, _, .refl, R.toks _, .int _ _, h⟩
  have := intBits_le ha
  have : (2 : Int) ^ 27 = 134217728 := by decide
  omega
theorem Bi.xor (h : Φ (.int (Builtin.bitXor a b)) σ) : Bi C σ .BitXor (.int a) (.int b) Φ := fun X ok G s va vb R ha hb => by
  obtain ⟨ta, rfl⟩ := ha.int_inv; obtain ⟨tb, rfl⟩ := hb.int_inv
  exact xor_int ⟨G, σ, _, .refl, R.toks _, .int _ _, h⟩
theorem Un.neg (h : Φ (.int (-a)) σ) : Un C σ .USub (.int a) Φ := fun X ok G s va R ha => by
  obtain ⟨ta, rfl⟩ := ha.int_inv
  exact PySem.P.neg_int ⟨G, σ, _, .refl, R.toks _, .int _ _, h⟩
theorem Un.inv (h : Φ (.int (-a - 1)) σ) : Un C σ .Invert (.int a) Φ := fun X ok G s va R ha => by
  obtain ⟨ta, rfl⟩ := ha.int_inv
  refine invert_int ⟨G, σ, _, .refl, R.toks _, .int _ _, ?_⟩
  have : Builtin.bitNot a = -a - 1 := by
    unfold Builtin.bitNot
    omega
  rw [this]; exact h
theorem Cm.lt (h : Φ (.bool (decide (a < b))) σ) : Cm C σ .Lt (.int a) (.int b) Φ := fun X ok G s va vb R ha hb => by
  obtain ⟨ta, rfl⟩ := ha.int_inv; obtain ⟨tb, rfl⟩ := hb.int_inv
  exact PyProof.Rows.lt_int ⟨G, σ, _, .refl, R, .bool _, h⟩
theorem Cm.le (h : Φ (.bool (decide (a ≤ b))) σ) : Cm C σ .LtE (.int a) (.int b) Φ := fun X ok G s va vb R ha hb => by
  obtain ⟨ta, rfl⟩ := ha.int_inv; obtain ⟨tb, rfl⟩ := hb.int_inv
  exact PySem.P.le_int ⟨G, σ, _, .refl, R, .bool _, h⟩
theorem Cm.ge (h : Φ (.bool (decide (a ≥ b))) σ) : Cm C σ .GtE (.int a) (.int b) Φ := fun X ok G s va vb R ha hb => by
  obtain ⟨ta, rfl⟩ := ha.int_inv; obtain ⟨tb, rfl⟩ := hb.int_inv
  exact PySem.P.ge_int ⟨G, σ, _, .refl, R, .bool _, h⟩
theorem Cm.eq (h : Φ (.bool (decide (a = b))) σ) : Cm C σ .Eq (.int a) (.int b) Φ := fun X ok G s va vb R ha hb => by
  obtain ⟨ta, rfl⟩ := ha.int_inv; obtain ⟨tb, rfl⟩ := hb.int_inv
  refine PyProof.Rows.eq_int ⟨G, σ, _, .refl, R, .bool _, ?_⟩
  have : (a == b) = decide (a = b) := by by_cases e : a = b <;> simp [e]
  rw [this]; exact h
theorem Cm.ne (h : Φ (.bool (decide (a ≠ b))) σ) : Cm C σ .NotEq (.int a) (.int b) Φ := fun X ok G s va vb R ha hb => by
  obtain ⟨ta, rfl⟩ := ha.int_inv; obtain ⟨tb, rfl⟩ := hb.int_inv
  refine PyProof.Rows.ne_int ⟨G, σ, _, .refl, R, .bool _, ?_⟩
  have : (a != b) = decide (a ≠ b) := by by_cases e : a = b <;> simp [e]
  rw [this]; exact h
noncomputable def V.isNone : V → Bool
  | .none => true
  | _ => false
theorem Cm.isNone {v : V} (h : Φ (.bool v.isNone) σ) : Cm C σ .Is v .none Φ := fun X ok G s va vb R ha hb => by
  obtain rfl := hb.none_inv
  refine is_none_gen ⟨G, σ, _, .refl, R, .bool _, ?_⟩
  have : (va == .none) = v.isNone := by cases ha <;> rfl
  rw [this]; exact h
end
section
variable {C : Cx} {σ : St} {Ψ : Bool → St → Prop}
theorem Tr.bool {b : Bool} (h : Ψ b σ) : Tr C σ (.bool b) Ψ := fun X ok G s va R ha => by
  obtain rfl := ha.bool_inv
  exact wpAny_truthy_bool ⟨G, σ, .refl, R, h⟩
theorem Tr.int {i : Int} (h : Ψ (decide (i ≠ 0)) σ) : Tr C σ (.int i) Ψ := fun X ok G s va R ha => by
  obtain ⟨ta, rfl⟩ := ha.int_inv
  refine PyProof.Rows.truthy_int ⟨G, σ, .refl, R, ?_⟩
  have : (i != 0) = decide (i ≠ 0) := by by_cases e : i = 0 <;> simp [e]
  rw [this]; exact h
end

/-! lists, read -/
noncomputable def St.listOf (σ : St) : V → Option (List V)
  | .list ds => some ds
  | .ref k => match σ.mu[k]? with
    | some (_, ds) => some ds
    | none => none
  | _ => none
inductive IsLs (G : Ghost) (s : Shared) (val : Value) (ds : List V) : Prop
  | mk (a : Addr) (o : Obj) (vs : Array Value) (n : Nat) (e : val = .ref a) (g : s.heap.get? a = some o) (c : o.cls = .type "list") (d : o.data = .seq vs n) (r : VRs G vs.toList ds) : IsLs G s val ds
theorem listOf_ref_inv {σ : St} {k : Nat} {ds : List V} (h : σ.listOf (.ref k) = some ds) : ∃ fr, σ.mu[k]? = some (fr, ds) := by
  simp only [St.listOf] at h
  split at h
  · rename_i fr ds' hk
    cases h; exact ⟨fr, hk⟩
  · cases h
theorem Rep.listOf {C : Cx} {X : Ctx} {G : Ghost} {σ : St} {s : Shared} (R : Rep C X G σ s) {val : Value} {v : V} {ds : List V} (hv : VR G val v) (h : σ.listOf v = some ds) : IsLs G s val ds := by
  cases hv with
  | list p c d r => cases h; exact ⟨_, _, _, _, rfl, R.pers _ _ p, c.1, d, r⟩
  | ref ha =>
    obtain ⟨fr, hk⟩ := listOf_ref_inv h
    obtain ⟨a', o, vs, n, e1, e2, e3, e4, r, _⟩ := R.mu _ _ _ hk
    rw [ha] at e1; cases e1
    exact ⟨_, o, vs, n, rfl, e2, e3.1, e4, r⟩
  | _ => cases h
theorem LsO.eq {o : Obj} {vs : Array Value} {n : Nat} (h : LsO o) (e : o.data = .seq vs n) : o = { cls := .type "list", data := .seq vs n } := by
  obtain ⟨c, d, dt, sl⟩ := o
  obtain ⟨q1, q2, q3⟩ := h
  dsimp only at q1 q2 q3 e
  subst q1 q2 q3 e
  rfl
inductive IsPl (G : Ghost) (s : Shared) (val : Value) (ds : List V) : Prop
  | mk (a : Addr) (vs : Array Value) (e : val = .ref a) (p : s.heap.PlainList a vs) (r : VRs G vs.toList ds) : IsPl G s val ds
theorem Rep.plainOf {C : Cx} {X : Ctx} {G : Ghost} {σ : St} {s : Shared} (R : Rep C X G σ s) {val : Value} {v : V} {ds : List V} (hv : VR G val v) (h : σ.listOf v = some ds) : IsPl G s val ds := by
  cases hv with
  | list p c d r => cases h; exact ⟨_, _, rfl, ⟨_, (c.eq d) ▸ R.pers _ _ p⟩, r⟩
  | ref ha =>
    obtain ⟨fr, hk⟩ := listOf_ref_inv h
    obtain ⟨a', o, vs, n, e1, e2, e3, e4, r, _⟩ := R.mu _ _ _ hk
    rw [ha] at e1; cases e1
    exact ⟨_, vs, rfl, ⟨n, (e3.eq e4) ▸ e2⟩, r⟩
  | _ => cases h

noncomputable def Su (C : Cx) (σ : St) (value slice : Expr) (o i : V) (Φ : V → St → Prop) : Prop :=
  ∀ X, Ok C X → ∀ G s vo vi, Rep C X G σ s → VR G vo o → VR G vi i → wpAny C.M X.A (subscriptTail value slice vo vi) (Post C X G Φ) Bad s
noncomputable def notSlice : Expr → Bool
  | .Slice .. => false
  | _ => true
theorem subscripted_plain {slice : Expr} (h : notSlice slice = true) (o i : Value) : subscripted slice false o i = operate [o, i] (getItem o i) := by
  cases slice <;> first | rfl | cases h
section
variable {C : Cx} {σ : St} {pos : Pos} {Φ : V → St → Prop}
theorem We.sub {value slice : Expr} (h : We C σ value fun o σ₁ => We C σ₁ slice fun i σ₂ => Su C σ₂ value slice o i Φ) : We C σ (.Subscript value slice pos) Φ := fun X ok G s R =>
  Subscript_ (wpAny_mono (h X ok G s R) (fun _ s₁ ⟨G₁, _, _, l₁, R₁, r₁, h₁⟩ => wpAny_mono (h₁ X ok G₁ s₁ R₁)
    (fun _ s₂ ⟨G₂, _, _, l₂, R₂, r₂, h₂⟩ => wpAny_mono (h₂ X ok G₂ s₂ _ _ R₂ (r₁.mono l₂) r₂) (fun _ _ p => p.le (l₁.trans l₂)) fun _ _ e => e) fun _ _ e => e) fun _ _ e => e)
/-- an item of a list -/
theorem Su.item {value slice : Expr} {o v : V} {ds : List V} {k : Int} (ho : σ.listOf o = some ds) (h0 : 0 ≤ k) (hz : k < 2 ^ 63) (hx : ds[k.toNat]? = some v) (h : Φ v σ) (hs : notSlice slice = true := by rfl) : Su C σ value slice o (.int k) Φ := fun X ok G s vo vi R hvo hvi => by
  obtain ⟨ti, rfl⟩ := hvi.int_inv
  obtain ⟨a, ob, vs, n, rfl, e1, e2, e3, r⟩ := R.listOf hvo ho
  have hl : s.heap.IsList a vs := ⟨ob, e1, e2, n, e3⟩
  obtain ⟨x, hxv, rv⟩ := r.get hx
  exact tail_any hl.typeIs slot_list_getitem.lookup (wpAny_getItem_list hl h0 hz (by simpa using hxv) ⟨G, σ, v, .refl, R, rv, h⟩) (subscripted_plain hs _ _)
theorem Su.itemNeg {value slice : Expr} {o v : V} {ds : List V} {k : Int} (ho : σ.listOf o = some ds) (h0 : k < 0) (h1 : -(ds.length : Int) ≤ k) (hz : -(2 ^ 63) ≤ k) (hx : ds[(k + ds.length).toNat]? = some v) (h : Φ v σ) (hs : notSlice slice = true := by rfl) : Su C σ value slice o (.int k) Φ := fun X ok G s vo vi R hvo hvi => by
  obtain ⟨ti, rfl⟩ := hvi.int_inv
  obtain ⟨a, ob, vs, n, rfl, e1, e2, e3, r⟩ := R.listOf hvo ho
  have hl : s.heap.IsList a vs := ⟨ob, e1, e2, n, e3⟩
  obtain ⟨x, hxv, rv⟩ := r.get hx
  have hlen : vs.size = ds.length := by have := r.length; simpa using this
  exact tail_any hl.typeIs slot_list_getitem.lookup (wpAny_getItem_list_neg hl h0 (by rw [hlen]; exact h1) hz (by rw [hlen]; simpa using hxv) ⟨G, σ, v, .refl, R, rv, h⟩) (subscripted_plain hs _ _)
theorem Su.tup {value slice : Expr} {v : V} {ds : List V} {k : Int} (h0 : 0 ≤ k) (hz : k < 2 ^ 63) (hx : ds[k.toNat]? = some v) (h : Φ v σ) (hs : notSlice slice = true := by rfl) : Su C σ value slice (.tup ds) (.int k) Φ := fun X ok G s vo vi R hvo hvi => by
  obtain ⟨ti, rfl⟩ := hvi.int_inv
  obtain ⟨a, ob, vs, n, rfl, p, e2, e3, r⟩ := hvo.tup_inv
  have hl : IsTup s.heap a vs := ⟨ob, R.pers _ _ p, e2, n, e3⟩
  obtain ⟨x, hxv, rv⟩ := r.get hx
  have hxv' : vs[k.toNat]? = some x := by simpa using hxv
  have hlt : k.toNat < vs.size := (Array.getElem?_eq_some_iff.mp hxv').1
  refine tail_any hl.typeIs slot_tuple_getitem.lookup (getItem_tuple hl (by omega) hz (j := k.toNat) ?_ hxv' ⟨G, σ, v, .refl, R, rv, h⟩) (subscripted_plain hs _ _)
  unfold seqIndex?
  have h1 : ¬ k < 0 := by omega
  simp [h1]
  omega
end

/-! VL9 -/
/-! slices -/
noncomputable def pickL {α : Type} (ds : List α) (lo hi st : Option Int) : List α :=
  (sliceRange (sliceBounds lo hi st ds.length).1 (sliceBounds lo hi st ds.length).2.1 (sliceBounds lo hi st ds.length).2.2).filterMap (ds[·]?)
theorem VRs.pickAt {G : Ghost} {vs : List Value} {ds : List V} (r : VRs G vs ds) : ∀ (is : List Nat), VRs G (is.filterMap (vs[·]?)) (is.filterMap (ds[·]?))
  | [] => .nil
  | i :: is => by
    have ih := r.pickAt is
    rw [List.filterMap_cons, List.filterMap_cons]
    cases hv : vs[i]? with
    | none =>
      cases hd : ds[i]? with
      | none => exact ih
      | some d => obtain ⟨v, e, _⟩ := r.get hd; rw [hv] at e; cases e
    | some v =>
      obtain ⟨d, e, rv⟩ := r.get' hv
      rw [e]
      exact .cons rv ih
theorem VRs.pick {G : Ghost} {vs : Array Value} {ds : List V} (r : VRs G vs.toList ds) (lo hi st : Option Int) : VRs G (slicePick vs lo hi st).toList (pickL ds lo hi st) := by
  have e : vs.size = ds.length := by have := r.length; simpa using this
  unfold slicePick pickL
  rw [e]
  have := r.pickAt (sliceRange (sliceBounds lo hi st ds.length).1 (sliceBounds lo hi st ds.length).2.1 (sliceBounds lo hi st ds.length).2.2)
  simpa using this

/-- an optional part of a slice -/
inductive PostO (C : Cx) (X : Ctx) (G : Ghost) (Φ : Option Int → St → Prop) (val : Value) (s' : Shared) : Prop
  | mk (G' : Ghost) (σ' : St) (i : Option Int) (le : G.Le G') (rep : Rep C X G' σ' s') (ip : IsPart val i) (phi : Φ i σ') : PostO C X G Φ val s'
noncomputable def Wo (C : Cx) (σ : St) (e : Option Expr) (Φ : Option Int → St → Prop) : Prop := ∀ X, Ok C X → ∀ G s, Rep C X G σ s → wpAny C.M X.A (evalPart e X.env) (PostO C X G Φ) Bad s
noncomputable def AsInt (Φ : Option Int → St → Prop) (v : V) (σ : St) : Prop := ∃ i, v = .int i ∧ Φ (some i) σ
section
variable {C : Cx} {σ : St} {pos sp : Pos} {Φ : V → St → Prop}
theorem Wo.none {Φ : Option Int → St → Prop} (h : Φ none σ) : Wo C σ none Φ := fun X ok G s R => by
  show wpAny _ _ (pure Value.none) _ _ s
  exact wpAny_pure ⟨G, σ, _, .refl, R, .none, h⟩
theorem Wo.some {Φ : Option Int → St → Prop} {e : Expr} (h : We C σ e (AsInt Φ)) : Wo C σ (some e) Φ := fun X ok G s R => by
  show wpAny _ _ (eval e X.env) _ _ s
  refine wpAny_mono (h X ok G s R) ?_ fun _ _ e => e
  rintro val s' ⟨G₁, σ₁, v, l₁, R₁, r₁, i, rfl, hΦ⟩
  cases r₁
  exact ⟨G₁, σ₁, _, l₁, R₁, .int _ _, hΦ⟩
/-- what a slice of a value gives -/
noncomputable def Sl (C : Cx) (σ : St) (value slice : Expr) (o : V) (lo hi st : Option Int) (Φ : V → St → Prop) : Prop :=
  ∀ X, Ok C X → ∀ G s vo vl vu vs, Rep C X G σ s → VR G vo o → IsPart vl lo → IsPart vu hi → IsPart vs st →
    wpAny C.M X.A (subscriptTail value slice vo (.ref s.heap.objs.size)) (Post C X G Φ) Bad { s with heap := s.heap.push { cls := .type "slice", data := .fields #[vl, vu, vs] } }
theorem We.slice {value : Expr} {lo hi st : Option Expr} (h : We C σ value fun o σ₁ => Wo C σ₁ lo fun l σ₂ => Wo C σ₂ hi fun u σ₃ => Wo C σ₃ st fun t σ₄ => Sl C σ₄ value (.Slice lo hi st sp) o l u t Φ) : We C σ (.Subscript value (.Slice lo hi st sp) pos) Φ := fun X ok G s R =>
  Subscript_ (wpAny_mono (h X ok G s R) (fun vo s₁ ⟨G₁, _, _, l₁, R₁, r₁, h₁⟩ => wpAny_Slice (wpAny_mono (h₁ X ok G₁ s₁ R₁)
    (fun _ s₂ ⟨G₂, _, _, l₂, R₂, p₂, h₂⟩ => wpAny_mono (h₂ X ok G₂ s₂ R₂)
      (fun _ s₃ ⟨G₃, _, _, l₃, R₃, p₃, h₃⟩ => wpAny_mono (h₃ X ok G₃ s₃ R₃)
        (fun _ s₄ ⟨G₄, _, _, l₄, R₄, p₄, h₄⟩ => wpAny_mono (h₄ X ok G₄ s₄ vo _ _ _ R₄ (r₁.mono ((l₂.trans l₃).trans l₄)) p₂ p₃ p₄) (fun _ _ p => p.le (((l₁.trans l₂).trans l₃).trans l₄)) fun _ _ e => e) fun _ _ e => e) fun _ _ e => e) fun _ _ e => e)) fun _ _ e => e)
theorem subscripted_slice (lo hi st : Option Expr) (sp : Pos) (o i : Value) : ∃ ops, subscripted (.Slice lo hi st sp) false o i = operate ops (getItem o i) := by
  cases st with
  | none => exact ⟨[i, o], rfl⟩
  | some e => exact ⟨[o, i], rfl⟩
theorem Sl.list {value : Expr} {lo' hi' st' : Option Expr} {o : V} {ds : List V} {lo hi st : Option Int} (ho : σ.listOf o = some ds) (hz : ds.length ≤ 1048576) (h0 : st ≠ some 0) (h : Φ (.list (pickL ds lo hi st)) σ) : Sl C σ value (.Slice lo' hi' st' sp) o lo hi st Φ := fun X ok G s vo vl vu vs R hvo p₁ p₂ p₃ => by
  obtain ⟨a, ob, xs, n, rfl, e1, e2, e3, r⟩ := R.listOf hvo ho
  have R' : Rep C X G σ { s with heap := s.heap.push { cls := .type "slice", data := .fields #[vl, vu, vs] } } := R.grown s.toks fun _ _ e => Heap.get?_push_of_some _ e
  have hl : (s.heap.push { cls := .type "slice", data := .fields #[vl, vu, vs] }).IsList a xs := ⟨ob, Heap.get?_push_of_some _ e1, e2, n, e3⟩
  obtain ⟨ops, hops⟩ := subscripted_slice lo' hi' st' sp (.ref a) (.ref s.heap.objs.size)
  have hlen : xs.size = ds.length := by have := r.length; simpa using this
  have P := R'.push { cls := .type "list", data := .seq (slicePick xs lo hi st) } s.toks
  refine tail_any (s := { s with heap := s.heap.push { cls := .type "slice", data := .fields #[vl, vu, vs] } }) (T := "list") ⟨ob, Heap.get?_push_of_some _ e1, e2⟩ slot_list_getitem.lookup
    (wpAny_getItem_list_slice hl ⟨_, Heap.get?_push_size _ rfl, rfl, rfl⟩ p₁ p₂ p₃ h0 ⟨_, σ, _, P.2, P.1, .list (.inr ⟨rfl, rfl⟩) ⟨rfl, rfl, rfl⟩ rfl ((r.pick lo hi st).mono P.2), h⟩ (by rw [hlen]; exact Nat.le_trans hz (by decide))) hops

/-! lists and bytes, joined -/
theorem add_listsA {prog : Program} {w : World} {A : Around} {E : Value → Shared → Prop} {s : Shared} {l b : Addr} {vs ws : List Value} {Q : Value → Shared → Prop} (hl : s.heap.IsList l vs.toArray) (hb : s.heap.IsList b ws.toArray)
    (h : Q (.ref s.heap.objs.size) { s with heap := s.heap.push { cls := .type "list", data := .seq (vs ++ ws).toArray } }) (hsz : vs.length + ws.length ≤ sizeLine) :
    wpAny (model prog w) A (binaryOp .Add (.ref l) (.ref b)) Q E s := by
  obtain ⟨⟨cls, dd, data, sl⟩, ho, hc, n, hd⟩ := id hl
  obtain ⟨⟨cls2, dd2, data2, sl2⟩, ho2, hc2, n2, hd2⟩ := id hb
  simp only at hc hd hc2 hd2
  subst hc hd hc2 hd2
  have e : vs.toArray ++ ws.toArray = (vs ++ ws).toArray := by simp
  refine concat_meets ⟨_, ho, rfl⟩ ⟨_, ho2, rfl⟩ noFill_list_add seq_list_add PySem.F.slot_list_add PySem.F.entry_list_add (PySem.F.args_list_add_2 _ _) (list_addW l b vs.toArray ws.toArray n n2 dd dd2 sl sl2 (by simpa using hsz)) ⟨ho, ho2, ?_⟩
  rw [e]
  exact h
theorem Bi.cat {a b : V} {xs ys : List V} (ha : σ.listOf a = some xs) (hb : σ.listOf b = some ys) (hz : xs.length + ys.length ≤ 1048576) (h : Φ (.list (xs ++ ys)) σ) : Bi C σ .Add a b Φ := fun X ok G s va vb R hva hvb => by
  obtain ⟨p, op, vp, np, rfl, e1, e2, e3, r1⟩ := R.listOf hva ha
  obtain ⟨q, oq, vq, nq, rfl, g1, g2, g3, r2⟩ := R.listOf hvb hb
  have hl : s.heap.IsList p vp.toList.toArray := ⟨op, e1, e2, np, by simpa using e3⟩
  have hm : s.heap.IsList q vq.toList.toArray := ⟨oq, g1, g2, nq, by simpa using g3⟩
  have P := R.push { cls := .type "list", data := .seq (vp.toList ++ vq.toList).toArray } s.toks
  exact add_listsA hl hm ⟨_, σ, _, P.2, P.1, .list (.inr ⟨rfl, rfl⟩) ⟨rfl, rfl, rfl⟩ rfl (by simpa using (r1.append r2).mono P.2), h⟩ (by rw [r1.length, r2.length]; exact Nat.le_trans hz (by decide))
theorem Bi.catB {x y : List UInt8} (hz : x.length + y.length ≤ 1048576) (h : Φ (.bytes (x ++ y)) σ) : Bi C σ .Add (.bytes x) (.bytes y) Φ := fun X ok G s va vb R hva hvb => by
  obtain ⟨b, t, rfl, rfl⟩ := hva.bytes_inv
  obtain ⟨c, u, rfl, rfl⟩ := hvb.bytes_inv
  refine PySem.W.KBy.add_bytes (by simp only [Array.length_toList] at hz; omega) fun t' k => ⟨G, σ, _, .refl, R.toks _, ?_, h⟩
  have := VR.bytes (G := G) (b ++ c) t'
  simpa using this
theorem Bi.mulB {x : List UInt8} {n : Int} (hx : x ≠ []) (hl : x.length ≤ 16) (h0 : -1048576 ≤ n) (h1 : n ≤ 1048576) (h : Φ (.bytes (List.replicate n.toNat x).flatten) σ) : Bi C σ .Mult (.bytes x) (.int n) Φ := fun X ok G s va vb R hva hvb => by
  obtain ⟨tn, rfl⟩ := hvb.int_inv
  obtain ⟨b, t, rfl, rfl⟩ := hva.bytes_inv
  have e : b = b.toList.toArray := by simp
  rw [e]
  refine bytes_mul_any hx h0 h1 hl fun t' k => ⟨G, σ, _, .refl, R.toks _, ?_, h⟩
  have := VR.bytes (G := G) ((List.replicate n.toNat b.toList).flatten).toArray t'
  simpa using this

/-! equal? -/
mutual
noncomputable def V.toP : V → PyData
  | .int i => .int i
  | .bool b => .bool b
  | .list ds => .list (toPs ds)
  | .tup ds => .tuple (toPs ds)
  | _ => .none
noncomputable def toPs : List V → List PyData
  | [] => []
  | d :: r => d.toP :: toPs r
end
mutual
/-- ints, and lists and tuples of such, at most n deep -/
noncomputable def V.flat : Nat → V → Bool
  | _, .int _ => true
  | n + 1, .list ds => flats n ds
  | n + 1, .tup ds => flats n ds
  | _, _ => false
noncomputable def flats : Nat → List V → Bool
  | _, [] => true
  | n, d :: r => d.flat n && flats n r
end
end

/-! VL10 -/
mutual
noncomputable def V.toD : V → Dat
  | .int i => .int i
  | .list ds => .list (toDs ds)
  | .tup ds => .tuple (toDs ds)
  | _ => .none
noncomputable def toDs : List V → List Dat
  | [] => []
  | d :: r => d.toD :: toDs r
end
mutual
noncomputable def V.isD : V → Bool
  | .int _ => true
  | .list ds => areD ds
  | .tup ds => areD ds
  | _ => false
noncomputable def areD : List V → Bool
  | [] => true
  | d :: r => d.isD && areD r
end
theorem reads_both {G : Ghost} {h : Heap} (hp : ∀ a o, G.P a o → h.get? a = some o) : (∀ {v : Value} {d : V}, VR G v d → d.isD = true → ∃ as, Reads h v (kqdP d.toD) as) ∧ (∀ {vs : List Value} {ds : List V}, VRs G vs ds → areD ds = true → ∃ as, ReadsAll h vs (kqdPs (toDs ds)) as) := by
  have main1 := @VR.rec G (motive_1 := fun v d _ => d.isD = true → ∃ as, Reads h v (kqdP d.toD) as) (motive_2 := fun vs ds _ => areD ds = true → ∃ as, ReadsAll h vs (kqdPs (toDs ds)) as)
    (fun hf => absurd hf Bool.false_ne_true) (fun _ hf => absurd hf Bool.false_ne_true) (fun i t _ => ⟨_, Reads.int i t⟩) (fun _ _ hf => absurd hf Bool.false_ne_true)
    (fun p c e _ ih hf => let ⟨_, q⟩ := ih hf; ⟨_, reads_list_at (hp _ _ p) c.1 e q⟩) (fun p c e _ ih hf => let ⟨_, q⟩ := ih hf; ⟨_, reads_tuple_at (hp _ _ p) c e q⟩)
    (fun _ hf => absurd hf Bool.false_ne_true) (fun _ _ hf => absurd hf Bool.false_ne_true) (fun _ _ _ _ _ _ _ hf => absurd hf Bool.false_ne_true)
    (fun _ => ⟨_, ReadsAll.nil⟩) (fun _ _ ih1 ih2 hf => let ⟨_, q⟩ := ih1 (Bool.and_eq_true_iff.mp hf).1; let ⟨_, q'⟩ := ih2 (Bool.and_eq_true_iff.mp hf).2; ⟨_, ReadsAll.cons q q'⟩)
  refine ⟨fun r => main1 r, ?_⟩
  intro vs ds r
  induction ds generalizing vs with
  | nil => obtain rfl := r.nil_inv; exact fun _ => ⟨_, ReadsAll.nil⟩
  | cons d ds ih =>
    obtain ⟨v, vs', rfl, p, q⟩ := r.cons_inv
    intro hf
    obtain ⟨_, q1⟩ := main1 p (Bool.and_eq_true_iff.mp hf).1
    obtain ⟨_, q2⟩ := ih q (Bool.and_eq_true_iff.mp hf).2
    exact ⟨_, ReadsAll.cons q1 q2⟩
mutual
theorem V.eqv_self : ∀ d : V, d.isD = true → PyData.eqv (kqdP d.toD) (kqdP d.toD) = true
  | .int i, _ => decide_eq_true rfl
  | .list ds, h => eqvs_self ds h
  | .tup ds, h => eqvs_self ds h
theorem eqvs_self : ∀ ds : List V, areD ds = true → PyData.eqvAll (kqdPs (toDs ds)) (kqdPs (toDs ds)) = true
  | [], _ => rfl
  | d :: r, h => Bool.and_eq_true_iff.mpr ⟨V.eqv_self d (Bool.and_eq_true_iff.mp h).1, eqvs_self r (Bool.and_eq_true_iff.mp h).2⟩
end
noncomputable def St.der (σ : St) : V → V
  | .ref k => match σ.mu[k]? with
    | some (_, ds) => .list ds
    | none => .ref k
  | v => v
theorem der_ref {σ : St} {k : Nat} {fr : Bool} {ds : List V} (h : σ.mu[k]? = some (fr, ds)) : σ.der (.ref k) = .list ds := by simp only [St.der, h]
theorem Rep.reads {C : Cx} {X : Ctx} {G : Ghost} {σ : St} {s : Shared} (R : Rep C X G σ s) {val : Value} {v : V} (hv : VR G val v) (hf : (σ.der v).isD = true) : ∃ as, Reads s.heap val (kqdP (σ.der v).toD) as := by
  cases v with
  | ref k =>
    cases hm : σ.mu[k]? with
    | none => rw [show σ.der (.ref k) = .ref k by simp only [St.der, hm]] at hf; exact absurd hf Bool.false_ne_true
    | some p =>
      obtain ⟨fr, ds⟩ := p
      rw [der_ref hm] at hf ⊢
      obtain ⟨a, o, vs, m, rfl, e1, e2, e3, r⟩ := R.listOf (v := .ref k) hv (by simp only [St.listOf, hm]; rfl)
      obtain ⟨as, q⟩ := (reads_both R.pers).2 r hf
      exact ⟨_, reads_list_at e1 e2 e3 q⟩
  | _ => exact (reads_both R.pers).1 hv hf
section
variable {C : Cx} {σ : St} {Φ : V → St → Prop}
theorem shaped_ok {d : Dat} (h : kqdOk 6 d = true) : SeqAt.shaped (kqdP d) = true := by
  have l := kqd_lay 6 d h
  unfold SeqAt.shaped
  rw [l.1, Bool.true_and]
  exact decide_eq_true (Nat.le_trans l.2 (by decide))
theorem Cm.neD {a b : V} (ha : (σ.der a).isD = true) (hk : kqdOk 6 (σ.der a).toD = true) (e : σ.der a = σ.der b) (h : Φ (.bool false) σ) : Cm C σ .NotEq a b Φ := fun X ok G s va vb R hva hvb => by
  obtain ⟨as, ra⟩ := R.reads hva ha
  obtain ⟨bs, rb⟩ := R.reads hvb (e ▸ ha)
  rw [← e] at rb
  refine ne_dataH ra rb (shaped_ok hk) (shaped_ok hk) (by have := ok.units; omega) ⟨G, σ, _, .refl, R, .bool _, ?_⟩
  rw [V.eqv_self _ ha]; exact h
end

/-! VL11 -/
/-! calls of built-in functions -/
noncomputable def Cb (C : Cx) (σ : St) (fv : Value) (vs : List V) (Φ : V → St → Prop) : Prop :=
  ∀ X, Ok C X → ∀ G s vals, Rep C X G σ s → VRs G vals vs → wpAny C.M X.A (PySem.call fv vals []) (Post C X G Φ) Bad s
noncomputable def isBi : Value → Bool
  | .builtin _ => true
  | .type _ => true
  | _ => false
theorem starEach_any {env : Env} {pos : Pos} : ∀ {es : List Expr}, es.all noStar = true → (backTo pos (starEach es env)).any (·.1) = false
  | [], _ => rfl
  | e :: r, h => by
    simp only [List.all_cons, Bool.and_eq_true] at h
    rw [starEach_cons h.1]
    show (false || (backTo pos (starEach r env)).any (·.1)) = false
    rw [starEach_any h.2]; rfl
section
variable {C : Cx} {σ : St} {pos pf : Pos} {Φ : V → St → Prop}
theorem We.bi {f : Str} {fv : Value} {e : Expr} {es : List Expr} (hg : C.T.mg f = (Option.none : Option Value)) (hb : bootBuiltins f = some fv) (h : Wes C σ (e :: es) fun vs σ₁ => Cb C σ₁ fv vs Φ) (hi : isBi fv = true := by rfl)
    (hf : C.sc.names.lookup f = some .globalImplicit := by rfl) (hn : f ≠ "__name__" := by decide) (hd : (f == ("__debug__" : Str)) = false := by decide) (ha : (e :: es).all noStar = true := by rfl) : We C σ (.Call (.Name f pf) (e :: es) [] pos) Φ := fun X ok G s R => by
  show wpAny _ _ (eval (.Name f pf) X.env >>= fun fv => callWith pos fv [] (backTo pos (starEach (e :: es) X.env)) []) _ _ s
  refine wpAny_bind (builtin_wp ok R hf hg hb hn ?_ hd)
  have he : noStar e = true := by simp only [List.all_cons, Bool.and_eq_true] at ha; exact ha.1
  have main : wpAny C.M X.A (evalArgs fv true (backTo pos (starEach (e :: es) X.env)) []) (fun a s₁ => wpAny C.M X.A (PySem.call fv ([] ++ a.pos) a.kw) (Post C X G Φ) Bad s₁) Bad s := by
    have := h X ok G s R pos
    rw [starEach_cons he] at this ⊢
    exact evalArgs_plain (wpAny_mono this (fun vals s₁ ⟨G₁, σ₁, vs, l₁, R₁, r₁, h₁⟩ => wpAny_mono (h₁ X ok G₁ s₁ vals R₁ r₁) (fun _ _ p => p.le l₁) fun _ _ e => e) fun _ _ e => e)
  cases fv <;> first | cases hi | skip
  · exact PySem.callWith_type (starEach_any ha) main
  · exact callWith_builtin (starEach_any ha) main

theorem Cb.abs {i : Int} (h : Φ (.int (i.natAbs : Int)) σ) : Cb C σ (.builtin "abs") [.int i] Φ := fun X ok G s vals R hv => by
  obtain ⟨t, rfl⟩ := hv.int1
  refine call_abs_int fun u tk => ⟨G, σ, _, .refl, R.toks _, .int _ _, ?_⟩
  have : (if i < 0 then -i else i) = (i.natAbs : Int) := by split <;> omega
  rw [this]; exact h
theorem Cb.int {i : Int} (h : Φ (.int i) σ) : Cb C σ (.type "int") [.int i] Φ := fun X ok G s vals R hv => by
  obtain ⟨t, rfl⟩ := hv.int1
  exact call_int_int ⟨G, σ, _, .refl, R, .int _ _, h⟩
theorem Cb.len {v : V} {ds : List V} (hl : σ.listOf v = some ds) (hz : ds.length ≤ 1048576) (h : Φ (.int ds.length) σ) : Cb C σ (.builtin "len") [v] Φ := fun X ok G s vals R hv => by
  obtain ⟨_, rfl, p⟩ := hv.one_inv
  obtain ⟨a, o, vs, n, rfl, e1, e2, e3, r⟩ := R.listOf p hl
  have hlen : vs.size = ds.length := by have := r.length; simpa using this
  exact call_len_list ⟨o, e1, e2, n, e3⟩ (by omega) ⟨G, σ, _, .refl, R.toks _, .int _ _, by rw [hlen]; exact h⟩
theorem Cb.lenT {ds : List V} (hz : ds.length ≤ 1048576) (h : Φ (.int ds.length) σ) : Cb C σ (.builtin "len") [.tup ds] Φ := fun X ok G s vals R hv => by
  obtain ⟨_, rfl, p⟩ := hv.one_inv
  obtain ⟨a, o, vs, n, rfl, hp, e2, e3, r⟩ := p.tup_inv
  have hlen : vs.size = ds.length := by have := r.length; simpa using this
  exact len_tuple ⟨o, R.pers _ _ hp, e2, n, e3⟩ (by omega) ⟨G, σ, _, .refl, R.toks _, .int _ _, by rw [hlen]; exact h⟩
theorem Cb.range1 {n : Int} (h : Φ (.range 0 n 1) σ) : Cb C σ (.type "range") [.int n] Φ := fun X ok G s vals R hv => by
  obtain ⟨t, rfl⟩ := hv.int1
  have P := R.push { cls := .type "range", data := .fields #[.int 0 s.toks, .int n t, .int 1 (s.toks + 1)] } (s.toks + 1 + 1)
  exact call_range_1 ⟨_, σ, _, P.2, P.1, .range (.inr ⟨rfl, rfl⟩) rfl, h⟩
theorem Cb.range2 {a b : Int} (h : Φ (.range a b 1) σ) : Cb C σ (.type "range") [.int a, .int b] Φ := fun X ok G s vals R hv => by
  obtain ⟨t, u, rfl⟩ := hv.int2
  have P := R.push { cls := .type "range", data := .fields #[.int a t, .int b u, .int 1 s.toks] } (s.toks + 1)
  exact call_range_2 ⟨_, σ, _, P.2, P.1, .range (.inr ⟨rfl, rfl⟩) rfl, h⟩
theorem Cb.range3 {a b c : Int} (hc : c ≠ 0) (hz : c.natAbs < 2 ^ 64) (h : Φ (.range a b c) σ) : Cb C σ (.type "range") [.int a, .int b, .int c] Φ := fun X ok G s vals R hv => by
  obtain ⟨t, u, v, rfl⟩ := hv.int3
  have P := R.push { cls := .type "range", data := .fields #[.int a t, .int b u, .int c v] } s.toks
  exact call_range_3 hc ⟨_, σ, _, P.2, P.1, .range (.inr ⟨rfl, rfl⟩) rfl, h⟩ (.inl (PyProof.noPylong_of_log2 (log2_lt (Nat.lt_of_lt_of_le hz (Nat.pow_le_pow_right (n := 2) (by decide) (by decide : 64 ≤ 4096))))))

/-! a list of ints -/
theorem VRs.ints {G : Ghost} : ∀ {vs : List Value} {ns : List Int}, VRs G vs (ns.map .int) → IntsAre vs ns
  | _, [], h => by cases h; exact .nil
  | _, n :: r, h => by
    cases h with
    | cons p q => cases p; exact .cons _ _ (VRs.ints q)
theorem intItems_list (xs : List (Int × Tok)) : intItems xs.toArray = (xs.map fun p => Value.int p.1 p.2).toArray := by simp [intItems]
theorem ints_items {vs : List Value} {ns : List Int} (h : IntsAre vs ns) : ∃ xs : Array (Int × Tok), vs.toArray = intItems xs ∧ xs.toList.map (·.1) = ns := by
  suffices h' : ∃ xs : List (Int × Tok), vs = xs.map (fun p => Value.int p.1 p.2) ∧ xs.map (·.1) = ns by
    obtain ⟨xs, e1, e2⟩ := h'
    exact ⟨xs.toArray, by rw [intItems_list, e1], by simpa using e2⟩
  induction h with
  | nil => exact ⟨[], rfl, rfl⟩
  | cons n t h ih =>
    obtain ⟨xs, e1, e2⟩ := ih
    exact ⟨(n, t) :: xs, by rw [e1]; rfl, by rw [← e2]; rfl⟩
theorem numAt_get {xs : Array (Int × Tok)} {ns : List Int} (h : xs.toList.map (·.1) = ns) (i : Nat) : numAt xs i = ns.getD i 0 := by
  subst h
  unfold numAt
  simp [List.getD_eq_getElem?_getD]
theorem preSum_take (ns : List Int) : ∀ k, k ≤ ns.length → preSum (fun i => ns.getD i 0) k = (ns.take k).sum
  | 0, _ => by simp [preSum]
  | k + 1, h => by
    rw [preSum, preSum_take ns k (by omega), List.take_add_one, List.sum_append]
    have : k < ns.length := h
    simp [List.getD_eq_getElem?_getD, this]
theorem abs_sum_le (ns : List Int) (M : Int) (h : ∀ n ∈ ns, -M ≤ n ∧ n ≤ M) : ∀ k : Nat, -(M * (k : Int)) ≤ (ns.take k).sum ∧ (ns.take k).sum ≤ M * k ∨ M < 0 := by
  intro k
  by_cases hM : M < 0
  · exact .inr hM
  refine .inl ?_
  induction k with
  | zero => simp
  | succ k ih =>
    rw [List.take_add_one, List.sum_append]
    cases hk : ns[k]? with
    | none =>
      simp only [Option.toList_none, List.sum_nil]
      have e : M * ((k + 1 : Nat) : Int) = M * k + M := by push_cast; rw [Int.mul_add, Int.mul_one]
      omega
    | some n =>
      have := h n (List.mem_of_getElem? hk)
      simp only [Option.toList_some, List.sum_cons, List.sum_nil]
      have e : M * ((k + 1 : Nat) : Int) = M * k + M := by push_cast; rw [Int.mul_add, Int.mul_one]
      omega
theorem Cb.sum {v : V} {ns : List Int} (hl : σ.listOf v = some (ns.map .int)) (hz : ns.length ≤ 1000) (hb : ∀ n ∈ ns, -(2 ^ 50) ≤ n ∧ n ≤ 2 ^ 50) (h : Φ (.int ns.sum) σ) : Cb C σ (.builtin "sum") [v] Φ := fun X ok G s vals R hv => by
  obtain ⟨_, rfl, p⟩ := hv.one_inv
  obtain ⟨a, o, vs, n, rfl, e1, e2, e3, r⟩ := R.listOf p hl
  obtain ⟨xs, f1, f2⟩ := ints_items r.ints
  have f1' : vs = intItems xs := by rw [← f1]
  have hlen : xs.size = ns.length := by rw [← f2]; simp
  have hnum : numAt xs = fun i => ns.getD i 0 := funext fun i => numAt_get f2 i
  have hpre : ∀ k, k ≤ ns.length → preSum (numAt xs) k = (ns.take k).sum := fun k hk => by rw [hnum]; exact preSum_take ns k hk
  refine sum_intList ok.handled (xs := xs) ⟨o, e1, e2, n, f1' ▸ e3⟩ (fun j hj => ?_) fun h' tk t' hk => ?_
  · rw [hpre (j + 1) (by omega), hnum]
    have b1 : -(2 ^ 50) ≤ ns.getD j 0 ∧ ns.getD j 0 ≤ 2 ^ 50 := by
      have hj' : j < ns.length := by omega
      rw [List.getD_eq_getElem?_getD, List.getElem?_eq_getElem hj']
      exact hb _ (List.getElem_mem hj')
    have b2 := (abs_sum_le ns (2 ^ 50) (fun n hn => ⟨(hb n hn).1, (hb n hn).2⟩) (j + 1)).resolve_right (by decide)
    unfold InLong
    have p50 : (2 : Int) ^ 50 = 1125899906842624 := by decide
    have p63 : (2 : Int) ^ 63 = 9223372036854775808 := by decide
    rw [p50] at b1 b2
    rw [p63]
    have hj2 : ((j + 1 : Nat) : Int) ≤ 1000 := by omega
    show _ ∧ _
    simp only
    omega
  · rw [hpre xs.size (by omega), hlen, List.take_length]
    exact ⟨G, σ, _, .refl, R.grown tk hk, .int _ _, h⟩
theorem Cb.max {v : V} {ns : List Int} (hl : σ.listOf v = some (ns.map .int)) (h0 : ns ≠ []) (h : ∀ m, m ∈ ns → (∀ n ∈ ns, n ≤ m) → Φ (.int m) σ) : Cb C σ (.builtin "max") [v] Φ := fun X ok G s vals R hv => by
  obtain ⟨_, rfl, p⟩ := hv.one_inv
  obtain ⟨a, o, vs, n, rfl, e1, e2, e3, r⟩ := R.listOf p hl
  obtain ⟨xs, f1, f2⟩ := ints_items r.ints
  have f1' : vs = intItems xs := by rw [← f1]
  have hlen : xs.size = ns.length := by rw [← f2]; simp
  have hpos : 0 < ns.length := List.length_pos_iff.mpr h0
  have hnum : numAt xs = fun i => ns.getD i 0 := funext fun i => numAt_get f2 i
  refine max_intList ok.handled (xs := xs) ⟨o, e1, e2, n, f1' ▸ e3⟩ (by omega) fun w h' tk hw hk => ?_
  obtain ⟨t, rfl⟩ := intItems_at hw
  have hb := argBest_gt (numAt xs) (xs.size - 1)
  refine ⟨G, σ, _, .refl, R.grown tk hk, .int _ _, h _ ?_ fun n hn => ?_⟩
  · rw [hnum]
    have hlt : argBest (fun i j => decide (numAt xs i > numAt xs j)) (xs.size - 1) < ns.length := by have := hb.1; omega
    rw [hnum] at hlt
    show ns.getD _ 0 ∈ ns
    rw [List.getD_eq_getElem?_getD, List.getElem?_eq_getElem hlt]
    exact List.getElem_mem hlt
  · obtain ⟨j, hj, rfl⟩ := List.mem_iff_getElem.mp hn
    have := hb.2 j (by omega)
    have e : numAt xs j = ns[j] := by rw [hnum]; simp [List.getD_eq_getElem?_getD, hj]
    rw [e] at this
    exact this
theorem Cb.min {v : V} {ns : List Int} (hl : σ.listOf v = some (ns.map .int)) (h0 : ns ≠ []) (h : ∀ m, m ∈ ns → (∀ n ∈ ns, m ≤ n) → Φ (.int m) σ) : Cb C σ (.builtin "min") [v] Φ := fun X ok G s vals R hv => by
  obtain ⟨_, rfl, p⟩ := hv.one_inv
  obtain ⟨a, o, vs, n, rfl, e1, e2, e3, r⟩ := R.listOf p hl
  obtain ⟨xs, f1, f2⟩ := ints_items r.ints
  have f1' : vs = intItems xs := by rw [← f1]
  have hlen : xs.size = ns.length := by rw [← f2]; simp
  have hpos : 0 < ns.length := List.length_pos_iff.mpr h0
  have hnum : numAt xs = fun i => ns.getD i 0 := funext fun i => numAt_get f2 i
  refine min_intList ok.handled (xs := xs) ⟨o, e1, e2, n, f1' ▸ e3⟩ (by omega) fun w h' tk hw hk => ?_
  obtain ⟨t, rfl⟩ := intItems_at hw
  have hb := argBest_lt (numAt xs) (xs.size - 1)
  refine ⟨G, σ, _, .refl, R.grown tk hk, .int _ _, h _ ?_ fun n hn => ?_⟩
  · rw [hnum]
    have hlt : argBest (fun i j => decide (numAt xs i < numAt xs j)) (xs.size - 1) < ns.length := by have := hb.1; omega
    rw [hnum] at hlt
    show ns.getD _ 0 ∈ ns
    rw [List.getD_eq_getElem?_getD, List.getElem?_eq_getElem hlt]
    exact List.getElem_mem hlt
  · obtain ⟨j, hj, rfl⟩ := List.mem_iff_getElem.mp hn
    have := hb.2 j (by omega)
    have e : numAt xs j = ns[j] := by rw [hnum]; simp [List.getD_eq_getElem?_getD, hj]
    rw [e] at this
    exact this
theorem Cb.max2 {a b : Int} (h : Φ (.int (if b > a then b else a)) σ) : Cb C σ (.builtin "max") [.int a, .int b] Φ := fun X ok G s vals R hv => by
  obtain ⟨t, u, rfl⟩ := hv.int2
  refine max_two_ints ok.handled fun h' tk hk => ⟨G, σ, _, .refl, R.grown tk hk, ?_, h⟩
  split <;> exact .int _ _
theorem Cb.min2 {a b : Int} (h : Φ (.int (if b < a then b else a)) σ) : Cb C σ (.builtin "min") [.int a, .int b] Φ := fun X ok G s vals R hv => by
  obtain ⟨t, u, rfl⟩ := hv.int2
  refine min_two_ints ok.handled fun h' tk hk => ⟨G, σ, _, .refl, R.grown tk hk, ?_, h⟩
  split <;> exact .int _ _
theorem Cb.divmod {a b : Int} (h0 : 0 < b) (hz : b.natAbs < 2 ^ 4096) (h : Φ (.tup [.int (a / b), .int (a % b)]) σ) : Cb C σ (.builtin "divmod") [.int a, .int b] Φ := fun X ok G s vals R hv => by
  obtain ⟨t, u, rfl⟩ := hv.int2
  have P := R.push { cls := .type "tuple", data := .seq #[.int (a.fdiv b) s.toks, .int (a.fmod b) (s.toks + 1)] } (s.toks + 1 + 1)
  refine divmod_int (by omega) ⟨_, σ, _, P.2, P.1, .tup (.inr ⟨rfl, rfl⟩) rfl rfl ?_, h⟩ (.inl (PyProof.noPylong_of_log2 (log2_lt hz)))
  rw [Int.fdiv_eq_ediv_of_nonneg _ (by omega), Int.fmod_eq_emod_of_nonneg _ (by omega)]
  exact .cons (.int _ _) (.cons (.int _ _) .nil)
theorem Cb.bytes {v : V} {ns : List Int} (hl : σ.listOf v = some (ns.map .int)) (hb : ∀ n ∈ ns, 0 ≤ n ∧ n < 256) (hz : ns.length ≤ 1048576) (h : Φ (.bytes (ns.map fun n => n.toNat.toUInt8)) σ) : Cb C σ (.type "bytes") [v] Φ := fun X ok G s vals R hv => by
  obtain ⟨_, rfl, p⟩ := hv.one_inv
  obtain ⟨a, o, vs, n, rfl, e1, e2, e3, r⟩ := R.listOf p hl
  have hi := r.ints
  refine call_bytes_ints (vs := vs.toList) ⟨o, e1, e2, n, by simpa using e3⟩ hi hb (by rw [hi.length]; exact Nat.le_trans hz (by decide)) ok.handled fun h' t k hk => ⟨G, σ, _, .refl, R.grown k hk, ?_, h⟩
  have := VR.bytes (G := G) (byteArr ns) t
  have e : (byteArr ns).toList = ns.map fun n => n.toNat.toUInt8 := by simp [byteArr]
  rw [e] at this
  exact this
end

/-! VL12 -/
/-! a list changed in place -/
theorem mapSeq_plain (f : Array Value → Array Value) (its : Array Value) (n : Nat) : ∃ n', Obj.mapSeq f { cls := .type "list", data := .seq its n } = { cls := .type "list", data := .seq (f its) n' } := by
  simp [Obj.mapSeq]
theorem Rep.mutate {C : Cx} {X : Ctx} {G : Ghost} {σ : St} {s : Shared} (R : Rep C X G σ s) {k : Nat} {ds ds' : List V} (hk : σ.mu[k]? = some (false, ds)) {a : Addr} (ha : G.adr[k]? = some a) {h' : Heap} {vs' : Array Value}
    (hp : h'.PlainList a vs') (hr : VRs G vs'.toList ds') (hs : Heap.SameBut a s.heap h') (t : Nat) : Rep C X G ⟨σ.loc, σ.mu.set k (false, ds')⟩ { s with heap := h', toks := t } := by
  obtain ⟨a', o, vs, n, e1, e2, e3, e4, r, f1, f2⟩ := R.mu k false ds hk
  rw [ha] at e1; cases e1
  have hkl : k < σ.mu.length := (List.getElem?_eq_some_iff.mp hk).1
  have keep : ∀ b p, b ≠ a → s.heap.get? b = some p → h'.get? b = some p := fun b p hb e => (hs.2 b hb).trans e
  have hPa := f2 rfl
  obtain ⟨m, cm, h1, h2, h3⟩ := R.loc
  obtain ⟨n', g1⟩ := hp
  refine ⟨R.same, R.lmT, ⟨m, cm, h1.at' fun q e => keep _ q (fun e' => R.adrL (e' ▸ List.mem_of_getElem? ha)) e, fun j c hc => ?_, h3⟩, fun b p hp => keep b p (fun e => hPa p (e ▸ hp)) (R.pers b p hp), fun b p hp => keep b p (fun e => R.adr0 a (List.mem_of_getElem? ha) p (e ▸ hp)) (R.keep b p hp), R.grow, R.sub, R.notL, R.notC, R.adrC, R.adrL, R.nd, R.adr0, by simpa using R.len, ?_, R.tabOff, R.tab.mono (fun _ _ h => h) fun b p q hq e => keep b p (fun e' => (R.tabOff b q hq).adr (e' ▸ List.mem_of_getElem? ha)) e⟩
  · obtain ⟨p, q1, q2⟩ := h2 j c hc
    exact ⟨p, keep c p (fun e => R.adrC j c hc (e ▸ List.mem_of_getElem? ha)) q1, q2⟩
  · intro j fr ds2 hm
    by_cases hj : j = k
    · subst hj
      rw [List.getElem?_set_self hkl] at hm
      cases hm
      exact ⟨a, _, vs', n', ha, g1, ⟨rfl, rfl, rfl⟩, rfl, hr, (fun h => absurd h (by decide)), fun _ => hPa⟩
    · rw [List.getElem?_set_ne (fun e => hj e.symm)] at hm
      obtain ⟨b, p, us, n2, q1, q2, q3⟩ := R.mu j fr ds2 hm
      refine ⟨b, p, us, n2, q1, keep b p (fun e => ?_) q2, q3⟩
      subst e
      exact hj ((List.getElem?_inj (List.getElem?_eq_some_iff.mp q1).1 R.nd).mp (q1.trans ha.symm))

section
variable {prog : Program} {w : World} {A : Around} {E : Value → Shared → Prop} {s : Shared}
theorem setItem_plain {l : Addr} {items : Array Value} {k : Int} {t : Tok} {v : Value} {Q : Unit → Shared → Prop} (hl : s.heap.PlainList l items)
    (h0 : 0 ≤ k) (hfit : k < 2 ^ 63) (hn : k < items.size)
    (hQ : ∀ h', h'.PlainList l (items.setIfInBounds k.toNat v) → Heap.SameBut l s.heap h' → Q () { s with heap := h' }) :
    wpAny (model prog w) A (setItem (.ref l) (.int k t) v) Q E s := by
  obtain ⟨ne, ho⟩ := id hl
  have hl' := hl.isList
  unfold setItem
  try with_reducible refine wpAny_holding ?_
  first | refine wpAny_bind (wpAny_pure ?_) | skip
  refine wpAny_bind (wpAny_sequenceKey hl'.typeIs (by decide) ?_)
  refine wpAny_bind (wpAny_callSpecial?_slot (name := Str.ofString "__setitem__") hl'.typeIs slot_list_setitem
    (wpAny_call_entry slot_list_setitem hl'.typeIs entry_list_setitem ?_ (args_list_setitem _ _ _)))
  show wpAny _ _ (Builtin.List.listSubscript? (.int k t) >>= _) _ _ s
  refine wpAny_bind (wpAny_listSubscript_int (fitsIndex_of h0 hfit) ?_)
  clear hfit
  obtain ⟨j, rfl⟩ := Int.eq_ofNat_of_zero_le h0
  have hj : j < items.size := by omega
  have hx' : items[j]? = some items[j] := Array.getElem?_eq_getElem hj
  show wpAny _ _ ((seqItemAt l j >>= fun r => pure (r.map (j, ·))) >>= _) _ _ s
  refine wpAny_bind (wpAny_bind (wpAny_seqItemAt ho rfl (wpAny_pure ?_)))
  rw [hx']
  show wpAny _ _ (setSeqItemAt l j v >>= _) _ _ s
  obtain ⟨n', hm⟩ := mapSeq_plain (·.setIfInBounds j v) items ne
  have hfin : (s.heap.update l (Obj.mapSeq (·.setIfInBounds j v))).PlainList l (items.setIfInBounds j v) :=
    ⟨n', by rw [Heap.get?_update_self _ ho (by rw [hm]; rfl), hm]⟩
  refine wpAny_bind (wpAny_setSeqItemAt ho rfl ?_)
  first
    | exact wpAny_bind (wpAny_pure (wpAny_pure ⟨.none, rfl, wpAny_pure (hQ _ hfin (Heap.SameBut.update ..))⟩))
    | exact wpAny_pure ⟨.none, rfl, wpAny_pure (hQ _ hfin (Heap.SameBut.update ..))⟩
theorem reverse_plain {l : Addr} {items : Array Value} {Q : Value → Shared → Prop} (hl : s.heap.PlainList l items) (hz : items.size ≤ sizeLine)
    (hQ : ∀ h' tk, h'.PlainList l items.reverse → Heap.SameBut l s.heap h' → Q .none { s with heap := h', toks := tk }) :
    wpAny (model prog w) A (call (.builtin "list.reverse") [.ref l]) Q E s := by
  obtain ⟨ne, ho⟩ := id hl
  obtain ⟨n', hm⟩ := mapSeq_plain (·.reverse) items ne
  refine call_meets PySem.F.slot_list_reverse ⟨_, ho, rfl⟩ PySem.F.entry_list_reverse (PySem.F.args_list_reverse_1 _) (PySem.AutoListH.list_reverse_list_0 l items ne hz) ⟨ho, hQ _ _ ⟨n', ?_⟩ (Heap.SameBut.update ..)⟩
  rw [Heap.get?_update_self _ ho (by rw [hm]; rfl), hm]
end

theorem VRs.rev {G : Ghost} : ∀ {vs : List Value} {ds : List V}, VRs G vs ds → VRs G vs.reverse ds.reverse
  | _, _, .nil => .nil
  | _, _, .cons p r => by
    rw [List.reverse_cons, List.reverse_cons]
    exact r.rev.append (.cons p .nil)

theorem VRs.setAt {G : Ghost} : ∀ {vs : List Value} {ds : List V} (j : Nat) {v : Value} {d : V}, VRs G vs ds → VR G v d → VRs G (vs.set j v) (ds.set j d)
  | _, _, _, _, _, .nil, _ => .nil
  | _, _, 0, _, _, .cons p r, h => .cons h r
  | _, _, j + 1, _, _, .cons p r, h => .cons p (r.setAt j h)

/-! methods -/
noncomputable def Me (C : Cx) (σ : St) (name : Str) (ov : V) (args : List Expr) (pos : Pos) (Φ : V → St → Prop) : Prop :=
  ∀ X, Ok C X → ∀ G s val, Rep C X G σ s → VR G val ov → ∀ pl, wpAny C.M X.A (getMethod val name pl) (fun fx s₂ => wpAny C.M X.A (callWith pos fx.1 fx.2 (backTo pos (starEach args X.env)) []) (Post C X G Φ) Bad s₂) Bad s
noncomputable def plainMeth (o : Expr) (name : Str) (apos : Pos) (args : List Expr) (pos : Pos) : Prop := ∀ env, ∃ pl, eval (.Call (.Attribute o name apos) args [] pos) env = (do
      let ov ← eval o env
      standAt apos.atName
      let (f, first) ← holding [ov] (getMethod ov name pl)
      callWith pos f first (backTo pos (starEach args env)) [])
section
variable {C : Cx} {σ : St} {pos apos : Pos} {Φ : V → St → Prop}
theorem We.meth {o : Expr} {name : Str} {args : List Expr} (h : We C σ o fun ov σ₁ => Me C σ₁ name ov args pos Φ) (hp : plainMeth o name apos args pos := by intro _; exact ⟨_, rfl⟩) :
    We C σ (.Call (.Attribute o name apos) args [] pos) Φ := fun X ok G s R => by
  obtain ⟨pl, he⟩ := hp X.env
  refine MethodCall_ (pl := pl) (wpAny_mono (h X ok G s R) (fun val s₁ ⟨G₁, σ₁, ov, l₁, R₁, r₁, h₁⟩ => ?_) fun _ _ e => e) he
  exact wpAny_mono (h₁ X ok G₁ s₁ val R₁ r₁ pl) (fun fx s₂ h₂ => wpAny_mono h₂ (fun _ _ p => p.le l₁) fun _ _ e => e) fun _ _ e => e
theorem Me.append {k : Nat} {e : Expr} (h : We C σ e fun v σ₁ => AppOk k (fun ds => Φ .none ⟨σ₁.loc, σ₁.mu.set k (false, ds ++ [v])⟩) σ₁) (hk : k < σ.mu.length) (he : noStar e = true := by rfl) :
    Me C σ "append" (.ref k) [e] pos Φ := fun X ok G s val R hv pl => by
  have hl : σ.listOf (.ref k) = some (σ.mu[k]).2 := by simp [St.listOf, hk]
  obtain ⟨a, vs, rfl, ⟨n, e1⟩, r⟩ := R.plainOf hv hl
  have ha : G.adr[k]? = some a := by obtain ⟨_, e, q⟩ := hv.ref_inv; cases e; exact q
  refine Calls.getMethod_list_append e1 rfl rfl ?_
  refine callWith_method1 (first := [.ref a]) ?_ (starEach_cons he) rfl
  rw [starEach_cons he]
  refine spliced_cons (wpAny_mono (h X ok G s R) (fun v s₁ ⟨G₁, σ₁, d, l₁, R₁, r₁, ds, q1, q2, q3⟩ => spliced_nil ?_) fun _ _ e => e)
  exact app_wp R₁ q1 q2 (l₁.adr _ _ ha) r₁ fun s' R' => ⟨G₁, _, .none, l₁, R', .none, q3⟩
theorem Me.reverse {k : Nat} {ds : List V} (hk : σ.mu[k]? = some (false, ds)) (hz : ds.length ≤ 1048576) (h : Φ .none ⟨σ.loc, σ.mu.set k (false, ds.reverse)⟩) :
    Me C σ "reverse" (.ref k) [] pos Φ := fun X ok G s val R hv pl => by
  have hl : σ.listOf (.ref k) = some ds := by simp [St.listOf, hk]
  obtain ⟨a, vs, rfl, hp, r⟩ := R.plainOf hv hl
  have ha : G.adr[k]? = some a := by obtain ⟨_, e, q⟩ := hv.ref_inv; cases e; exact q
  have hlen : vs.size = ds.length := by have := r.length; simpa using this
  obtain ⟨n, e1⟩ := id hp
  refine getMethod_list_of PySem.F.slot_list_reverse PySem.F.type_list_reverse hp.isList ⟨_, e1, rfl⟩ ?_
  refine callWith_method0 (reverse_plain hp (by rw [hlen]; exact Nat.le_trans hz (by decide)) fun h' tk hp' hs => ?_)
  refine ⟨G, _, .none, .refl, R.mutate hk ha hp' (ds' := ds.reverse) ?_ hs tk, .none, h⟩
  simpa using r.rev
theorem Me.bitLength {i : Int} (h : Φ (.int (Builtin.Int.intBits i)) σ) : Me C σ "bit_length" (.int i) [] pos Φ := fun X ok G s val R hv pl => by
  obtain ⟨t, rfl⟩ := hv.int_inv
  exact getMethod_int_bit_length (callWith_method0 (call_int_bit_length ⟨G, σ, _, .refl, R.toks _, .int _ _, h⟩))
end

/-! statements -/
section
variable {C : Cx} {σ : St} {pos : Pos} {Φ : Fl → St → Prop}
theorem interactive_no {C : Cx} {X : Ctx} (ok : Ok C X) : interactive X.env = false := by
  unfold interactive
  rw [ok.scope, ok.kind]; rfl
theorem Ws.expr {e : Expr} (h : We C σ e fun v σ₁ => v = .none ∧ Φ .next σ₁) (hs : ∀ env, swapsWith e none pos.line env = pure false := by intro _; rfl) : Ws C σ (.Expr e pos) Φ := fun X ok G s R => by
  refine wpAny_Expr (wpAny_mono (h X ok G s R) ?_ fun _ _ e => e) (interactive_no ok) (hs _)
  rintro val s₁ ⟨G₁, σ₁, v, l₁, R₁, r₁, rfl, h₁⟩
  cases r₁
  exact ⟨G₁, σ₁, .next, l₁, R₁, .next, h₁⟩
theorem Ws.assignTup {elts : List Expr} {k : Nat} {tpos : Pos} {e : Expr} (h : We C σ e fun v σ₁ => Asg C σ₁ (.Tuple elts k tpos) v fun σ₂ => Φ .next σ₂)
    (hw : swappedStores [.Tuple elts k tpos] e { (default : Env) with scope := C.sc } = pure none := by rfl) (hs : ∀ env, swapsWithSole [.Tuple elts k tpos] e pos.line env = pure false := by intro _; rfl) : Ws C σ (.Assign [.Tuple elts k tpos] e pos) Φ := fun X ok G s R => by
  refine Assign_Tuple (wpAny_mono (h X ok G s R) (fun val s₁ ⟨G₁, σ₁, v, l₁, R₁, r₁, h₁⟩ => ?_) fun _ _ e => e) (hs _) ?_
  · exact wpAny_mono (h₁ X ok G₁ s₁ val R₁ r₁) (fun _ s₂ ⟨G₂, σ₂, l₂, R₂, h₂⟩ => ⟨G₂, σ₂, .next, l₁.trans l₂, R₂, .next, h₂⟩) fun _ _ e => e
  · have : swappedStores [.Tuple elts k tpos] e X.env = swappedStores [.Tuple elts k tpos] e { (default : Env) with scope := X.env.scope } := rfl
    rw [this, ok.scope]; exact hw
noncomputable def St.sets (σ : St) : List Str → List V → St
  | n :: ns, v :: vs => (σ.set n v).sets ns vs
  | _, _ => σ
/-- a[i] = e -/
theorem Ws.setItem {o i : Expr} {pi : Pos} {e : Expr} (h : We C σ e fun v σ₁ => We C σ₁ o fun ov σ₂ => We C σ₂ i fun iv σ₃ => ∃ (k : Nat) (j : Int) (ds : List V), ov = .ref k ∧ iv = .int j ∧ σ₃.mu[k]? = some (false, ds) ∧ 0 ≤ j ∧ j < ds.length ∧ ds.length ≤ 1048576 ∧ Φ .next ⟨σ₃.loc, σ₃.mu.set k (false, ds.set j.toNat v)⟩)
    (hs : ∀ env, swapsWith e (some (.Subscript o i pi)) pos.line env = pure false := by intro _; rfl) : Ws C σ (.Assign [.Subscript o i pi] e pos) Φ := fun X ok G s R => by
  refine wpAny_Assign_Subscript (wpAny_mono (h X ok G s R) (fun val s₁ ⟨G₁, σ₁, v, l₁, R₁, r₁, h₁⟩ => wpAny_mono (h₁ X ok G₁ s₁ R₁) (fun vo s₂ ⟨G₂, σ₂, ov, l₂, R₂, r₂, h₂⟩ => wpAny_mono (h₂ X ok G₂ s₂ R₂) ?_ fun _ _ e => e) fun _ _ e => e) fun _ _ e => e) (hs _)
  rintro vi s₃ ⟨G₃, σ₃, iv, l₃, R₃, r₃, k, j, ds, rfl, rfl, q1, q2, q3, q4, q5⟩
  have hl : σ₃.listOf (.ref k) = some ds := by simp [St.listOf, q1]
  obtain ⟨a, vs, rfl, hp, r⟩ := R₃.plainOf (r₂.mono l₃) hl
  have ha : G₃.adr[k]? = some a := by have := r₂.mono l₃; cases this; assumption
  have hlen : vs.size = ds.length := by have := r.length; simpa using this
  cases r₃
  refine setItem_plain hp q2 (by omega) (by rw [hlen]; exact q3) fun h' hp' hs' => ?_
  refine ⟨G₃, _, .next, (l₁.trans l₂).trans l₃, R₃.mutate q1 ha hp' (ds' := ds.set j.toNat v) ?_ hs' _, .next, q5⟩
  rw [Array.toList_setIfInBounds]
  exact r.setAt _ (r₁.mono (l₂.trans l₃))
end

/-! VL13 -/
/-! bytes -/
section
variable {C : Cx} {σ : St} {pos sp pf : Pos} {Φ : V → St → Prop}
noncomputable def pickB (b : List UInt8) (lo hi : Option Int) : List UInt8 := (b.drop (lo.elim 0 (clipAt b.length))).take (hi.elim b.length (clipAt b.length) - lo.elim 0 (clipAt b.length))
theorem Sl.bytes {value : Expr} {lo' hi' : Option Expr} {b : List UInt8} {lo hi : Option Int} (hz : b.length ≤ 1048576) (h : Φ (.bytes (pickB b lo hi)) σ) : Sl C σ value (.Slice lo' hi' none sp) (.bytes b) lo hi none Φ := fun X ok G s vo vl vu vs R hvo p₁ p₂ p₃ => by
  cases p₃
  have R' : Rep C X G σ { s with heap := s.heap.push { cls := .type "slice", data := .fields #[vl, vu, .none] } } := R.grown s.toks fun _ _ e => Heap.get?_push_of_some _ e
  obtain ⟨a, t, rfl, rfl⟩ := hvo.bytes_inv
  obtain ⟨ops, hops⟩ := subscripted_slice lo' hi' none sp (.bytes a t) (.ref s.heap.objs.size)
  refine tail_any (s := { s with heap := s.heap.push { cls := .type "slice", data := .fields #[vl, vu, .none] } }) (T := "bytes") (typeIs_bytes _ _ _) FB.slot_bytes_getitem.lookup ?_ hops
  refine getItem_meets (typeIs_bytes _ _ _) (by decide) FB.slot_bytes_getitem FB.entry_bytes_getitem (FB.args_bytes_getitem_2 _ _) (KBc.meets_slice2 a t _ p₁ p₂)
    ⟨Heap.IsSliceOf.new _ _ _ _, Nat.le_trans (KBc.size_picked_le a lo hi) (by rw [Array.length_toList] at hz; exact Nat.le_trans hz (by decide)), fun t' k => ⟨G, σ, _, .refl, R'.toks _, ?_, h⟩⟩
  have := VR.bytes (G := G) (KBy.picked a lo hi) t'
  rw [KBc.picked_eq] at this ⊢
  simpa [pickB] using this
theorem Cm.neB {a b : List UInt8} (h : Φ (.bool (a != b)) σ) : Cm C σ .NotEq (.bytes a) (.bytes b) Φ := fun X ok G s va vb R hva hvb => by
  obtain ⟨ra, ta, rfl, rfl⟩ := hva.bytes_inv; obtain ⟨rb, tb, rfl, rfl⟩ := hvb.bytes_inv
  exact PySem.W.ne_bytes ⟨G, σ, _, .refl, R, .bool _, h⟩
theorem Src.bytes {b : List UInt8} : Src C (.bytes b) (b.map fun c => V.int (c.toNat : Int)) := fun X ok G σ s val R hv => by
  obtain ⟨a, t, rfl, rfl⟩ := hv.bytes_inv
  refine KBw.pyIter_bytes ⟨fun b q e => Heap.get?_push_of_some _ e, _, fun i h => KBw.IsBytesIter h s.heap.objs.size a t i, rfl, R.grown s.toks fun b q e => Heap.get?_push_of_some _ e, ⟨[s.heap.objs.size], fun i v => ∃ c u, a[i]? = some c ∧ v = .int (c.toNat : Int) u, ?_, ?_, ?_⟩, R.offNew, ⟨_, Heap.get?_push_size _ rfl, rfl, rfl⟩, ?_⟩
  · have W := KBw.walks (prog := C.T.prog) (w := C.T.w) ok.handled s.heap.objs.size a t
    have e : a.size = (a.toList.map fun c => V.int (c.toNat : Int)).length := by simp
    rw [e] at W
    exact W
  · exact fun b hb => .inl (List.mem_singleton.mp hb)
  · rintro i w ⟨c, u, hc, rfl⟩
    exact ⟨.int (c.toNat : Int), by simp [hc], .int _ _⟩
  · rintro i h ⟨o, e1, e2, e3⟩
    exact ⟨o, _, e1, e2, rfl⟩

/-! isinstance(e, bytes) -/
theorem isBytes_wp {X : Ctx} (ok : Ok C X) {G : Ghost} {s : Shared} (R : Rep C X G σ s) {val : Value} {b : List UInt8} (hv : VR G val (.bytes b)) {Q : Value → Shared → Prop} {E : Value → Shared → Prop} (h : Q (.bool true) s) :
    wpAny C.M X.A (PySem.call (.builtin "isinstance") [val, .type "bytes"]) Q E s := by
  obtain ⟨a, t, rfl, rfl⟩ := hv.bytes_inv
  exact call_isinstance_yes (Tx := "bytes") (T := "bytes") (typeIs_bytes _ _ _) (by first | rfl | kernel_rfl) (by rw [isSubtype_type]; kernel_rfl) h
theorem We.isBytes {e : Expr} {p2 : Pos} (h : We C σ e fun v σ₁ => ∃ b, v = .bytes b ∧ Φ (.bool true) σ₁) (hg : C.T.mg "isinstance" = (Option.none : Option Value)) (hg2 : C.T.mg "bytes" = (Option.none : Option Value)) (hb : bootBuiltins ("isinstance" : Str) = some (.builtin "isinstance") := by rfl) (hb2 : bootBuiltins ("bytes" : Str) = some (.type "bytes") := by rfl)
    (hf : C.sc.names.lookup ("isinstance" : Str) = some .globalImplicit := by rfl) (hf2 : C.sc.names.lookup ("bytes" : Str) = some .globalImplicit := by rfl) (he : noStar e = true := by rfl) :
    We C σ (.Call (.Name "isinstance" pf) [e, .Name "bytes" p2] [] pos) Φ := fun X ok G s R => by
  show wpAny _ _ (eval (.Name "isinstance" pf) X.env >>= fun fv => callWith pos fv [] (backTo pos (starEach [e, .Name "bytes" p2] X.env)) []) _ _ s
  refine wpAny_bind (builtin_wp ok R hf hg hb (by decide) ?_ (by decide))
  rw [starEach_cons he]
  refine callWith_builtin rfl (evalArgs_plain ?_)
  refine spliced_cons (wpAny_mono (h X ok G s R) ?_ fun _ _ e => e)
  rintro val s₁ ⟨G₁, σ₁, v, l₁, R₁, r₁, b, rfl, hΦ⟩
  refine spliced_cons (builtin_wp ok R₁ hf2 hg2 hb2 (by decide) (spliced_nil ?_) (by decide))
  exact isBytes_wp ok R₁ r₁ ⟨G₁, σ₁, _, l₁, R₁, .bool _, hΦ⟩

/-! tests of values -/
theorem Tr.list {v : V} {ds : List V} {Ψ : Bool → St → Prop} (hl : σ.listOf v = some ds) (hz : ds.length ≤ 1048576) (h : Ψ (!ds.isEmpty) σ) : Tr C σ v Ψ := fun X ok G s va R hva => by
  obtain ⟨a, o, vs, n, rfl, e1, e2, e3, r⟩ := R.listOf hva hl
  have hlen : vs.size = ds.length := by have := r.length; simpa using this
  have hL : s.heap.IsList a vs := ⟨o, e1, e2, n, e3⟩
  refine wpAny_truthy_list hL (by omega) ?_
  refine ⟨G, σ, .refl, R.toks _, ?_⟩
  have : (!vs.isEmpty) = !ds.isEmpty := by
    unfold Array.isEmpty; rw [hlen]; cases ds <;> simp
  rw [this]; exact h
end

/-! for x in reversed(list) -/
section
variable {C : Cx} {σ : St} {pos pc pf : Pos} {Φ : Fl → St → Prop}
theorem revIter_wp {X : Ctx} (ok : Ok C X) {G : Ghost} {s : Shared} {v : Value} {ds : List V} (R : Rep C X G σ s) (hv : VR G.bare v (.list ds)) {Q : Value → Shared → Prop}
    (hQ : ∀ it s', ItPost C X G σ ds.reverse s (.ref it) s' → Q (.ref it) s') : wpAny C.M X.A (PySem.call (.type "reversed") [v]) (fun rv s₁ => wpAny C.M X.A (pyIter rv) Q Bad s₁) Bad s := by
  cases hv with
  | @list a o vs n _ hp hc hd r =>
    have hl : s.heap.IsList a vs := ⟨o, R.pers _ _ hp, hc.1, n, hd⟩
    have hne : a ≠ s.heap.objs.size := Nat.ne_of_lt (Heap.lt_size (R.pers _ _ hp))
    have e : vs.size = ds.length := by have := r.length; simpa using this
    refine call_reversed_list hl ?_
    have st0 : (s.heap.push (revObj a ((vs.size : Int) - 1))).IsRevIter s.heap.objs.size a ((vs.size : Int) - 1) := ⟨_, Heap.get?_push_size _ rfl, rfl, rfl⟩
    refine wpAny_pyIter_revIter (s := { s with heap := s.heap.push (revObj a ((vs.size : Int) - 1)) }) st0 (hQ _ _ ?_)
    refine ⟨fun b q e => Heap.get?_push_of_some _ e, _, fun i h => i ≤ vs.size ∧ h.IsRevIter s.heap.objs.size a ((vs.size : Int) - 1 - (i : Int)) ∧ h.IsList a vs, rfl, R.grown s.toks fun b q e => Heap.get?_push_of_some _ e, ⟨[s.heap.objs.size, a], fun i v => vs[vs.size - 1 - i]? = some v ∧ i < vs.size, ?_, ?_, ?_⟩, R.offNew, ⟨Nat.zero_le _, by simpa using st0, hl.push _⟩, ?_⟩
    · have W := Walks.listRev (prog := C.T.prog) (w := C.T.w) ok.handled s.heap.objs.size a hne vs
      have e' : vs.size = ds.reverse.length := by simp [e]
      rw [← e']
      exact ⟨W.sub, W.frame, fun i s Q E hi st hQ => W.item i s Q E hi st fun v h' tk hv => hQ v h' tk ⟨hv, hi⟩, W.done, W.self⟩
    · intro b hb
      rcases List.mem_cons.mp hb with e | h
      · exact .inl e
      · exact .inr ⟨o, List.mem_singleton.mp h ▸ hp⟩
    · rintro i v ⟨hi, hlt⟩
      obtain ⟨d, h1, h2⟩ := r.get' (k := vs.size - 1 - i) (by simpa using hi)
      refine ⟨d, ?_, h2⟩
      rw [List.getElem?_reverse (by omega), ← h1]
      congr 1
      omega
    · rintro i h ⟨_, ⟨q, e1, e2, _⟩, _⟩
      exact ⟨q, _, e1, e2, rfl⟩
theorem Ws.forRev {t e : Expr} {body : List Stmt} (h : We C σ e fun v σ₁ => ∃ ds σ₂, σ₁.pur v = some (.list ds, σ₂) ∧ Wfor C t body Φ ds.reverse σ₂) (hg : C.T.mg "reversed" = (Option.none : Option Value))
    (hb : bootBuiltins "reversed" = some (.type "reversed") := by rfl) (hf : C.sc.names.lookup ("reversed" : Str) = some .globalImplicit := by rfl) (he : noStar e = true := by rfl)
    (hs : ∀ x env, foldedSetIterable (.Call (.Name "reversed" pf) [e] [] pc) env x = pure x := by intro _ _; rfl) : Ws C σ (.For t (.Call (.Name "reversed" pf) [e] [] pc) body [] pos) Φ := fun X ok G s R => by
  refine wpAny_For (Q := fun f s' => PostS C X G Φ f s') ?_ (fun x => hs x _)
  show wpAny _ _ (eval (.Name "reversed" pf) X.env >>= fun fv => callWith pc fv [] (backTo pc (starEach [e] X.env)) []) _ _ s
  refine wpAny_bind (builtin_wp ok R hf hg hb (by decide) ?_ (by decide))
  rw [starEach_cons he]
  refine PySem.callWith_type rfl (evalArgs_plain ?_)
  refine spliced_cons (wpAny_mono (h X ok G s R) ?_ fun _ _ e => e)
  rintro val s₁ ⟨G₁, σ₁, v, l₁, R₁, r₁, ds, σ₂, hp, hw⟩
  obtain ⟨P₂, R₂, l₂, r₂⟩ := R₁.pur r₁ hp
  refine spliced_nil ?_
  refine revIter_wp ok R₂ r₂ ?_
  rintro it s' ⟨_, _, St, e', R₃, I, off, st, hst⟩
  cases e'
  refine forLoop_wp ok R₃ (I.mono Ghost.bare_le) off st (let ⟨o, _, e, _⟩ := hst _ _ st; ⟨o, e⟩) (Esc.no C) trivial (fun s v Q E i hi hq => letGo_wp hst s v Q E i hi hq) (fun i h hi => let ⟨o, _, e, _⟩ := hst _ _ hi; ⟨o, e⟩) (WforO.of _ hw) fun f s' p => ?_
  exact (p.elim id False.elim).le (l₁.trans l₂)
end

/-! VL14 -/
/-! defs within a def -/
mutual
noncomputable def V.plain : V → Bool
  | .ref _ => false
  | .lam _ => false
  | .list vs => arePlain vs
  | .tup vs => arePlain vs
  | _ => true
noncomputable def arePlain : List V → Bool
  | [] => true
  | v :: r => v.plain && arePlain r
end
theorem VR.plain {G : Ghost} {adr : List Addr} {lm : Nat → FuncData → Prop} {v : Value} {d : V} (r : VR G v d) : d.plain = true → VR ⟨G.P, adr, lm⟩ v d :=
  @VR.rec G (motive_1 := fun v d _ => d.plain = true → VR ⟨G.P, adr, lm⟩ v d) (motive_2 := fun vs ds _ => arePlain ds = true → VRs ⟨G.P, adr, lm⟩ vs ds) (fun _ => .none) (fun b _ => .bool b) (fun i t _ => .int i t) (fun b t _ => .bytes b t)
    (fun p c e _ ih h => .list p c e (ih h)) (fun p c e _ ih h => .tup p c e (ih h)) (fun _ h => absurd h Bool.false_ne_true) (fun p o _ => .range p o) (fun _ _ _ _ _ _ _ h => absurd h Bool.false_ne_true)
    (fun _ => .nil) (fun _ _ ih1 ih2 h => .cons (ih1 (Bool.and_eq_true_iff.mp h).1) (ih2 (Bool.and_eq_true_iff.mp h).2)) v d r
theorem VRs.plain {G : Ghost} {adr : List Addr} {lm : Nat → FuncData → Prop} {vs : List Value} {ds : List V} (r : VRs G vs ds) (h : arePlain ds = true) : VRs ⟨G.P, adr, lm⟩ vs ds := by
  induction ds generalizing vs with
  | nil => obtain rfl := r.nil_inv; exact .nil
  | cons d ds ih =>
    obtain ⟨v, vs', rfl, p, q⟩ := r.cons_inv
    have h' := Bool.and_eq_true_iff.mp h
    exact .cons (VR.plain p h'.1) (ih q h'.2)
theorem arePlain_ints (ns : List Int) : arePlain (ns.map .int) = true := by
  induction ns with
  | nil => rfl
  | cons n r ih => simp [arePlain, V.plain, ih]

structure InIs (params : Arguments) (body : List Stmt) (scope : Scope) (cl : List (Str × Addr)) (fd : FuncData) : Prop where
  params : fd.params = params
  body : fd.body = .stmts body
  scope : fd.scope = scope
  globals : fd.globals = mainGlobals
  closure : fd.closure = cl
  builtins : fd.builtins = builtinsNs
  defaults : fd.defaults = .none
  kwdefaults : fd.kwdefaults = .none

/-- the k-th function that is made in a frame -/
structure Local (T : Tbl) (k : Nat) (params : Arguments) (body : List Stmt) (isc : Scope) : Prop where
  is : ∀ fd, T.lm k fd → InIs params body isc fd.closure fd
  cells : ∀ fd, T.lm k fd → ∀ own e, T.fact own e → ∀ n c, (n, c) ∈ fd.closure → (n, c) ∈ e.cells
  fact : ∀ fd, T.lm k fd → ∀ L a, T.fact false (callEnv fd L a)
  names : ∀ fd, T.lm k fd → (fd.closure.map (·.1)).Nodup ∧ ∀ n ∈ freeNames isc, ∃ c, (n, c) ∈ fd.closure
noncomputable def inOk (isc : Scope) (ns : List Str) : Bool := isc.kind == .function && !isc.isCoroutine && !isc.isGenerator && isc.names.all (fun x => x.2 != .cell) && decide (isc.names.map (·.1)).Nodup && decide ns.Nodup && ns.all (fun n => isc.names.lookup n == some .local)
noncomputable def capOk (sc isc : Scope) : Bool := (freeNames isc).all fun n => sc.names.lookup n == some .cell || sc.names.lookup n == some .free
noncomputable def inLoc (isc : Scope) (ns : List Str) (vs : List V) (loc : Str → Option V) : Str → Option V := fun n => match (ns.zip vs).lookup n with
  | some v => some v
  | none => if n ∈ freeNames isc then loc n else none

theorem lookup_rev {α : Type} {l : List (Str × α)} (h : (l.map (·.1)).Nodup) (n : Str) : l.reverse.lookup n = l.lookup n := by
  cases e : l.lookup n with
  | some v => exact lookup_mem (by rw [List.map_reverse]; exact ((List.reverse_perm _).nodup_iff).mpr h) (List.mem_reverse.mpr (mem_of_lookup e))
  | none =>
    cases e' : l.reverse.lookup n with
    | none => rfl
    | some v =>
      have := lookup_mem h (List.mem_reverse.mp (mem_of_lookup e'))
      rw [e] at this; cases this

theorem callIn_wp {C : Cx} {X : Ctx} (ok : Ok C X) {G : Ghost} {σ : St} {s : Shared} (R : Rep C X G σ s) {k d : Nat} {params : Arguments} {body : List Stmt} {isc : Scope} {ns : List Str} (hL : Local C.T k params body isc)
    (hcap : capOk C.sc isc = true) (hin : inOk isc ns = true) (hd : d + 1 ≤ C.d)
    (hb : ∀ s fd vals, InIs params body isc fd.closure fd → vals.length = ns.length → BindsTo s fd ⟨vals, []⟩ (ns.zip vals))
    {fv : Value} {vals : List Value} {vs : List V} (hf : VR G fv (.lam k)) (hv : VRs G vals vs) (hlen : vs.length = ns.length) {Φ : V → St → Prop}
    (h : Wx ⟨C.T, d, isc, false⟩ ⟨inLoc isc ns vs σ.loc, σ.mu⟩ body fun fl σ' => Φ (retOf fl) ⟨σ.loc, σ'.mu⟩) : wpAny C.M X.A (PySem.call fv vals []) (Post C X G Φ) Bad s := by
  cases hf with
  | @lam a c o oc fd _ hp hc hdat hlm hpc hcode hrec =>
  have hlm' : C.T.lm k fd := R.lmT ▸ hlm
  have I := hL.is fd hlm'
  obtain ⟨hnm, hfr⟩ := hL.names fd hlm'
  simp only [inOk, Bool.and_eq_true, beq_iff_eq, List.all_eq_true, decide_eq_true_eq, bne_iff_ne, ne_eq, Bool.not_eq_true'] at hin
  obtain ⟨⟨⟨⟨⟨⟨k1, k2⟩, k3⟩, k4⟩, k5⟩, k6⟩, k7⟩ := hin
  have hvl : vals.length = ns.length := hv.length.trans hlen
  have hfst : (ns.zip vals).map (·.1) = ns := zip_fst (Nat.le_of_eq hvl.symm)
  have noTab : ∀ a, (∀ q, C.T.tabs a = some q → False) → C.T.tabs a = none := fun a h => by
    cases e : C.T.tabs a with
    | none => rfl
    | some q => exact (h q e).elim
  refine wpAny_call ?_
  refine codeAny_call_def (fd := fd) (body := body) (binds := ns.zip vals) (by have := ok.depth; omega) (R.pers _ _ hp) hdat (R.top ok).nolimit (hrec _ (R.pers _ _ hpc)) I.body (hb _ _ _ I hvl)
    (by rw [I.scope]; exact k4) (fun x hx => by rw [I.scope]; exact k7 _ (by rw [← hfst]; exact List.mem_map.mpr ⟨x, hx, rfl⟩)) (fun h₀ hns hkeep => ?_) (by rw [I.scope]; exact k2) (by rw [I.scope]; exact k3) (by rw [I.scope]; exact k1)
  have eS : (callEnv fd s.heap.objs.size a).scope = isc := I.scope
  let env : Env := callEnv fd s.heap.objs.size a
  have eL : env.locals = s.heap.objs.size := rfl
  have eC : env.cells = fd.closure := rfl
  have hcl : ∀ n c, (n, c) ∈ env.cells → (n, c) ∈ X.env.cells := fun n c hc => hL.cells fd hlm' _ _ ok.fact n c hc
  let X' : Ctx := { A := X.A.deeper env, env := env, k₀ := fun b o => C.T.tabs b = none ∧ b ∉ G.adr ∧ s.heap.get? b = some o, P₀ := G.P, g₀ := X.g₀ }
  have hlt : ∀ b o, s.heap.get? b = some o → b < s.heap.objs.size := fun b o e => Heap.lt_size e
  have sub : ∀ b o, X.k₀ b o → X'.k₀ b o := fun b o e => ⟨noTab b fun q hq => (R.tabOff b q hq).k o e, fun hm => R.adr0 b hm o e, R.keep b o e⟩
  have kL : ∃ o, X'.k₀ X.env.locals o := by
    obtain ⟨m, _, ⟨o, es, ep, e, _⟩, _⟩ := R.loc
    exact ⟨o, noTab _ fun q hq => (R.tabOff _ q hq).L rfl, R.adrL, e⟩
  have kC : ∀ n c, (n, c) ∈ X.env.cells → ∃ o, X'.k₀ c o := fun n c hc => by
    obtain ⟨m, cm, _, h2, _⟩ := R.loc
    obtain ⟨o, e, _⟩ := h2 n c hc
    exact ⟨o, noTab _ fun q hq => (R.tabOff _ q hq).c n c hc rfl, R.adrC n c hc, e⟩
  have ok' : Ok ⟨C.T, d, isc, false⟩ X' := {
    scope := eS, kind := k1, globals := I.globals, builtins := I.builtins, handled := ok.handled
    depth := by have := ok.depth; show X.A.depth + 1 + d < recursionLimit; omega
    units := by have := ok.units; show X.A.units + 3 + 8 * d + 200 < cLine; omega
    top := fun h' hk => ok.top h' fun b o e => hk b o (sub b o e)
    names := hnm
    apart := fun n1 c1 n2 c2 m1 m2 hne => ok.apart n1 c1 n2 c2 (hcl _ _ m1) (hcl _ _ m2) hne
    cL := fun n c hc e => by
      have h1 := R.cellLt (hcl n c hc)
      rw [e] at h1
      exact absurd h1 (Nat.lt_irrefl _)
    L0 := fun o e => absurd (hlt _ _ e.2.2) (Nat.lt_irrefl _)
    c0 := fun e => by cases e
    cells := fun n hk => by
      have hk' : isc.names.lookup n = some .cell := by unfold Env.kindOf at hk; rwa [show X'.env.scope = isc from eS] at hk
      exact absurd rfl (k4 _ (mem_of_lookup hk'))
    fact := hL.fact fd hlm' _ _ }
  have R' : Rep ⟨C.T, d, isc, false⟩ X' G ⟨inLoc isc ns vs σ.loc, σ.mu⟩ { s with heap := h₀, toks := s.toks + (ns.zip vals).length } := {
    same := R.same
    lmT := R.lmT
    loc := by
      obtain ⟨m, cm, h1, h2, h3⟩ := R.loc
      refine ⟨_, cm, hns, fun n c hc => (h2 n c (hcl n c hc)).keeps hkeep, fun n v hv' => ?_⟩
      have hkind : env.kindOf n = isc.names.lookup n := by unfold Env.kindOf; rw [show env.scope = isc from eS]
      have hv2 : inLoc isc ns vs σ.loc n = some v := hv'
      unfold inLoc at hv2
      split at hv2
      · rename_i w hw
        cases hv2
        obtain ⟨val, e, r⟩ := zip_lookup hv hw
        have hm : n ∈ ns := by rw [← hfst]; exact List.mem_map.mpr ⟨_, mem_of_lookup e, rfl⟩
        exact .inl ⟨hkind.trans (k7 _ hm), val, by rw [lookup_rev (by rw [hfst]; exact k6)]; exact e, r⟩
      · split at hv2
        · rename_i hfm
          obtain ⟨c, hc⟩ := hfr n hfm
          have hkf : isc.names.lookup n = some .free := lookup_of_names k5 (mem_freeNames hfm)
          have hcapn := List.all_eq_true.mp hcap n hfm
          simp only [Bool.or_eq_true, beq_iff_eq] at hcapn
          have hX : X.env.kindOf n = C.sc.names.lookup n := by unfold Env.kindOf; rw [ok.scope]
          rcases h3 n v hv2 with ⟨kl, _⟩ | ⟨_, _, val, e, r⟩
          · rw [hX] at kl
            rcases hcapn with q | q <;> (rw [kl] at q; cases q)
          · exact .inr ⟨.inr (hkind.trans hkf), ⟨c, hc⟩, val, e, r⟩
        · cases hv2
    pers := fun b o e => hkeep _ _ (R.pers b o e)
    keep := fun b o e => hkeep _ _ e.2.2
    grow := fun b o e => .inl e
    sub := fun b o e => e
    notL := fun o e => absurd (hlt _ _ (R.pers _ _ e)) (Nat.lt_irrefl _)
    notC := fun e => by cases e
    adrC := fun n c hc => R.adrC n c (hcl n c hc)
    adrL := fun hm => by
      obtain ⟨o, ho⟩ := R.adrGet hm
      exact absurd (hlt _ _ ho) (Nat.lt_irrefl _)
    nd := R.nd
    adr0 := fun b hb o e => e.2.1 hb
    len := R.len
    mu := fun j fr ds hm => by
      obtain ⟨b, p, us, n, e1, e2, r⟩ := R.mu j fr ds hm
      exact ⟨b, p, us, n, e1, hkeep _ _ e2, r⟩
    tabOff := fun Q q hq => by
      have o0 := R.tabOff Q q hq
      obtain ⟨ps, e, _⟩ := R.tab Q q hq
      refine ⟨o0.P, fun o e' => ?_, fun e' => ?_, fun n c hc => o0.c n c (hcl n c hc), o0.adr⟩
      · have h1 := e'.1
        rw [show C.T.tabs Q = some q from hq] at h1; cases h1
      · have := hlt _ _ e
        rw [e'] at this
        exact absurd this (Nat.lt_irrefl _)
    tab := R.tab.mono (fun _ _ h => h) fun b o _ _ e => hkeep b o e }
  refine wpAny_mono (h X' ok' G _ R') (fun f s' ⟨G₂, σ', f', le, R₂, fr, hΦ⟩ => ?_) fun _ _ e => e.elim
  refine ⟨G₂, ⟨σ.loc, σ'.mu⟩, retOf f', le, ?_, ?_, hΦ⟩
  · obtain ⟨m, cm, h1, h2, h3⟩ := R.loc
    refine ⟨R₂.same, R₂.lmT, ⟨m, cm, h1.at' fun o e => R₂.keep _ _ ?_, fun n c hc => ?_, fun n v hv' => ?_⟩, R₂.pers, fun b o e => R₂.keep b o (sub b o e), fun b o e => ?_, fun b o e => R₂.sub b o (R.sub b o e), fun o e => ?_, fun ho n c hc o e => ?_, fun n c hc hm => ?_, fun hm => ?_, R₂.nd, fun b hb o e => R₂.adr0 b hb o (sub b o e), R₂.len, R₂.mu, fun Q q hq => ?_, R₂.tab⟩
    · exact ⟨noTab _ fun q hq => (R.tabOff _ q hq).L rfl, R.adrL, e⟩
    · obtain ⟨o, e1, e2⟩ := h2 n c hc
      exact ⟨o, R₂.keep _ _ ⟨noTab _ fun q hq => (R.tabOff _ q hq).c n c hc rfl, R.adrC n c hc, e1⟩, e2⟩
    · rcases h3 n v hv' with ⟨q1, val, q2, q3⟩ | ⟨q1, q2, val, q3, q4⟩
      · exact .inl ⟨q1, val, q2, q3.mono le⟩
      · exact .inr ⟨q1, q2, val, q3, q4.mono le⟩
    · rcases R₂.grow b o e with q | q
      · exact R.grow b o q
      · exact .inr fun o' e' => q o' (sub b o' e')
    · rcases R₂.grow _ o e with q | q
      · exact R.notL o q
      · obtain ⟨o', e'⟩ := kL
        exact q o' e'
    · rcases R₂.grow _ o e with q | q
      · exact R.notC ho n c hc o q
      · obtain ⟨o', e'⟩ := kC n c hc
        exact q o' e'
    · obtain ⟨o', e'⟩ := kC n c hc
      exact R₂.adr0 c hm o' e'
    · obtain ⟨o', e'⟩ := kL
      exact R₂.adr0 _ hm o' e'
    · have o0 := R.tabOff Q q hq
      have o2 := R₂.tabOff Q q hq
      exact ⟨o2.P, o0.k, o0.L, o0.c, o2.adr⟩
  · cases fr with
    | ret r => exact r
    | _ => exact .none

theorem We.callIn {C : Cx} {σ : St} {pos pf : Pos} {Φ : V → St → Prop} {f : Str} {es : List Expr} {k d : Nat} {params : Arguments} {body : List Stmt} {isc : Scope} {ns : List Str} (hL : Local C.T k params body isc) (hv : σ.loc f = some (.lam k))
    (h : Wes C σ es fun vs σ₁ => vs.length = ns.length ∧ Wx ⟨C.T, d, isc, false⟩ ⟨inLoc isc ns vs σ₁.loc, σ₁.mu⟩ body fun fl σ' => Φ (retOf fl) ⟨σ₁.loc, σ'.mu⟩)
    (hb : ∀ s fd vals, InIs params body isc fd.closure fd → vals.length = ns.length → BindsTo s fd ⟨vals, []⟩ (ns.zip vals))
    (hd : d + 1 ≤ C.d) (hcap : capOk C.sc isc = true := by rfl) (hin : inOk isc ns = true := by rfl) (ha : es.all noStar = true := by rfl) (he : es ≠ [] := by simp)
    (hdb : (f == ("__debug__" : Str)) = false := by decide) (hcd : (f == ("__classdict__" : Str)) = false := by decide) : We C σ (.Call (.Name f pf) es [] pos) Φ := fun X ok G s R => by
  show wpAny _ _ (eval (.Name f pf) X.env >>= fun fv => callWith pos fv [] (backTo pos (starEach es X.env)) []) _ _ s
  have hn : We C σ (.Name f pf) (fun v σ' => v = .lam k ∧ σ' = σ) := We.name hv ⟨rfl, rfl⟩ hdb hcd
  refine wpAny_bind (wpAny_mono (hn X ok G s R) ?_ fun _ _ e => e.elim)
  rintro fv s₀ ⟨G₀, _, _, l₀, R₀, r₀, rfl, rfl⟩
  have r₀' := r₀
  cases r₀ with
  | @lam a c o oc fd _ hp hc hdat hlm hpc hcode hrec =>
  refine callWith_function (o := o) (fd := fd) ?_
  obtain ⟨e, r, rfl⟩ := List.exists_cons_of_ne_nil he
  have hes : noStar e = true := by simp only [List.all_cons, Bool.and_eq_true] at ha; exact ha.1
  have main := h X ok G₀ s₀ R₀ pos
  rw [starEach_cons hes] at main ⊢
  refine evalArgs_plain (wpAny_mono main (fun vals s₁ ⟨G₁, σ₁, vs, l₁, R₁, r₁, hlen, h₁⟩ => ⟨⟨R₁.pers _ _ (l₁.P _ _ hp), hdat⟩, ?_⟩) fun _ _ e => e)
  exact wpAny_mono (callIn_wp ok R₁ hL hcap hin hd hb (r₀'.mono l₁) r₁ hlen h₁) (fun _ _ p => p.le (l₀.trans l₁)) fun _ _ e => e

theorem among_snoc {pos : Pos} {a b : Int} {c cv : Value} (l : List Value) (h : TriplesOk l) (hs : codeAmong pos (l ++ [rawInt a, rawInt b, c]) = some cv) : codeAmong pos l = some cv ∨ cv = c := by
  fun_induction TriplesOk l with
  | case1 =>
    simp only [List.nil_append, rawInt, codeAmong] at hs
    split at hs
    · exact .inr (Option.some.inj hs).symm
    · cases hs
  | case2 a' t b' u x rest ih =>
    simp only [List.cons_append, codeAmong] at hs ⊢
    split at hs
    · rename_i hc; rw [if_pos hc]; exact .inl hs
    · rename_i hc; rw [if_neg hc]; exact ih h hs
  | case3 l h1 h2 => exact h.elim

noncomputable def clOk (isc sc : Scope) : Bool := isc.names.all fun x => x.2 != .free || sc.names.lookup x.1 == some .cell
theorem clOk.at {isc sc : Scope} (h : clOk isc sc = true) : ∀ x ∈ isc.names, x.2 = .free → sc.names.lookup x.1 = some .cell := fun x hx hf => by
  have := List.all_eq_true.mp h x hx
  rw [hf] at this
  simpa using this
/-- def f(…) within a def -/
theorem Ws.defIn {C : Cx} {σ : St} {pos : Pos} {Φ : Fl → St → Prop} {name : Str} {params : Arguments} {body : List Stmt} {isc : Scope} {k : Nat}
    (hfact : ∀ e, C.T.fact C.own e → ∃ c P, e.code = .ref c ∧ (∀ h, C.T.K.In h → CodeHd h c P) ∧ C.T.tabs P = some (e.qual ++ name) ∧ ∀ fd, InIs params body isc (clF e isc.names []) fd → C.T.lm k fd)
    (h : Φ .next (σ.set name (.lam k))) (hk : kindOk C name = true := by rfl) (hcl : clOk isc C.sc = true := by rfl) (hq : C.sc.names.lookup name = some .cell := by rfl)
    (hd0 : params.defaults = [] := by rfl) (hk0 : params.kw_defaults = [] := by rfl) (ha : ∀ env, annTrees params none env = [] := by intro _; rfl) :
    Ws C σ (.FunctionDef name params body [] none [] isc none name pos) Φ := fun X ok G s R => by
  obtain ⟨c, P, hcode, hCH, htab, hlm⟩ := hfact _ ok.fact
  have top := R.top ok
  obtain ⟨ps, hP, hTr, hAm⟩ := R.tab P _ htab
  have noTab : ∀ {a o}, C.T.K.lookup a = some o → C.T.tabs a = none := fun e => top.tabK _ _ e
  have hqn : qualnameIn X.env name name = X.env.qual ++ name := by
    unfold qualnameIn Env.kindOf
    rw [ok.scope, hq]; rfl
  refine nestDef_K hd0 hk0 (ha _) ?_
  rw [hqn]
  have hclo : closureFor isc X.env = pure (clF X.env isc.names []) := closureFor_eq fun x hx hf => by
    obtain ⟨cc, hc⟩ := ok.cells x.1 (by unfold Env.kindOf; rw [ok.scope]; exact clOk.at hcl x hx hf)
    rw [lookup_mem ok.names hc]; rfl
  have neP : ∀ a, C.T.tabs a = none → a ≠ P := fun a h e => by rw [e, htab] at h; cases h
  obtain ⟨bm, ob, b1, b2, b3, b4, b5, b6, b7, b8⟩ := top.bmain
  have hB : s.heap.BuiltinsAt C.T.mg P := ⟨bm, ob, b1, b2, b3, neP bm b8, b4, b5, b6, b7⟩
  have hC := hCH _ top.K
  have st := fun (G' : Ghost) (s' : Shared) (le : G.Le G') (R' : Rep C X G' σ s') (f : Addr) (fo oc : Obj) (c' : Addr) (fd : FuncData) (hf : G'.P f fo) (h1 : fo.cls = .type "function") (h2 : fo.data = .func fd) (h3 : C.T.lm k fd) (h4 : G'.P c' oc) (h5 : fd.code = .ref c')
      (h6 : ∀ h : Heap, h.get? c' = some oc → h.CodeRec fd.code fd.qualname) => store_wp (n := name) (Q := fun _ s'' => PostS C X G Φ .next s'') (E := Bad) ok R' (VR.lam hf h1 h2 (R'.lmT ▸ h3) h4 h5 h6) hk fun s'' R'' => ⟨G', _, .next, le, R'', .next, h⟩
  cases hA : codeAmong pos ps.toList with
  | some cv =>
    obtain ⟨c', oc, rfl, hPc, hrec⟩ := hAm pos cv hA
    refine makeFunction_hit (mg := C.T.mg) hclo ok.globals top.g hcode hC hP hTr hA hB fun ctv doc h' tk hkeep hsz => ?_
    obtain ⟨R₁, l₁⟩ := (R.grown (h' := h') tk hkeep).push { cls := .type "function", data := .func (fnX name (X.env.qual ++ name) params body isc (clF X.env isc.names []) .none .none doc ((C.T.mg "__name__").getD .none) none (.ref c') ctv) } tk
    exact st _ _ l₁ R₁ _ _ oc c' _ (.inr ⟨rfl, rfl⟩) rfl rfl (hlm _ ⟨rfl, rfl, rfl, rfl, rfl, rfl, rfl, rfl⟩) (l₁.P _ _ hPc) rfl hrec
  | none =>
    refine makeFunction_K (mg := C.T.mg) hclo ok.globals top.g hcode hC hP hTr hA (neP _ top.tabG) hB fun c' ctv doc h' tk hx hge hlt hrec htb => ?_
    obtain ⟨c₂, oc, vs, t, e2, hoc, hd, hv⟩ := hrec
    cases e2
    have fresh : ∀ a o, s.heap.objs.size ≤ a → ¬ s.heap.get? a = some o := fun a o h e => absurd (Heap.lt_size e) (Nat.not_lt.mpr h)
    have old : ∀ a o, C.T.tabs a = none → s.heap.get? a = some o → h'.get? a = some o := fun a o ht e => hx a o (neP a ht) e
    have hPs : ∀ a o, G.P a o → C.T.tabs a = none := fun a o h => by
      cases e : C.T.tabs a with
      | none => rfl
      | some q => exact ((R.tabOff a q e).P o h).elim
    have hrec' : ∀ h : Heap, h.get? c' = some oc → h.CodeRec (.ref c') (X.env.qual ++ name) := fun h e => ⟨c', oc, vs, t, rfl, e, hd, hv⟩
    obtain ⟨R₁, l₁⟩ := R.extend (h' := h') (tk := tk) (P' := fun a o => G.P a o ∨ (a = c' ∧ o = oc)) old (fun a o h => .inl h) (by
      rintro a o (h | ⟨rfl, rfl⟩)
      · exact old a o (hPs a o h) (R.pers a o h)
      · exact hoc) (by
      rintro a o (h | ⟨rfl, rfl⟩)
      · exact .inl h
      · right
        cases e : s.heap.get? a with
        | none => rfl
        | some o' => exact (fresh a o' hge e).elim) (by
      intro Q q hq
      by_cases hQ : Q = P
      · subst hQ
        rw [htab] at hq; cases hq
        refine ⟨_, htb, ?_, fun pos' cv hcv => ?_⟩
        · rw [Array.toList_append]; exact TriplesOk_snoc _ _ _ _ hTr
        · rw [Array.toList_append] at hcv
          rcases among_snoc _ hTr hcv with h1 | h1
          · obtain ⟨c1, o1, q1, q2, q3⟩ := hAm pos' cv h1
            exact ⟨c1, o1, q1, .inl q2, q3⟩
          · subst h1
            exact ⟨c', oc, rfl, .inr ⟨rfl, rfl⟩, hrec'⟩
      · obtain ⟨qs, g1, g2, g3⟩ := R.tab Q q hq
        refine ⟨qs, hx Q _ hQ g1, g2, fun pos' cv hcv => ?_⟩
        obtain ⟨c1, o1, q1, q2, q3⟩ := g3 pos' cv hcv
        exact ⟨c1, o1, q1, .inl q2, q3⟩)
    obtain ⟨R₂, l₂⟩ := R₁.push (fnMade name (X.env.qual ++ name) params body isc (clF X.env isc.names []) doc ((C.T.mg "__name__").getD .none) c' ctv) tk
    exact st _ _ (l₁.trans l₂) R₂ _ _ oc c' _ (.inr ⟨rfl, rfl⟩) rfl rfl (hlm _ ⟨rfl, rfl, rfl, rfl, rfl, rfl, rfl, rfl⟩) (l₂.P _ _ (.inr ⟨rfl, rfl⟩)) rfl hrec'

/-- the frame of a def that makes one function -/
noncomputable def lmIn (params : Arguments) (body : List Stmt) (isc : Scope) (env : Env) : Nat → FuncData → Prop := fun k fd => k = 0 ∧ InIs params body isc (clF env isc.names []) fd
noncomputable def factIn (isc : Scope) (env : Env) : Bool → Env → Prop := fun own e => (own = true → e = env) ∧ ∀ n c, (n, c) ∈ clF env isc.names [] → (n, c) ∈ e.cells
theorem local_in {T : Tbl} {params : Arguments} {body : List Stmt} {isc : Scope} {env : Env} (hn : (isc.names.map (·.1)).Nodup) : Local (T.nest (lmIn params body isc env) (factIn isc env)) 0 params body isc where
  is := fun fd h => h.2.closure ▸ h.2
  cells := fun fd h own e he n c hc => he.2 n c (h.2.closure ▸ hc)
  fact := fun fd h L a => ⟨fun e => (by cases e), fun n c hc => by
    show (n, c) ∈ fd.closure
    rw [h.2.closure]; exact hc⟩
  names := fun fd h => by
    rw [h.2.closure]
    exact ⟨clF_names (by simpa using (List.Nodup.sublist (List.Sublist.map _ List.filter_sublist) hn)), fun n hm => clF_mem (.inl (mem_freeNames hm))⟩
theorem FnOk.introN {T : Tbl} {d : Nat} {n : Str} {args : List V} {Ψ : V → Prop} {params : Arguments} {body : List Stmt} {scope : Scope} {fd : FuncData} (F : FnIs T n params body scope fd) (ns : List Str)
    {name : Str} {iparams : Arguments} {ibody : List Stmt} {isc : Scope} (P c : Addr) (hcode : fd.code = .ref c) (hP : T.tabs P = some (fd.qualname ++ ".<locals>." ++ name)) (hCH : ∀ h, T.K.In h → CodeHd h c P)
    (hb : ∀ (s : Shared) (vals : List Value), vals.length = args.length → BindsTo s fd ⟨vals, []⟩ (ns.zip vals))
    (hl : ns.length = args.length) (hk : bindsOk scope ns = true) (hcl : clOk isc scope = true) (hargs : arePlain args = true) (hret : ∀ v, Ψ v → v.plain = true)
    (h : ∀ T', (∀ n, T'.mg n = T.mg n) → Local T' 0 iparams ibody isc → (∀ e, T'.fact true e → ∃ c P, e.code = .ref c ∧ (∀ h, T'.K.In h → CodeHd h c P) ∧ T'.tabs P = some (e.qual ++ name) ∧ ∀ fd, InIs iparams ibody isc (clF e isc.names []) fd → T'.lm 0 fd) →
      Wx ⟨T', d, scope, true⟩ ⟨bindV ns args, []⟩ body (Ret Ψ)) (hn : (isc.names.map (·.1)).Nodup) : FnOk T d n args Ψ := by
  refine FnOk.introG (dargs := []) F ns (lmIn iparams ibody isc) (factIn isc) (fun s vals _ hl => ⟨[], fun _ => .nil, ?_⟩) (by simpa using hl) hk ?_ ?_ ?_ ?_
  · rw [List.append_nil]; exact hb s vals hl
  · intro env eS eK eQ hsm
    refine ⟨fun _ => rfl, fun n c hc => ?_⟩
    rcases mem_clF hc with h1 | ⟨h1, h2⟩
    · cases h1
    · obtain ⟨c', hc'⟩ := Option.isSome_iff_exists.mp (hsm n (clOk.at hcl _ h1 rfl))
      rw [hc'] at h2
      exact h2 ▸ mem_of_lookup hc'
  · intro env G vals ds _ _ e r
    exact r.plain (by rw [e, List.append_nil]; exact hargs)
  · intro env P' val v hv r
    exact VR.plain (G := ⟨P', [], lmIn iparams ibody isc env⟩) r (hret v hv)
  · intro env eS eK eQ
    rw [List.append_nil]
    refine h _ (fun _ => rfl) (local_in hn) fun e he => ?_
    have e1 : e = env := he.1 rfl
    subst e1
    exact ⟨c, P, eK.trans hcode, hCH, by rw [eQ]; exact hP, fun fd hfd => ⟨rfl, hfd⟩⟩

/-! VK -/
/-- the top of a text, as far as it is known -/
structure Tops (T : Tbl) (K : Params → Frag) : Prop where
  frag : T.K = K T.w.params
  mg : ∀ n v, nsIn (K T.w.params) mainGlobals n = some (some v) → T.mg n = some v
  no : ∀ n, nsIn (K T.w.params) mainGlobals n = some none → T.mg n = none
  plain : T.Plain

structure NoB (T : Tbl) (K : Frag) : Prop where
  no : ∀ n, nsIn K mainGlobals n = some none → T.mg n = none

theorem FnIs.ofK {T : Tbl} {K : Params → Frag} (hT : Tops T K) {n : Str} {a : Addr} {oc : Value} {od : Option Addr} {osl : Array (Option Value)} {fd : FuncData} {body : List Stmt} (h1 : nsIn (K T.w.params) mainGlobals n = some (some (.ref a))) (h2 : (K T.w.params).lookup a = some ⟨oc, od, .func fd, osl⟩)
    (hb : fd.body = .stmts body) (h3 : fd.globals = mainGlobals) (h4 : fd.closure = []) (h5 : fd.builtins = builtinsNs) (h6 : codeIn (K T.w.params) fd.code fd.qualname = true) : FnIs T n fd.params body fd.scope fd :=
  ⟨⟨a, oc, od, osl, hT.mg _ _ h1, hT.frag ▸ h2⟩, rfl, hb, rfl, h3, h4, h5, hT.frag ▸ h6⟩

theorem bb_len : bootBuiltins ("len" : Str) = some (.builtin "len") := by kernel_rfl
theorem bb_sum : bootBuiltins ("sum" : Str) = some (.builtin "sum") := by kernel_rfl
theorem bb_range : bootBuiltins ("range" : Str) = some (.type "range") := by kernel_rfl
theorem bb_abs : bootBuiltins ("abs" : Str) = some (.builtin "abs") := by kernel_rfl
theorem bb_int : bootBuiltins ("int" : Str) = some (.type "int") := by kernel_rfl
theorem bb_max : bootBuiltins ("max" : Str) = some (.builtin "max") := by kernel_rfl
theorem bb_min : bootBuiltins ("min" : Str) = some (.builtin "min") := by kernel_rfl
theorem bb_divmod : bootBuiltins ("divmod" : Str) = some (.builtin "divmod") := by kernel_rfl
theorem bb_bytes : bootBuiltins ("bytes" : Str) = some (.type "bytes") := by kernel_rfl
theorem vals0 {l : List Value} (h : l.length = 0) : l = [] := List.eq_nil_of_length_eq_zero h
theorem valsS {l : List Value} {n : Nat} (h : l.length = n + 1) : ∃ a r, l = a :: r ∧ r.length = n := by
  cases l with
  | nil => cases h
  | cons a r => exact ⟨a, r, rfl, Nat.succ.inj h⟩
theorem vals1 {l : List Value} (h : l.length = 1) : ∃ a, l = [a] := by
  obtain ⟨a, r, rfl, h1⟩ := valsS h
  obtain rfl := vals0 h1
  exact ⟨a, rfl⟩
theorem vals2 {l : List Value} (h : l.length = 2) : ∃ a b, l = [a, b] := by
  obtain ⟨a, r, rfl, h1⟩ := valsS h
  obtain ⟨b, rfl⟩ := vals1 h1
  exact ⟨a, b, rfl⟩
theorem vals3 {l : List Value} (h : l.length = 3) : ∃ a b c, l = [a, b, c] := by
  obtain ⟨a, r, rfl, h1⟩ := valsS h
  obtain ⟨b, c, rfl⟩ := vals2 h1
  exact ⟨a, b, c, rfl⟩
/-! a def of the text, by its name -/
noncomputable def fnOf (K : Frag) (n : Str) : Option FuncData := match nsIn K mainGlobals n with
  | some (some (.ref a)) => (match K.lookup a with
    | some ⟨_, _, .func fd, _⟩ => some fd
    | _ => none)
  | _ => none
noncomputable def fnBody (K : Frag) (n : Str) : List Stmt := match fnOf K n with
  | some fd => (match fd.body with
    | .stmts b => b
    | _ => [])
  | none => []
noncomputable def fnScope (K : Frag) (n : Str) : Scope := match fnOf K n with
  | some fd => fd.scope
  | none => default
noncomputable def loopOf : List Stmt → Stmt
  | _ :: _ :: .If _ (w :: _) _ _ :: _ => w
  | _ => .Pass default
/-! shorter roads -/
theorem CallOk.eq {T : Tbl} {d : Nat} {f : Str} {Φ : V → St → Prop} {vs vs' : List V} {σ₁ σ₂ : St} {w : V} (h1 : σ₁.purs vs = some (vs', σ₂)) (h2 : FnOk T d f vs' (fun v => v = w)) (h3 : Φ w σ₂) : CallOk T d f Φ vs σ₁ := ⟨vs', σ₂, _, h1, h2, fun r e => e ▸ h3⟩
section
variable {C : Cx} {σ : St} {Φ : V → St → Prop}
theorem Cm.neT {a b : Int} (e : a = b) (h : Φ (.bool false) σ) : Cm C σ .NotEq (.int a) (.int b) Φ := Cm.ne (by rw [decide_eq_false (fun k => k e)]; exact h)
theorem Cm.neBT {a b : List UInt8} (e : a = b) (h : Φ (.bool false) σ) : Cm C σ .NotEq (.bytes a) (.bytes b) Φ := Cm.neB (by rw [e, show (b != b) = false by simp]; exact h)
theorem Bi.addE {a b c : Int} (e : a + b = c) (h : Φ (.int c) σ) : Bi C σ .Add (.int a) (.int b) Φ := Bi.add (e ▸ h)
theorem rangeV_ints (a c : Int) (n : Nat) : rangeV a c n = ((List.range n).map fun (i : Nat) => a + (i : Int) * c).map V.int := by
  rw [rangeV, List.map_map]; rfl
end
theorem purs_nil {σ : St} : σ.purs [] = some ([], σ) := rfl
theorem purs_cons {σ σ₁ σ₂ : St} {v v' : V} {r r' : List V} (h : σ.pur v = some (v', σ₁)) (hr : σ₁.purs r = some (r', σ₂)) : σ.purs (v :: r) = some (v' :: r', σ₂) := by
  simp only [St.purs, h, hr]
theorem pur_int {σ : St} (i : Int) : σ.pur (.int i) = some (.int i, σ) := rfl
theorem pur_ints {σ : St} (ns : List Int) : σ.pur (.list (ns.map V.int)) = some (.list (ns.map V.int), σ) := by simp [St.pur, V.isPure, arePure_map_int]

/-! VL15 -/
/-! comprehensions, turn by turn -/
theorem Wt.mono {C : Cx} {σ : St} {e : Expr} {Φ Ψ : Bool → St → Prop} (h : Wt C σ e Φ) (k : ∀ v σ', Φ v σ' → Ψ v σ') : Wt C σ e Ψ :=
  fun X ok G s R => wpAny_mono (h X ok G s R) (fun _ _ ⟨G', σ', a, r, q⟩ => ⟨G', σ', a, r, k _ _ q⟩) fun _ _ h => h
theorem Wifs.mono {C : Cx} : ∀ (ifs : List Expr) {σ : St} {Φ Ψ : Bool → St → Prop}, Wifs C ifs σ Φ → (∀ v σ', Φ v σ' → Ψ v σ') → Wifs C ifs σ Ψ
  | [], _, _, _, h, k => k _ _ h
  | c :: r, σ, Φ, Ψ, h, k => Wt.mono h fun b σ' hb => by
    cases b
    · exact k _ _ hb
    · exact Wifs.mono r hb k
/-- [elt for x in items if …], each item giving g d -/
theorem comp1 {C : Cx} {x : Str} {px : Pos} {elt : Expr} {ifs : List Expr} {σ : St} {Φ : St → Prop} (items : List V) (p : V → Bool) (g : V → V) (hk : kindOk C x = true) (hz : items.length ≤ 1000000) (h0 : σ.mu = [(false, [])])
    (h : ∀ d ∈ items, ∀ σ₁ : St, (∀ n, n ≠ x → σ₁.loc n = σ.loc n) → σ₁.loc x = some d → Wifs C ifs σ₁ fun b σ₂ => b = p d ∧ σ₂ = σ₁ ∧ (b = true → We C σ₁ elt fun v σ₃ => v = g d ∧ σ₃.loc = σ₁.loc ∧ σ₃.mu[0]? = σ₁.mu[0]?))
    (hΦ : ∀ σ' : St, σ'.mu[0]? = some (false, (items.filter p).map g) → Φ σ') : Witems C (.Name x px) (Wturn C elt [] ifs) items σ Φ := by
  have key : ∀ l : List V, (items.filter p).map g = items.flatMap fun d => if p d = true then [g d] else [] := fun _ => by
    clear h hΦ hz
    induction items with
    | nil => rfl
    | cons d r ih =>
      rw [List.flatMap_cons, List.filter_cons]
      by_cases hp : p d = true
      · rw [if_pos hp, if_pos hp, List.map_cons, ih]; rfl
      · rw [if_neg hp, if_neg hp, ih]; rfl
  rw [key []] at hΦ
  have hle : ∀ l : List V, (l.flatMap fun d => if p d = true then [g d] else []).length ≤ l.length := fun l => by
    induction l with
    | nil => exact Nat.le_refl _
    | cons d r ih =>
      rw [List.flatMap_cons, List.length_append, List.length_cons]
      have : (if p d = true then [g d] else []).length ≤ 1 := by split <;> simp
      omega
  suffices main : ∀ (pre rest : List V), items = pre ++ rest → ∀ σ', (∀ n, n ≠ x → σ'.loc n = σ.loc n) → σ'.mu[0]? = some (false, pre.flatMap fun d => if p d = true then [g d] else []) → Witems C (.Name x px) (Wturn C elt [] ifs) rest σ' Φ from
    main [] items rfl σ (fun _ _ => rfl) (by rw [h0]; rfl)
  intro pre rest
  induction rest generalizing pre with
  | nil =>
    intro e σ' h1 h2
    refine hΦ σ' ?_
    rw [h2, e, List.append_nil]
  | cons d r ih =>
    intro e σ' h1 h2
    refine Asg.name ?_ hk
    have hm : d ∈ items := by rw [e]; simp
    have hl1 : ∀ n, n ≠ x → (σ'.set x d).loc n = σ.loc n := fun n hn => by
      show (if n = x then some d else σ'.loc n) = _
      rw [if_neg hn]; exact h1 n hn
    have hl2 : (σ'.set x d).loc x = some d := by show (if x = x then some d else _) = _; rw [if_pos rfl]
    have e' : items = (pre ++ [d]) ++ r := by rw [e]; simp
    refine Wifs.mono ifs (h d hm (σ'.set x d) hl1 hl2) ?_
    rintro b σ₂ ⟨rfl, rfl, hb⟩
    cases hp : p d with
    | false =>
      refine ih (pre ++ [d]) e' _ hl1 ?_
      rw [List.flatMap_append]
      show σ'.mu[0]? = _
      rw [h2]; simp [hp]
    | true =>
      refine (hb hp).mono ?_
      rintro v σ₃ ⟨rfl, q1, q2⟩
      have hmu : σ₃.mu[0]? = some (false, pre.flatMap fun d => if p d = true then [g d] else []) := by rw [q2]; exact h2
      have hpl : pre.length ≤ 1000000 := by rw [e] at hz; simp at hz; omega
      refine ⟨_, hmu, by have := hle pre; omega, ih (pre ++ [d]) e' _ (fun n hn => by show σ₃.loc n = _; rw [q1]; exact hl1 n hn) ?_⟩
      show (σ₃.mu.set 0 _)[0]? = _
      rw [List.getElem?_set_self (List.getElem?_eq_some_iff.mp hmu).1, List.flatMap_append]
      simp [hp]
noncomputable def onInt {α : Type} (f : Int → α) (e : V → α) : V → α
  | .int i => f i
  | v => e v
theorem comp1i {C : Cx} {x : Str} {px : Pos} {elt : Expr} {ifs : List Expr} {σ : St} {Φ : St → Prop} (ps : List Int) (p : Int → Bool) (g : Int → V) (hk : kindOk C x = true) (hz : ps.length ≤ 1000000) (h0 : σ.mu = [(false, [])])
    (h : ∀ i ∈ ps, ∀ σ₁ : St, (∀ n, n ≠ x → σ₁.loc n = σ.loc n) → σ₁.loc x = some (.int i) → Wifs C ifs σ₁ fun b σ₂ => b = p i ∧ σ₂ = σ₁ ∧ (b = true → We C σ₁ elt fun v σ₃ => v = g i ∧ σ₃.loc = σ₁.loc ∧ σ₃.mu[0]? = σ₁.mu[0]?))
    (hΦ : ∀ σ' : St, σ'.mu[0]? = some (false, (ps.filter p).map g) → Φ σ') : Witems C (.Name x px) (Wturn C elt [] ifs) (ps.map V.int) σ Φ := by
  refine comp1 _ (onInt p fun _ => true) (onInt g id) hk (by simpa using hz) h0 ?_ fun σ' hmu => hΦ σ' ?_
  · intro d hd σ₁ h1 h2
    obtain ⟨i, hi, rfl⟩ := List.mem_map.mp hd
    exact h i hi σ₁ h1 h2
  · rw [hmu]
    congr 2
    clear h hΦ hz hmu
    induction ps with
    | nil => rfl
    | cons i r ih =>
      rw [List.map_cons, List.filter_cons, List.filter_cons]
      show List.map (onInt g id) (if p i = true then _ else _) = _
      by_cases hp : p i = true
      · rw [if_pos hp, if_pos hp, List.map_cons, List.map_cons, ih]; rfl
      · rw [if_neg hp, if_neg hp, ih]

/-! VL16 -/
/-! a clause of a comprehension, whose turns each add what g says -/
noncomputable def Ag (xs : List Str) (σ σ' : St) : Prop := ∀ n, xs.contains n = false → σ'.loc n = σ.loc n
/-! VL17 -/
/-! VZ -/
/-! from the contract of a law to the row's claim -/
noncomputable def tabsOf (ts : List (Addr × Str)) (a : Addr) : Option Str := ts.lookup a
theorem tabsOf_mem {ts : List (Addr × Str)} {a : Addr} {q : Str} (h : tabsOf ts a = some q) : a ∈ ts.map (·.1) := by
  unfold tabsOf at h
  induction ts with
  | nil => cases h
  | cons p r ih =>
    rw [List.lookup_cons] at h
    by_cases e : a = p.1
    · rw [e]; exact List.mem_cons_self
    · have : (a == p.1) = false := by simpa using e
      rw [this] at h
      exact List.mem_cons_of_mem _ (ih h)
noncomputable def topTbl (prog : Program) (w : World) (K : Params → Frag) (mg mb : Str → Option Value) (ts : List (Addr × Str)) (lm : Nat → FuncData → Prop) : Tbl :=
  { prog := prog, w := w, K := K w.params, mg := mg, mb := mb, tabs := tabsOf ts, lm := lm, fact := fun _ _ => True }

section
variable {prog p : Program} {w : World} {loose : List Str} {mean : ExcName → Option Value} {mg mb : Str → Option Value} {h : Heap} {K : Params → Frag} {ts : List (Addr × Str)} {lm : Nat → FuncData → Prop}
theorem topTbl_tops (T : Top p loose mean mg mb h) (KX : (K w.params).In h) : Tops (topTbl prog w K mg mb ts lm) K where
  frag := rfl
  mg := fun n v e => mg_of KX T.g e
  no := fun n e => ns_none_of KX T.g e
  plain := fun _ _ => trivial
theorem tab_no {b : Addr} {o : Obj} (KT : ∀ P ∈ ts.map (·.1), h.get? P = some (tabObj #[])) (e : h.get? b = some o) (ho : o ≠ tabObj #[]) : tabsOf ts b = none := by
  cases q : tabsOf ts b with
  | none => rfl
  | some s => exact absurd (Option.some.inj (e.symm.trans (KT b (tabsOf_mem q)))) ho
theorem ns_tab_no {b : Addr} {m : Str → Option Value} (KT : ∀ P ∈ ts.map (·.1), h.get? P = some (tabObj #[])) (e : h.Ns b m) : tabsOf ts b = none := by
  obtain ⟨o, es, ep, ho, hd, _⟩ := e
  exact tab_no KT ho fun q => by rw [q] at hd; cases hd
theorem topTbl_top (T : Top p loose mean mg mb h) (KX : (K w.params).In h) (KT : ∀ P ∈ ts.map (·.1), h.get? P = some (tabObj #[])) (hK : ∀ P ∈ ts.map (·.1), (K w.params).lookup P = none) : TopF (topTbl prog w K mg mb ts lm) h where
  g := T.g
  b := T.b
  nolimit := T.nolimit
  builtins := T.builtins
  K := KX
  bmain := by
    obtain ⟨bm, ob, h1, h2, h3, h4, h5, h6⟩ := T.bmain
    refine ⟨bm, ob, h1, h2, fun e => ?_, h3, h4, h5, h6, tab_no KT h3 fun q => by rw [q] at h4; cases h4⟩
    obtain ⟨o, es, ep, ho, hd, _⟩ := T.g
    rw [e] at h3
    rw [h3] at ho
    cases ho
    rw [h6] at hd; cases hd
  tabG := ns_tab_no KT T.g
  tabB := ns_tab_no KT T.b
  tabS := let ⟨mc, a, _⟩ := T.nolimit; ns_tab_no KT a
  tabK := fun a o e => by
    show tabsOf ts a = none
    cases q : tabsOf ts a with
    | none => rfl
    | some s =>
      have e' : (K w.params).lookup a = some o := e
      rw [hK a (tabsOf_mem q)] at e'; cases e'
theorem topTbl_tab {P : Addr → Obj → Prop} (KT : ∀ P ∈ ts.map (·.1), h.get? P = some (tabObj #[])) : TabOk (topTbl prog w K mg mb ts lm) P h := fun Q q e => by
  refine ⟨#[], KT Q (tabsOf_mem e), trivial, fun pos cv hc => ?_⟩
  cases hc
end
theorem vrs_ints {G : Ghost} : ∀ {vs : List Value} {ns : List Int}, IntsAre vs ns → VRs G vs (ns.map .int)
  | _, _, .nil => .nil
  | _, _, .cons _ _ r => .cons (.int _ _) (vrs_ints r)
/-! VF1 -/
/-! an exception that is raised in a def and met by the one that calls it: what is left of the frames around -/
noncomputable def hwo (h : Heap) (S : List Addr) : Heap := ⟨(h.objs.toList.zipIdx.map fun p => if p.2 ∈ S then { p.1 with data := .freed } else p.1).toArray, h.life⟩
theorem hwo_in {h : Heap} {S : List Addr} {b : Addr} (hb : b ∈ S) : (hwo h S).get? b = none := by
  unfold Heap.get? hwo
  simp only [List.getElem?_toArray, List.getElem?_map, List.getElem?_zipIdx, Array.getElem?_toList, Nat.zero_add]
  cases h.objs[b]? with
  | none => rfl
  | some o => simp [hb]
theorem hwo_out {h : Heap} {S : List Addr} {b : Addr} (hb : b ∉ S) : (hwo h S).get? b = h.get? b := by
  unfold Heap.get? hwo
  simp only [List.getElem?_toArray, List.getElem?_map, List.getElem?_zipIdx, Array.getElem?_toList, Nat.zero_add]
  cases h.objs[b]? with
  | none => rfl
  | some o => simp [hb]
theorem hwo_stays {h : Heap} {S : List Addr} {h' : Heap} (k : ∀ b o, b ∉ S → h.get? b = some o → h'.get? b = some o) : (hwo h S).StaysIn h' := fun b o e => by
  by_cases hb : b ∈ S
  · rw [hwo_in hb] at e; cases e
  · rw [hwo_out hb] at e; exact k b o hb e
noncomputable abbrev locsOf (l : List Env) : List Addr := l.filterMap (·.frame)
structure FrAt (h : Heap) (e : Env) : Prop where
  kind : e.scope.kind ≠ .module
  at_ : ∃ L o, e.frame = some L ∧ h.get? L = some o ∧ ∀ vs, o.data ≠ .fields vs
theorem funFrames {h : Heap} {S : List Addr} {h₀ : Heap} : ∀ {l : List Env}, (∀ e ∈ l, FrAt h e) → (∀ L ∈ locsOf l, L ∈ S) → h.FunFrames (hwo h₀ S) l
  | [], _, _ => trivial
  | e :: r, hl, hS => by
    obtain ⟨hk, L, o, hf, ho, hd⟩ := hl e List.mem_cons_self
    refine ⟨hk, ⟨L, o, hf, hwo_in (hS L (by simp [locsOf, hf])), ho, hd⟩, funFrames (fun x hx => hl x (List.mem_cons_of_mem _ hx)) fun L' hL' => hS L' ?_⟩
    rw [locsOf, List.filterMap_cons, hf]
    exact List.mem_cons_of_mem _ hL'
theorem FrAt.mem {h : Heap} {l : List Env} (hl : ∀ e ∈ l, FrAt h e) {b : Addr} (hb : b ∈ locsOf l) : ∃ o, h.get? b = some o ∧ ∀ vs, o.data ≠ .fields vs := by
  obtain ⟨e, he, hf⟩ := List.mem_filterMap.mp hb
  obtain ⟨_, L, o, hf', ho, hd⟩ := hl e he
  rw [hf] at hf'; cases hf'
  exact ⟨o, ho, hd⟩
/-- the traceback that an exception bears, its mark of flight taken away -/
structure Tra (h₀ h : Heap) (e : Addr) (cls : Value) (oe oT : Obj) (vs ts : Array Value) (T : Addr) : Prop where
  he : h.get? e = some oe
  hc : oe.cls = cls
  hd : oe.data = .fields vs
  h1 : vs[1]? = some (.ref T)
  hne : T ≠ e
  hT : h.get? T = some oT
  hdT : oT.data = .fields ts
  h3 : ts[3]? = some .none
  new : h₀.get? T = none
inductive Noted (S : List Addr) (ex : List Addr) (e : Addr) (cls : Value) (h h' : Heap) : Prop
  | mk (oe oT : Obj) (vs ts : Array Value) (T : Addr) (keep : ∀ b o, b ∉ S → b ∉ ex → h.get? b = some o → h'.get? b = some o)
      (soft : ∀ b o, b ∈ S → h.get? b = some o → ∃ sl, h'.get? b = some { o with slots := sl }) (tr : Tra h h' e cls oe oT vs ts T) : Noted S ex e cls h h'
theorem noted_of {l : List Env} {h h' : Heap} {e : Addr} {cls : Value} (hl : ∀ x ∈ l, FrAt h x)
    (k : Heap.Left (hwo h (e :: locsOf l)) l e cls h h') : Noted (locsOf l) [e] e cls h h' := by
  obtain ⟨k1, k2, ⟨oe, vs, T, oT, ts, a1, a2, a3, a4, a5, a6, a7, a8, a9⟩, k4⟩ := k
  have soft : ∀ b o, b ∈ locsOf l → h.get? b = some o → ∃ sl, h'.get? b = some { o with slots := sl } := fun b o hb ho => by
    obtain ⟨o', ho', hd⟩ := FrAt.mem hl hb
    rw [ho] at ho'; cases ho'
    exact k4 b o ho hd
  have hTS : T ∉ e :: locsOf l := fun hm => by
    rcases List.mem_cons.mp hm with q | hm
    · exact a6 q
    obtain ⟨o', ho', hd⟩ := FrAt.mem hl hm
    obtain ⟨sl, q⟩ := soft T o' hm ho'
    rw [a7] at q; cases q
    exact hd _ a8
  refine ⟨oe, oT, vs, ts, T, fun b o hb hb2 ho => k1 b o ?_, soft, ⟨a1, a2, a3, a4, a6, a7, a8, a9, hwo_out hTS ▸ a5⟩⟩
  rw [hwo_out (by rw [List.mem_cons]; rintro (q | q) <;> simp_all)]; exact ho
section
variable {M : Model} {A : Around} {E : Value → Shared → Prop} {s : Shared} {env : Env} {outer : List Env} {L e : Addr} {Q : Unit → Shared → Prop}
theorem leave_first {oe : Obj} {vs : Array Value} (hfr : A.frames = some (env :: outer)) (hF : ∀ x ∈ env :: outer, FrAt s.heap x) (hf : env.frame = some L) (he : s.heap.get? e = some oe) (hd : oe.data = .fields vs) (h1 : vs[1]? = some .none)
    (h : ∀ h', Noted (locsOf (env :: outer)) [e] e oe.cls s.heap h' → Q () { s with heap := h' }) : wpAny M A (leaving env (.ref e)) Q E s :=
  wpAny_leaving_first (base := hwo s.heap (e :: locsOf (env :: outer))) hfr (funFrames hF fun _ h => List.mem_cons_of_mem _ h) hf he (hwo_stays fun _ _ _ h => h) (hwo_in List.mem_cons_self) hd h1 fun h' k => h h' (noted_of hF k)
theorem note_next {oe oT : Obj} {vs ts : Array Value} {T : Addr} (hfr : A.frames = some (env :: outer)) (hF : ∀ x ∈ env :: outer, FrAt s.heap x) (hf : env.frame = some L) (he : s.heap.get? e = some oe) (hd : oe.data = .fields vs) (h1 : vs[1]? = some (.ref T))
    (hne : T ≠ e) (hT : s.heap.get? T = some oT) (hdT : oT.data = .fields ts) (h3 : ts[3]? = some .none)
    (h : ∀ h', Noted (locsOf (env :: outer)) [e, T] e oe.cls s.heap h' → Q () { s with heap := h' }) : wpAny M A (noteFrame (.ref e) env) (fun _ s' => wpAny M A (setFlight (.ref e) none) Q E s') E s := by
  unfold noteFrame
  simp only [hf]
  refine wpAny_bind (wpAny_field he hd h1 ?_)
  rw [if_pos (show (Value.ref T != Value.none) = true from by simp)]
  refine wpAny_bind (wpAny_field hT hdT h3 ?_)
  rw [if_neg (show ¬ ((Value.none == rawInt L) = true) from by simp [rawInt])]
  refine wpAny_bind (wpAny_setField hT hdT (Array.getElem?_eq_some_iff.mp h3).1 ?_)
  have other : ∀ b, b ≠ T → (s.heap.update T (Obj.mapFields (·.setIfInBounds 3 Value.none))).get? b = s.heap.get? b := fun b hb => Heap.get?_update_other _ _ (Ne.symm hb)
  have notT : ∀ x ∈ env :: outer, ∀ L' o, x.frame = some L' → s.heap.get? L' = some o → (∀ vs, o.data ≠ .fields vs) → L' ≠ T := fun x hx L' o _ ho hd' q => by
    rw [q, hT] at ho; cases ho; exact hd' _ hdT
  have hF₁ : ∀ x ∈ env :: outer, FrAt (s.heap.update T (Obj.mapFields (·.setIfInBounds 3 Value.none))) x := fun x hx => by
    obtain ⟨hk, L', o, a, b, c⟩ := hF x hx
    exact ⟨hk, L', o, a, (other L' (notT x hx L' o a b c)).trans b, c⟩
  have hself : ∃ o', (s.heap.update T (Obj.mapFields (·.setIfInBounds 3 Value.none))).get? T = some o' := ⟨_, Heap.get?_update_self _ hT (Obj.isFreed_of_fields (Obj.data_mapFields hdT _))⟩
  refine wpAny_newEntry (base := hwo (s.heap.update T (Obj.mapFields (·.setIfInBounds 3 Value.none))) (e :: locsOf (env :: outer))) hfr (funFrames hF₁ fun _ h => List.mem_cons_of_mem _ h) hf ((other e (Ne.symm hne)).trans he)
    (hwo_stays fun _ _ _ h => h) (hwo_in List.mem_cons_self) hd (Array.getElem?_eq_some_iff.mp h1).1 fun h' k => h h' ?_
  obtain ⟨oe', oT', vs', ts', T', keep, soft, tr⟩ := noted_of hF₁ k
  refine ⟨oe', oT', vs', ts', T', fun b o hb hb2 ho => keep b o hb (fun q => hb2 (by simp at q; simp [q])) ((other b fun q => hb2 (by simp [q])).trans ho), fun b o hb ho => soft b o hb ((other b fun q => ?_).trans ho), ⟨tr.he, tr.hc, tr.hd, tr.h1, tr.hne, tr.hT, tr.hdT, tr.h3, ?_⟩⟩
  · obtain ⟨o', ho', hd'⟩ := FrAt.mem hF hb
    rw [q, hT] at ho'; cases ho'; exact hd' _ hdT
  · have hTT : T' ≠ T := fun q => by
      obtain ⟨o', ho'⟩ := hself
      have := tr.new
      rw [q, ho'] at this; cases this
    exact (other T' hTT) ▸ tr.new
end

/-! VF2 -/
/-- what a call leaves behind that may have filled in the frames S around it -/
structure Behind (T : Tbl) (S : List Addr) (P : Addr → Obj → Prop) (s s' : Shared) (P' : Addr → Obj → Prop) : Prop where
  rest : s'.gens = s.gens ∧ s'.drawn = s.drawn ∧ s'.os = s.os
  keep : ∀ b o, T.tabs b = none → b ∉ S → s.heap.get? b = some o → s'.heap.get? b = some o
  soft : ∀ b o, b ∈ S → s.heap.get? b = some o → ∃ sl, s'.heap.get? b = some { o with slots := sl }
  sub : ∀ a o, P a o → P' a o
  pers : ∀ a o, P' a o → s'.heap.get? a = some o
  new : ∀ a o, P' a o → P a o ∨ s.heap.get? a = none
  tab : TabOk T P' s'.heap
inductive RaisePost (T : Tbl) (S : List Addr) (cls : String) (G : Ghost) (s : Shared) (r : Result) (s' : Shared) : Prop
  | mk (e : Addr) (P' : Addr → Obj → Prop) (oe oT : Obj) (vs ts : Array Value) (Tb : Addr) (er : r = .error (.ref e)) (be : Behind T S G.P s s' P') (tr : Tra s.heap s'.heap e (.type cls) oe oT vs ts Tb) (new : s.heap.get? e = none) (eP : ∀ o, ¬ P' e o) (TP : ∀ o, ¬ P' Tb o) : RaisePost T S cls G s r s'
/-- the frames that stand around a call -/
structure Outer (T : Tbl) (h : Heap) (P : Addr → Obj → Prop) (outer : List Env) : Prop where
  at_ : ∀ e ∈ outer, FrAt h e
  tabs : ∀ L ∈ locsOf outer, T.tabs L = none
  P : ∀ L ∈ locsOf outer, ∀ o, ¬ P L o
noncomputable def FnRaises (T : Tbl) (d : Nat) (n : Str) (args : List V) (cls : String) : Prop :=
  ∀ a, T.mg n = some (.ref a) → ∀ A s G vals outer, Room A (d + 1) → A.frames = some outer → Outer T s.heap G.P outer → TopF T s.heap → (∀ a o, G.P a o → s.heap.get? a = some o) → (∀ Q q, T.tabs Q = some q → ∀ o, ¬ G.P Q o) → TabOk T G.P s.heap → G.adr = [] → G.lm = T.lm → VRs G vals args →
      codeAny (model T.prog T.w) A (.call (.ref a) ⟨vals, []⟩) (RaisePost T (locsOf outer) cls G s) s

theorem FnRaises.intro {T : Tbl} {d : Nat} {n : Str} {args dargs : List V} {params : Arguments} {scope : Scope} {fd : FuncData} {t : Expr} {x : Str} {np rp ip : Pos} {els rest : List Stmt} {cls N I : String}
    (F : FnIs T n params (.If t [.Raise (some (.Name x np)) none rp] els ip :: rest) scope fd) (ns : List Str)
    (hb : ∀ (s : Shared) (vals : List Value), TopF T s.heap → vals.length = args.length → ∃ dvals, (∀ G : Ghost, VRs G dvals dargs) ∧ BindsTo s fd ⟨vals, []⟩ (ns.zip (vals ++ dvals)))
    (hl : ns.length = args.length + dargs.length) (hk : bindsOk scope ns = true) (hT : T.Plain)
    (ht : Wt ⟨T, d, scope, true⟩ ⟨bindV ns (args ++ dargs), []⟩ t (fun b _ => b = true)) (hc : ExcClass cls N I) (hself : isSubtype (.type cls) (.type cls) = pure true)
    (hg : T.mg x = none) (hbb : bootBuiltins x = some (.type cls)) (hx : scope.names.lookup x = some .globalImplicit) (hn : x ≠ "__name__") (hd : (x == ("__debug__" : Str)) = false) : FnRaises T d n args cls := by
  intro a ha A s G vals outer room hfr hO top pers tabP tab hadr hlm hv
  refine F.enter ns (fun _ => T.lm) (fun _ => T.fact) hb hl hk (fun _ _ _ _ _ => hT _ _) (fun env G vals ds e _ _ r => by rw [← e]; exact r) ha room top pers tabP tab hadr hlm hv fun env s₁ N => ?_
  refine wpAny_execs_cons (wpAny_If (wpAny_mono (ht _ N.ok _ _ N.rep) (fun b s₂ ⟨G₂, σ₂, l₂, R₂, hb⟩ => ?_) fun _ _ e => e.elim))
  subst hb
  have ok := N.ok
  rw [if_pos rfl]
  refine wpAny_execs_cons (Raise_classB ok.handled hc hself (builtin_wp ok R₂ hx hg hbb hn ⟨rfl, rfl⟩ hd) fun h₃ e hx => ?_)
  obtain ⟨oe, t, he, hcls, hde⟩ := hx.there
  have kold : ∀ b o, T.tabs b = none → s.heap.get? b = some o → s₂.heap.get? b = some o := fun b o ht e => R₂.keep b o ⟨ht, e⟩
  have k3 : ∀ b o, T.tabs b = none → s.heap.get? b = some o → h₃.get? b = some o := fun b o ht e => hx.keeps _ _ (kold b o ht e)
  have lnew : ∀ o, s.heap.get? env.locals = some o → False := fun o e => by
    cases q : T.tabs env.locals with
    | none => exact ok.L0 o ⟨q, e⟩
    | some q' => exact (R₂.tabOff _ q' q).L rfl
  have fr : ∀ x ∈ env :: outer, FrAt h₃ x := by
    intro x hm
    rcases List.mem_cons.mp hm with rfl | hm
    · obtain ⟨m, _, ⟨o, es, ep, ho, hd, _⟩, _⟩ := R₂.loc
      exact ⟨(by rw [N.scope, show scope.kind = _ from ok.kind]; decide), _, o, N.frame, hx.keeps _ _ ho, fun vs q => by rw [hd] at q; cases q⟩
    · obtain ⟨hk, L, o, hf, ho, hd⟩ := hO.at_ x hm
      exact ⟨hk, L, o, hf, k3 L o (hO.tabs L (List.mem_filterMap.mpr ⟨x, hm, hf⟩)) ho, hd⟩
  refine leave_first (outer := outer) (L := env.locals) (Around.frames_deeper hfr) fr N.frame he hde rfl fun h' ⟨oe', oT, vs, ts, Tb, keep, soft, tr⟩ => ?_
  have hloc : locsOf (env :: outer) = env.locals :: locsOf outer := by rw [locsOf, List.filterMap_cons, N.frame]
  rw [hloc] at keep soft
  have someNew : ∀ b, h₃.get? b = none ∨ s₂.heap.get? b = none → s.heap.get? b = none := fun b hb => by
    have hb : s₂.heap.get? b = none := by
      rcases hb with hb | hb
      · cases q : s₂.heap.get? b with
        | none => rfl
        | some o => rw [hx.keeps _ _ q] at hb; cases hb
      · exact hb
    cases q : s.heap.get? b with
    | none => rfl
    | some o =>
      cases ht : T.tabs b with
      | none => rw [kold b o ht q] at hb; cases hb
      | some q' =>
        obtain ⟨ps, e1, _⟩ := R₂.tab b q' ht
        rw [e1] at hb; cases hb
  obtain ⟨sg, sd, so⟩ := R₂.same
  refine ⟨e, G₂.P, oe', oT, vs, ts, Tb, rfl, ⟨⟨sg, sd, so⟩, fun b o ht hb e1 => ?_, fun b o hb e1 => ?_, fun b o e1 => R₂.sub b o e1, fun b o e1 => ?_, fun b o e1 => ?_, ?_⟩, ⟨tr.he, tr.hc.trans hcls, tr.hd, tr.h1, tr.hne, tr.hT, tr.hdT, tr.h3, someNew _ (.inl tr.new)⟩, someNew _ (.inr hx.new), fun o w => ?_, fun o w => ?_⟩
  · refine keep b o ?_ ?_ (k3 b o ht e1)
    · rw [List.mem_cons]
      rintro (q | q)
      · exact lnew o (q ▸ e1)
      · exact hb q
    · rw [List.mem_singleton]
      intro q
      rw [q, someNew _ (.inr hx.new)] at e1; cases e1
  · exact soft b o (List.mem_cons_of_mem _ hb) (k3 b o (hO.tabs b hb) e1)
  · refine keep b o ?_ ?_ (hx.keeps _ _ (R₂.pers _ _ e1))
    · rw [List.mem_cons]
      rintro (q | q)
      · exact R₂.notL o (q ▸ e1)
      · obtain ⟨o', ho', _⟩ := FrAt.mem hO.at_ q
        rcases R₂.grow b o e1 with w | w
        · exact hO.P b q o w
        · exact w o' ⟨hO.tabs b q, ho'⟩
    · rw [List.mem_singleton]
      intro q
      have := R₂.pers _ _ e1
      rw [q, hx.new] at this; cases this
  · rcases R₂.grow b o e1 with q | q
    · exact .inl q
    · right
      cases w : s.heap.get? b with
      | none => rfl
      | some o' =>
        cases ht : T.tabs b with
        | none => exact absurd ⟨ht, w⟩ (q o')
        | some q' => exact ((R₂.tabOff b q' ht).P o e1).elim
  · refine R₂.tab.mono (fun _ _ h => h) fun b o q hq e1 => keep b o ?_ ?_ (hx.keeps _ _ e1)
    · rw [List.mem_cons]
      rintro (w | w)
      · exact (R₂.tabOff b q hq).L w
      · have := hO.tabs b w
        rw [show T.tabs b = some q from hq] at this; cases this
    · rw [List.mem_singleton]
      intro w
      rw [w, hx.new] at e1; cases e1
  · have := R₂.pers _ _ w
    rw [hx.new] at this; cases this
  · have := hx.keeps _ _ (R₂.pers _ _ w)
    rw [tr.new] at this; cases this

/-! a block that knows the frames around it, and may be left with them filled in -/
structure Frm (C : Cx) (outer : List Env) (X : Ctx) : Prop where
  frames : X.A.frames = some (X.env :: outer)
  frame : X.env.frame = some X.env.locals
  out : ∀ e ∈ outer, e.scope.kind ≠ .module ∧ ∃ L o, e.frame = some L ∧ X.k₀ L o ∧ (∀ vs, o.data ≠ .fields vs)
  P : ∀ L ∈ locsOf outer, ∀ o, ¬ X.P₀ L o
inductive Out (C : Cx) (S : List Addr) (Ψ : V → Prop) (X : Ctx) (f : Flow) (s' : Shared) : Prop
  | mk (val : Value) (P' : Addr → Obj → Prop) (v : V) (e : f = .ret val) (same : s'.gens = X.g₀.gens ∧ s'.drawn = X.g₀.drawn ∧ s'.os = X.g₀.os) (keep : ∀ a o, X.k₀ a o → a ∉ S → s'.heap.get? a = some o)
      (soft : ∀ a o, X.k₀ a o → a ∈ S → ∃ sl, s'.heap.get? a = some { o with slots := sl }) (sub : ∀ a o, X.P₀ a o → P' a o) (pers : ∀ a o, P' a o → s'.heap.get? a = some o) (grow : ∀ a o, P' a o → X.P₀ a o ∨ ∀ o', ¬ X.k₀ a o')
      (tab : TabOk C.T P' s'.heap) (tabP : ∀ Q q, C.T.tabs Q = some q → ∀ o, ¬ P' Q o) (vr : VR ⟨P', [], C.T.lm⟩ val v) (psi : Ψ v) : Out C S Ψ X f s'
section
variable {C : Cx} {X : Ctx} {G : Ghost} {σ : St} {s : Shared} {outer : List Env}
theorem Frm.objs (F : Frm C outer X) {L : Addr} (h : L ∈ locsOf outer) : ∃ o, X.k₀ L o ∧ ∀ vs, o.data ≠ .fields vs := by
  obtain ⟨e, he, hf⟩ := List.mem_filterMap.mp h
  obtain ⟨_, L', o, hf', ho, hd⟩ := F.out e he
  rw [hf] at hf'; cases hf'
  exact ⟨o, ho, hd⟩
theorem Frm.notP (F : Frm C outer X) (R : Rep C X G σ s) {L : Addr} (h : L ∈ locsOf outer) (o : Obj) : ¬ G.P L o := fun w => by
  obtain ⟨o', ho', _⟩ := F.objs h
  rcases R.grow L o w with q | q
  · exact F.P L h o q
  · exact q o' ho'
theorem Frm.plus {b : Addr} {p : Obj} (R : Rep C X G σ s) (F : Frm C outer X) : Frm C outer (X.plus b p G.P) where
  frames := F.frames
  frame := F.frame
  out := fun e he => let ⟨hk, L, o, hf, ho, hd⟩ := F.out e he; ⟨hk, L, o, hf, .inl ho, hd⟩
  P := fun L h o => F.notP R h o
theorem Out.plus {b : Addr} {p : Obj} {S : List Addr} {Ψ : V → Prop} {f : Flow} {s' : Shared} (R : Rep C X G σ s) (h : Out C S Ψ (X.plus b p G.P) f s') : Out C S Ψ X f s' := by
  obtain ⟨val, P', v, e, same, keep, soft, sub, pers, grow, tab, tabP, vr, psi⟩ := h
  refine ⟨val, P', v, e, same, fun a o h => keep a o (.inl h), fun a o h => soft a o (.inl h), fun a o h => sub a o (R.sub a o h), pers, fun a o h => ?_, tab, tabP, vr, psi⟩
  rcases grow a o h with q | q
  · exact R.grow a o q
  · exact .inr fun o' w => q o' (.inl w)
end
noncomputable def escF (C : Cx) (outer : List Env) (Ψ : V → Prop) : Esc C := ⟨Frm C outer, Out C (locsOf outer) Ψ, fun _ _ _ _ _ _ R F => F.plus R, fun _ _ _ _ _ _ _ _ R h => h.plus R, fun _ _ _ h => let ⟨v, _, _, e, _, _, _, _, _, _, _, _, _, _⟩ := h; ⟨v, e⟩⟩
theorem Rep.outer {C : Cx} {X : Ctx} {G : Ghost} {σ : St} {s : Shared} {outer : List Env} (ok : Ok C X) (F : Frm C outer X) (R : Rep C X G σ s) : Outer C.T s.heap G.P (X.env :: outer) := by
  have hloc : locsOf (X.env :: outer) = X.env.locals :: locsOf outer := by rw [locsOf, List.filterMap_cons, F.frame]
  have noTab : ∀ a, (∀ q, C.T.tabs a = some q → False) → C.T.tabs a = none := fun a h => by
    cases e : C.T.tabs a with
    | none => rfl
    | some q => exact (h q e).elim
  refine ⟨fun e he => ?_, fun L hL => ?_, fun L hL o h => ?_⟩
  · rcases List.mem_cons.mp he with rfl | he
    · obtain ⟨m, _, ⟨o, es, ep, ho, hd, _⟩, _⟩ := R.loc
      exact ⟨(by rw [ok.scope, ok.kind]; decide), _, o, F.frame, ho, fun vs q => by rw [hd] at q; cases q⟩
    · obtain ⟨hk, L, o, hf, ho, hd⟩ := F.out e he
      exact ⟨hk, L, o, hf, R.keep _ _ ho, hd⟩
  · rw [hloc] at hL
    rcases List.mem_cons.mp hL with rfl | hL
    · exact noTab _ fun q hq => (R.tabOff _ q hq).L rfl
    · obtain ⟨o, ho, _⟩ := F.objs hL
      exact noTab _ fun q hq => (R.tabOff _ q hq).k o ho
  · rw [hloc] at hL
    rcases List.mem_cons.mp hL with rfl | hL
    · exact R.notL o h
    · exact F.notP R hL o h
/-- a name space is the same, whatever becomes of its frame -/
theorem Behind.ns {T : Tbl} {S : List Addr} {P P' : Addr → Obj → Prop} {s s' : Shared} (b : Behind T S P s s' P') {a : Addr} {m : Str → Option Value} (ht : T.tabs a = none) (h : s.heap.Ns a m) : s'.heap.Ns a m := by
  obtain ⟨o, es, ep, e, d, k, f⟩ := h
  by_cases hS : a ∈ S
  · obtain ⟨sl, e'⟩ := b.soft a o hS e
    exact ⟨_, es, ep, e', d, k, f⟩
  · exact ⟨o, es, ep, b.keep a o ht hS e, d, k, f⟩
theorem Noted.ns {S ex : List Addr} {e : Addr} {cls : Value} {h h' : Heap} (n : Noted S ex e cls h h') {a : Addr} {m : Str → Option Value} (hx : a ∉ ex) (k : h.Ns a m) : h'.Ns a m := by
  obtain ⟨_, _, _, _, _, keep, soft, _⟩ := n
  obtain ⟨o, es, ep, e1, d, k, f⟩ := k
  by_cases hS : a ∈ S
  · obtain ⟨sl, e'⟩ := soft a o hS e1
    exact ⟨_, es, ep, e', d, k, f⟩
  · exact ⟨o, es, ep, keep a o hS hx e1, d, k, f⟩
inductive RaiseOk (C : Cx) (d : Nat) (f : Str) (cls : String) (r : Str) (Ψ : V → Prop) (vs : List V) (σ₁ : St) : Prop
  | mk (vs' : List V) (σ₂ σ₃ : St) (v v' : V) (h1 : σ₁.purs vs = some (vs', σ₂)) (h2 : FnRaises C.T d f vs' cls) (h3 : σ₂.loc r = some v) (h4 : σ₂.pur v = some (v', σ₃)) (h5 : Ψ v') : RaiseOk C d f cls r Ψ vs σ₁
theorem WsO.tryRaiseG {C : Cx} {σ : St} {outer : List Env} {Ψ : V → Prop} {Φ : Fl → St → Prop} {f exc r : Str} {ts : List Expr} {pf pe pr cp ap rp hp tp : Pos} {e₁ : Expr} {er : List Expr} {d : Nat} {cls : String} (hat : FnAt C.T f)
    (h : Wes C σ (e₁ :: er) (RaiseOk C d f cls r Ψ)) (hd : d + 1 ≤ C.d) (hf : C.sc.names.lookup f = some .globalImplicit) (hfb : (f == ("__debug__" : Str)) = false) (ha : (e₁ :: er).all noStar = true)
    (hx : C.sc.names.lookup exc = some .globalImplicit) (hxg : C.T.mg exc = none) (hxb : bootBuiltins exc = some (.type cls)) (hxn : exc ≠ "__name__") (hxd : (exc == ("__debug__" : Str)) = false)
    (hr : C.sc.names.lookup r = some .local) (hrd : (r == ("__debug__" : Str)) = false)
    (hexc : isSubtype (.type cls) (.type "BaseException") = pure true) (hnt : isSubtype (.type ((Manifest.find? cls).elim "type" fun x => x.metatype)) (.type "tuple") = pure false) (hsub : isSubtype (.type cls) (.type cls) = pure true)
    (hsw : ∀ X, Ok C X → ∀ (Q : Flow → Shared → Prop) (E : Value → Shared → Prop) (s : Shared), wpAny C.M X.A (eval (.Call (.Name f pf) (e₁ :: er) [] cp) X.env) (fun _ _ => False) E s → wpAny C.M X.A (exec (.Assign ts (.Call (.Name f pf) (e₁ :: er) [] cp) ap) X.env) Q E s) :
    WsO C (escF C outer Ψ) σ (.Try [.Assign ts (.Call (.Name f pf) (e₁ :: er) [] cp) ap] [.ExceptHandler (some (.Name exc pe)) none [.Return (some (.Name r pr)) rp] hp] [] [] tp) Φ := fun X ok F G s R => by
  have F : Frm C outer X := F
  obtain ⟨a, fd, oc, od, osl, hg, hK⟩ := hat
  have hloc : locsOf (X.env :: outer) = X.env.locals :: locsOf outer := by rw [locsOf, List.filterMap_cons, F.frame]
  have hkf : X.env.scope.kind = .function := by rw [ok.scope]; exact ok.kind
  refine wpAny_Try_except (wpAny_execs_cons (hsw X ok _ _ _ ?_))
  show wpAny _ _ (eval (.Name f pf) X.env >>= fun fv => callWith cp fv [] (backTo cp (starEach (e₁ :: er) X.env)) []) _ _ s
  refine wpAny_bind (global_wp ok R hf hg ?_ hfb)
  refine callWith_function (o := ⟨oc, od, .func fd, osl⟩) (fd := fd) ?_
  have he : noStar e₁ = true := by simp only [List.all_cons, Bool.and_eq_true] at ha; exact ha.1
  have main := h X ok G s R cp
  rw [starEach_cons he] at main ⊢
  refine evalArgs_plain (wpAny_mono main (fun vals s₁ ⟨G₁, σ₁, vs, l₁, R₁, r₁, vs', σ₂, σ₃, v, v', h1, h2, h3, h4, h5⟩ => ?_) fun _ _ e => e.elim)
  obtain ⟨P₂, R₂, l₂, r₂⟩ := R₁.purs vals r₁ h1
  obtain ⟨m, cm, hm1, hm2, hm3⟩ := R₂.loc
  have hkr : X.env.kindOf r = some .local := by unfold Env.kindOf; rw [ok.scope]; exact hr
  obtain ⟨val, hval, rv⟩ : ∃ val, m r = some val ∧ VR ⟨P₂, G₁.adr, G₁.lm⟩ val v := by
    rcases hm3 r v h3 with ⟨_, val, e, q⟩ | ⟨q, _⟩
    · exact ⟨val, e, q⟩
    · rcases q with q | q <;> rw [hkr] at q <;> cases q
  obtain ⟨P₃, R₃, l₃, r₃⟩ := R₂.pur rv h4
  have hO := R₃.outer ok F
  have top := R₃.top ok
  refine ⟨⟨top.K _ _ hK, rfl⟩, wpAny_call ?_⟩
  have r₂' : VRs ⟨P₃, [], G₁.lm⟩ vals vs' := VRs.mono (G := ⟨P₂, [], G₁.lm⟩) (G' := ⟨P₃, [], G₁.lm⟩) ⟨l₃.P, fun _ _ h => h, rfl⟩ r₂
  refine codeAny_mono (h2 a hg X.A s₁ ⟨P₃, [], G₁.lm⟩ vals (X.env :: outer) (ok.room.le hd) F.frames ⟨hO.at_, hO.tabs, hO.P⟩ top R₃.pers (fun Q q hq => (R₃.tabOff Q q hq).P) R₃.tab rfl R₃.lmT r₂') ?_
  rintro _ s' ⟨e, P', oe, oT, vs, ts, Tb, rfl, be, tr, enew, eP, TP⟩
  rw [hloc] at be
  have old : ∀ b o, s₁.heap.get? b = some o → b ≠ e ∧ b ≠ Tb := fun b o q => ⟨fun w => (by rw [w, enew] at q; cases q), fun w => (by rw [w, tr.new] at q; cases q)⟩
  have F' : ∀ y ∈ X.env :: outer, FrAt s'.heap y := fun y hy => by
    obtain ⟨hk, L, o, hf, ho, hd⟩ := hO.at_ y hy
    obtain ⟨sl, q⟩ := be.soft L o (hloc ▸ List.mem_filterMap.mpr ⟨y, hy, hf⟩) ho
    exact ⟨hk, L, _, hf, q, hd⟩
  dsimp only
  refine note_next F.frames F' F.frame tr.he tr.hd tr.h1 tr.hne tr.hT tr.hdT tr.h3 fun h₂ N => ?_
  have nsK : ∀ {b : Addr} {mm : Str → Option Value}, C.T.tabs b = none → s₁.heap.Ns b mm → h₂.Ns b mm := fun {b mm} ht q => by
    refine N.ns ?_ (be.ns ht q)
    obtain ⟨o, _, _, q1, _⟩ := q
    have := old b o q1
    simp [this.1, this.2]
  obtain ⟨oe₂, oT₂, vs₂, ts₂, T₂, keep₂, soft₂, tr₂⟩ := N
  rw [hloc] at keep₂ soft₂
  refine wpAny_handleBy_builtin hexc hnt hsub ?_
  refine Calls.Name_function_global hkf (by unfold Env.kindOf; rw [ok.scope]; exact hx) (Calls.loadGlobal_builtin ?_ hxg ?_ (top.builtins exc hxn |>.trans hxb) ⟨rfl, ⟨oe₂, tr₂.he, tr₂.hc.trans tr.hc⟩, ?_⟩) hxd
  · rw [ok.globals]; exact nsK top.tabG top.g
  · rw [ok.builtins]; exact nsK top.tabB top.b
  rw [if_pos rfl]
  refine wpAny_setFlight_none tr₂.he tr₂.hd tr₂.h1 tr₂.hT tr₂.hdT (Array.getElem?_eq_some_iff.mp tr₂.h3).1 ?_
  have other : ∀ b, b ≠ T₂ → (h₂.update T₂ (Obj.mapFields (·.setIfInBounds 3 Value.none))).get? b = h₂.get? b := fun b hb => Heap.get?_update_other _ _ (Ne.symm hb)
  have notT₂ : ∀ b o, s'.heap.get? b = some o → b ≠ T₂ := fun b o q w => by rw [w, tr₂.new] at q; cases q
  have tL : C.T.tabs X.env.locals = none := hO.tabs _ (by rw [hloc]; exact List.mem_cons_self)
  have hNs : (h₂.update T₂ (Obj.mapFields (·.setIfInBounds 3 Value.none))).Ns X.env.locals m := by
    have q1 := be.ns tL hm1
    obtain ⟨o, es, ep, q, _⟩ := q1
    exact (nsK tL hm1).at' fun o' q' => (other _ (notT₂ _ o q)).trans q'
  refine wpAny_execs_cons (wpAny_Return_some (wpAny_Name (wpAny_loadName_local hkf hkr hNs hval ?_) hrd))
  have fin : ∀ b o, b ∉ X.env.locals :: locsOf outer → b ≠ e → b ≠ Tb → s'.heap.get? b = some o → (h₂.update T₂ (Obj.mapFields (·.setIfInBounds 3 Value.none))).get? b = some o := fun b o q1 q2 q3 q => (other b (notT₂ b o q)).trans (keep₂ b o q1 (by simp [q2, q3]) q)
  have inS : ∀ b, b ∈ X.env.locals :: locsOf outer → ∃ o, s₁.heap.get? b = some o := fun b q => by
    obtain ⟨o, ho, _⟩ := FrAt.mem hO.at_ (hloc.symm ▸ q)
    exact ⟨o, ho⟩
  have noTab : ∀ b o, X.k₀ b o → C.T.tabs b = none := fun b o q => by
    cases w : C.T.tabs b with
    | none => rfl
    | some q' => exact ((R₃.tabOff _ q' w).k o q).elim
  have notP : ∀ b o, P' b o → b ∉ X.env.locals :: locsOf outer := fun b o q hm => by
    rcases be.new b o q with w | w
    · exact hO.P b (hloc.symm ▸ hm) o w
    · obtain ⟨o', ho'⟩ := inS b hm
      rw [w] at ho'; cases ho'
  refine .inr ⟨val, P', v', rfl, ⟨be.rest.1.trans R₃.same.1, be.rest.2.1.trans R₃.same.2.1, be.rest.2.2.trans R₃.same.2.2⟩, fun b o q hS => ?_, fun b o q hS => ?_, fun b o q => be.sub b o (R₃.sub b o q), fun b o q => ?_, fun b o q => ?_, ?_, fun Q q hq o w => ?_, VR.mono (G := ⟨P₃, [], G₁.lm⟩) (G' := ⟨P', [], C.T.lm⟩) ⟨be.sub, fun _ _ h => h, R₃.lmT⟩ r₃, h5⟩
  · have q1 := R₃.keep b o q
    have hS' : b ∉ X.env.locals :: locsOf outer := by
      rw [List.mem_cons]
      rintro (w | w)
      · exact ok.L0 o (w ▸ q)
      · exact hS w
    exact fin b o hS' (old b o q1).1 (old b o q1).2 (be.keep b o (noTab b o q) hS' q1)
  · have q1 := R₃.keep b o q
    obtain ⟨sl, q2⟩ := be.soft b o (List.mem_cons_of_mem _ hS) q1
    obtain ⟨sl', q3⟩ := soft₂ b _ (List.mem_cons_of_mem _ hS) q2
    exact ⟨sl', (other b (notT₂ b _ q2)).trans q3⟩
  · exact fin b o (notP b o q) (fun w => eP o (w ▸ q)) (fun w => TP o (w ▸ q)) (be.pers b o q)
  · rcases be.new b o q with w | w
    · exact R₃.grow b o w
    · exact .inr fun o' q' => by rw [R₃.keep b o' q'] at w; cases w
  · refine be.tab.mono (fun _ _ h => h) fun b o q hq q1 => ?_
    obtain ⟨ps, q2, _⟩ := R₃.tab b q hq
    refine fin b o (fun hm => ?_) (old b _ q2).1 (old b _ q2).2 q1
    have := hO.tabs b (hloc.symm ▸ hm)
    rw [hq] at this; cases this
  · rcases be.new Q o w with w' | w'
    · exact (R₃.tabOff Q q hq).P o w'
    · obtain ⟨ps, q2, _⟩ := R₃.tab Q q hq
      rw [w'] at q2; cases q2
/-- the target a tuple of names -/
theorem WsO.tryRaiseT {C : Cx} {σ : St} {outer : List Env} {Ψ : V → Prop} {Φ : Fl → St → Prop} {f exc r : Str} {elts : List Expr} {kk : Nat} {tpos pf pe pr cp ap rp hp tp : Pos} {e₁ : Expr} {er : List Expr} {d : Nat} {cls : String} (hat : FnAt C.T f)
    (h : Wes C σ (e₁ :: er) (RaiseOk C d f cls r Ψ)) (hd : d + 1 ≤ C.d) (hf : C.sc.names.lookup f = some .globalImplicit) (hfb : (f == ("__debug__" : Str)) = false) (ha : (e₁ :: er).all noStar = true)
    (hx : C.sc.names.lookup exc = some .globalImplicit) (hxg : C.T.mg exc = none) (hxb : bootBuiltins exc = some (.type cls)) (hxn : exc ≠ "__name__") (hxd : (exc == ("__debug__" : Str)) = false)
    (hr : C.sc.names.lookup r = some .local) (hrd : (r == ("__debug__" : Str)) = false)
    (hexc : isSubtype (.type cls) (.type "BaseException") = pure true) (hnt : isSubtype (.type ((Manifest.find? cls).elim "type" fun x => x.metatype)) (.type "tuple") = pure false) (hsub : isSubtype (.type cls) (.type cls) = pure true)
    (hsw : ∀ env, swapsWithSole [.Tuple elts kk tpos] (.Call (.Name f pf) (e₁ :: er) [] cp) ap.line env = pure false) (hsc : swappedStores [.Tuple elts kk tpos] (.Call (.Name f pf) (e₁ :: er) [] cp) { (default : Env) with scope := C.sc } = pure none) :
    WsO C (escF C outer Ψ) σ (.Try [.Assign [.Tuple elts kk tpos] (.Call (.Name f pf) (e₁ :: er) [] cp) ap] [.ExceptHandler (some (.Name exc pe)) none [.Return (some (.Name r pr)) rp] hp] [] [] tp) Φ :=
  WsO.tryRaiseG hat h hd hf hfb ha hx hxg hxb hxn hxd hr hrd hexc hnt hsub fun X ok _ _ _ w => Assign_Tuple (wpAny_mono w (fun _ _ e => e.elim) fun _ _ e => e) (hsw _) (by
    have : swappedStores [.Tuple elts kk tpos] (.Call (.Name f pf) (e₁ :: er) [] cp) X.env = swappedStores [.Tuple elts kk tpos] (.Call (.Name f pf) (e₁ :: er) [] cp) { (default : Env) with scope := X.env.scope } := rfl
    rw [this, ok.scope]; exact hsc)

/-! VF3 -/
theorem Ws.try {C : Cx} {σ : St} {body : List Stmt} {h₀ : ExceptHandler} {hs : List ExceptHandler} {pos : Pos} {Φ : Fl → St → Prop} (h : Wx C σ body Φ) : Ws C σ (.Try body (h₀ :: hs) [] [] pos) Φ := fun X ok G s R =>
  wpAny_Try_except (wpAny_mono (h X ok G s R) (fun f s₁ p => by
    cases f with
    | next => exact wpAny_execs_nil p
    | _ => exact p) fun _ _ e => e.elim)

/-- a def of the text that may fill in the frames around it -/
inductive CallPostF (T : Tbl) (S : List Addr) (G : Ghost) (s : Shared) (Ψ : V → Prop) (r : Result) (s' : Shared) : Prop
  | mk (val : Value) (P' : Addr → Obj → Prop) (v : V) (e : r = .ok (.ret val)) (be : Behind T S G.P s s' P') (vr : VR ⟨P', [], T.lm⟩ val v) (psi : Ψ v) : CallPostF T S G s Ψ r s'
noncomputable def FnOkAt (outer : List Env) (T : Tbl) (d : Nat) (n : Str) (args : List V) (Ψ : V → Prop) : Prop :=
  ∀ a, T.mg n = some (.ref a) → ∀ A s G vals, Room A (d + 1) → A.frames = some outer → Outer T s.heap G.P outer → TopF T s.heap → (∀ a o, G.P a o → s.heap.get? a = some o) → (∀ Q q, T.tabs Q = some q → ∀ o, ¬ G.P Q o) → TabOk T G.P s.heap → G.adr = [] → G.lm = T.lm → VRs G vals args →
      codeAny (model T.prog T.w) A (.call (.ref a) ⟨vals, []⟩) (CallPostF T (locsOf outer) G s Ψ) s
noncomputable def FnOkF (T : Tbl) (d : Nat) (n : Str) (args : List V) (Ψ : V → Prop) : Prop := ∀ outer, FnOkAt outer T d n args Ψ
theorem FnOkAt.intro {outer : List Env} {T : Tbl} {d : Nat} {n : Str} {args dargs : List V} {Ψ : V → Prop} {params : Arguments} {body : List Stmt} {scope : Scope} {fd : FuncData} (F : FnIs T n params body scope fd) (ns : List Str)
    (hb : ∀ (s : Shared) (vals : List Value), TopF T s.heap → vals.length = args.length → ∃ dvals, (∀ G : Ghost, VRs G dvals dargs) ∧ BindsTo s fd ⟨vals, []⟩ (ns.zip (vals ++ dvals)))
    (hl : ns.length = args.length + dargs.length) (hk : bindsOk scope ns = true) (hT : T.Plain)
    (h : WxO ⟨T, d, scope, true⟩ (escF ⟨T, d, scope, true⟩ outer Ψ) ⟨bindV ns (args ++ dargs), []⟩ body (Ret Ψ)) : FnOkAt outer T d n args Ψ := by
  intro a ha A s G vals room hfr hO top pers tabP tab hadr hlm hv
  refine F.enter ns (fun _ => T.lm) (fun _ => T.fact) hb hl hk (fun _ _ _ _ _ => hT _ _) (fun env G vals ds e _ _ r => by rw [← e]; exact r) ha room top pers tabP tab hadr hlm hv fun env s₁ N => ?_
  have ok := N.ok
  refine wpAny_mono (h _ ok ⟨Around.frames_deeper hfr, N.frame, fun e he => ?_, fun L hL o => hO.P L hL o⟩ _ _ N.rep) (fun f s' hq => ?_) fun _ _ e => e.elim
  · obtain ⟨hk, L, o, hf, ho, hd⟩ := hO.at_ e he
    exact ⟨hk, L, o, hf, ⟨hO.tabs L (List.mem_filterMap.mpr ⟨e, he, hf⟩), ho⟩, hd⟩
  rcases hq with ⟨G', σ', f', le, R', fr, v', σ'', hp, hΨ⟩ | ⟨val, P', v, rfl, same, keep, soft, sub, pers', grow, tab', tabP', vr, psi⟩
  · have rv := fr.val
    obtain ⟨P₂, R₂, l₂, r₂⟩ := R'.pur rv hp
    refine ⟨valOf f, P₂, v', rfl, ⟨R₂.same, fun b o ht _ e => R₂.keep b o ⟨ht, e⟩, fun b o hb e => ⟨o.slots, R₂.keep b o ⟨hO.tabs b hb, e⟩⟩, fun b o e => R₂.sub b o e, R₂.pers, fun b o e => ?_, R₂.tab⟩, ?_, hΨ⟩
    · rcases R₂.grow b o e with q | q
      · exact .inl q
      · right
        cases w : s.heap.get? b with
        | none => rfl
        | some o' =>
          cases ht : T.tabs b with
          | none => exact absurd ⟨ht, w⟩ (q o')
          | some q' => exact ((R₂.tabOff b q' ht).P o e).elim
    · have e1 : G'.lm = T.lm := le.lm.symm
      exact e1 ▸ r₂
  · refine ⟨val, P', v, rfl, ⟨same, fun b o ht hb e => keep b o ⟨ht, e⟩ hb, fun b o hb e => soft b o ⟨hO.tabs b hb, e⟩ hb, sub, pers', fun b o e => ?_, tab'⟩, vr, psi⟩
    rcases grow b o e with q | q
    · exact .inl q
    · right
      cases w : s.heap.get? b with
      | none => rfl
      | some o' =>
        cases ht : T.tabs b with
        | none => exact absurd ⟨ht, w⟩ (q o')
        | some q' => exact (tabP' b q' ht o e).elim

/-- an expression in a block that knows the frames around -/
noncomputable def WeO (C : Cx) (K : Esc C) (σ : St) (e : Expr) (Φ : V → St → Prop) : Prop :=
  ∀ X, Ok C X → K.Fr X → ∀ G s, Rep C X G σ s → wpAny C.M X.A (eval e X.env) (Post C X G Φ) Bad s
inductive CallOkF (T : Tbl) (d : Nat) (f : Str) (Φ : V → St → Prop) (vs : List V) (σ₁ : St) : Prop
  | mk (vs' : List V) (σ₂ : St) (Ψ : V → Prop) (h1 : σ₁.purs vs = some (vs', σ₂)) (h2 : FnOkF T d f vs' Ψ) (h3 : ∀ r, Ψ r → Φ r σ₂) : CallOkF T d f Φ vs σ₁
section
variable {C : Cx} {σ : St}
theorem WeO.call {Φ : V → St → Prop} {pos : Pos} {f : Str} {pf : Pos} {e₁ : Expr} {er : List Expr} {d : Nat} {Ψ₀ : V → Prop} (hat : FnAt C.T f)
    (h : Wes C σ (e₁ :: er) (CallOkF C.T d f Φ)) (hd : d + 1 ≤ C.d) (hf : C.sc.names.lookup f = some .globalImplicit) (hb : (f == ("__debug__" : Str)) = false) (ha : (e₁ :: er).all noStar = true) :
    WeO C (escF C [] Ψ₀) σ (.Call (.Name f pf) (e₁ :: er) [] pos) Φ := fun X ok F G s R => by
  have F : Frm C [] X := F
  obtain ⟨a, fd, oc, od, osl, hg, hK⟩ := hat
  have hloc : locsOf [X.env] = [X.env.locals] := by rw [locsOf, List.filterMap_cons, F.frame]; rfl
  show wpAny _ _ (eval (.Name f pf) X.env >>= fun fv => callWith pos fv [] (backTo pos (starEach (e₁ :: er) X.env)) []) _ _ s
  refine wpAny_bind (global_wp ok R hf hg ?_ hb)
  refine callWith_function (o := ⟨oc, od, .func fd, osl⟩) (fd := fd) ?_
  have he : noStar e₁ = true := by simp only [List.all_cons, Bool.and_eq_true] at ha; exact ha.1
  have main := h X ok G s R pos
  rw [starEach_cons he] at main ⊢
  refine evalArgs_plain (wpAny_mono main (fun vals s₁ ⟨G₁, σ₁, vs, l₁, R₁, r₁, vs', σ₂, Ψ, h1, h2, h3⟩ => ?_) fun _ _ e => e.elim)
  obtain ⟨P₂, R₂, l₂, r₂⟩ := R₁.purs vals r₁ h1
  have hO := R₂.outer ok F
  have top := R₂.top ok
  refine ⟨⟨top.K _ _ hK, rfl⟩, wpAny_call ?_⟩
  refine codeAny_mono (h2 [X.env] a hg X.A s₁ ⟨P₂, [], G₁.lm⟩ vals (ok.room.le hd) F.frames ⟨hO.at_, hO.tabs, hO.P⟩ top R₂.pers (fun Q q hq => (R₂.tabOff Q q hq).P) R₂.tab rfl R₁.lmT r₂) ?_
  rintro _ s' ⟨val, P', v, rfl, be, hv, hΨ⟩
  rw [hloc] at be
  have tL : C.T.tabs X.env.locals = none := hO.tabs _ (by rw [hloc]; exact List.mem_cons_self)
  obtain ⟨R₃, l₃⟩ := R₂.extendS (h' := s'.heap) (tk := s'.toks) (ex := fun _ => False) (sf := fun a => a = X.env.locals) (fun _ h => h.elim) (fun a e => ⟨e, fun o q => ok.L0 o (e ▸ q), fun n c hc w => ok.cL n c hc (w.trans e)⟩) (fun m q => be.ns tL q)
    (fun b o ht _ hne e => be.keep b o ht (by simpa using hne) e) be.sub be.pers (fun b o q => (be.new b o q).elim .inl fun w => .inr (.inl w)) be.tab
  have R₄ : Rep C X ⟨P', G₁.adr, G₁.lm⟩ σ₂ s' := R₃.congr rfl ⟨be.rest.1.trans R₂.same.1, be.rest.2.1.trans R₂.same.2.1, be.rest.2.2.trans R₂.same.2.2⟩
  exact ⟨_, σ₂, v, (l₁.trans l₂).trans l₃, R₄, VR.mono (G := ⟨P', [], C.T.lm⟩) (G' := ⟨P', G₁.adr, G₁.lm⟩) ⟨fun _ _ h => h, fun k a h => by simp at h, R₁.lmT.symm⟩ hv, h3 v hΨ⟩
variable {K : Esc C} {Φ : Fl → St → Prop} {pos : Pos}
theorem WsO.assign {x : Str} {px : Pos} {e : Expr} (h : WeO C K σ e fun v σ₁ => Φ .next (σ₁.set x v)) (hk : kindOk C x = true := by rfl)
    (hsw : ∀ env, swapsWith e (some (.Name x px)) pos.line env = pure false := by intro _; rfl) : WsO C K σ (.Assign [.Name x px] e pos) Φ := fun X ok F G s R =>
  wpAny_Assign_Name (wpAny_mono (h X ok F G s R) (fun _ s₁ ⟨G₁, σ₁, v, l₁, R₁, r₁, h₁⟩ => store_wp ok R₁ r₁ hk fun s' R' => .inl ⟨G₁, _, Fl.next, l₁, R', .next, h₁⟩) fun _ _ e => e) (hsw _)
end

/-! VZ3 -/
/-- the end: law hands back True -/
theorem head_closeF {prog p : Program} {w : World} {loose : List Str} {mean : ExcName → Option Value} {mg mb : Str → Option Value} {K : Params → Frag} {ts : List (Addr × Addr × Str)} {lm : Nat → FuncData → Prop} {c : ClaimW} {cl : Str → Option Addr} {mean' : ExcName → Option Value} {args : List WData}
    {s₁ : Shared} {fa l : Addr} {vs : List Value} {ns : List Int} {d : Nat} (T : Top p loose mean mg mb s₁.heap) (KX : (K w.params).In s₁.heap)
    (KT : ∀ P ∈ (ts.map fun x => (x.2.1, x.2.2)).map (·.1), s₁.heap.get? P = some (tabObj #[])) (hK : ∀ P ∈ (ts.map fun x => (x.2.1, x.2.2)).map (·.1), (K w.params).lookup P = none)
    (hC : ∀ x ∈ ts, CodeHd s₁.heap x.1 x.2.1)
    (law : Tops (topTbl prog w K mg mb (ts.map fun x => (x.2.1, x.2.2)) lm) K → FnOkAt [] (topTbl prog w K mg mb (ts.map fun x => (x.2.1, x.2.2)) lm) d "law" [.list (ns.map .int)] (fun v => v = .bool true))
    (hd : d ≤ 500) (hmg : mg "law" = some (.ref fa)) (hl : s₁.heap.get? l = some { cls := .type "list", data := .seq vs.toArray }) (hI : IntsAre vs ns) (hg : s₁.gens = #[])
    (hr : ∀ cls, c.raises args cls = false) (hp : c.post args (.bool true) args = true) :
    wpAny (model prog w) callerA (PySem.call (.ref fa) [.ref l]) (fun v s' => GoodWG c cl mean' args s₁ (.ok (.ret v)) s') (fun e s' => GoodWG c cl mean' args s₁ (.error e) s') s₁ := by
  refine enter_call ?_
  have hT := topTbl_tops (prog := prog) (ts := ts.map fun x => (x.2.1, x.2.2)) (lm := lm) T KX
  have htop := topTbl_top (prog := prog) (lm := lm) T KX KT hK
  have hlt : tabsOf (ts.map fun x => (x.2.1, x.2.2)) l = none := tab_no KT hl fun q => by have := congrArg Obj.cls q; cases this
  have room : Room callerA (d + 1) := ⟨rfl, by show 1 + claimMargin + (d + 1) < recursionLimit; unfold claimMargin recursionLimit; omega, by show 4 + 8 * (d + 1) + 200 < cLine; unfold cLine; omega⟩
  refine codeAny_mono (law hT fa hmg callerA s₁ ⟨fun a o => s₁.heap.get? a = some o ∧ tabsOf (ts.map fun x => (x.2.1, x.2.2)) a = none, [], lm⟩ [.ref l] room rfl ⟨by intro e h; simp at h, by intro L h; simp [locsOf] at h, by intro L h; simp [locsOf] at h⟩ htop (fun _ _ e => e.1) (fun Q q e o hq => by have e2 := hq.2; rw [show tabsOf (ts.map fun x => (x.2.1, x.2.2)) Q = some q from e] at e2; cases e2)
    (topTbl_tab KT) rfl rfl (.cons (.list ⟨hl, hlt⟩ ⟨rfl, rfl, rfl⟩ rfl (by simpa using vrs_ints hI)) .nil)) ?_
  rintro r s' ⟨val, P', v, rfl, ⟨⟨sg, sd, so⟩, keep0, _, p1, p2, p3, tab⟩, rv, rfl⟩
  have keep := fun b o h1 h2 => keep0 b o h1 (by simp [locsOf]) h2
  cases rv
  refine ⟨.inl ⟨_, .bool true, [], rfl, hr, .bool _, hp, fun _ => ⟨List.nodup_nil, fun a ha => by cases ha⟩⟩, ⟨fun b o e => ?_, fun b o e => ?_⟩, so, .of_eq (sg.trans hg)⟩
  · cases q : tabsOf (ts.map fun x => (x.2.1, x.2.2)) b with
    | none => exact .inl (keep b o q e)
    | some s =>
      have hm := tabsOf_mem q
      have e0 := KT b hm
      rw [e] at e0
      obtain rfl := Option.some.inj e0
      obtain ⟨ps, g1, _⟩ := tab b s q
      obtain ⟨y, hy, hy2⟩ := List.mem_map.mp hm
      obtain ⟨x, hx, rfl⟩ := List.mem_map.mp hy
      have hc := hC x hx
      dsimp only at hy2
      rw [hy2] at hc
      exact .inr (.inl ⟨(hc.tab e).isCodeTable, rfl, #[], ps, rfl, by rw [Array.empty_append]; exact g1⟩)
  · cases q : tabsOf (ts.map fun x => (x.2.1, x.2.2)) b with
    | none => exact ⟨o, keep b o q e⟩
    | some s =>
      obtain ⟨ps, g1, _⟩ := tab b s q
      exact ⟨_, g1⟩

/-! Y1 -/
/-! bisect -/
noncomputable def bisR (f : Nat → Int) (x : Int) (lo hi : Nat) : Nat := if h : lo < hi then (if x < f ((lo + hi) / 2) then bisR f x lo ((lo + hi) / 2) else bisR f x ((lo + hi) / 2 + 1) hi) else lo
termination_by hi - lo
noncomputable def bisL (f : Nat → Int) (x : Int) (lo hi : Nat) : Nat := if h : lo < hi then (if f ((lo + hi) / 2) < x then bisL f x ((lo + hi) / 2 + 1) hi else bisL f x lo ((lo + hi) / 2)) else lo
termination_by hi - lo

theorem bind_bis {T : Tbl} {K : Params → Frag} (hT : Tops T K) {s : Shared} {fd : FuncData} {args : Args} {binds : List (Str × Value)} {k : Option (Array Value) → Sem (List (Str × Value))} (top : TopF T s.heap) {D D2 : Addr} {t u : Tok} {n n2 : Nat} {h0 : Int}
    (hd : fd.defaults = .ref D) (hk : fd.kwdefaults = .ref D2) (hD : (K T.w.params).lookup D = some { cls := .type "tuple", data := .seq #[Value.int 0 t, Value.none] n }) (hD2 : (K T.w.params).lookup D2 = some { cls := .type "dict", data := .dict #[{ hash := h0, key := .str "key" u, val := .none }] n2 })
    (h₁ : bindArgs fd args = seqItems? fd.defaults >>= k)
    (h₂ : ∀ (M : Model) (A : Around) (E : Value → Shared → Prop) (Q : List (Str × Value) → Shared → Prop), (∀ Q' : Option Value → Shared → Prop, Q' (some .none) s → wpAny M A (nsGet D2 "key") Q' E s) → Q binds s → wpAny M A (k (some #[Value.int 0 t, Value.none])) Q E s) : BindsTo s fd args binds := fun M A E Q hq => by
  rw [h₁, hd]
  have hn : s.heap.Ns D2 (nsFind #[{ hash := h0, key := .str "key" u, val := .none }]) := ⟨_, _, _, top.K _ _ (by rw [hT.frag]; exact hD2), rfl, by intro e he; simp at he; subst he; exact ⟨_, _, rfl⟩, fun _ => rfl⟩
  refine wpAny_bind (wpAny_seqItems (top.K D _ (by rw [hT.frag]; exact hD)) rfl ?_)
  refine h₂ M A E Q (fun Q' hq' => wpAny_nsGet hn ?_) hq
  have e : nsFind #[{ hash := h0, key := .str "key" u, val := .none }] "key" = some .none := by rfl
  rw [e]; exact hq'

theorem getD_int {ns : List Int} {i : Nat} (h : i < ns.length) : (ns.map V.int)[i]? = some (.int (ns.getD i 0)) := by
  simp [List.getD_eq_getElem?_getD, h]
theorem mid_cast (lo hi : Nat) : ((lo : Int) + (hi : Int)) / 2 = (((lo + hi) / 2 : Nat) : Int) := by omega
noncomputable def bisInv (ns : List Int) (x : Int) (r : Nat) (F : Nat → Nat → Nat) (n : Nat) (σ : St) : Prop := ∃ lo hi : Nat, n = hi - lo ∧ hi ≤ ns.length ∧ F lo hi = r ∧ σ.loc "a" = some (.list (ns.map .int)) ∧ σ.loc "x" = some (.int x) ∧ σ.loc "lo" = some (.int lo) ∧ σ.loc "hi" = some (.int hi)
theorem lt4096 {n : Nat} (h : n < 2 ^ 64) : n < 2 ^ 4096 := Nat.lt_of_lt_of_le h (Nat.pow_le_pow_right (n := 2) (by decide) (by decide : 64 ≤ 4096))
theorem no_len {T : Tbl} (hT : Tops T hd.heap_39) : T.mg "len" = none := Tops.no hT _ (by kernel_rfl)
theorem no_sum {T : Tbl} (hT : Tops T hd.heap_39) : T.mg "sum" = none := Tops.no hT _ (by kernel_rfl)
theorem no_range {T : Tbl} (hT : Tops T hd.heap_39) : T.mg "range" = none := Tops.no hT _ (by kernel_rfl)
theorem no_abs {T : Tbl} (hT : Tops T hd.heap_39) : T.mg "abs" = none := Tops.no hT _ (by kernel_rfl)
theorem no_int {T : Tbl} (hT : Tops T hd.heap_39) : T.mg "int" = none := Tops.no hT _ (by kernel_rfl)
theorem no_max {T : Tbl} (hT : Tops T hd.heap_39) : T.mg "max" = none := Tops.no hT _ (by kernel_rfl)
theorem no_min {T : Tbl} (hT : Tops T hd.heap_39) : T.mg "min" = none := Tops.no hT _ (by kernel_rfl)
theorem no_divmod {T : Tbl} (hT : Tops T hd.heap_39) : T.mg "divmod" = none := Tops.no hT _ (by kernel_rfl)
theorem no_bytes {T : Tbl} (hT : Tops T hd.heap_39) : T.mg "bytes" = none := Tops.no hT _ (by kernel_rfl)
theorem no_isinstance {T : Tbl} (hT : Tops T hd.heap_39) : T.mg "isinstance" = none := Tops.no hT _ (by kernel_rfl)
local macro_rules | `(tactic| walk_at "v") => `(tactic| first
  | ((with_reducible show AfterO _ _ _ _ _ _); show WxO _ _ _ _ _)
  | ((with_reducible show WxO _ _ _ (.Assign [.Name _ _] _ _ :: _) _); refine WxO.one ?_)
  | ((with_reducible show WxO _ _ _ (.Expr _ _ :: _) _); refine WxO.one ?_)
  | ((with_reducible show WxO _ _ _ (.Return _ _ :: _) _); refine WxO.one ?_)
  | ((with_reducible show WxO _ _ _ [] _); refine WxO.nil ?_)
  | ((with_reducible show Wx _ _ (_ :: _) _); refine Wx.cons ?_)
  | ((with_reducible show Wx _ _ [] _); refine Wx.nil ?_)
  | ((with_reducible show Ws _ _ (.Assign [.Name _ _] (.ListComp _ _ _ _) _) _); refine Ws.assignComp (Tops.plain (by assumption)) ?_)
  | ((with_reducible show Ws _ _ (.Assign [.Name _ _] _ _) _); refine Ws.assign ?_)
  | ((with_reducible show Ws _ _ (.If _ _ _ _) _); refine Ws.if ?_)
  | ((with_reducible show Ws _ _ (.Return (some _) _) _); refine Ws.ret ?_)
  | ((with_reducible show Ws _ _ (.Return none _) _); refine Ws.ret0 ?_)
  | ((with_reducible show Ws _ _ (.Expr _ _) _); refine Ws.expr ?_)
  | ((with_reducible show Ws _ _ (.Assign [.Subscript _ _ _] _ _) _); refine Ws.setItem ?_)
  | ((with_reducible show Ws _ _ (.Pass _) _); refine Ws.pass ?_)
  | ((with_reducible show We _ _ (.Name _ _) _); refine We.name (by first | rfl | assumption) ?_)
  | ((with_reducible show We _ _ (.Constant (.int _) _ _) _); refine We.int ?_)
  | ((with_reducible show We _ _ (.BinOp _ _ _ _) _); refine We.bin ?_)
  | ((with_reducible show We _ _ (.Compare _ [_] [_] _) _); refine We.cmp ?_)
  | ((with_reducible show We _ _ (.Subscript _ (.Slice _ _ _ _) _) _); refine We.slice ?_)
  | ((with_reducible show We _ _ (.Subscript _ _ _) _); refine We.sub ?_)
  | ((with_reducible show We _ _ (.Call (.Name "isinstance" _) [_, .Name "bytes" _] [] _) _); refine We.isBytes ?_ (by first | exact no_isinstance (by assumption) | exact NoB.no (by assumption) _ (by rfl)) (by first | exact no_bytes (by assumption) | exact NoB.no (by assumption) _ (by rfl)))
  | ((with_reducible show We _ _ (.Call (.Name "len" _) (_ :: _) [] _) _); refine We.bi (by first | exact no_len (by assumption) | exact NoB.no (by assumption) _ (by rfl)) bb_len ?_)
  | ((with_reducible show We _ _ (.Call (.Name "sum" _) (_ :: _) [] _) _); refine We.bi (by first | exact no_sum (by assumption) | exact NoB.no (by assumption) _ (by rfl)) bb_sum ?_)
  | ((with_reducible show We _ _ (.Call (.Name "range" _) (_ :: _) [] _) _); refine We.bi (by first | exact no_range (by assumption) | exact NoB.no (by assumption) _ (by rfl)) bb_range ?_)
  | ((with_reducible show We _ _ (.Call (.Name "abs" _) (_ :: _) [] _) _); refine We.bi (by first | exact no_abs (by assumption) | exact NoB.no (by assumption) _ (by rfl)) bb_abs ?_)
  | ((with_reducible show We _ _ (.Call (.Name "int" _) (_ :: _) [] _) _); refine We.bi (by first | exact no_int (by assumption) | exact NoB.no (by assumption) _ (by rfl)) bb_int ?_)
  | ((with_reducible show We _ _ (.Call (.Name "max" _) (_ :: _) [] _) _); refine We.bi (by first | exact no_max (by assumption) | exact NoB.no (by assumption) _ (by rfl)) bb_max ?_)
  | ((with_reducible show We _ _ (.Call (.Name "min" _) (_ :: _) [] _) _); refine We.bi (by first | exact no_min (by assumption) | exact NoB.no (by assumption) _ (by rfl)) bb_min ?_)
  | ((with_reducible show We _ _ (.Call (.Name "divmod" _) (_ :: _) [] _) _); refine We.bi (by first | exact no_divmod (by assumption) | exact NoB.no (by assumption) _ (by rfl)) bb_divmod ?_)
  | ((with_reducible show We _ _ (.Call (.Name "bytes" _) (_ :: _) [] _) _); refine We.bi (by first | exact no_bytes (by assumption) | exact NoB.no (by assumption) _ (by rfl)) bb_bytes ?_)
  | ((with_reducible show We _ _ (.UnaryOp _ _ _) _); refine We.un ?_)
  | ((with_reducible show We _ _ (.Constant .none _ _) _); refine We.none ?_)
  | ((with_reducible show We _ _ (.Constant (.bool _) _ _) _); refine We.bool ?_)
  | ((with_reducible show We _ _ (.Constant (.bytes _) _ _) _); refine We.bytes ?_)
  | ((with_reducible show We _ _ (.Tuple _ _ _) _); refine We.tuple ?_)
  | ((with_reducible show We _ _ (.List _ _) _); refine We.list ?_)
  | ((with_reducible show We _ _ (.IfExp _ _ _ _) _); refine We.ifexp ?_)
  | ((with_reducible show We _ _ (.ListComp _ _ _ _) _); refine We.comp (Tops.plain (by assumption)) ?_)
  | ((with_reducible show We _ _ (.Call (.Attribute _ _ _) _ _ _) _); refine We.meth ?_)
  | ((with_reducible show Wt _ _ (.Compare _ _ _ _) _); refine Wt.cmp ?_)
  | ((with_reducible show Wt _ _ (.UnaryOp .Not _ _) _); refine Wt.not ?_)
  | ((with_reducible show Wt _ _ (.BoolOp _ _ _) _); refine Wt.all ?_)
  | ((with_reducible show Wt _ _ _ _); refine Wt.plain ?_)
  | ((with_reducible show Wal _ .And _ (_ :: _) _); refine Wal.and ?_)
  | ((with_reducible show Wal _ .Or _ (_ :: _) _); refine Wal.or ?_)
  | ((with_reducible show Wal _ .And _ [] _); refine Wal.and_nil ?_)
  | ((with_reducible show Wal _ .Or _ [] _); refine Wal.or_nil ?_)
  | ((with_reducible show Wes _ _ (_ :: _) _); refine Wes.cons ?_)
  | ((with_reducible show Wes _ _ [] _); refine Wes.nil ?_)
  | ((with_reducible show Cm _ _ .Is _ .none _); refine Cm.isNone ?_)
  | ((with_reducible show Cm _ _ .Lt (.int _) (.int _) _); refine Cm.lt ?_)
  | ((with_reducible show Cm _ _ .LtE (.int _) (.int _) _); refine Cm.le ?_)
  | ((with_reducible show Cm _ _ .Gt (.int _) (.int _) _); refine Cm.gt ?_)
  | ((with_reducible show Cm _ _ .GtE (.int _) (.int _) _); refine Cm.ge ?_)
  | ((with_reducible show Cm _ _ .Eq (.int _) (.int _) _); refine Cm.eq ?_)
  | ((with_reducible show Tr _ _ (.bool _) _); refine Tr.bool ?_)
  | ((with_reducible show Tr _ _ (.int _) _); refine Tr.int ?_)
  | ((with_reducible show Tr _ _ .none _); refine Tr.none ?_)
  | ((with_reducible show Bi _ _ .Add (.int _) (.int _) _); refine Bi.add ?_)
  | ((with_reducible show Bi _ _ .Sub (.int _) (.int _) _); refine Bi.sub ?_)
  | ((with_reducible show Un _ _ .USub (.int _) _); refine Un.neg ?_)
  | ((with_reducible show Un _ _ .Invert (.int _) _); refine Un.inv ?_)
  | ((with_reducible show Wo _ _ none _); refine Wo.none ?_)
  | ((with_reducible show Wo _ _ (some _) _); refine Wo.some ?_)
  | ((with_reducible show AsInt _ _ _); refine ⟨_, rfl, ?_⟩)
  | ((with_reducible show _ ≤ _ ∧ _); refine And.intro (by first | exact Nat.le_of_ble_eq_true rfl | rfl) ?_)
  | ((with_reducible show @Eq V _ _ ∧ _); refine And.intro (by rfl) ?_)
  | ((with_reducible show @Eq Bool _ _ ∧ _); refine And.intro (by rfl) ?_)
  | ((with_reducible show @Eq St _ _ ∧ _); refine And.intro (by rfl) ?_)
  | ((with_reducible show @Eq (Str → Option V) _ _ ∧ _); refine And.intro (by rfl) ?_)
  | ((with_reducible show After _ _ _ _ _); show Wx _ _ _ _)
  | ((with_reducible show ite ((false : Bool) = true) _ (Wal _ _ _ _ _)); show Wal _ _ _ _ _)
  | ((with_reducible show ite ((!true) = true) _ (Wal _ _ _ _ _)); show Wal _ _ _ _ _)
  | ((with_reducible show ite _ _ _); show Wx _ _ _ _))
local macro_rules | `(tactic| walk_at "bind") => `(tactic| (refine' bind_bis (by assumption) (by assumption) rfl rfl (by rfl) (by rfl) ?a ?b; (case a => exact rfl); (case b => intro M A E Q hn hq; repeat (first | exact hq | refine wpAny_pure ?_ | refine hn _ ?_ | refine wpAny_bind ?_))))

/-! VD -/
/-! digits -/
theorem or_low (x s : Nat) : x ||| (x / 2 ^ s * 2 ^ s) = x := by
  apply Nat.eq_of_testBit_eq
  intro i
  rw [Nat.testBit_or, Nat.testBit_mul_two_pow]
  by_cases h : s ≤ i
  · rw [Nat.testBit_div_two_pow, Nat.sub_add_cancel h]; simp
  · simp [h]
theorem and_low (x s : Nat) : x &&& (x / 2 ^ s * 2 ^ s) = x / 2 ^ s * 2 ^ s := by
  apply Nat.eq_of_testBit_eq
  intro i
  rw [Nat.testBit_and, Nat.testBit_mul_two_pow]
  by_cases h : s ≤ i
  · rw [Nat.testBit_div_two_pow, Nat.sub_add_cancel h]; simp [h]
  · simp [h]
/-- the value of digits L to R to the base 2 ^ n -/
noncomputable def digVal (f : Nat → Nat) (n L : Nat) : Nat → Nat
  | 0 => 0
  | c + 1 => digVal f n L c + f (L + c) * 2 ^ (n * c)
theorem digVal_add (f : Nat → Nat) (n L a : Nat) : ∀ b, digVal f n L (a + b) = digVal f n L a + digVal f n (L + a) b * 2 ^ (n * a)
  | 0 => by simp [digVal]
  | b + 1 => by
    rw [← Nat.add_assoc, digVal, digVal_add f n L a b, digVal, Nat.mul_add, Nat.pow_add, Nat.add_mul, Nat.add_assoc]
    congr 1
    rw [Nat.add_assoc, Nat.mul_assoc, Nat.mul_comm (2 ^ (n * b))]
theorem digit_div (x n s j : Nat) : x / 2 ^ (n * s) / 2 ^ (n * j) = x / 2 ^ (n * (s + j)) := by
  rw [Nat.div_div_eq_div_mul, ← Nat.pow_add, ← Nat.mul_add]
theorem digit_low (x n s j : Nat) (h : j < s) : x % 2 ^ (n * s) / 2 ^ (n * j) % 2 ^ n = x / 2 ^ (n * j) % 2 ^ n := by
  have e : n * s = n * j + n * (s - j) := by rw [← Nat.mul_add]; congr 1; omega
  rw [e, Nat.pow_add, Nat.mod_mul_right_div_self]
  have e2 : n * (s - j) = n + n * (s - j - 1) := by
    have : s - j = 1 + (s - j - 1) := by omega
    rw [this, Nat.mul_add, Nat.mul_one]; congr 2; omega
  rw [e2, Nat.pow_add, Nat.mod_mul_right_mod]
/-- the digits of a number put side by side make it -/
theorem digVal_digits (x n : Nat) : ∀ c, digVal (fun i => x / 2 ^ (n * i) % 2 ^ n) n 0 c = x % 2 ^ (n * c)
  | 0 => by simp [digVal, Nat.mod_one]
  | c + 1 => by
    rw [digVal, digVal_digits x n c, Nat.zero_add, Nat.mul_add, Nat.mul_one, Nat.pow_add, Nat.mod_mul, Nat.mul_comm (2 ^ (n * c))]
theorem xor_int_low (x s : Nat) : Builtin.bitXor (x : Int) (((x / 2 ^ s * 2 ^ s : Nat) : Int)) = ((x % 2 ^ s : Nat) : Int) := by
  have h1 := or_low x s
  have h2 := and_low x s
  have e1 : Builtin.bitAnd (x : Int) (((x / 2 ^ s * 2 ^ s : Nat) : Int)) = ((x / 2 ^ s * 2 ^ s : Nat) : Int) := by
    unfold Builtin.bitAnd
    have a1 : decide (0 ≤ (x : Int)) = true := by simp
    have a2 : decide (0 ≤ ((x / 2 ^ s * 2 ^ s : Nat) : Int)) = true := decide_eq_true (Int.natCast_nonneg _)
    rw [a1, a2]
    simp only [Int.toNat_natCast, h2]
  have e2 : Builtin.bitOr (x : Int) (((x / 2 ^ s * 2 ^ s : Nat) : Int)) = (x : Int) := by
    have n0 : ∀ y : Int, Builtin.bitNot (Builtin.bitNot y) = y := fun y => by unfold Builtin.bitNot; omega
    have ng : ∀ y : Nat, decide (0 ≤ Builtin.bitNot (y : Int)) = false := fun y => decide_eq_false (by unfold Builtin.bitNot; omega)
    unfold Builtin.bitOr Builtin.bitAnd
    rw [ng, ng]
    simp only [n0, Int.toNat_natCast, h1]
  unfold Builtin.bitXor
  rw [e1, e2]
  have := Nat.div_add_mod x (2 ^ s)
  rw [Nat.mul_comm] at this
  have h3 : ((x / 2 ^ s * 2 ^ s : Nat) : Int) + ((x % 2 ^ s : Nat) : Int) = (x : Int) := by rw [← Int.natCast_add, this]
  omega

theorem foldl_app (l : List (Array Value)) : ∀ a : Array Value, List.foldl (fun x1 x2 => x1 ++ x2) a l = (a.toList ++ (l.map Array.toList).flatten).toArray := by
  induction l with
  | nil => intro a; simp
  | cons x r ih => intro a; rw [List.foldl_cons, ih]; simp [List.append_assoc]
theorem mul_listA {prog : Program} {w : World} {A : Around} {E : Value → Shared → Prop} {s : Shared} {l : Addr} {items : Array Value} {k : Nat} {x : Int} {u : Tok} {Q : Value → Shared → Prop}
    (hl : s.heap.get? l = some { cls := .type "list", dict := none, data := .seq items k, slots := #[] })
    (hlo : -(2 ^ 63 : Int) ≤ x) (hhi : x < 2 ^ 63) (hsz : items.size * x.toNat ≤ 2 ^ 24)
    (h : Q (.ref s.heap.objs.size) { s with heap := s.heap.push { cls := .type "list", data := .seq (List.replicate x.toNat items.toList).flatten.toArray } }) :
    wpAny (model prog w) A (binaryOp .Mult (.ref l) (.int x u)) Q E s := by
  refine wpAny_binaryOp_repeat_ref (T := "list") (U := "int") (by decide) ⟨_, hl, rfl⟩ (fun s' => typeIs_int s' x u) noFill_list_mul PySem.F.fills_int_mul PySem.F.slot_int_rmul repeat_list PySem.F.slot_int_index.lookup
    (call_meets PySem.F.slot_int_rmul (typeIs_int s x u) PySem.F.entry_int_rmul (PySem.F.args_int_rmul_2 _ _) (int___rmul___int_list x u l items k)
      ⟨hl, rfl, ⟨_, hl, rfl⟩, call_meets PySem.F.slot_list_mul ⟨_, hl, rfl⟩ PySem.F.entry_list_mul (PySem.F.args_list_mul_2 _ _)
        (AutoListH.list___mul___list_int_3 l items k x u (by simp [Builtin.List.listFitsIndex]; omega) (by omega) (by simp [Builtin.List.listTooLong, sizeLine]; omega))
        ⟨hl, ?_⟩⟩)
  have e : List.foldl (fun x1 x2 => x1 ++ x2) #[] (List.replicate (if items.isEmpty = true then 0 else x.toNat) items) = (List.replicate x.toNat items.toList).flatten.toArray := by
    rw [foldl_app]
    by_cases hi : items.isEmpty = true
    · have : items = #[] := by simpa using hi
      subst this
      simp
    · rw [if_neg hi]; simp
  rw [e]; exact h
/-- [v] * n, which may be changed -/
theorem Bi.rep {C : Cx} {σ : St} {Φ : V → St → Prop} {a : V} {ds : List V} {m : Int} (ha : σ.listOf a = some ds) (h0 : 0 ≤ m) (hz : ds.length * m.toNat ≤ 1048576) (hm : m ≤ 1048576) (h : Φ (.ref σ.mu.length) ⟨σ.loc, σ.mu ++ [(false, (List.replicate m.toNat ds).flatten)]⟩) : Bi C σ .Mult a (.int m) Φ := fun X ok G s va vb R hva hvb => by
  cases hvb with
  | int _ u =>
  obtain ⟨p, vs, rfl, ⟨n, e1⟩, r⟩ := R.plainOf hva ha
  have hlen : vs.size = ds.length := by have := r.length; simpa using this
  have hr : VRs G (List.replicate m.toNat vs.toList).flatten (List.replicate m.toNat ds).flatten := by
    induction m.toNat with
    | zero => exact .nil
    | succ k ih => rw [List.replicate_succ, List.replicate_succ, List.flatten_cons, List.flatten_cons]; exact r.append ih
  have P := R.pushMut hr s.toks
  refine mul_listA e1 (by omega) (by omega) (by rw [hlen]; exact Nat.le_trans hz (by decide)) ⟨_, _, .ref σ.mu.length, P.2, P.1, .ref ?_, h⟩
  show (G.adr ++ [s.heap.objs.size])[σ.mu.length]? = _
  rw [← R.len, List.getElem?_append_right (Nat.le_refl _)]; simp
/-- a part of a list has got the digits of x -/
noncomputable def Dig (n : Nat) (ds ds' : List V) (L c x : Nat) : Prop := ds'.length = ds.length ∧ ∀ i, ds'[i]? = if L ≤ i ∧ i < L + c then some (.int ((x / 2 ^ (n * (i - L)) % 2 ^ n : Nat) : Int)) else ds[i]?
theorem Dig.one {n : Nat} {ds : List V} {L x : Nat} (hx : x < 2 ^ n) (hL : L < ds.length) : Dig n ds (ds.set L (.int x)) L 1 x := by
  refine ⟨by simp, fun i => ?_⟩
  by_cases h : i = L
  · subst h
    rw [if_pos ⟨Nat.le_refl _, by omega⟩]
    simp [hL, Nat.mod_eq_of_lt hx]
  · rw [if_neg (by omega), List.getElem?_set_ne (by omega)]
theorem Dig.two {n : Nat} {ds ds1 ds2 : List V} {L h c x : Nat} (hc : h ≤ c) (h1 : Dig n ds ds1 L h (x % 2 ^ (n * h))) (h2 : Dig n ds1 ds2 (L + h) (c - h) (x / 2 ^ (n * h))) : Dig n ds ds2 L c x := by
  refine ⟨h2.1.trans h1.1, fun i => ?_⟩
  rw [h2.2 i]
  by_cases a : L + h ≤ i ∧ i < L + h + (c - h)
  · rw [if_pos a, if_pos (by omega), digit_div]
    have : h + (i - (L + h)) = i - L := by omega
    rw [this]
  · rw [if_neg a, h1.2 i]
    by_cases b : L ≤ i ∧ i < L + h
    · rw [if_pos b, if_pos (by omega), digit_low _ _ _ _ (by omega)]
    · rw [if_neg b, if_neg (by omega)]
noncomputable def digits (a n m : Nat) : List Int := (List.range m).map fun i => ((a / 2 ^ (n * i) % 2 ^ n : Nat) : Int)
theorem Dig.all {n a : Nat} {ds ds' : List V} (h : Dig n ds ds' 0 ds.length a) : ds' = (digits a n ds.length).map .int := by
  apply List.ext_getElem?
  intro i
  rw [h.2 i]
  by_cases hi : i < ds.length
  · simp [digits, hi]
  · have : ds[i]? = none := by simp; omega
    simp [digits, hi]
theorem digits_zero (n m : Nat) : (digits 0 n m) = List.replicate m 0 := by
  apply List.ext_getElem?
  intro i
  by_cases h : i < m <;> simp [digits, h]

/-! Y2 -/
theorem bindIn {s : Shared} {fd : FuncData} {args : Args} {binds : List (Str × Value)} {p : Arguments} (hp : fd.params = p) (hd : fd.defaults = .none) (hk : fd.kwdefaults = .none)
    (h : bindArgs { (default : FuncData) with params := p, qualname := fd.qualname } args = pure binds) : BindsTo s fd args binds := by
  refine BindsTo.of_eq (Eq.trans ?_ h)
  obtain ⟨⟩ := fd
  dsimp only at hp hd hk
  subst hp hd hk
  rfl
theorem mcount (b n : Nat) (hn : 1 ≤ n) : ((b : Int) + (n : Int) - 1) / (n : Int) = (((b + n - 1) / n : Nat) : Int) := by
  have : (b : Int) + (n : Int) - 1 = ((b + n - 1 : Nat) : Int) := by omega
  rw [this, Int.natCast_ediv]
theorem bits_lt (a : Nat) : a < 2 ^ (Builtin.Int.intBits (a : Int)) := by
  have := (intBits_le_iff (m := Builtin.Int.intBits (a : Int)) (x := (a : Int))).mp (Nat.le_refl _)
  simpa using this
theorem bits_le {a m : Nat} (h : a < 2 ^ m) : Builtin.Int.intBits (a : Int) ≤ m := intBits_le_iff.mpr (by simpa using h)
theorem count_ok (b n : Nat) (hn : 1 ≤ n) : b ≤ n * ((b + n - 1) / n) := by
  have h := Nat.div_add_mod (b + n - 1) n
  have h2 := Nat.mod_lt (b + n - 1) hn
  omega
theorem count_le (b n : Nat) (hn : 1 ≤ n) : (b + n - 1) / n ≤ b := by
  rcases Nat.eq_zero_or_pos b with h | h
  · subst h; rw [Nat.div_eq_of_lt (by omega)]; exact Nat.le_refl _
  · refine Nat.le_of_lt_succ ((Nat.div_lt_iff_lt_mul hn).mpr ?_)
    have := Nat.mul_le_mul_left (b + 1) hn
    have e : (b + 1) * n = b * n + n := Nat.succ_mul ..
    have : b ≤ b * n := Nat.le_mul_of_pos_right b hn
    show b + n - 1 < (b + 1) * n
    omega

theorem suff2 {α β : Type} {P : α → β → Prop} {G : Prop} {a : α} {b : β} (h : P a b → G) (k : P a b) : G := h k
theorem pur_ref {σ : St} {k : Nat} {fr : Bool} {ds : List V} (h : σ.mu[k]? = some (fr, ds)) (hp : arePure ds = true) : σ.pur (.ref k) = some (.list ds, ⟨σ.loc, σ.mu.set k (true, ds)⟩) := by simp [St.pur, V.isPure, h, hp]
theorem mid_eq (L c : Nat) : ((L : Int) + ((L + c : Nat) : Int)) / 2 ^ (1 : Int).toNat = ((L + c / 2 : Nat) : Int) := by
  show _ / (2 : Int) ^ 1 = _
  omega
theorem shift_eq (L h n : Nat) : (((L + h : Nat) : Int) - (L : Int)) * (n : Int) = ((n * h : Nat) : Int) := by
  rw [show ((L + h : Nat) : Int) - (L : Int) = (h : Int) by omega, Int.mul_comm, Int.natCast_mul]
theorem shr_eq (x s : Nat) : (x : Int) / 2 ^ ((s : Nat) : Int).toNat = ((x / 2 ^ s : Nat) : Int) := by
  rw [Int.toNat_natCast, Int.natCast_ediv, Int.natCast_pow]; rfl
theorem shl_eq (x s : Nat) : (x : Int) * 2 ^ ((s : Nat) : Int).toNat = ((x * 2 ^ s : Nat) : Int) := by
  rw [Int.toNat_natCast, Int.natCast_mul, Int.natCast_pow]; rfl
theorem lt4096' {n : Nat} (h : n < 2 ^ 256) : n < 2 ^ 4096 := Nat.lt_of_lt_of_le h (Nat.pow_le_pow_right (n := 2) (by decide) (by decide : 256 ≤ 4096))
noncomputable def nDigits (a n : Nat) : Nat := (Builtin.Int.intBits (a : Int) + n - 1) / n

theorem int2digits_ok {T : Tbl} (hT : Tops T hd.heap_39) (hP : T.tabs 37 = some (Str.ofString "_int2digits" ++ Str.ofString ".<locals>." ++ Str.ofString "inner")) (a n : Nat) (ha : a < 2 ^ 256) (hn : 1 ≤ n) (hn2 : n ≤ 256) :
    FnOk T 10 "_int2digits" [.int a, .int n] (fun v => v = .list ((digits a n (nDigits a n)).map .int)) := by
  have hm0 : nDigits a n ≤ 256 := Nat.le_trans (count_le _ n hn) (bits_le ha)
  have ham : a < 2 ^ (n * nDigits a n) := Nat.lt_of_lt_of_le (bits_lt a) (Nat.pow_le_pow_right (by decide) (count_ok _ n hn))
  refine' FnOk.introN (name := "inner") (FnIs.ofK hT (by rfl) (by rfl) (by rfl) (by rfl) (by rfl) (by rfl) (by rfl)) ["a", "n"] 37 41 (by rfl) (by exact hP) (fun h X => codeHd_of_K X (by rw [hT.frag]; rfl)) ?bb (by rfl) (by rfl) ?hcl (by rfl) ?hret ?hh ?hn
  case bb =>
    intro s vals hl
    obtain ⟨a, b, rfl⟩ := vals2 hl
    exact BindsTo.of_eq rfl
  case hret => rintro v rfl; exact arePlain_ints _
  case hh =>
    intro T' hmg hL hfact
    have hno : NoB T' (hd.heap_39 T.w.params) := ⟨fun n e => (hmg n).trans (hT.no n e)⟩
    dsimp only
    repeat walk_at "v"
    refine Me.bitLength ?_
    repeat walk_at "v"
    refine Bi.div ?_ (by omega) (lt4096 (by omega))
    rw [mcount _ _ hn]
    refine Bi.rep (ds := [.int 0]) (m := ((nDigits a n : Nat) : Int)) rfl (Int.natCast_nonneg _) (by simp; omega) (by omega) ?_
    repeat walk_at "v"
    refine Ws.defIn (k := 0) hfact ?_
    have hlen : (List.replicate ((nDigits a n : Nat) : Int).toNat [V.int 0]).flatten = List.replicate (nDigits a n) (V.int 0) := by simp
    rw [hlen]
    repeat walk_at "v"
    split
    · rename_i hc
      have ha0 : 0 < a := by simp at hc; omega
      repeat walk_at "v"
      refine' suff2 (P := fun (sc : Scope) (ib : List Stmt) => ∀ (d : Nat) (σ : St) (x L c k : Nat) (ds : List V) (Φ : Fl → St → Prop), 1 ≤ c → c ≤ 2 ^ d → x < 2 ^ (n * c) → σ.loc "x" = some (.int x) → σ.loc "L" = some (.int L) → σ.loc "R" = some (.int ((L + c : Nat) : Int)) → σ.loc "a_digits" = some (.ref k) → σ.loc "n" = some (.int n) → σ.loc "inner" = some (.lam 0) → σ.mu[k]? = some (false, ds) → L + c ≤ ds.length → ds.length ≤ 256 → x < 2 ^ 256 →
        (∀ f σ', retOf f = .none → (∃ ds', σ'.mu = σ.mu.set k (false, ds') ∧ Dig n ds ds' L c x) → Φ f σ') → Wx ⟨T', d, sc, false⟩ σ ib Φ) (fun key => We.callIn (ns := ["x", "L", "R"]) (d := 9) hL rfl ?cc ?bind (Nat.le_refl _)) ?key
      case cc =>
        repeat walk_at "v"
        refine Cb.len (ds := List.replicate (nDigits a n) (V.int 0)) rfl (by simp; omega) ?_
        rw [List.length_replicate]
        repeat walk_at "v"
        have hm1 : 1 ≤ nDigits a n := by
          rcases Nat.eq_zero_or_pos (nDigits a n) with h | h
          · rw [h] at ham; simp at ham; omega
          · exact h
        refine ⟨rfl, key 9 _ a 0 (nDigits a n) 1 (List.replicate (nDigits a n) (V.int 0)) _ hm1 (Nat.le_trans hm0 (by decide)) ham ?r1 ?r2 ?r3 ?r4 ?r5 ?r6 ?r7 (by simp) (by simpa using hm0) ha ?_⟩
        case r1 => rfl
        case r2 => rfl
        case r3 => rw [Nat.zero_add]; rfl
        case r4 => rfl
        case r5 => rfl
        case r6 => rfl
        case r7 => rfl
        rintro f σ' hf ⟨ds', hmu, hD⟩
        refine ⟨hf, ?_⟩
        repeat walk_at "v"
        have hD' := Dig.all (by rw [List.length_replicate]; exact hD)
        rw [List.length_replicate] at hD'
        refine ⟨.list ds', _, pur_ref (k := 1) (fr := false) (ds := ds') ?_ ?_, by rw [hD']⟩
        · show σ'.mu[1]? = _
          rw [hmu]; rfl
        · rw [hD']; exact arePure_map_int _
      case bind =>
        rintro s fd vals I hl
        obtain ⟨a, b, c, rfl⟩ := vals3 hl
        exact bindIn I.params I.defaults I.kwdefaults rfl
      case key =>
        intro d
        induction d with
        | zero =>
          intro σ x L c k ds Φ hc hcd hx h1 h2 h3 h4 h5 h6 h7 h8 h9 hx2 hΦ
          have hc1 : c = 1 := by simp at hcd; omega
          subst hc1
          repeat walk_at "v"
          rw [if_pos (by simp)]
          repeat walk_at "v"
          refine ⟨k, (L : Int), ds, rfl, rfl, h7, by omega, by omega, by omega, ?_⟩
          repeat walk_at "v"
          refine hΦ _ _ rfl ⟨_, rfl, ?_⟩
          rw [Int.toNat_natCast]
          exact Dig.one (by simpa using hx) (by omega)
        | succ d ih =>
          intro σ x L c k ds Φ hc hcd hx h1 h2 h3 h4 h5 h6 h7 h8 h9 hx2 hΦ
          by_cases hc1 : c = 1
          · skip
            subst hc1
            repeat walk_at "v"
            rw [if_pos (by simp)]
            repeat walk_at "v"
            refine ⟨k, (L : Int), ds, rfl, rfl, h7, by omega, by omega, by omega, ?_⟩
            repeat walk_at "v"
            refine hΦ _ _ rfl ⟨_, rfl, ?_⟩
            rw [Int.toNat_natCast]
            exact Dig.one (by simpa using hx) (by omega)
          · have hnh : n * (c / 2) ≤ 1000000 := Nat.le_trans (Nat.mul_le_mul hn2 (by omega : c / 2 ≤ 256)) (by decide)
            have hkl : k < σ.mu.length := (List.getElem?_eq_some_iff.mp h7).1
            have hp : c ≤ 2 ^ d + 2 ^ d := by rw [Nat.pow_succ] at hcd; omega
            have hsub : n * c = n * (c / 2) + n * (c - c / 2) := by rw [← Nat.mul_add]; congr 1; omega
            repeat walk_at "v"
            rw [if_neg (by simp; omega)]
            repeat walk_at "v"
            refine Bi.shr ?_ (by decide)
            rw [mid_eq]
            repeat walk_at "v"
            refine Bi.mul ?_ (.inr (by omega))
            rw [shift_eq]
            repeat walk_at "v"
            refine Bi.shr ?_ (Int.natCast_nonneg _)
            rw [shr_eq]
            repeat walk_at "v"
            refine Bi.shl ?_ (Int.natCast_nonneg _) (by omega) (by rw [Int.natAbs_natCast]; exact lt4096' (Nat.lt_of_le_of_lt (Nat.div_le_self _ _) hx2))
            rw [shl_eq]
            refine Bi.xor ?_
            rw [xor_int_low]
            repeat walk_at "v"
            refine' We.callIn (ns := ["x", "L", "R"]) (d := d) hL h6 ?cc ?bind (Nat.le_refl _)
            case bind =>
              rintro s fd vals I hl
              obtain ⟨a, b, c, rfl⟩ := vals3 hl
              exact bindIn I.params I.defaults I.kwdefaults rfl
            case cc =>
              repeat walk_at "v"
              refine ⟨rfl, ih _ (x % 2 ^ (n * (c / 2))) L (c / 2) k ds _ (by omega) (by omega) (Nat.mod_lt _ (Nat.two_pow_pos _)) rfl rfl rfl h4 h5 h6 h7 (by omega) h9 (Nat.lt_of_le_of_lt (Nat.mod_le _ _) hx2) ?_⟩
              rintro f σ' hf ⟨ds1, hmu, hD1⟩
              refine ⟨hf, ?_⟩
              repeat walk_at "v"
              refine' We.callIn (ns := ["x", "L", "R"]) (d := d) hL h6 ?cc ?bind (Nat.le_refl _)
              case bind =>
                rintro s fd vals I hl
                obtain ⟨a, b, c, rfl⟩ := vals3 hl
                exact bindIn I.params I.defaults I.kwdefaults rfl
              case cc =>
                repeat walk_at "v"
                refine ⟨rfl, ih _ (x / 2 ^ (n * (c / 2))) (L + c / 2) (c - c / 2) k ds1 _ (by omega) (by omega) ?_ rfl rfl ?_ h4 h5 h6 ?_ (by have := hD1.1; omega) (by have := hD1.1; omega) (Nat.lt_of_le_of_lt (Nat.div_le_self _ _) hx2) ?_⟩
                · rw [hsub, Nat.pow_add] at hx
                  exact Nat.div_lt_of_lt_mul hx
                · have e : L + c / 2 + (c - c / 2) = L + c := by omega
                  rw [e]; rfl
                · show σ'.mu[k]? = _
                  have hmu' : σ'.mu = σ.mu.set k (false, ds1) := hmu
                  rw [hmu']; exact List.getElem?_set_self hkl
                · rintro f2 σ2 hf2 ⟨ds2, hmu2, hD2⟩
                  refine ⟨hf2, ?_⟩
                  repeat walk_at "v"
                  refine hΦ _ _ rfl ⟨ds2, ?_, Dig.two (by omega) hD1 hD2⟩
                  have hmu' : σ'.mu = σ.mu.set k (false, ds1) := hmu
                  have hmu2' : σ2.mu = σ'.mu.set k (false, ds2) := hmu2
                  show σ2.mu = σ.mu.set k (false, ds2)
                  rw [hmu2', hmu', List.set_set]
    · rename_i hc
      have ha0 : a = 0 := by simp at hc; omega
      repeat walk_at "v"
      have e : (digits a n (nDigits a n)).map V.int = List.replicate (nDigits a n) (V.int 0) := by rw [ha0, digits_zero, List.map_replicate]
      refine ⟨.list (List.replicate (nDigits a n) (V.int 0)), _, pur_ref (k := 1) (fr := false) (ds := List.replicate (nDigits a n) (V.int 0)) rfl ?_, by rw [e]⟩
      rw [← e]; exact arePure_map_int _
  all_goals first | rfl | decide

theorem digVal_le (f : Nat → Nat) (n L c m : Nat) (h : L + c ≤ m) : digVal f n L c ≤ digVal f n 0 m := by
  have e1 : m = L + (c + (m - L - c)) := by omega
  rw [e1, digVal_add f n 0 L, Nat.zero_add, digVal_add f n L c]
  have h1 : digVal f n L c ≤ digVal f n L c + digVal f n (L + c) (m - L - c) * 2 ^ (n * c) := Nat.le_add_right _ _
  have h2 := Nat.le_mul_of_pos_right (digVal f n L c + digVal f n (L + c) (m - L - c) * 2 ^ (n * c)) (Nat.two_pow_pos (n * L))
  omega
theorem getD_nat {ns : List Nat} {i : Nat} (h : i < ns.length) : (ns.map fun k : Nat => V.int (k : Int))[i]? = some (.int ((ns.getD i 0 : Nat) : Int)) := by
  simp [List.getD_eq_getElem?_getD, h]
theorem arePlain_nats (ns : List Nat) : arePlain (ns.map fun k : Nat => V.int (k : Int)) = true := by
  induction ns with
  | nil => rfl
  | cons n r ih => simp [arePlain, V.plain, ih]

theorem digits2int_ok {T : Tbl} (hT : Tops T hd.heap_39) (hP : T.tabs 44 = some (Str.ofString "_digits2int" ++ Str.ofString ".<locals>." ++ Str.ofString "inner")) (ns : List Nat) (n : Nat) (hl : ns.length ≤ 256) (hn2 : n ≤ 256) (hv : digVal (fun i => ns.getD i 0) n 0 ns.length < 2 ^ 256) :
    FnOk T 10 "_digits2int" [.list (ns.map fun k : Nat => V.int (k : Int)), .int n] (fun v => v = .int ((digVal (fun i => ns.getD i 0) n 0 ns.length : Nat) : Int)) := by
  refine' FnOk.introN (name := "inner") (FnIs.ofK hT (by rfl) (by rfl) (by rfl) (by rfl) (by rfl) (by rfl) (by rfl)) ["digits", "n"] 44 48 (by rfl) (by exact hP) (fun h X => codeHd_of_K X (by rw [hT.frag]; rfl)) ?bb (by rfl) (by rfl) ?hcl ?hargs ?hret ?hh ?hn
  case bb =>
    intro s vals hl
    obtain ⟨a, b, rfl⟩ := vals2 hl
    exact BindsTo.of_eq rfl
  case hargs => simp [arePlain, V.plain, arePlain_nats]
  case hret => rintro v rfl; rfl
  case hh =>
    intro T' hmg hL hfact
    have hno : NoB T' (hd.heap_39 T.w.params) := ⟨fun n e => (hmg n).trans (hT.no n e)⟩
    dsimp only
    repeat walk_at "v"
    refine Ws.defIn (k := 0) hfact ?_
    repeat walk_at "v"
    refine Tr.list (ds := ns.map fun k : Nat => V.int (k : Int)) rfl (by simp; omega) ?_
    split
    · rename_i hc
      have h1 : 1 ≤ ns.length := by
        cases ns with
        | nil => simp at hc
        | cons a r => simp
      refine' suff2 (P := fun (sc : Scope) (ib : List Stmt) => ∀ (d : Nat) (σ : St) (L c : Nat) (Φ : Fl → St → Prop), 1 ≤ c → c ≤ 2 ^ d → L + c ≤ ns.length → σ.loc "L" = some (.int L) → σ.loc "R" = some (.int ((L + c : Nat) : Int)) → σ.loc "digits" = some (.list (ns.map fun k : Nat => V.int (k : Int))) → σ.loc "n" = some (.int n) → σ.loc "inner" = some (.lam 0) →
        (∀ f σ', retOf f = .int ((digVal (fun i => ns.getD i 0) n L c : Nat) : Int) → Φ f σ') → Wx ⟨T', d, sc, false⟩ σ ib Φ) (fun key => We.callIn (ns := ["L", "R"]) (d := 9) hL rfl ?cc ?bind (Nat.le_refl _)) ?key
      case cc =>
        repeat walk_at "v"
        refine Cb.len (ds := ns.map fun k : Nat => V.int (k : Int)) rfl (by simp; omega) ?_
        rw [List.length_map]
        repeat walk_at "v"
        refine ⟨rfl, key 9 _ 0 ns.length _ h1 (Nat.le_trans hl (by decide)) (by omega) ?r2 ?r3 ?r4 ?r5 ?r6 ?_⟩
        case r2 => rfl
        case r3 => rw [Nat.zero_add]; rfl
        case r4 => rfl
        case r5 => rfl
        case r6 => rfl
        rintro f σ' hf
        rw [hf]
        exact ⟨_, _, rfl, rfl⟩
      case bind =>
        rintro s fd vals I hl
        obtain ⟨a, b, rfl⟩ := vals2 hl
        exact bindIn I.params I.defaults I.kwdefaults rfl
      case key =>
        intro d
        induction d with
        | zero =>
          intro σ L c Φ hc hcd hLc h2 h3 h4 h5 h6 hΦ
          have hc1 : c = 1 := by simp at hcd; omega
          subst hc1
          repeat walk_at "v"
          rw [if_pos (by simp)]
          repeat walk_at "v"
          refine Su.item (v := .int ((ns.getD L 0 : Nat) : Int)) (ds := ns.map fun k : Nat => V.int (k : Int)) rfl (Int.natCast_nonneg _) (by omega) (by rw [Int.toNat_natCast]; exact getD_nat (by omega)) ?_
          refine hΦ _ _ ?_
          show V.int _ = _
          simp [digVal]
        | succ d ih =>
          intro σ L c Φ hc hcd hLc h2 h3 h4 h5 h6 hΦ
          by_cases hc1 : c = 1
          · subst hc1
            repeat walk_at "v"
            rw [if_pos (by simp)]
            repeat walk_at "v"
            refine Su.item (v := .int ((ns.getD L 0 : Nat) : Int)) (ds := ns.map fun k : Nat => V.int (k : Int)) rfl (Int.natCast_nonneg _) (by omega) (by rw [Int.toNat_natCast]; exact getD_nat (by omega)) ?_
            refine hΦ _ _ ?_
            show V.int _ = _
            simp [digVal]
          · have hnh : n * (c / 2) ≤ 1000000 := Nat.le_trans (Nat.mul_le_mul hn2 (by omega : c / 2 ≤ 256)) (by decide)
            have hp : c ≤ 2 ^ d + 2 ^ d := by rw [Nat.pow_succ] at hcd; omega
            repeat walk_at "v"
            rw [if_neg (by simp; omega)]
            repeat walk_at "v"
            refine Bi.shr ?_ (by decide)
            rw [mid_eq]
            repeat walk_at "v"
            refine Bi.mul ?_ (.inr (by omega))
            rw [shift_eq]
            repeat walk_at "v"
            refine' We.callIn (ns := ["L", "R"]) (d := d) hL h6 ?cc ?bind (Nat.le_refl _)
            case bind =>
              rintro s fd vals I hl
              obtain ⟨a, b, rfl⟩ := vals2 hl
              exact bindIn I.params I.defaults I.kwdefaults rfl
            case cc =>
              repeat walk_at "v"
              refine ⟨rfl, ih _ (L + c / 2) (c - c / 2) _ (by omega) (by omega) (by omega) rfl ?_ h4 h5 h6 ?_⟩
              · have e : L + c / 2 + (c - c / 2) = L + c := by omega
                rw [e]; rfl
              rintro f σ' hf
              rw [hf]
              repeat walk_at "v"
              refine Bi.shl ?_ (Int.natCast_nonneg _) (by omega) (by rw [Int.natAbs_natCast]; exact lt4096' (Nat.lt_of_le_of_lt (digVal_le _ _ _ _ _ (by omega)) hv))
              rw [shl_eq]
              refine' We.callIn (ns := ["L", "R"]) (d := d) hL h6 ?cc ?bind (Nat.le_refl _)
              case bind =>
                rintro s fd vals I hl
                obtain ⟨a, b, rfl⟩ := vals2 hl
                exact bindIn I.params I.defaults I.kwdefaults rfl
              case cc =>
                repeat walk_at "v"
                refine ⟨rfl, ih _ L (c / 2) _ (by omega) (by omega) (by omega) rfl rfl h4 h5 h6 ?_⟩
                rintro f2 σ2 hf2
                rw [hf2]
                repeat walk_at "v"
                refine hΦ _ _ ?_
                show V.int _ = _
                have e : c = c / 2 + (c - c / 2) := by omega
                have e2 := digVal_add (fun i => ns.getD i 0) n L (c / 2) (c - c / 2)
                rw [← e] at e2
                rw [e2, Int.natCast_add, Int.add_comm]
    · rename_i hc
      have h0 : ns = [] := by
        cases ns with
        | nil => rfl
        | cons a r => simp at hc
      subst h0
      repeat walk_at "v"
      exact ⟨_, _, rfl, rfl⟩
  all_goals first | rfl | decide

/-! VD2 -/
/-! division, digit by digit -/
noncomputable def lowVal (n : Nat) : List Nat → Nat
  | [] => 0
  | d :: r => d + 2 ^ n * lowVal n r
theorem digVal_shift (d : Nat) (r : List Nat) (n : Nat) : ∀ (L c : Nat), digVal (fun i => (d :: r).getD i 0) n (L + 1) c = digVal (fun i => r.getD i 0) n L c
  | _, 0 => rfl
  | L, c + 1 => by
    rw [digVal, digVal, digVal_shift d r n L c]
    have : L + 1 + c = (L + c) + 1 := by omega
    rw [this]; rfl
theorem digVal_low (n : Nat) : ∀ ns : List Nat, digVal (fun i => ns.getD i 0) n 0 ns.length = lowVal n ns
  | [] => rfl
  | d :: r => by
    have e : (d :: r).length = 1 + r.length := by simp; omega
    rw [e, digVal_add, digVal_shift d r n 0, digVal_low n r, lowVal]
    simp [digVal, Nat.mul_comm]
noncomputable def hornA (n : Nat) (acc : Nat) (hs : List Nat) : Nat := hs.foldl (fun q d => q * 2 ^ n + d) acc
theorem horn_low (n : Nat) (hs : List Nat) : lowVal n hs.reverse = hornA n 0 hs := by
  have h : ∀ l : List Nat, lowVal n l = l.foldr (fun d q => q * 2 ^ n + d) 0 := by
    intro l
    induction l with
    | nil => rfl
    | cons d r ih => rw [lowVal, List.foldr_cons, ih, Nat.mul_comm, Nat.add_comm]
  rw [h, List.foldr_reverse]; rfl
/-- the run of remainders and quotients -/
noncomputable def divRun (n b : Nat) : Nat → List Nat → List Nat → Nat × List Nat
  | r, qs, [] => (r, qs)
  | r, qs, d :: hs => divRun n b ((r * 2 ^ n + d) % b) (qs ++ [(r * 2 ^ n + d) / b]) hs
theorem divRun_val (n b : Nat) : ∀ (hs : List Nat) (r : Nat) (qs : List Nat), hornA n 0 (divRun n b r qs hs).2 * b + (divRun n b r qs hs).1 = hornA n (hornA n 0 qs * b + r) hs
  | [], r, qs => rfl
  | d :: hs, r, qs => by
    rw [divRun, divRun_val n b hs]
    show hornA n _ hs = hornA n ((hornA n 0 qs * b + r) * 2 ^ n + d) hs
    congr 1
    have e : hornA n 0 (qs ++ [(r * 2 ^ n + d) / b]) = hornA n 0 qs * 2 ^ n + (r * 2 ^ n + d) / b := by
      unfold hornA; rw [List.foldl_append]; rfl
    rw [e]
    have h := Nat.div_add_mod (r * 2 ^ n + d) b
    generalize (r * 2 ^ n + d) / b = q at h ⊢
    generalize (r * 2 ^ n + d) % b = m at h ⊢
    generalize hornA n 0 qs = Q
    have h1 : (Q * 2 ^ n + q) * b + m = Q * 2 ^ n * b + (b * q + m) := by rw [Nat.add_mul, Nat.mul_comm q b, Nat.add_assoc]
    have h2 : (Q * b + r) * 2 ^ n + d = Q * 2 ^ n * b + (r * 2 ^ n + d) := by rw [Nat.add_mul, Nat.mul_right_comm, Nat.add_assoc]
    rw [h1, h2, h]
theorem divRun_lt (n b : Nat) (hb : 0 < b) : ∀ (hs : List Nat) (r : Nat) (qs : List Nat), r < b → (divRun n b r qs hs).1 < b
  | [], r, qs, h => h
  | d :: hs, r, qs, _ => by rw [divRun]; exact divRun_lt n b hb hs _ _ (Nat.mod_lt _ hb)
theorem divRun_len (n b : Nat) : ∀ (hs : List Nat) (r : Nat) (qs : List Nat), (divRun n b r qs hs).2.length = qs.length + hs.length
  | [], r, qs => rfl
  | d :: hs, r, qs => by rw [divRun, divRun_len n b hs]; simp; omega
noncomputable def natDigits (a n m : Nat) : List Nat := (List.range m).map fun i => a / 2 ^ (n * i) % 2 ^ n
theorem digits_nat (a n m : Nat) : (digits a n m).map V.int = (natDigits a n m).map fun k : Nat => V.int (k : Int) := by
  simp [digits, natDigits]
theorem natDigits_val (a n m : Nat) (h : a < 2 ^ (n * m)) : lowVal n (natDigits a n m) = a := by
  rw [← digVal_low]
  have e : ∀ c, c ≤ m → digVal (fun i => (natDigits a n m).getD i 0) n 0 c = digVal (fun i => a / 2 ^ (n * i) % 2 ^ n) n 0 c := by
    intro c
    induction c with
    | zero => intro _; rfl
    | succ c ih =>
      intro hc
      rw [digVal, digVal, ih (by omega)]
      congr 2
      simp only [Nat.zero_add]
      have hc' : c < m := by omega
      simp [natDigits, List.getD_eq_getElem?_getD, hc']
  have hl : (natDigits a n m).length = m := by simp [natDigits]
  rw [hl, e m (Nat.le_refl _), digVal_digits, Nat.mod_eq_of_lt h]
/-- what the run tells -/
theorem divRun_ok (a b n m : Nat) (hb : 0 < b) (h : a < 2 ^ (n * m)) :
    lowVal n (divRun n b 0 [] (natDigits a n m).reverse).2.reverse = a / b ∧ (divRun n b 0 [] (natDigits a n m).reverse).1 = a % b := by
  have h1 := divRun_val n b (natDigits a n m).reverse 0 []
  have h2 := divRun_lt n b hb (natDigits a n m).reverse 0 [] hb
  have h3 : hornA n 0 (natDigits a n m).reverse = a := by rw [← horn_low, List.reverse_reverse, natDigits_val a n m h]
  rw [horn_low]
  have h4 : hornA n (hornA n 0 [] * b + 0) (natDigits a n m).reverse = a := by
    have : hornA n 0 [] * b + 0 = 0 := by simp [hornA]
    rw [this, h3]
  rw [h4] at h1
  generalize (divRun n b 0 [] (natDigits a n m).reverse).1 = r at h1 h2 ⊢
  generalize hornA n 0 (divRun n b 0 [] (natDigits a n m).reverse).2 = q at h1 ⊢
  subst h1
  constructor
  · rw [Nat.mul_comm, Nat.mul_add_div hb, Nat.div_eq_of_lt h2, Nat.add_zero]
  · rw [Nat.mul_comm, Nat.mul_add_mod, Nat.mod_eq_of_lt h2]

/-! Y3 -/
theorem We.gint {C : Cx} {σ : St} {pos : Pos} {Φ : V → St → Prop} {f : Str} {i : Int} {t : Tok} (hg : C.T.mg f = some (.int i t)) (h : Φ (.int i) σ) (hf : C.sc.names.lookup f = some .globalImplicit := by rfl) (hd : (f == ("__debug__" : Str)) = false := by decide) : We C σ (.Name f pos) Φ :=
  fun X ok G s R => global_wp ok R hf hg ⟨G, σ, _, .refl, R, .int _ _, h⟩ hd
theorem FnOk.le {T : Tbl} {d e : Nat} {n : Str} {args : List V} {Ψ : V → Prop} (h : FnOk T d n args Ψ) (hde : d ≤ e) : FnOk T e n args Ψ := fun a hg A s G vals room top pers tabP tab hadr hlm hv =>
  h a hg A s G vals (room.le (by omega)) top pers tabP tab hadr hlm hv
theorem FnOk.mono {T : Tbl} {d : Nat} {n : Str} {args : List V} {Ψ Ψ' : V → Prop} (h : FnOk T d n args Ψ) (k : ∀ v, Ψ v → Ψ' v) : FnOk T d n args Ψ' := fun a hg A s G vals room top pers tabP tab hadr hlm hv =>
  codeAny_mono (h a hg A s G vals room top pers tabP tab hadr hlm hv) fun r s' ⟨val, h', tk, P', v, a1, a2, a3, a4, a5, a6, a7, a8, a9⟩ => ⟨val, h', tk, P', v, a1, a2, a3, a4, a5, a6, a7, a8, k v a9⟩

theorem div2n1n_ok {T : Tbl} (hT : Tops T hd.heap_39) (a b n : Nat) (hb : 0 < b) (hb2 : b < 2 ^ 256) (hn : Builtin.Int.intBits (a : Int) ≤ 4000) :
    FnOk T 0 "_div2n1n" [.int a, .int b, .int n] (fun v => v = .tup [.int ((a / b : Nat) : Int), .int ((a % b : Nat) : Int)]) := by
  refine FnOk.intro (dargs := []) (FnIs.ofK hT (by rfl) (by rfl) (by rfl) (by rfl) (by rfl) (by rfl) (by rfl)) ["a", "b", "n"] ?_ rfl (by rfl) hT.plain ?_
  · intro s vals top hl
    obtain ⟨a, b, c, rfl⟩ := vals3 hl
    exact ⟨[], fun _ => .nil, BindsTo.of_eq rfl⟩
  · dsimp only
    repeat walk_at "v"
    refine Me.bitLength ?_
    repeat walk_at "v"
    refine We.gint (hT.mg _ _ (by rfl)) ?_
    repeat walk_at "v"
    rw [if_pos (by simp; omega)]
    repeat walk_at "v"
    refine Cb.divmod (by omega) (by rw [Int.natAbs_natCast]; exact lt4096' hb2) ?_
    exact ⟨_, _, rfl, by rw [Int.natCast_ediv, Int.natCast_emod]; rfl⟩

theorem wfor_div {C : Cx} {t : Expr} {body : List Stmt} {Φ : Fl → St → Prop} {n b : Nat} (Inv : Nat → List Nat → St → Prop)
    (M : Nat) (step : ∀ d r qs σ, Inv r qs σ → r < b → d < 2 ^ n → qs.length < M → Asg C σ t (.int ((d : Nat) : Int)) fun σ₁ => Wx C σ₁ body (LoopK Φ fun σ₂ => Inv ((r * 2 ^ n + d) % b) (qs ++ [(r * 2 ^ n + d) / b]) σ₂))
    (hb : 0 < b) : ∀ (hs : List Nat) (r : Nat) (qs : List Nat) (σ : St), Inv r qs σ → r < b → (∀ d ∈ hs, d < 2 ^ n) → qs.length + hs.length ≤ M → (∀ σ', Inv (divRun n b r qs hs).1 (divRun n b r qs hs).2 σ' → Φ .next σ') → Wfor C t body Φ (hs.map fun k : Nat => V.int (k : Int)) σ
  | [], r, qs, σ, hI, _, _, _, h => h σ hI
  | d :: hs, r, qs, σ, hI, hr, hd, hM, h => by
    show Asg C σ t _ _
    intro X ok G s val R hv
    refine wpAny_mono (step d r qs σ hI hr (hd d (.head _)) (by simp at hM; omega) X ok G s val R hv) (fun _ s₁ ⟨G₁, σ₁, l₁, R₁, h₁⟩ => ⟨G₁, σ₁, l₁, R₁, h₁.mono fun f σ' hf => ?_⟩) fun _ _ e => e
    have go : ∀ σ', Inv ((r * 2 ^ n + d) % b) (qs ++ [(r * 2 ^ n + d) / b]) σ' → Wfor C t body Φ (hs.map fun k : Nat => V.int (k : Int)) σ' := fun σ' hi =>
      wfor_div Inv M step hb hs _ _ σ' hi (Nat.mod_lt _ hb) (fun d' hd' => hd d' (.tail _ hd')) (by simp at hM ⊢; omega) h
    cases f with
    | next => exact go _ hf
    | cont => exact go _ hf
    | brk => exact hf
    | ret v => exact hf

theorem arePure_nats (ns : List Nat) : arePure (ns.map fun k : Nat => V.int (k : Int)) = true := by
  induction ns with
  | nil => rfl
  | cons n r ih => simp [arePure, V.isPure, ih]
theorem pur_nats {σ : St} (ns : List Nat) : σ.pur (.list (ns.map fun k : Nat => V.int (k : Int))) = some (.list (ns.map fun k : Nat => V.int (k : Int)), σ) := by simp [St.pur, V.isPure, arePure_nats]
theorem purs_ref {σ : St} {k : Nat} {fr : Bool} {ds : List V} {n : Int} (h : σ.mu[k]? = some (fr, ds)) (hp : arePure ds = true) : σ.purs [.ref k, .int n] = some ([.list ds, .int n], ⟨σ.loc, σ.mu.set k (true, ds)⟩) := by
  have e : St.pur ⟨σ.loc, σ.mu.set k (true, ds)⟩ (.int n) = some (.int n, ⟨σ.loc, σ.mu.set k (true, ds)⟩) := rfl
  simp only [St.purs, pur_ref h hp, e]
noncomputable def divInv (a b n : Nat) (r : Nat) (qs : List Nat) (σ : St) : Prop := σ.loc "b" = some (.int b) ∧ σ.loc "n" = some (.int n) ∧ σ.loc "r" = some (.int r) ∧ ∃ k, σ.loc "q_digits" = some (.ref k) ∧ σ.mu[k]? = some (false, qs.map fun k : Nat => V.int (k : Int))

theorem divmod_pos_ok {T : Tbl} (hT : Tops T hd.heap_39) (hP1 : T.tabs 37 = some (Str.ofString "_int2digits" ++ Str.ofString ".<locals>." ++ Str.ofString "inner")) (hP2 : T.tabs 44 = some (Str.ofString "_digits2int" ++ Str.ofString ".<locals>." ++ Str.ofString "inner"))
    (a b : Nat) (hb : 0 < b) (ha2 : a < 2 ^ 256) (hb2 : b < 2 ^ 256) : FnOk T 11 "_divmod_pos" [.int a, .int b] (fun v => v = .tup [.int ((a / b : Nat) : Int), .int ((a % b : Nat) : Int)]) := by
  have hn2 : Builtin.Int.intBits (b : Int) ≤ 256 := bits_le hb2
  have hn1 : 1 ≤ Builtin.Int.intBits (b : Int) := by
    unfold Builtin.Int.intBits
    rw [if_neg (by simp; omega)]; omega
  have hbl := bits_lt b
  refine FnOk.intro (dargs := []) (FnIs.ofK hT (by rfl) (by rfl) (by rfl) (by rfl) (by rfl) (by rfl) (by rfl)) ["a", "b"] ?_ rfl (by rfl) hT.plain ?_
  · intro s vals top hl
    obtain ⟨a, b, rfl⟩ := vals2 hl
    exact ⟨[], fun _ => .nil, BindsTo.of_eq rfl⟩
  · dsimp only
    repeat walk_at "v"
    refine Me.bitLength ?_
    generalize hN : Builtin.Int.intBits (b : Int) = n at hn1 hn2 hbl ⊢
    have hm0 : nDigits a n ≤ 256 := Nat.le_trans (count_le _ n hn1) (bits_le ha2)
    have ham : a < 2 ^ (n * nDigits a n) := Nat.lt_of_lt_of_le (bits_lt a) (Nat.pow_le_pow_right (by decide) (count_ok _ n hn1))
    have hrun := divRun_ok a b n (nDigits a n) hb ham
    have hlen : (divRun n b 0 [] (natDigits a n (nDigits a n)).reverse).2.length ≤ 256 := by rw [divRun_len]; simp [natDigits]; exact hm0
    repeat walk_at "v"
    refine We.call (d := 10) (FnIs.at (FnIs.ofK hT (by rfl) (by rfl) (by rfl) (by rfl) (by rfl) (by rfl) (by rfl))) ?_ (Nat.le_of_ble_eq_true rfl)
    repeat walk_at "v"
    refine CallOk.eq rfl (int2digits_ok hT hP1 a n ha2 hn1 hn2) ?_
    rw [digits_nat]
    repeat walk_at "v"
    refine Ws.forRev ?_ (hT.no _ (by rfl))
    repeat walk_at "v"
    refine ⟨_, _, pur_nats _, ?_⟩
    rw [← List.map_reverse]
    refine wfor_div (n := n) (divInv a b n) 256 ?step hb _ 0 [] _ ⟨rfl, rfl, rfl, _, rfl, rfl⟩ hb ?dig (by simp [natDigits]; exact hm0) ?done
    case dig =>
      intro d hd
      simp only [natDigits, List.mem_reverse, List.mem_map] at hd
      obtain ⟨i, _, rfl⟩ := hd
      exact Nat.mod_lt _ (Nat.two_pow_pos _)
    case step =>
      rintro d r qs σ ⟨hb', hn', hr', k, hq, hmu⟩ hr hd hql
      have hkl : k < σ.mu.length := (List.getElem?_eq_some_iff.mp hmu).1
      have ht : r * 2 ^ n + d < 2 ^ 512 := by
        have h1 : r * 2 ^ n + d < (r + 1) * 2 ^ n := by rw [Nat.succ_mul]; omega
        have h2 : (r + 1) * 2 ^ n ≤ 2 ^ 256 * 2 ^ 256 := Nat.mul_le_mul (by omega) (Nat.pow_le_pow_right (by decide) hn2)
        rw [← Nat.pow_add] at h2
        exact Nat.lt_of_lt_of_le h1 h2
      refine Asg.name ?_
      refine Wx.cons (Ws.assignTup ?_)
      refine We.call (d := 0) (FnIs.at (FnIs.ofK hT (by rfl) (by rfl) (by rfl) (by rfl) (by rfl) (by rfl) (by rfl))) ?_ (Nat.le_of_ble_eq_true rfl)
      repeat walk_at "v"
      refine Bi.shl ?_ (Int.natCast_nonneg _) (by omega) (by rw [Int.natAbs_natCast]; exact lt4096' (Nat.lt_trans hr hb2))
      rw [shl_eq]
      repeat walk_at "v"
      rw [← Int.natCast_add]
      repeat walk_at "v"
      refine CallOk.eq rfl (div2n1n_ok hT (r * 2 ^ n + d) b n hb hb2 (Nat.le_trans (bits_le ht) (by decide))) ?_
      refine Asg.tuple (Asgs.cons (Asgs.cons (Asgs.nil ?_)))
      repeat walk_at "v"
      refine Me.append ?_ hkl
      repeat walk_at "v"
      refine ⟨_, hmu, by simp; omega, rfl, ?_⟩
      repeat walk_at "v"
      refine ⟨hb', hn', rfl, k, hq, ?_⟩
      · show (σ.mu.set k _)[k]? = _
        rw [List.getElem?_set_self hkl]; simp
    case done =>
      rintro σ' ⟨_, hn', hr', k, hq, hmu⟩
      have hkl : k < σ'.mu.length := (List.getElem?_eq_some_iff.mp hmu).1
      repeat walk_at "v"
      refine Me.reverse hmu (by simp; omega) ?_
      repeat walk_at "v"
      refine We.call (d := 10) (FnIs.at (FnIs.ofK hT (by rfl) (by rfl) (by rfl) (by rfl) (by rfl) (by rfl) (by rfl))) ?_ (Nat.le_of_ble_eq_true rfl)
      repeat walk_at "v"
      rw [← List.map_reverse]
      refine ⟨_, _, _, purs_ref (k := k) (fr := false) (ds := (divRun n b 0 [] (natDigits a n (nDigits a n)).reverse).2.reverse.map fun k : Nat => V.int (k : Int)) (List.getElem?_set_self hkl) (arePure_nats _), digits2int_ok hT hP2 _ n (by rw [List.length_reverse]; exact hlen) hn2 ?_, ?_⟩
      · rw [digVal_low, hrun.1]; exact Nat.lt_of_le_of_lt (Nat.div_le_self _ _) ha2
      · rintro _ rfl
        rw [digVal_low, hrun.1]
        rw [hrun.2] at hr'
        repeat walk_at "v"
        exact ⟨_, _, rfl, rfl⟩

/-! Y4 -/
structure TabsOk (T : Tbl) : Prop where
  t1 : T.tabs 37 = some (Str.ofString "_int2digits" ++ Str.ofString ".<locals>." ++ Str.ofString "inner")
  t2 : T.tabs 44 = some (Str.ofString "_digits2int" ++ Str.ofString ".<locals>." ++ Str.ofString "inner")

theorem int_divmod_nat {T : Tbl} (hT : Tops T hd.heap_39) (hP : TabsOk T) (a b : Nat) (hb : 0 < b) (ha2 : a < 2 ^ 256) (hb2 : b < 2 ^ 256) :
    FnOk T 12 "int_divmod" [.int a, .int b] (fun v => v = .tup [.int ((a / b : Nat) : Int), .int ((a % b : Nat) : Int)]) := by
  refine FnOk.intro (dargs := []) (FnIs.ofK hT (by rfl) (by rfl) (by rfl) (by rfl) (by rfl) (by rfl) (by rfl)) ["a", "b"] ?_ rfl (by rfl) hT.plain ?_
  · intro s vals top hl
    obtain ⟨a, b, rfl⟩ := vals2 hl
    exact ⟨[], fun _ => .nil, BindsTo.of_eq rfl⟩
  · dsimp only
    repeat walk_at "v"
    rw [if_neg (by simp; omega)]
    repeat walk_at "v"
    refine We.call (d := 11) (FnIs.at (FnIs.ofK hT (by rfl) (by rfl) (by rfl) (by rfl) (by rfl) (by rfl) (by rfl))) ?_ (Nat.le_of_ble_eq_true rfl)
    repeat walk_at "v"
    refine CallOk.eq rfl (divmod_pos_ok hT hP.t1 hP.t2 a b hb ha2 hb2) ?_
    exact ⟨_, _, rfl, rfl⟩

theorem neg_divmod (a b : Nat) (hb : 0 < b) : (-(a : Int) - 1) / (b : Int) = -((a / b : Nat) : Int) - 1 ∧ (-(a : Int) - 1) % (b : Int) = (b : Int) + (-((a % b : Nat) : Int) - 1) := by
  have h1 := Nat.div_add_mod a b
  have h2 := Nat.mod_lt a hb
  have h3 : (a : Int) = (b : Int) * ((a / b : Nat) : Int) + ((a % b : Nat) : Int) := by exact_mod_cast h1.symm
  have h4 : (((a % b : Nat) : Int)) < (b : Int) := by exact_mod_cast h2
  have h5 : (0 : Int) ≤ ((a % b : Nat) : Int) := Int.natCast_nonneg _
  have e : -(a : Int) - 1 = ((b : Int) + (-((a % b : Nat) : Int) - 1)) + (b : Int) * (-((a / b : Nat) : Int) - 1) := by
    rw [Int.mul_sub, Int.mul_neg, Int.mul_one]; omega
  have hb' : (b : Int) ≠ 0 := by omega
  constructor
  · rw [e, Int.add_mul_ediv_left _ _ hb', Int.ediv_eq_zero_of_lt (by omega) (by omega), Int.zero_add]
  · rw [e, Int.add_mul_emod_self_left, Int.emod_eq_of_lt (by omega) (by omega)]

theorem int_divmod_pos {T : Tbl} (hT : Tops T hd.heap_39) (hP : TabsOk T) (a : Int) (b : Nat) (hb : 0 < b) (ha2 : a.natAbs < 2 ^ 256) (hb2 : b < 2 ^ 256) :
    FnOk T 13 "int_divmod" [.int a, .int b] (fun v => v = .tup [.int (a / (b : Int)), .int (a % (b : Int))]) := by
  rcases (by omega : a < 0 ∨ 0 ≤ a) with hn | hn
  · obtain ⟨a', rfl⟩ : ∃ a' : Nat, a = -(a' : Int) - 1 := ⟨(-a - 1).toNat, by omega⟩
    have h2 := neg_divmod a' b hb
    refine FnOk.intro (dargs := []) (FnIs.ofK hT (by rfl) (by rfl) (by rfl) (by rfl) (by rfl) (by rfl) (by rfl)) ["a", "b"] ?_ rfl (by rfl) hT.plain ?_
    · intro s vals top hl
      obtain ⟨a, b, rfl⟩ := vals2 hl
      exact ⟨[], fun _ => .nil, BindsTo.of_eq rfl⟩
    · dsimp only
      repeat walk_at "v"
      rw [if_neg (by simp; omega)]
      repeat walk_at "v"
      rw [if_pos (by simp; omega)]
      repeat walk_at "v"
      refine Ws.assignTup ?_
      refine We.call (d := 12) (FnIs.at (FnIs.ofK hT (by rfl) (by rfl) (by rfl) (by rfl) (by rfl) (by rfl) (by rfl))) ?_ (Nat.le_of_ble_eq_true rfl)
      repeat walk_at "v"
      rw [show -(-(a' : Int) - 1) - 1 = (a' : Int) by omega]
      repeat walk_at "v"
      refine CallOk.eq rfl (int_divmod_nat hT hP a' b hb (by omega) hb2) ?_
      refine Asg.tuple (Asgs.cons (Asgs.cons (Asgs.nil ?_)))
      repeat walk_at "v"
      exact ⟨_, _, rfl, by rw [h2.1, h2.2]; rfl⟩
  · obtain ⟨a', rfl⟩ := Int.eq_ofNat_of_zero_le hn
    refine ((int_divmod_nat hT hP a' b hb (by simpa using ha2) hb2).le (by omega)).mono ?_
    rintro v rfl
    rw [Int.natCast_ediv, Int.natCast_emod]

/-- what int_divmod tells -/
noncomputable def dmQ (a b : Int) : Int := if 0 < b then a / b else (-a) / (-b)
noncomputable def dmR (a b : Int) : Int := if 0 < b then a % b else -((-a) % (-b))
theorem int_divmod_ok {T : Tbl} (hT : Tops T hd.heap_39) (hP : TabsOk T) (a b : Int) (hb : b ≠ 0) (ha2 : a.natAbs < 2 ^ 256) (hb2 : b.natAbs < 2 ^ 256) :
    FnOk T 14 "int_divmod" [.int a, .int b] (fun v => v = .tup [.int (dmQ a b), .int (dmR a b)]) := by
  rcases (by omega : b < 0 ∨ 0 ≤ b) with hn | hn
  · obtain ⟨b', hb', rfl⟩ : ∃ b' : Nat, 0 < b' ∧ b = -(b' : Int) := ⟨(-b).toNat, by omega, by omega⟩
    refine FnOk.intro (dargs := []) (FnIs.ofK hT (by rfl) (by rfl) (by rfl) (by rfl) (by rfl) (by rfl) (by rfl)) ["a", "b"] ?_ rfl (by rfl) hT.plain ?_
    · intro s vals top hl
      obtain ⟨a, b, rfl⟩ := vals2 hl
      exact ⟨[], fun _ => .nil, BindsTo.of_eq rfl⟩
    · dsimp only
      repeat walk_at "v"
      rw [if_neg (by simp; omega)]
      repeat walk_at "v"
      rw [if_pos (by simp; omega)]
      repeat walk_at "v"
      refine Ws.assignTup ?_
      refine We.call (d := 13) (FnIs.at (FnIs.ofK hT (by rfl) (by rfl) (by rfl) (by rfl) (by rfl) (by rfl) (by rfl))) ?_ (Nat.le_of_ble_eq_true rfl)
      repeat walk_at "v"
      rw [Int.neg_neg]
      repeat walk_at "v"
      refine CallOk.eq rfl (int_divmod_pos hT hP (-a) b' hb' (by rw [Int.natAbs_neg]; exact ha2) (by rw [Int.natAbs_neg, Int.natAbs_natCast] at hb2; exact hb2)) ?_
      refine Asg.tuple (Asgs.cons (Asgs.cons (Asgs.nil ?_)))
      repeat walk_at "v"
      exact ⟨_, _, rfl, by unfold dmQ dmR; rw [if_neg (by omega), if_neg (by omega), Int.neg_neg]; rfl⟩
  · obtain ⟨b', rfl⟩ := Int.eq_ofNat_of_zero_le hn
    have hb' : 0 < b' := by omega
    refine ((int_divmod_pos hT hP a b' hb' ha2 (by simpa using hb2)).le (by omega)).mono ?_
    rintro v rfl
    unfold dmQ dmR
    rw [if_pos (by omega), if_pos (by omega)]

/-! Y5 -/
noncomputable def apWord (n : Nat) : List UInt8 := if h : n = 0 then [] else apWord (n / 16) ++ [(65 + n % 16).toUInt8]
termination_by n
decreasing_by omega
theorem apWord_len : ∀ (j n : Nat), n < 16 ^ j → (apWord n).length ≤ j
  | 0, n, h => by
    have : n = 0 := by simpa using h
    subst this; rw [apWord]; simp
  | j + 1, n, h => by
    rw [apWord]
    split
    · simp
    · rw [List.length_append]
      have := apWord_len j (n / 16) (by rw [Nat.pow_succ] at h; omega)
      simp; omega
theorem ap_pick : ∀ m : Nat, m < 16 → pickB [65, 66, 67, 68, 69, 70, 71, 72, 73, 74, 75, 76, 77, 78, 79, 80] (some (m : Int)) (some ((m : Int) + 1)) = [(65 + m).toUInt8] := by decide

theorem int2ap_ok {T : Tbl} (hT : Tops T hd.heap_39) (z : Int) (hz : z.natAbs < 2 ^ 256) :
    FnOk T 0 "Int2AP" [.int z] (fun v => v = .bytes (apWord z.natAbs)) := by
  have e16 : (16 : Nat) ^ 64 = 2 ^ 256 := by decide +kernel
  have hlen : (apWord z.natAbs).length ≤ 64 := apWord_len 64 _ (by rw [e16]; exact hz)
  refine FnOk.intro (dargs := []) (FnIs.ofK hT (by rfl) (by rfl) (by rfl) (by rfl) (by rfl) (by rfl) (by rfl)) ["num"] ?_ rfl (by rfl) hT.plain ?_
  · intro s vals top hl
    obtain ⟨a, rfl⟩ := vals1 hl
    exact ⟨[], fun _ => .nil, BindsTo.of_eq rfl⟩
  · dsimp only
    repeat walk_at "v"
    refine Cb.abs ?_
    repeat walk_at "v"
    refine Cb.int ?_
    repeat walk_at "v"
    refine Ws.while (fun k σ => ∃ w, σ.loc "num" = some (.int (k : Nat)) ∧ σ.loc "val" = some (.bytes w) ∧ σ.loc "AP" = some (.bytes [65, 66, 67, 68, 69, 70, 71, 72, 73, 74, 75, 76, 77, 78, 79, 80]) ∧ apWord k ++ w = apWord z.natAbs ∧ k < 2 ^ 256) z.natAbs ⟨[], rfl, rfl, rfl, by simp, hz⟩ ?_
    rintro k σ ⟨w, h1, h2, h3, h4, h5⟩
    repeat walk_at "v"
    split
    · rename_i hc
      have hk : k ≠ 0 := by simp at hc; omega
      rw [apWord, dif_neg hk] at h4
      have hw : w.length ≤ 64 := by
        have := congrArg List.length h4
        simp at this; omega
      repeat walk_at "v"
      refine Ws.assignTup ?_
      repeat walk_at "v"
      refine Cb.divmod (by decide) (lt4096 (by decide)) ?_
      refine Asg.tuple (Asgs.cons (Asgs.cons (Asgs.nil ?_)))
      repeat walk_at "v"
      have e1 : (k : Int) / 16 = ((k / 16 : Nat) : Int) := by omega
      have e2 : (k : Int) % 16 = ((k % 16 : Nat) : Int) := by omega
      rw [e1, e2]
      refine Sl.bytes (by decide) ?_
      rw [ap_pick _ (Nat.mod_lt _ (by decide))]
      repeat walk_at "v"
      refine Bi.catB (by simp; omega) ?_
      repeat walk_at "v"
      refine ⟨k / 16, by omega, _, rfl, rfl, h3, by rw [← h4, List.append_assoc], by omega⟩
    · rename_i hc
      have hk : k = 0 := by simp at hc; omega
      subst hk
      rw [apWord] at h4
      repeat walk_at "v"
      exact ⟨_, _, rfl, by rw [← h4]; rfl⟩

/-! Y6 -/
theorem Asg.mono {C : Cx} {σ : St} {t : Expr} {d : V} {Φ Ψ : St → Prop} (h : Asg C σ t d Φ) (k : ∀ σ', Φ σ' → Ψ σ') : Asg C σ t d Ψ :=
  fun X ok G s val R hv => wpAny_mono (h X ok G s val R hv) (fun _ _ ⟨G', σ', a, r, q⟩ => ⟨G', σ', a, r, k _ q⟩) fun _ _ e => e
theorem Wfor.inv {C : Cx} {t : Expr} {body : List Stmt} {Φ : Fl → St → Prop} (Inv : Nat → St → Prop) (items : List V)
    (step : ∀ i d σ, items[i]? = some d → Inv i σ → Asg C σ t d fun σ₁ => Wx C σ₁ body (LoopK Φ (Inv (i + 1)))) (hn : ∀ σ', Inv items.length σ' → Φ .next σ') :
    ∀ (rest : List V) (i : Nat) (σ : St), items.drop i = rest → i ≤ items.length → Inv i σ → Wfor C t body Φ rest σ
  | [], i, σ, hd, hi, h => by
    have : items.length ≤ i := List.drop_eq_nil_iff.mp hd
    have e : i = items.length := by omega
    subst e
    exact hn σ h
  | d :: rest, i, σ, hd, hi, h => by
    have hlt : i < items.length := by
      rcases Nat.lt_or_ge i items.length with h | h
      · exact h
      · rw [List.drop_eq_nil_of_le h] at hd; cases hd
    have e := List.drop_eq_getElem_cons hlt
    rw [hd] at e
    obtain ⟨e1, e2⟩ := List.cons.inj e
    have hget : items[i]? = some d := by rw [List.getElem?_eq_getElem hlt, e1]
    refine (step i d σ hget h).mono fun σ₁ h₁ => h₁.mono fun f σ' hf => ?_
    have go : ∀ σ', Inv (i + 1) σ' → Wfor C t body Φ rest σ' := fun σ' h' => Wfor.inv Inv items step hn rest (i + 1) σ' e2.symm hlt h'
    cases f with
    | next => exact go _ hf
    | cont => exact go _ hf
    | brk => exact hf
    | ret v => exact hf
noncomputable def fibs : Nat → List Int
  | 0 => [1, 1]
  | k + 1 => fibs k ++ [(fibs k).getD k 0 + (fibs k).getD (k + 1) 0]
theorem listOf_ref {σ : St} {k : Nat} {fr : Bool} {ds : List V} (h : σ.mu[k]? = some (fr, ds)) : σ.listOf (.ref k) = some ds := by simp [St.listOf, h]
/-! Y7 -/
theorem pickL_map {α β : Type} (f : α → β) (l : List α) (lo hi st : Option Int) : pickL (l.map f) lo hi st = (pickL l lo hi st).map f := by
  simp [pickL, List.map_filterMap]
theorem caps_cons {σ σ₁ σ₂ : St} {n : Str} {r : List Str} {v v' : V} {cs : List (Str × V)} (hv : σ.loc n = some v) (hp : σ.pur v = some (v', σ₁)) (hr : σ₁.caps r = some (cs, σ₂)) : σ.caps (n :: r) = some ((n, v') :: cs, σ₂) := by
  simp only [St.caps, hv, hp, hr]
theorem pur_tints {σ : St} (ns : List Int) : σ.pur (.tup (ns.map V.int)) = some (.tup (ns.map V.int), σ) := by simp [St.pur, V.isPure, arePure_map_int]
theorem ceil_le {d c : Int} (hd : 0 < d) (hc : 0 < c) : (d + c - 1) / c ≤ d := by
  refine Int.ediv_le_of_le_mul hc ?_
  have : 0 ≤ (d - 1) * (c - 1) := Int.mul_nonneg (by omega) (by omega)
  have e : (d - 1) * (c - 1) = d * c - d - c + 1 := by rw [Int.sub_mul, Int.mul_sub]; omega
  omega
theorem range_len (a b c : Int) (n : Nat) (hc : 0 < c) (h0 : 0 ≤ a) (h1 : b ≤ n) : (sliceRange a b c).length ≤ n := by
  unfold sliceRange
  dsimp only
  rw [if_pos hc, List.length_map, List.length_range]
  split
  · rename_i hlt
    have := ceil_le (d := b - a) (by omega) hc
    omega
  · simp
theorem pickL_len {α : Type} (l : List α) (lo hi st : Option Int) (hs : 0 < st.getD 1) : (pickL l lo hi st).length ≤ l.length := by
  unfold pickL
  refine Nat.le_trans (List.length_filterMap_le _ _) ?_
  refine range_len _ _ _ _ hs ?_ ?_
  · cases lo <;> simp only [sliceBounds, if_pos hs]
    · omega
    · split <;> omega
  · cases hi <;> simp only [sliceBounds, if_pos hs]
    · omega
    · split <;> omega
theorem pickL_mem {α : Type} {l : List α} {lo hi st : Option Int} {x : α} (h : x ∈ pickL l lo hi st) : x ∈ l := by
  unfold pickL at h
  obtain ⟨i, _, e⟩ := List.mem_filterMap.mp h
  exact List.mem_of_getElem? e
theorem comp1n {C : Cx} {x : Str} {px : Pos} {elt : Expr} {ifs : List Expr} {σ : St} {Φ : St → Prop} (ps : List Int) (p : Int → Bool) (g : Int → Int) (hk : kindOk C x = true) (hz : ps.length ≤ 1000000) (h0 : σ.mu = [(false, [])])
    (h : ∀ i ∈ ps, ∀ σ₁ : St, (∀ n, n ≠ x → σ₁.loc n = σ.loc n) → σ₁.loc x = some (.int i) → Wifs C ifs σ₁ fun b σ₂ => b = p i ∧ σ₂ = σ₁ ∧ (b = true → We C σ₁ elt fun v σ₃ => v = .int (g i) ∧ σ₃.loc = σ₁.loc ∧ σ₃.mu[0]? = σ₁.mu[0]?))
    (hΦ : ∀ σ' : St, σ'.mu[0]? = some (false, ((ps.filter p).map g).map V.int) → Φ σ') : Witems C (.Name x px) (Wturn C elt [] ifs) (ps.map V.int) σ Φ :=
  comp1i ps p (fun i => .int (g i)) hk hz h0 h fun σ' hmu => hΦ σ' (by rw [hmu, List.map_map]; rfl)
theorem filter_tt {α : Type} (l : List α) : l.filter (fun _ => true) = l := List.filter_eq_self.mpr fun _ _ => rfl
theorem rng1 {n : Nat} : Builtin.Range.rangeSize 0 (n : Int) 1 = (n : Int) := by
  unfold Builtin.Range.rangeSize
  simp
  omega
theorem rng1s {n : Nat} (h : n ≤ 1000000) : Builtin.Range.small 0 (n : Int) 1 = true := by
  unfold Builtin.Range.small
  rw [rng1]
  unfold Builtin.Range.rangeFitsLong
  simp only [Bool.and_eq_true, Bool.or_eq_true, decide_eq_true_eq, beq_iff_eq]
  simp only [if_pos (show ((1 : Int) > 0) by decide)]
  refine ⟨⟨⟨⟨by omega, by omega⟩, by omega⟩, by omega⟩, .inr ?_⟩
  simp only [Bool.and_eq_true, decide_eq_true_eq]
  omega
theorem law_cells_ok {T : Tbl} (hT : Tops T hd.heap_39) (ns bs : List Int) (hn : ns.length ≤ 1000) (hb : bs.length ≤ 10) (hb0 : bs ≠ []) : FnOk T 0 "_law_cells" [.list (ns.map .int), .tup (bs.map .int)] (fun v => ∃ cs : List Int, cs.length = bs.length ∧ v = .list (cs.map .int)) := by
  refine FnOk.intro (dargs := []) (FnIs.ofK hT (by rfl) (by rfl) (by rfl) (by rfl) (by rfl) (by rfl) (by rfl)) ["script", "bases"] ?_ rfl (by rfl) hT.plain ?_
  · intro s vals top hl
    obtain ⟨a, b, rfl⟩ := vals2 hl
    exact ⟨[], fun _ => .nil, BindsTo.of_eq rfl⟩
  · dsimp only
    have hbl : 0 < bs.length := List.length_pos_iff.mpr hb0
    refine Wx.cons ?_
    refine Ws.assignComp hT.plain ?_
    repeat walk_at "v"
    refine Sl.list (ds := ns.map .int) rfl (by simp; omega) (by decide) ?_
    rw [pickL_map]
    refine ⟨_, _, _, [], _, pur_ints _, Src.list, rfl, ?_⟩
    generalize hP : pickL ns none (some 60) none = ps
    have hpl : ps.length ≤ 1000 := by rw [← hP]; exact Nat.le_trans (pickL_len _ _ _ _ (by decide)) hn
    refine comp1n ps (fun _ => true) (fun i => i % 1000000) rfl (by omega) rfl ?hs ?hd
    case hs =>
      intro i _ σ₁ h1 h2
      refine ⟨rfl, rfl, fun _ => ?_⟩
      repeat walk_at "v"
      refine Bi.mod ?_ (by decide)
      exact ⟨rfl, rfl, rfl⟩
    case hd =>
      intro σ' hmu
      rw [filter_tt] at hmu
      refine ⟨_, _, hmu, arePure_map_int _, ?_⟩
      have hFl : (ps.map fun i => i % 1000000).length ≤ 1000 := by simpa using hpl
      have hFb : ∀ n ∈ (ps.map fun i => i % 1000000), 0 ≤ n ∧ n < 1000000 := by
        intro n hn'
        obtain ⟨i, _, rfl⟩ := List.mem_map.mp hn'
        omega
      generalize (ps.map fun i => i % 1000000) = few at hFl hFb ⊢
      repeat walk_at "v"
      refine Cb.lenT (by simp; omega) ?_
      rw [List.length_map]
      repeat walk_at "v"
      refine Cb.range1 ?_
      refine ⟨_, _, _, _, _, rfl, Src.range rng1 (rng1s (by omega)), caps_cons rfl (pur_tints _) (caps_cons rfl (pur_ints _) rfl), ?_⟩
      rw [rangeV_ints]
      refine comp1n _ (fun _ => true) (fun k => bs.getD k.toNat 0 + (pickL few (some k) none (some bs.length)).sum) rfl (by simp; omega) rfl ?hs2 ?hd2
      case hs2 =>
        intro k hk σ₁ h1 h2
        have hkb : 0 ≤ k ∧ k < bs.length := by
          obtain ⟨i, hi, rfl⟩ := List.mem_map.mp hk
          have := List.mem_range.mp hi
          omega
        have e1 : σ₁.loc "bases" = some (.tup (bs.map V.int)) := (h1 _ (by decide)).trans rfl
        have e2 : σ₁.loc "few" = some (.list (few.map V.int)) := (h1 _ (by decide)).trans rfl
        refine ⟨rfl, rfl, fun _ => ?_⟩
        repeat walk_at "v"
        refine Su.tup (v := .int (bs.getD k.toNat 0)) hkb.1 (by omega) (getD_int (by omega)) ?_
        repeat walk_at "v"
        refine Cb.lenT (by simp; omega) ?_
        rw [List.length_map]
        repeat walk_at "v"
        refine Sl.list (ds := few.map .int) rfl (by simp; omega) (by intro h; have h' : (bs.length : Int) = 0 := Option.some.inj h; omega) ?_
        rw [pickL_map]
        repeat walk_at "v"
        refine Cb.sum (ns := pickL few (some k) none (some bs.length)) (by simp [St.listOf]) (Nat.le_trans (pickL_len _ _ _ _ (Int.ofNat_lt.mpr hbl)) (by omega)) ?_ ?_
        · intro n hn'
          have := hFb n (pickL_mem hn')
          omega
        refine Bi.add ⟨rfl, rfl, rfl⟩
      case hd2 =>
        intro σ'' hmu
        rw [filter_tt] at hmu
        refine ⟨_, _, hmu, arePure_map_int _, ?_⟩
        exact ⟨_, _, pur_ints _, _, by simp, rfl⟩

/-! VM1 -/
/-! functions without a name, handed over by a keyword -/
theorem callPost_of {T : Tbl} {d : Nat} {sc : Scope} {X : Ctx} {s s' : Shared} {G : Ghost} {P₂ : Addr → Obj → Prop} {adr : List Addr} {lm : Nat → FuncData → Prop} {σ : St} {val : Value} {v : V} {Ψ : V → Prop} (h0 : X.k₀ = fun b o => T.tabs b = none ∧ s.heap.get? b = some o) (hP : X.P₀ = G.P) (hg : X.g₀ = s)
    (R₂ : Rep ⟨T, d, sc, true⟩ X ⟨P₂, adr, lm⟩ σ s') (hv : VR ⟨P₂, [], G.lm⟩ val v) (hΨ : Ψ v) : CallPost T G s Ψ (.ok (.ret val)) s' := by
  obtain ⟨sg, sd, so⟩ := R₂.same
  rw [hg] at sg sd so
  refine ⟨val, s'.heap, s'.toks, P₂, v, rfl, ?_, fun b o ht e => R₂.keep b o (by rw [h0]; exact ⟨ht, e⟩), fun b o e => R₂.sub b o (by rw [hP]; exact e), R₂.pers, fun b o e => ?_, R₂.tab, hv, hΨ⟩
  · obtain ⟨a1, a2, a3, a4, a5⟩ := s'
    have sg' : a2 = s.gens := sg
    have sd' : a3 = s.drawn := sd
    have so' : a5 = s.os := so
    subst sg' sd' so'
    rfl
  · rcases R₂.grow b o e with q | q
    · rw [hP] at q; exact .inl q
    · right
      cases w : s.heap.get? b with
      | none => rfl
      | some o' =>
        cases ht : T.tabs b with
        | none => exact absurd (by rw [h0]; exact ⟨ht, w⟩) (q o')
        | some q' => exact ((R₂.tabOff b q' ht).P o e).elim

/-- a def of the text that is called with other arguments than plain ones -/
noncomputable def FnOkK (T : Tbl) (d : Nat) (n : Str) (ar : List Value → Args) (args : List V) (Ψ : V → Prop) : Prop :=
  ∀ a, T.mg n = some (.ref a) → ∀ A s G vals, Room A (d + 1) → TopF T s.heap → (∀ a o, G.P a o → s.heap.get? a = some o) → (∀ Q q, T.tabs Q = some q → ∀ o, ¬ G.P Q o) → TabOk T G.P s.heap → G.adr = [] → G.lm = T.lm → VRs G vals args →
      codeAny (model T.prog T.w) A (.call (.ref a) (ar vals)) (CallPost T G s Ψ) s
theorem FnOkK.intro {T : Tbl} {d : Nat} {n : Str} {args args' : List V} {Ψ : V → Prop} {params : Arguments} {body : List Stmt} {scope : Scope} {fd : FuncData} (F : FnIs T n params body scope fd) (ar : List Value → Args) (ns : List Str)
    (hb : ∀ (s : Shared) (vals : List Value), TopF T s.heap → vals.length = args.length → ∃ full, (∀ G : Ghost, VRs G vals args → VRs G full args') ∧ BindsTo s fd (ar vals) (ns.zip full))
    (hl : ns.length = args'.length) (hk : bindsOk scope ns = true) (hT : T.Plain)
    (h : Wx ⟨T, d, scope, true⟩ ⟨bindV ns args', []⟩ body (Ret Ψ)) : FnOkK T d n ar args Ψ := by
  intro a hg A s G vals room top pers tabP tab hadr hlm hv
  refine F.enterK ar ns (fun _ => T.lm) (fun _ => T.fact) hb hl hk (fun _ _ _ _ _ => hT _ _) (fun env G vals ds e _ _ r => by rw [← e]; exact r) hg room top pers tabP tab hadr hlm hv fun env s₁ N => ?_
  refine wpAny_mono (h _ N.ok _ _ N.rep) (fun f s' ⟨G', σ', f', le, R', fr, v', σ'', hp, hΨ⟩ => ?_) fun _ _ e => e.elim
  obtain ⟨P₂, R₂, l₂, r₂⟩ := R'.pur fr.val hp
  have e1 : G'.lm = T.lm := le.lm.symm
  exact callPost_of (X := { A := A.deeper env, env := env, k₀ := fun b o => T.tabs b = none ∧ s.heap.get? b = some o, P₀ := G.P, g₀ := s }) rfl rfl rfl R₂ (by rw [hlm, ← e1]; exact r₂) hΨ

structure LamIs (params : Arguments) (body : Expr) (scope : Scope) (fd : FuncData) : Prop where
  params : fd.params = params
  body : fd.body = .expr body
  scope : fd.scope = scope
  globals : fd.globals = mainGlobals
  closure : fd.closure = []
  builtins : fd.builtins = builtinsNs
  defaults : fd.defaults = .none
  kwdefaults : fd.kwdefaults = .none

inductive LamRet (Ψ : V → Prop) (r : V) (σ : St) : Prop
  | mk (r' : V) (σ' : St) (h1 : σ.pur r = some (r', σ')) (h2 : Ψ r') : LamRet Ψ r σ
inductive LamCall (T : Tbl) (d : Nat) (ns : List Str) (isc : Scope) (e : Expr) (Φ : V → St → Prop) (vs : List V) (σ₁ : St) : Prop
  | mk (vs' : List V) (σ₂ : St) (Ψ : V → Prop) (h1 : σ₁.purs vs = some (vs', σ₂)) (hl : ns.length = vs'.length) (h2 : We ⟨T, d, isc, true⟩ ⟨bindV ns vs', []⟩ e (LamRet Ψ)) (h3 : ∀ r, Ψ r → Φ r σ₂) : LamCall T d ns isc e Φ vs σ₁
/-- a call of such a function by the name that it was handed over by -/
theorem We.callLam {C : Cx} {σ : St} {pos pf : Pos} {Φ : V → St → Prop} {f : Str} {es : List Expr} {k d : Nat} {params : Arguments} {e : Expr} {isc : Scope} {ns : List Str} (hT : C.T.Plain) (hL : ∀ fd, C.T.lm k fd → LamIs params e isc fd) (hv : σ.loc f = some (.lam k))
    (h : Wes C σ es (LamCall C.T d ns isc e Φ)) (hb : ∀ s fd vals, LamIs params e isc fd → vals.length = ns.length → BindsTo s fd ⟨vals, []⟩ (ns.zip vals)) (hk : bindsOk isc ns = true)
    (hd : d + 1 ≤ C.d) (ha : es.all noStar = true := by rfl) (he : es ≠ [] := by simp)
    (hdb : (f == ("__debug__" : Str)) = false := by decide) (hcd : (f == ("__classdict__" : Str)) = false := by decide) : We C σ (.Call (.Name f pf) es [] pos) Φ := fun X ok G s R => by
  show wpAny _ _ (eval (.Name f pf) X.env >>= fun fv => callWith pos fv [] (backTo pos (starEach es X.env)) []) _ _ s
  have hn : We C σ (.Name f pf) (fun v σ' => v = .lam k ∧ σ' = σ) := We.name hv ⟨rfl, rfl⟩ hdb hcd
  refine wpAny_bind (wpAny_mono (hn X ok G s R) ?_ fun _ _ e => e.elim)
  rintro fv s₀ ⟨G₀, _, _, l₀, R₀, r₀, rfl, rfl⟩
  cases r₀ with
  | @lam a c o oc fd _ hp hc hdat hlm hpc hcode hrec =>
  have I := hL fd (R₀.lmT ▸ hlm)
  refine callWith_function (o := o) (fd := fd) ?_
  obtain ⟨e₁, r, rfl⟩ := List.exists_cons_of_ne_nil he
  have hes : noStar e₁ = true := by simp only [List.all_cons, Bool.and_eq_true] at ha; exact ha.1
  have main := h X ok G₀ s₀ R₀ pos
  rw [starEach_cons hes] at main ⊢
  refine evalArgs_plain (wpAny_mono main (fun vals s₁ ⟨G₁, σ₁, vs, l₁, R₁, r₁, vs', σ₂, Ψ, h1, hl, h2, h3⟩ => ⟨⟨R₁.pers _ _ (l₁.P _ _ hp), hdat⟩, ?_⟩) fun _ _ e => e)
  obtain ⟨P₂, R₂, l₂, r₂⟩ := R₁.purs vals r₁ h1
  have hk' := hk
  simp only [bindsOk, Bool.and_eq_true, Bool.not_eq_true'] at hk'
  have room := ok.room.le hd
  have hpc' := R₁.pers _ _ (l₁.P _ _ hpc)
  refine wpAny_call ?_
  refine codeAny_mono (R := CallPost C.T ⟨P₂, [], G₁.lm⟩ s₁ Ψ) ?_ ?_
  · refine kla_callFunE (fd := fd) (by have := room.depth; omega) (R₁.pers _ _ (l₁.P _ _ hp)) hdat (by rw [I.scope]; exact hk'.1.2) (by rw [I.scope]; exact hk'.2) I.body (hrec _ hpc') (hb _ _ _ I (r₂.length.trans hl.symm) _ _ _ _ ?_)
    refine enter_env (d := d) (G := ⟨P₂, [], G₁.lm⟩) I.scope I.globals I.closure I.builtins (fun _ => C.T.lm) (fun _ => C.T.fact) hl hk (fun _ _ _ _ _ => hT _ _) room (R₁.top ok) R₂.pers (fun Q q hq => (R₂.tabOff Q q hq).P) R₂.tab rfl (fun env => by rw [← R₁.lmT]; exact r₂) fun env s₂ N => kla_codeExpr ?_
    refine wpAny_mono (h2 _ N.ok _ _ N.rep) (fun val s₃ ⟨G', σ', v, le, R', vr, r', σ'', hp', hΨ⟩ => ?_) fun _ _ e => e.elim
    obtain ⟨P₃, R₃, l₃, r₃⟩ := R'.pur vr hp'
    have e1 : G'.lm = C.T.lm := le.lm.symm
    exact callPost_of (X := { A := X.A.deeper env, env := env, k₀ := fun b o => C.T.tabs b = Option.none ∧ s₁.heap.get? b = some o, P₀ := P₂, g₀ := s₁ }) rfl rfl rfl R₃ (by show VR ⟨P₃, [], G₁.lm⟩ _ _; rw [R₁.lmT, ← e1]; exact r₃) hΨ
  · rintro r s' ⟨val, h', tk, P', v, rfl, rfl, hk, hs, hp, hn, ht, hv, hΨ⟩
    obtain ⟨R₃, l₃⟩ := R₂.extend (tk := tk) hk hs hp hn ht
    exact ⟨_, σ₂, v, ((l₀.trans l₁).trans l₂).trans l₃, R₃, VR.mono (G := ⟨P', [], G₁.lm⟩) (G' := ⟨P', G₁.adr, G₁.lm⟩) ⟨fun _ _ h => h, fun k a h => by simp at h, rfl⟩ hv, h3 v hΨ⟩

/-- the block of a def that makes such functions: what its frame's code and long name are -/
noncomputable def escL (C : Cx) (outer : List Env) (Ψ : V → Prop) (c : Addr) (q : Str) : Esc C :=
  ⟨fun X => Frm C outer X ∧ X.env.code = .ref c ∧ X.env.qual = q, Out C (locsOf outer) Ψ, fun _ _ _ _ _ _ R F => ⟨F.1.plus R, F.2⟩, fun _ _ _ _ _ _ _ _ R h => h.plus R, fun _ _ _ h => let ⟨v, _, _, e, _, _, _, _, _, _, _, _, _, _⟩ := h; ⟨v, e⟩⟩
theorem WeO.weaken {C : Cx} {K K' : Esc C} {σ : St} {e : Expr} {Φ : V → St → Prop} (h : WeO C K σ e Φ) (k : ∀ X, K'.Fr X → K.Fr X) : WeO C K' σ e Φ := fun X ok F G s R => h X ok (k X F) G s R
theorem WeO.lam {C : Cx} {outer : List Env} {Ψ₀ : V → Prop} {c P : Addr} {q : Str} {σ : St} {Φ : V → St → Prop} {params : Arguments} {body : Expr} {scope : Scope} {pos : Pos} {k : Nat} (hCH : ∀ h, C.T.K.In h → CodeHd h c P) (htab : C.T.tabs P = some (q ++ "<lambda>")) (hlm : ∀ fd, LamIs params body scope fd → C.T.lm k fd)
    (h : Φ (.lam k) σ) (hclo : ∀ env, closureFor scope env = pure []) (hdef : ∀ env, defaultsOf params env = ([], [])) : WeO C (escL C outer Ψ₀ c q) σ (.Lambda params body scope pos) Φ := fun X ok F G s R => by
  obtain ⟨F, hcode, hq⟩ := F
  have top := R.top ok
  obtain ⟨ps, hP, hTr, hAm⟩ := R.tab P _ htab
  have neP : ∀ a, C.T.tabs a = none → a ≠ P := fun a h e => by rw [e, htab] at h; cases h
  obtain ⟨bm, ob, b1, b2, b3, b4, b5, b6, b7, b8⟩ := top.bmain
  have hB : s.heap.BuiltinsAt C.T.mg P := ⟨bm, ob, b1, b2, b3, neP bm b8, b4, b5, b6, b7⟩
  have hC := hCH _ top.K
  refine kla_eval (hdef _) ?_
  rw [hq]
  have st := fun (G' : Ghost) (s' : Shared) (le : G.Le G') (R' : Rep C X G' σ s') (f : Addr) (fo oc : Obj) (c' : Addr) (fd : FuncData) (hf : G'.P f fo) (h1 : fo.cls = .type "function") (h2 : fo.data = .func fd) (h3 : C.T.lm k fd) (h4 : G'.P c' oc) (h5 : fd.code = .ref c')
      (h6 : ∀ h : Heap, h.get? c' = some oc → h.CodeRec fd.code fd.qualname) => (⟨G', σ, .lam k, le, R', VR.lam hf h1 h2 (R'.lmT ▸ h3) h4 h5 h6, h⟩ : Post C X G Φ (.ref f) s')
  cases hA : codeAmong pos ps.toList with
  | some cv =>
    obtain ⟨c', oc, rfl, hPc, hrec⟩ := hAm pos cv hA
    refine kla_makeFunctionHit (mg := C.T.mg) (hclo _) ok.globals top.g hcode hC hP hTr hA hB fun ctv h' tk hkeep hsz => ?_
    obtain ⟨R₁, l₁⟩ := (R.grown (h' := h') tk hkeep).push { cls := .type "function", data := .func (kla_fn "<lambda>" (q ++ "<lambda>") params body scope [] ((C.T.mg "__name__").getD .none) (.ref c') ctv) } tk
    exact st _ _ l₁ R₁ _ _ oc c' _ (.inr ⟨rfl, rfl⟩) rfl rfl (hlm _ ⟨rfl, rfl, rfl, rfl, rfl, rfl, rfl, rfl⟩) (l₁.P _ _ hPc) rfl hrec
  | none =>
    refine kla_makeFunction (mg := C.T.mg) (hclo _) ok.globals top.g hcode hC hP hTr hA (neP _ top.tabG) hB fun c' ctv h' tk hx hge hlt hrec htb => ?_
    obtain ⟨c₂, oc, vs, t, e2, hoc, hd, hv⟩ := hrec
    cases e2
    have fresh : ∀ a o, s.heap.objs.size ≤ a → ¬ s.heap.get? a = some o := fun a o h e => absurd (Heap.lt_size e) (Nat.not_lt.mpr h)
    have old : ∀ a o, C.T.tabs a = none → s.heap.get? a = some o → h'.get? a = some o := fun a o ht e => hx a o (neP a ht) e
    have hPs : ∀ a o, G.P a o → C.T.tabs a = none := fun a o h => by
      cases e : C.T.tabs a with
      | none => rfl
      | some q => exact ((R.tabOff a q e).P o h).elim
    have hrec' : ∀ h : Heap, h.get? c' = some oc → h.CodeRec (.ref c') (q ++ "<lambda>") := fun h e => ⟨c', oc, vs, t, rfl, e, hd, hv⟩
    obtain ⟨R₁, l₁⟩ := R.extend (h' := h') (tk := tk) (P' := fun a o => G.P a o ∨ (a = c' ∧ o = oc)) old (fun a o h => .inl h) (by
      rintro a o (h | ⟨rfl, rfl⟩)
      · exact old a o (hPs a o h) (R.pers a o h)
      · exact hoc) (by
      rintro a o (h | ⟨rfl, rfl⟩)
      · exact .inl h
      · right
        cases e : s.heap.get? a with
        | none => rfl
        | some o' => exact (fresh a o' hge e).elim) (by
      intro Q q' hq'
      by_cases hQ : Q = P
      · subst hQ
        rw [htab] at hq'; cases hq'
        refine ⟨_, htb, ?_, fun pos' cv hcv => ?_⟩
        · rw [Array.toList_append]; exact TriplesOk_snoc _ _ _ _ hTr
        · rw [Array.toList_append] at hcv
          rcases among_snoc _ hTr hcv with h1 | h1
          · obtain ⟨c1, o1, q1, q2, q3⟩ := hAm pos' cv h1
            exact ⟨c1, o1, q1, .inl q2, q3⟩
          · subst h1
            exact ⟨c', oc, rfl, .inr ⟨rfl, rfl⟩, hrec'⟩
      · obtain ⟨qs, g1, g2, g3⟩ := R.tab Q q' hq'
        refine ⟨qs, hx Q _ hQ g1, g2, fun pos' cv hcv => ?_⟩
        obtain ⟨c1, o1, q1, q2, q3⟩ := g3 pos' cv hcv
        exact ⟨c1, o1, q1, .inl q2, q3⟩)
    obtain ⟨R₂, l₂⟩ := R₁.push (kla_obj "<lambda>" (q ++ "<lambda>") params body scope [] ((C.T.mg "__name__").getD .none) c' ctv) tk
    exact st _ _ (l₁.trans l₂) R₂ _ _ oc c' _ (.inr ⟨rfl, rfl⟩) rfl rfl (hlm _ ⟨rfl, rfl, rfl, rfl, rfl, rfl, rfl, rfl⟩) (l₂.P _ _ (.inr ⟨rfl, rfl⟩)) rfl hrec'

noncomputable def arKey (kn : Str) (vals : List Value) : Args := ⟨vals.dropLast, [(kn, vals.getLastD .none)]⟩
inductive CallOkK (T : Tbl) (d : Nat) (f kn : Str) (Φ : V → St → Prop) (vs : List V) (v : V) (σ₁ : St) : Prop
  | mk (vs' : List V) (σ₂ : St) (Ψ : V → Prop) (h1 : σ₁.purs (vs ++ [v]) = some (vs', σ₂)) (h2 : FnOkK T d f (arKey kn) vs' Ψ) (h3 : ∀ r, Ψ r → Φ r σ₂) : CallOkK T d f kn Φ vs v σ₁
/-- f(e, .., key=x) -/
theorem WeO.callKey {C : Cx} {K : Esc C} {σ : St} {Φ : V → St → Prop} {f kn : Str} {pf kp pos : Pos} {e₁ : Expr} {er : List Expr} {le : Expr} {d : Nat} (hat : FnAt C.T f)
    (h : Wes C σ (e₁ :: er) fun vs σ₁ => WeO C K σ₁ le (CallOkK C.T d f kn Φ vs)) (hd : d + 1 ≤ C.d) (hf : C.sc.names.lookup f = some .globalImplicit)
    (hb : (f == ("__debug__" : Str)) = false) (ha : (e₁ :: er).all noStar = true) : WeO C K σ (.Call (.Name f pf) (e₁ :: er) [⟨Option.some kn, le, kp⟩] pos) Φ := fun X ok F G s R => by
  obtain ⟨a, fd, oc, od, osl, hg, hK⟩ := hat
  refine wpAny_Call_Name_kw (global_wp ok R hf hg ?_ hb)
  refine callWith_function_kw (o := ⟨oc, od, .func fd, osl⟩) (fd := fd) ?_
  have he : noStar e₁ = true := by simp only [List.all_cons, Bool.and_eq_true] at ha; exact ha.1
  refine evalArgs_kw2 rfl ?_ (starEach_cons he)
  refine wpAny_mono (h X ok G s R pos) (fun vals s₁ ⟨G₁, σ₁, vs, l₁, R₁, r₁, h₁⟩ => ?_) fun _ _ e => e.elim
  refine kwAll_cons (wpAny_mono (h₁ X ok F G₁ s₁ R₁) (fun val s₂ ⟨G₂, σ₂, v, l₂, R₂, r₂, vs', σ₃, Ψ, h1, h2, h3⟩ => kwAll_nil ?_) fun _ _ e => e.elim)
  have rr : VRs G₂ (vals ++ [val]) (vs ++ [v]) := (r₁.mono l₂).append (.cons r₂ .nil)
  obtain ⟨P₃, R₃, l₃, r₃⟩ := R₂.purs _ rr h1
  refine ⟨⟨(R₂.top ok).K _ _ hK, rfl⟩, wpAny_call ?_⟩
  have key : codeAny C.M X.A (.call (.ref a) (arKey kn (vals ++ [val]))) (CallPost C.T ⟨P₃, [], G₂.lm⟩ s₂ Ψ) s₂ :=
    h2 a hg X.A s₂ ⟨P₃, [], G₂.lm⟩ (vals ++ [val]) (ok.room.le hd) (R₂.top ok) R₃.pers (fun Q q hq => (R₃.tabOff Q q hq).P) R₃.tab rfl R₂.lmT r₃
  have ea : arKey kn (vals ++ [val]) = ⟨[] ++ vals, [(kn, val)]⟩ := by simp [arKey]
  rw [ea] at key
  refine codeAny_mono key ?_
  rintro r s' ⟨val', h', tk, P', v', rfl, rfl, hk, hs, hp, hn, ht, hv, hΨ⟩
  obtain ⟨R₄, l₄⟩ := R₃.extend (tk := tk) hk hs hp hn ht
  exact ⟨_, σ₃, v', ((l₁.trans l₂).trans l₃).trans l₄, R₄, VR.mono (G := ⟨P', [], G₂.lm⟩) (G' := ⟨P', G₂.adr, G₂.lm⟩) ⟨fun _ _ h => h, fun k a h => by simp at h, rfl⟩ hv, h3 v' hΨ⟩

/-- a def that makes such functions -/
theorem FnOkAt.introL {outer : List Env} {T : Tbl} {d : Nat} {n : Str} {args dargs : List V} {Ψ : V → Prop} {params : Arguments} {body : List Stmt} {scope : Scope} {fd : FuncData} {c : Addr} {q : Str} (F : FnIs T n params body scope fd) (ns : List Str) (hcode : fd.code = .ref c) (hqual : fd.qualname ++ ".<locals>." = q)
    (hb : ∀ (s : Shared) (vals : List Value), TopF T s.heap → vals.length = args.length → ∃ dvals, (∀ G : Ghost, VRs G dvals dargs) ∧ BindsTo s fd ⟨vals, []⟩ (ns.zip (vals ++ dvals)))
    (hl : ns.length = args.length + dargs.length) (hk : bindsOk scope ns = true) (hT : T.Plain)
    (h : WxO ⟨T, d, scope, true⟩ (escL ⟨T, d, scope, true⟩ outer Ψ c q) ⟨bindV ns (args ++ dargs), []⟩ body (Ret Ψ)) : FnOkAt outer T d n args Ψ := by
  intro a ha A s G vals room hfr hO top pers tabP tab hadr hlm hv
  refine F.enter ns (fun _ => T.lm) (fun _ => T.fact) hb hl hk (fun _ _ _ _ _ => hT _ _) (fun env G vals ds e _ _ r => by rw [← e]; exact r) ha room top pers tabP tab hadr hlm hv fun env s₁ N => ?_
  have ok := N.ok
  refine wpAny_mono (h _ ok ⟨⟨Around.frames_deeper hfr, N.frame, fun e he => ?_, fun L hL o => hO.P L hL o⟩, N.code.trans hcode, N.qual.trans hqual⟩ _ _ N.rep) (fun f s' hq => ?_) fun _ _ e => e.elim
  · obtain ⟨hk, L, o, hf, ho, hd⟩ := hO.at_ e he
    exact ⟨hk, L, o, hf, ⟨hO.tabs L (List.mem_filterMap.mpr ⟨e, he, hf⟩), ho⟩, hd⟩
  rcases hq with ⟨G', σ', f', le, R', fr, v', σ'', hp, hΨ⟩ | ⟨val, P', v, rfl, same, keep, soft, sub, pers', grow, tab', tabP', vr, psi⟩
  · have rv := fr.val
    obtain ⟨P₂, R₂, l₂, r₂⟩ := R'.pur rv hp
    refine ⟨valOf f, P₂, v', rfl, ⟨R₂.same, fun b o ht _ e => R₂.keep b o ⟨ht, e⟩, fun b o hb e => ⟨o.slots, R₂.keep b o ⟨hO.tabs b hb, e⟩⟩, fun b o e => R₂.sub b o e, R₂.pers, fun b o e => ?_, R₂.tab⟩, ?_, hΨ⟩
    · rcases R₂.grow b o e with q | q
      · exact .inl q
      · right
        cases w : s.heap.get? b with
        | none => rfl
        | some o' =>
          cases ht : T.tabs b with
          | none => exact absurd ⟨ht, w⟩ (q o')
          | some q' => exact ((R₂.tabOff b q' ht).P o e).elim
    · have e1 : G'.lm = T.lm := le.lm.symm
      exact e1 ▸ r₂
  · refine ⟨val, P', v, rfl, ⟨same, fun b o ht hb e => keep b o ⟨ht, e⟩ hb, fun b o hb e => soft b o ⟨hO.tabs b hb, e⟩ hb, sub, pers', fun b o e => ?_, tab'⟩, vr, psi⟩
    rcases grow b o e with q | q
    · exact .inl q
    · right
      cases w : s.heap.get? b with
      | none => rfl
      | some o' =>
        cases ht : T.tabs b with
        | none => exact absurd ⟨ht, w⟩ (q o')
        | some q' => exact (tabP' b q' ht o e).elim

/-! Y8 -/
local macro_rules | `(tactic| walk_at "bind") => `(tactic| (refine' bind_bis (by assumption) (by assumption) rfl rfl (by rfl) (by rfl) ?a ?b; (case a => exact rfl); (case b => intro M A E Q hn hq; repeat (first | exact hq | refine wpAny_pure ?_ | refine hn _ ?_ | refine wpAny_bind ?_))))

noncomputable def loopElse : List Stmt → Stmt
  | _ :: _ :: .If _ _ (w :: _) _ :: _ => w
  | _ => .Pass default
inductive KeyOk (T : Tbl) (d k : Nat) (ds : List V) (g : Nat → Int) : Prop
  | mk (params : Arguments) (e : Expr) (isc : Scope) (n : Str) (hL : ∀ fd, T.lm k fd → LamIs params e isc fd) (hb : ∀ s fd vals, LamIs params e isc fd → vals.length = 1 → BindsTo s fd ⟨vals, []⟩ ([n].zip vals)) (hk : bindsOk isc [n] = true)
      (hp : ∀ (i : Nat) (v : V), ds[i]? = some v → v.isPure = true) (h : ∀ (i : Nat) (v : V), ds[i]? = some v → We ⟨T, d, isc, true⟩ ⟨bindV [n] [v], []⟩ e (LamRet (fun r => r = .int (g i)))) : KeyOk T d k ds g
noncomputable def bisKInv (ds : List V) (x : Int) (k r : Nat) (F : Nat → Nat → Nat) (n : Nat) (σ : St) : Prop := ∃ lo hi : Nat, n = hi - lo ∧ hi ≤ ds.length ∧ F lo hi = r ∧ σ.loc "a" = some (.list ds) ∧ σ.loc "x" = some (.int x) ∧ σ.loc "lo" = some (.int lo) ∧ σ.loc "hi" = some (.int hi) ∧ σ.loc "key" = some (.lam k)
theorem purs_pure1 {σ : St} {v : V} (h : v.isPure = true) : σ.purs [v] = some ([v], σ) := by simp [St.purs, St.pur, h]
theorem purs_key {σ : St} {ds : List V} (x : Int) (k : Nat) (h : arePure ds = true) : σ.purs ([.list ds, .int x] ++ [.lam k]) = some ([.list ds, .int x, .lam k], σ) := by simp [St.purs, St.pur, V.isPure, h]
/-- key(a[mid]) -/
theorem We.key {C : Cx} {σ : St} {d k : Nat} {ds : List V} {g : Nat → Int} {i : Nat} {v : V} {Φ : V → St → Prop} {pf p1 : Pos} {e : Expr} (hT : C.T.Plain) (hK : KeyOk C.T d k ds g) (hi : ds[i]? = some v) (hv : σ.loc "key" = some (.lam k)) (hd : d + 1 ≤ C.d)
    (he : We C σ e fun w σ' => w = v ∧ σ' = σ) (h : Φ (.int (g i)) σ) (hs : noStar e = true := by rfl) : We C σ (.Call (.Name "key" pf) [e] [] p1) Φ := by
  obtain ⟨params, le, isc, n, hL, hb, hk, hp, hw⟩ := hK
  refine We.callLam (ns := [n]) hT hL hv (Wes.cons (We.mono he ?_) hs) (fun s fd vals I hl => hb s fd vals I hl) hk hd (by simp [hs]) (by simp)
  rintro w σ' ⟨rfl, rfl⟩
  exact Wes.nil ⟨_, _, _, purs_pure1 (hp i w hi), rfl, hw i w hi, fun r hr => by rw [hr]; exact h⟩
theorem bind3K {G : Ghost} {a b c : Value} {ds : List V} {x : Int} {k : Nat} (t : Tok) (h : VRs G [a, b, c] [.list ds, .int x, .lam k]) : VRs G [a, b, .int 0 t, .none, c] [.list ds, .int x, .int 0, .none, .lam k] := by
  obtain ⟨_, _, e1, p1, q1⟩ := h.cons_inv
  obtain ⟨_, _, e2, p2, q2⟩ := q1.cons_inv
  obtain ⟨_, _, e3, p3, q3⟩ := q2.cons_inv
  cases e1; cases e2; cases e3
  exact .cons p1 (.cons p2 (.cons (.int _ _) (.cons .none (.cons p3 .nil))))
theorem bisRk_loop {T : Tbl} {d dk k : Nat} {g : Nat → Int} (hT : Tops T hd.heap_39) (ds : List V) (hK : KeyOk T dk k ds g) (hdk : dk + 1 ≤ d) (x : Int) (lo hi : Nat) (hh : hi ≤ ds.length) (hz : ds.length ≤ 1000000) {σ : St} {Φ : Fl → St → Prop} (ha : σ.loc "a" = some (.list ds)) (hx : σ.loc "x" = some (.int x)) (hlo : σ.loc "lo" = some (.int lo)) (hhi : σ.loc "hi" = some (.int hi)) (hkey : σ.loc "key" = some (.lam k))
    (hΦ : ∀ σ', σ'.loc "lo" = some (.int ((bisR g x lo hi : Nat) : Int)) → Φ .next σ') :
    Ws ⟨T, d, fnScope (hd.heap_39 T.w.params) "bisect_right", true⟩ σ (loopElse (fnBody (hd.heap_39 T.w.params) "bisect_right")) Φ := by
  show Ws ⟨T, d, ⟨_, _, _, _, _⟩, true⟩ σ (.While _ _ _ _) Φ
  refine Ws.while (bisKInv ds x k (bisR g x lo hi) (bisR g x)) (hi - lo) ⟨lo, hi, rfl, hh, rfl, ha, hx, hlo, hhi, hkey⟩ ?_
  clear ha hx hlo hhi hh hkey
  rintro n σ ⟨lo', hi', rfl, hhi, hF, ha, hx, hlo, hhi', hkey⟩
  repeat walk_at "v"
  split
  · rename_i hc
    have hlt : lo' < hi' := by simpa using hc
    rw [bisR, dif_pos hlt] at hF
    repeat walk_at "v"
    refine Bi.div ?_ (by decide) (lt4096 (by decide))
    rw [mid_cast]
    have hm : (lo' + hi') / 2 < ds.length := by omega
    repeat walk_at "v"
    refine We.key (i := (lo' + hi') / 2) hT.plain hK (List.getElem?_eq_getElem hm) hkey hdk ?e ?_
    case e =>
      repeat walk_at "v"
      exact Su.item (v := ds[(lo' + hi') / 2]) (ds := ds) rfl (Int.natCast_nonneg _) (by omega) (by rw [Int.toNat_natCast]; exact List.getElem?_eq_getElem hm) ⟨rfl, rfl⟩
    repeat walk_at "v"
    split
    · rename_i hc2
      rw [if_pos (by simpa using hc2)] at hF
      repeat walk_at "v"
      exact ⟨_, by omega, lo', (lo' + hi') / 2, rfl, by omega, hF, ha, hx, hlo, rfl, hkey⟩
    · rename_i hc2
      rw [if_neg (by simpa using hc2)] at hF
      repeat walk_at "v"
      exact ⟨_, by omega, (lo' + hi') / 2 + 1, hi', rfl, hhi, hF, ha, hx, rfl, hhi', hkey⟩
  · rename_i hc
    have hge : ¬ lo' < hi' := by simpa using hc
    rw [bisR, dif_neg hge] at hF
    exact hΦ _ (by rw [← hF]; exact hlo)
theorem bisect_right_key {T : Tbl} (hT : Tops T hd.heap_39) (d dk : Nat) (ds : List V) (g : Nat → Int) (x : Int) (k : Nat) (hK : KeyOk T dk k ds g) (hdk : dk + 1 ≤ d) (hz : ds.length ≤ 1000000) :
    FnOkK T d "bisect_right" (arKey "key") [.list ds, .int x, .lam k] (fun v => v = .int ((bisR g x 0 ds.length : Nat) : Int)) := by
  refine FnOkK.intro (args' := [.list ds, .int x, .int 0, .none, .lam k]) (FnIs.ofK hT (by rfl) (by rfl) (by rfl) (by rfl) (by rfl) (by rfl) (by rfl)) (arKey "key") ["a", "x", "lo", "hi", "key"] ?_ rfl (by rfl) hT.plain ?_
  · intro s vals top hl
    obtain ⟨a, b, c, rfl⟩ := vals3 hl
    refine' ⟨[a, b, .int 0 ?tt, .none, c], fun G h => bind3K _ h, ?bb⟩; case bb => walk_at "bind"
  · dsimp only
    repeat walk_at "v"
    refine Cb.len (ds := ds) rfl (by omega) ?_
    repeat walk_at "v"
    refine bisRk_loop hT ds hK hdk x 0 ds.length (Nat.le_refl _) hz rfl rfl rfl rfl rfl ?_
    intro σ' h
    repeat walk_at "v"
    exact ⟨_, _, rfl, rfl⟩
theorem bisLk_loop {T : Tbl} {d dk k : Nat} {g : Nat → Int} (hT : Tops T hd.heap_39) (ds : List V) (hK : KeyOk T dk k ds g) (hdk : dk + 1 ≤ d) (x : Int) (lo hi : Nat) (hh : hi ≤ ds.length) (hz : ds.length ≤ 1000000) {σ : St} {Φ : Fl → St → Prop} (ha : σ.loc "a" = some (.list ds)) (hx : σ.loc "x" = some (.int x)) (hlo : σ.loc "lo" = some (.int lo)) (hhi : σ.loc "hi" = some (.int hi)) (hkey : σ.loc "key" = some (.lam k))
    (hΦ : ∀ σ', σ'.loc "lo" = some (.int ((bisL g x lo hi : Nat) : Int)) → Φ .next σ') :
    Ws ⟨T, d, fnScope (hd.heap_39 T.w.params) "bisect_left", true⟩ σ (loopElse (fnBody (hd.heap_39 T.w.params) "bisect_left")) Φ := by
  show Ws ⟨T, d, ⟨_, _, _, _, _⟩, true⟩ σ (.While _ _ _ _) Φ
  refine Ws.while (bisKInv ds x k (bisL g x lo hi) (bisL g x)) (hi - lo) ⟨lo, hi, rfl, hh, rfl, ha, hx, hlo, hhi, hkey⟩ ?_
  clear ha hx hlo hhi hh hkey
  rintro n σ ⟨lo', hi', rfl, hhi, hF, ha, hx, hlo, hhi', hkey⟩
  repeat walk_at "v"
  split
  · rename_i hc
    have hlt : lo' < hi' := by simpa using hc
    rw [bisL, dif_pos hlt] at hF
    repeat walk_at "v"
    refine Bi.div ?_ (by decide) (lt4096 (by decide))
    rw [mid_cast]
    have hm : (lo' + hi') / 2 < ds.length := by omega
    repeat walk_at "v"
    refine We.key (i := (lo' + hi') / 2) hT.plain hK (List.getElem?_eq_getElem hm) hkey hdk ?e ?_
    case e =>
      repeat walk_at "v"
      exact Su.item (v := ds[(lo' + hi') / 2]) (ds := ds) rfl (Int.natCast_nonneg _) (by omega) (by rw [Int.toNat_natCast]; exact List.getElem?_eq_getElem hm) ⟨rfl, rfl⟩
    repeat walk_at "v"
    split
    · rename_i hc2
      rw [if_pos (by simpa using hc2)] at hF
      repeat walk_at "v"
      exact ⟨_, by omega, (lo' + hi') / 2 + 1, hi', rfl, hhi, hF, ha, hx, rfl, hhi', hkey⟩
    · rename_i hc2
      rw [if_neg (by simpa using hc2)] at hF
      repeat walk_at "v"
      exact ⟨_, by omega, lo', (lo' + hi') / 2, rfl, by omega, hF, ha, hx, hlo, rfl, hkey⟩
  · rename_i hc
    have hge : ¬ lo' < hi' := by simpa using hc
    rw [bisL, dif_neg hge] at hF
    exact hΦ _ (by rw [← hF]; exact hlo)
theorem bisect_left_key {T : Tbl} (hT : Tops T hd.heap_39) (d dk : Nat) (ds : List V) (g : Nat → Int) (x : Int) (k : Nat) (hK : KeyOk T dk k ds g) (hdk : dk + 1 ≤ d) (hz : ds.length ≤ 1000000) :
    FnOkK T d "bisect_left" (arKey "key") [.list ds, .int x, .lam k] (fun v => v = .int ((bisL g x 0 ds.length : Nat) : Int)) := by
  refine FnOkK.intro (args' := [.list ds, .int x, .int 0, .none, .lam k]) (FnIs.ofK hT (by rfl) (by rfl) (by rfl) (by rfl) (by rfl) (by rfl) (by rfl)) (arKey "key") ["a", "x", "lo", "hi", "key"] ?_ rfl (by rfl) hT.plain ?_
  · intro s vals top hl
    obtain ⟨a, b, c, rfl⟩ := vals3 hl
    refine' ⟨[a, b, .int 0 ?tt, .none, c], fun G h => bind3K _ h, ?bb⟩; case bb => walk_at "bind"
  · dsimp only
    repeat walk_at "v"
    refine Cb.len (ds := ds) rfl (by omega) ?_
    repeat walk_at "v"
    refine bisLk_loop hT ds hK hdk x 0 ds.length (Nat.le_refl _) hz rfl rfl rfl rfl rfl ?_
    intro σ' h
    repeat walk_at "v"
    exact ⟨_, _, rfl, rfl⟩

/-! VG1 -/
section
variable {C : Cx} {σ : St} {Φ : V → St → Prop} {pos : Pos}
noncomputable def V.ty : V → Option String
  | .int _ => some "int"
  | .bool _ => some "bool"
  | .tup _ => some "tuple"
  | .bytes _ => some "bytes"
  | _ => Option.none
end

/-! Y9 -/
theorem WxO.mono {C : Cx} {K : Esc C} {σ : St} {ss : List Stmt} {Φ Ψ : Fl → St → Prop} (h : WxO C K σ ss Φ) (k : ∀ f σ', Φ f σ' → Ψ f σ') : WxO C K σ ss Ψ :=
  fun X ok hF G s R => wpAny_mono (h X ok hF G s R) (fun _ _ p => p.imp (fun p => p.mono k) id) fun _ _ e => e
theorem WforO.inv {C : Cx} {K : Esc C} {t : Expr} {body : List Stmt} {Φ : Fl → St → Prop} (Inv : Nat → St → Prop) (items : List V)
    (step : ∀ i d σ, items[i]? = some d → Inv i σ → Asg C σ t d fun σ₁ => WxO C K σ₁ body (LoopK Φ (Inv (i + 1)))) (hn : ∀ σ', Inv items.length σ' → Φ .next σ') :
    ∀ (rest : List V) (i : Nat) (σ : St), items.drop i = rest → i ≤ items.length → Inv i σ → WforO C K t body Φ rest σ
  | [], i, σ, hd, hi, h => by
    have : items.length ≤ i := List.drop_eq_nil_iff.mp hd
    have e : i = items.length := by omega
    subst e
    exact hn σ h
  | d :: rest, i, σ, hd, hi, h => by
    have hlt : i < items.length := by
      rcases Nat.lt_or_ge i items.length with h | h
      · exact h
      · rw [List.drop_eq_nil_of_le h] at hd; cases hd
    have e := List.drop_eq_getElem_cons hlt
    rw [hd] at e
    obtain ⟨e1, e2⟩ := List.cons.inj e
    have hget : items[i]? = some d := by rw [List.getElem?_eq_getElem hlt, e1]
    refine (step i d σ hget h).mono fun σ₁ h₁ => h₁.mono fun f σ' hf => ?_
    have go : ∀ σ', Inv (i + 1) σ' → WforO C K t body Φ rest σ' := fun σ' h' => WforO.inv Inv items step hn rest (i + 1) σ' e2.symm hlt h'
    cases f with
    | next => exact go _ hf
    | cont => exact go _ hf
    | brk => exact hf
    | ret v => exact hf
theorem bb_zde : bootBuiltins ("ZeroDivisionError" : Str) = some (.type "ZeroDivisionError") := by kernel_rfl
theorem no_zde {T : Tbl} (hT : Tops T hd.heap_39) : T.mg "ZeroDivisionError" = none := Tops.no hT _ (by kernel_rfl)
theorem int_divmod_zero {T : Tbl} (hT : Tops T hd.heap_39) (a : Int) : FnRaises T 14 "int_divmod" [.int a, .int 0] "ZeroDivisionError" := by
  refine FnRaises.intro (dargs := []) (FnIs.ofK hT (by rfl) (by rfl) (by rfl) (by rfl) (by rfl) (by rfl) (by rfl)) ["a", "b"] ?_ rfl (by rfl) hT.plain ?_ PyProof.Rows.excClass_ZeroDivisionError PySem.F.self_ZeroDivisionError (no_zde hT) bb_zde (by rfl) (by decide) (by decide)
  · intro s vals top hl
    obtain ⟨a, b, rfl⟩ := vals2 hl
    exact ⟨[], fun _ => .nil, BindsTo.of_eq rfl⟩
  · repeat walk_at "v"
    rfl

theorem fig_ex (l w : Int) (h : w % 2 = 1) : ∃ d : Int, 0 ≤ d ∧ d < 16 ∧ (l - d * w) % 16 = 0 := by
  have key : ∀ a : Fin 16, ∀ b : Fin 16, b.1 % 2 = 1 → ∃ d : Fin 16, ((a.1 : Int) - (d.1 : Int) * (b.1 : Int)) % 16 = 0 := by decide +kernel
  obtain ⟨d, hd⟩ := key ⟨(l % 16).toNat, by omega⟩ ⟨(w % 16).toNat, by omega⟩ (by dsimp only; omega)
  refine ⟨(d.1 : Int), by omega, by have := d.2; omega, ?_⟩
  dsimp only at hd
  rw [show (((l % 16).toNat : Nat) : Int) = l % 16 by omega, show (((w % 16).toNat : Nat) : Int) = w % 16 by omega] at hd
  have e1 := Int.emod_add_mul_ediv l 16
  have e2 := Int.emod_add_mul_ediv w 16
  have e : l - (d.1 : Int) * w = (l % 16 - (d.1 : Int) * (w % 16)) + 16 * (l / 16 - (d.1 : Int) * (w / 16)) := by
    rw [Int.mul_sub, ← Int.mul_assoc, Int.mul_comm 16 (d.1 : Int), Int.mul_assoc]
    have : (d.1 : Int) * w = (d.1 : Int) * (w % 16) + (d.1 : Int) * (16 * (w / 16)) := by rw [← Int.mul_add, e2]
    omega
  rw [e, Int.add_mul_emod_self_left]
  exact hd
theorem figs (l w : Int) (h : w % 2 = 1) : ∃ F r, (((List.range 16).map fun i : Nat => (0 : Int) + (i : Int) * 1).filter fun d => decide ((l - d * w) % 16 = 0)) = F :: r ∧ 0 ≤ F ∧ F < 16 := by
  obtain ⟨d, h0, h1, h2⟩ := fig_ex l w h
  have hm : d ∈ (((List.range 16).map fun i : Nat => (0 : Int) + (i : Int) * 1).filter fun d => decide ((l - d * w) % 16 = 0)) := by
    rw [List.mem_filter]
    refine ⟨List.mem_map.mpr ⟨d.toNat, List.mem_range.mpr (by omega), by omega⟩, by simpa using h2⟩
  generalize hL : (((List.range 16).map fun i : Nat => (0 : Int) + (i : Int) * 1).filter fun d => decide ((l - d * w) % 16 = 0)) = L at hm
  cases L with
  | nil => cases hm
  | cons F r =>
    have hF : F ∈ (((List.range 16).map fun i : Nat => (0 : Int) + (i : Int) * 1).filter fun d => decide ((l - d * w) % 16 = 0)) := by rw [hL]; exact List.mem_cons_self
    obtain ⟨q, _⟩ := List.mem_filter.mp hF
    obtain ⟨i, hi, rfl⟩ := List.mem_map.mp q
    have := List.mem_range.mp hi
    exact ⟨_, r, rfl, by omega, by omega⟩
inductive NumAt (w : Int) (i : Nat) (σ : St) : Prop
  | mk (n l : Int) (h1 : σ.loc "number" = some (.int n)) (h2 : σ.loc "left" = some (.int l)) (h3 : σ.loc "lower" = some (.int w)) (h0 : 0 ≤ n) (hn : n < 16 ^ i) : NumAt w i σ
theorem law_number_ok {T : Tbl} (hT : Tops T hd.heap_39) (u w : Int) (n : Nat) (hw : w % 2 = 1) (hwb : w.natAbs < 2 ^ 64) (hn : n ≤ 1000) : FnOk T 0 "_law_number" [.int u, .int w, .int n] (fun v => ∃ N : Int, v = .int N ∧ 0 ≤ N ∧ N < 16 ^ n) := by
  refine FnOk.intro (dargs := []) (FnIs.ofK hT (by rfl) (by rfl) (by rfl) (by rfl) (by rfl) (by rfl) (by rfl)) ["upper", "lower", "size"] ?_ rfl (by rfl) hT.plain ?_
  · intro s vals top hl
    obtain ⟨a, b, c, rfl⟩ := vals3 hl
    exact ⟨[], fun _ => .nil, BindsTo.of_eq rfl⟩
  · dsimp only
    refine Wx.cons (Ws.assignTup ?_)
    repeat walk_at "v"
    refine Asg.tuple (Asgs.cons (Asgs.cons (Asgs.nil ?_)))
    repeat walk_at "v"
    refine Ws.for ?_
    repeat walk_at "v"
    refine Cb.range1 ?_
    refine ⟨_, _, _, rfl, Src.range (n := n) rng1 (rng1s (by omega)), ?_⟩
    refine Wfor.inv (fun i σ => NumAt w i σ) _ ?step ?done _ 0 _ rfl (Nat.zero_le _) ⟨0, u, rfl, rfl, rfl, by omega, by decide⟩
    case step =>
      rintro i d σ hd ⟨N, l, h1, h2, h3, h0, hN⟩
      obtain ⟨hi, e⟩ : i < n ∧ d = .int (i : Int) := by
        obtain ⟨hi, e⟩ := List.getElem?_eq_some_iff.mp hd
        rw [List.length_map, List.length_range] at hi
        refine ⟨hi, ?_⟩
        rw [← e]
        simp
      subst e
      clear hd
      refine Asg.name ?_
      repeat walk_at "v"
      refine Cb.range1 ?_
      refine ⟨_, _, _, _, _, rfl, Src.range (n := 16) (by decide) (by rfl), caps_cons h2 (pur_int _) (caps_cons h3 (pur_int _) rfl), ?_⟩
      rw [rangeV_ints]
      refine comp1n _ (fun d => decide ((l - d * w) % 16 = 0)) (fun d => d) rfl (by simp) rfl ?hs ?hd
      case hs =>
        intro d hd σ₁ h4 h5
        have hd16 : d.natAbs < 2 ^ 64 := by
          obtain ⟨j, hj, rfl⟩ := List.mem_map.mp hd
          have := List.mem_range.mp hj
          omega
        have e1 : σ₁.loc "left" = some (.int l) := (h4 _ (by decide)).trans rfl
        have e2 : σ₁.loc "lower" = some (.int w) := (h4 _ (by decide)).trans rfl
        refine Wt.cmp ?_
        repeat walk_at "v"
        refine Bi.mul ?_ (.inl hd16)
        repeat walk_at "v"
        refine Bi.mod ?_ (by decide)
        repeat walk_at "v"
        split
        · rename_i hc
          refine ⟨hc.symm, rfl, fun _ => ?_⟩
          repeat walk_at "v"
          rfl
        · rename_i hc
          exact ⟨by simpa using hc, rfl, fun h => by cases h⟩
      case hd =>
        intro σ' hmu
        obtain ⟨F, r, hF, f0, f1⟩ := figs l w hw
        rw [List.map_id'' (fun _ => rfl), hF] at hmu
        refine ⟨_, _, hmu, arePure_map_int _, ?_⟩
        repeat walk_at "v"
        refine Su.item (v := .int F) (ds := (F :: r).map V.int) rfl (by decide) (by decide) rfl ?_
        repeat walk_at "v"
        refine Bi.pow ?_ (by omega) (by omega) (by decide)
        rw [Int.toNat_natCast]
        refine Bi.mul ?_ (.inl (by omega))
        repeat walk_at "v"
        refine Bi.mul ?_ (.inl (by omega))
        repeat walk_at "v"
        refine Bi.div ?_ (by decide) (lt4096 (by decide))
        repeat walk_at "v"
        have hp : (0 : Int) ≤ 16 ^ i := Int.pow_nonneg (by decide)
        refine ⟨N + F * 16 ^ i, _, rfl, rfl, h3, ?_, ?_⟩
        · have := Int.mul_nonneg f0 hp
          omega
        · have := Int.mul_le_mul_of_nonneg_right (show F ≤ 15 by omega) hp
          rw [Int.pow_succ]
          omega
    case done =>
      rintro σ ⟨N, l, h1, h2, h3, h0, hN⟩
      rw [List.length_map, List.length_range] at hN
      repeat walk_at "v"
      exact ⟨_, _, rfl, N, rfl, h0, hN⟩

/-! VX1 -/
/-! a run of divisions, and the numbers that are small with their multiple -/
structure Run (M N : Int) (P Q : Nat → Int) (n : Nat) : Prop where
  two : 2 ≤ n
  le : n ≤ 30
  p0 : P 0 = -M
  q0 : Q 0 = 0
  p1 : P 1 = N
  q1 : Q 1 = 1
  det : ∀ i, i + 1 < n → ((P i).natAbs : Int) * Q (i + 1) + ((P (i + 1)).natAbs : Int) * Q i = M
  cong : ∀ i, i < n → ∃ t, P i = Q i * N + t * M
  dec : ∀ i, i + 1 < n → (P (i + 1)).natAbs < (P i).natAbs
  inc : ∀ i, i + 1 < n → Q i ≤ Q (i + 1) ∧ 1 ≤ Q (i + 1) ∧ 0 ≤ Q i
  opp : ∀ i, i + 1 < n → (P i ≤ 0 ∧ 0 ≤ P (i + 1)) ∨ (0 ≤ P i ∧ P (i + 1) ≤ 0)
  last : P (n - 1) = 0
noncomputable def Lat (M N e k : Int) : Prop := ∃ t, e = k * N + t * M
section
variable {M N : Int} {P Q : Nat → Int} {n : Nat}
theorem Run.delta (R : Run M N P Q n) (hM : 0 < M) {i : Nat} (hi : i + 1 < n) {u v : Int} (hu : P i = Q i * N + u * M) (hv : P (i + 1) = Q (i + 1) * N + v * M) : u * Q (i + 1) - v * Q i = 1 ∨ u * Q (i + 1) - v * Q i = -1 := by
  have hd := R.det i hi
  have e : P i * Q (i + 1) - P (i + 1) * Q i = M * (u * Q (i + 1) - v * Q i) := by rw [hu, hv]; grind
  have h2 : M * (u * Q (i + 1) - v * Q i) = M * 1 ∨ M * (u * Q (i + 1) - v * Q i) = M * (-1) := by
    rcases R.opp i hi with ⟨a, b⟩ | ⟨a, b⟩
    · right
      rw [show ((P i).natAbs : Int) = -(P i) by omega, show ((P (i + 1)).natAbs : Int) = P (i + 1) by omega] at hd
      rw [← e, ← hd]; grind
    · left
      rw [show ((P i).natAbs : Int) = P i by omega, show ((P (i + 1)).natAbs : Int) = -(P (i + 1)) by omega] at hd
      rw [← e, ← hd]; grind
  rcases h2 with h | h
  · exact .inl (Int.eq_of_mul_eq_mul_left (by omega) h)
  · exact .inr (Int.eq_of_mul_eq_mul_left (by omega) h)
theorem Run.basis (R : Run M N P Q n) (hM : 0 < M) {i : Nat} (hi : i + 1 < n) {e k : Int} (h : Lat M N e k) : ∃ x y, e = x * P i + y * P (i + 1) ∧ k = x * Q i + y * Q (i + 1) := by
  obtain ⟨u, hu⟩ := R.cong i (by omega)
  obtain ⟨v, hv⟩ := R.cong (i + 1) hi
  obtain ⟨t, ht⟩ := h
  have hd := R.delta hM hi hu hv
  generalize hδ : u * Q (i + 1) - v * Q i = δ at hd
  have h1 : δ * δ = 1 := by rcases hd with rfl | rfl <;> rfl
  refine ⟨δ * (t * Q (i + 1) - k * v), δ * (u * k - t * Q i), ?_, ?_⟩
  · have : δ * (t * Q (i + 1) - k * v) * P i + δ * (u * k - t * Q i) * P (i + 1) = δ * δ * (k * N + t * M) := by
      rw [hu, hv]; rw [← hδ]; grind
    rw [this, h1, ht]; omega
  · have : δ * (t * Q (i + 1) - k * v) * Q i + δ * (u * k - t * Q i) * Q (i + 1) = δ * δ * k := by
      rw [← hδ]; grind
    rw [this, h1]; omega
/-- nothing ahead of the next row is as small as the one ahead of it -/
theorem Run.best (R : Run M N P Q n) (hM : 0 < M) {i : Nat} (hi : i + 1 < n) {e k : Int} (h : Lat M N e k) (h1 : 1 ≤ k) (h2 : k < Q (i + 1)) : (P i).natAbs ≤ e.natAbs := by
  obtain ⟨x, y, he, hk⟩ := R.basis hM hi h
  obtain ⟨_, q1, q2⟩ := R.inc i hi
  rcases Int.lt_trichotomy x 0 with hx | hx | hx
  · have a1 : x * Q i ≤ 0 := Int.mul_nonpos_of_nonpos_of_nonneg (by omega) q2
    have hy : 1 ≤ y := by
      rcases Int.lt_or_le 0 y with hy | hy
      · omega
      · have : y * Q (i + 1) ≤ 0 := Int.mul_nonpos_of_nonpos_of_nonneg hy (by omega)
        omega
    rcases R.opp i hi with ⟨a, b⟩ | ⟨a, b⟩
    · have m1 : 0 ≤ y * P (i + 1) := Int.mul_nonneg (by omega) b
      have m2 : (-x) * (- P i) ≥ 1 * (- P i) := Int.mul_le_mul_of_nonneg_right (by omega) (by omega)
      rw [Int.neg_mul_neg] at m2
      omega
    · have m1 : y * P (i + 1) ≤ 0 := Int.mul_nonpos_of_nonneg_of_nonpos (by omega) b
      have m2 : 1 * P i ≤ (-x) * P i := Int.mul_le_mul_of_nonneg_right (by omega) a
      rw [Int.neg_mul] at m2
      omega
  · subst hx
    rw [Int.zero_mul] at hk
    have hy : 1 ≤ y := by
      rcases Int.lt_or_le 0 y with hy | hy
      · omega
      · have : y * Q (i + 1) ≤ 0 := Int.mul_nonpos_of_nonpos_of_nonneg hy (by omega)
        omega
    have : 1 * Q (i + 1) ≤ y * Q (i + 1) := Int.mul_le_mul_of_nonneg_right hy (by omega)
    omega
  · have a1 : 0 ≤ x * Q i := Int.mul_nonneg (by omega) q2
    have hy : y ≤ 0 := by
      rcases Int.lt_or_le 0 y with hy | hy
      · have : 1 * Q (i + 1) ≤ y * Q (i + 1) := Int.mul_le_mul_of_nonneg_right hy (by omega)
        omega
      · exact hy
    rcases R.opp i hi with ⟨a, b⟩ | ⟨a, b⟩
    · have m1 : y * P (i + 1) ≤ 0 := Int.mul_nonpos_of_nonpos_of_nonneg hy b
      have m2 : 1 * (- P i) ≤ x * (- P i) := Int.mul_le_mul_of_nonneg_right (by omega) (by omega)
      simp only [Int.mul_neg] at m2
      omega
    · have m1 : 0 ≤ y * P (i + 1) := Int.mul_nonneg_of_nonpos_of_nonpos hy b
      have m2 : 1 * P i ≤ x * P i := Int.mul_le_mul_of_nonneg_right (by omega) a
      omega
/-- what is small enough is a multiple of a row -/
theorem Run.mult (R : Run M N P Q n) (hM : 0 < M) {j : Nat} (hj : j < n) (h1 : 1 ≤ j) {e k : Int} (h : Lat M N e k) (hc : e * Q j = k * P j) : ∃ y, e = y * P j ∧ k = y * Q j := by
  obtain ⟨i, rfl⟩ : ∃ i, j = i + 1 := ⟨j - 1, by omega⟩
  obtain ⟨x, y, he, hk⟩ := R.basis hM hj h
  obtain ⟨u, hu⟩ := R.cong i (by omega)
  obtain ⟨v, hv⟩ := R.cong (i + 1) hj
  have hd := R.delta hM hj hu hv
  have hx : M * (x * (u * Q (i + 1) - v * Q i)) = M * 0 := by
    have : e * Q (i + 1) - k * P (i + 1) = M * (x * (u * Q (i + 1) - v * Q i)) := by rw [he, hk, hu, hv]; grind
    rw [← this, hc]; omega
  have hx := Int.eq_of_mul_eq_mul_left (show M ≠ 0 by omega) hx
  have hx0 : x = 0 := by
    rcases hd with h | h <;> rw [h] at hx <;> omega
  subst hx0
  exact ⟨y, by rw [he]; omega, by rw [hk]; omega⟩
theorem Run.lat (R : Run M N P Q n) {i : Nat} (hi : i < n) : Lat M N (P i) (Q i) := R.cong i hi
theorem Lat.mul {e k : Int} (h : Lat M N e k) (y : Int) : Lat M N (y * e) (y * k) := by
  obtain ⟨t, rfl⟩ := h
  exact ⟨y * t, by grind⟩
/-- the least size of a number that a multiple leaves, with its sign -/
noncomputable def endOf (M h : Int) : Int := if 2 * (h % M) ≤ M then h % M else h % M - M
theorem end_lat (hM : 0 < M) (k N : Int) : Lat M N (endOf M (k * N)) k := by
  have := Int.emod_add_mul_ediv (k * N) M
  unfold endOf
  split
  · refine ⟨-(k * N / M), ?_⟩
    rw [Int.neg_mul, Int.mul_comm (k * N / M)]; omega
  · refine ⟨-(k * N / M) - 1, ?_⟩
    rw [Int.sub_mul, Int.neg_mul, Int.mul_comm (k * N / M)]; omega
theorem end_bound (hM : 0 < M) (h : Int) : -M < 2 * endOf M h ∧ 2 * endOf M h ≤ M := by
  have h1 := Int.emod_nonneg h (show M ≠ 0 by omega)
  have h2 := Int.emod_lt_of_pos h hM
  unfold endOf
  split <;> omega
theorem end_unique (hM : 0 < M) {e k : Int} (h : Lat M N e k) (h1 : -M < 2 * e) (h2 : 2 * e ≤ M) : endOf M (k * N) = e := by
  obtain ⟨t, ht⟩ := h
  obtain ⟨s, hs⟩ := end_lat (N := N) hM k
  obtain ⟨b1, b2⟩ := end_bound hM (k * N)
  have e1 : endOf M (k * N) - e = (s - t) * M := by rw [Int.sub_mul]; omega
  have : s - t = 0 := by
    rcases Int.lt_trichotomy (s - t) 0 with h | h | h
    · have := Int.mul_le_mul_of_nonneg_right (show s - t ≤ -1 by omega) (show (0 : Int) ≤ M by omega)
      omega
    · exact h
    · have := Int.mul_le_mul_of_nonneg_right (show 1 ≤ s - t by omega) (show (0 : Int) ≤ M by omega)
      omega
  rw [this] at e1
  omega
end

/-! VX2 -/
/-! the run itself -/
noncomputable def eS (M N : Int) : Nat → (Int × Int) × (Int × Int)
  | 0 => ((-M, 0), (N, 1))
  | i + 1 => ((eS M N i).2, (dmR (eS M N i).1.1 (-(eS M N i).2.1), (eS M N i).1.2 + dmQ (eS M N i).1.1 (-(eS M N i).2.1) * (eS M N i).2.2))
noncomputable def eP (M N : Int) (i : Nat) : Int := (eS M N i).1.1
noncomputable def eQ (M N : Int) (i : Nat) : Int := (eS M N i).1.2
theorem eP_step (M N : Int) (i : Nat) : eP M N (i + 2) = dmR (eP M N i) (-(eP M N (i + 1))) := rfl
theorem eQ_step (M N : Int) (i : Nat) : eQ M N (i + 2) = eQ M N i + dmQ (eP M N i) (-(eP M N (i + 1))) * eQ M N (i + 1) := rfl
/-- one division -/
theorem dm_neg {A B : Int} (hB : 0 < B) (hAB : B < A) : ∃ q r, A = B * q + r ∧ 0 ≤ r ∧ r < B ∧ 1 ≤ q ∧ 2 * r < A ∧ dmR (-A) (-B) = -r ∧ dmQ (-A) (-B) = q ∧ dmR A B = r ∧ dmQ A B = q := by
  have h1 := Int.mul_ediv_add_emod A B
  have h2 := Int.emod_nonneg A (show B ≠ 0 by omega)
  have h3 := Int.emod_lt_of_pos A hB
  have hq : 1 ≤ A / B := by
    rcases Int.lt_or_le 0 (A / B) with h | h
    · omega
    · have := Int.mul_nonpos_of_nonneg_of_nonpos (show 0 ≤ B by omega) h
      omega
  have hm := Int.mul_le_mul_of_nonneg_left hq (show 0 ≤ B by omega)
  refine ⟨A / B, A % B, h1.symm, h2, h3, hq, by omega, ?_, ?_, ?_, ?_⟩
  · unfold dmR; rw [if_neg (by omega), Int.neg_neg, Int.neg_neg]
  · unfold dmQ; rw [if_neg (by omega), Int.neg_neg, Int.neg_neg]
  · unfold dmR; rw [if_pos hB]
  · unfold dmQ; rw [if_pos hB]
structure EInv (M N : Int) (i : Nat) : Prop where
  det : ((eP M N i).natAbs : Int) * eQ M N (i + 1) + ((eP M N (i + 1)).natAbs : Int) * eQ M N i = M
  cong : (∃ t, eP M N i = eQ M N i * N + t * M) ∧ ∃ t, eP M N (i + 1) = eQ M N (i + 1) * N + t * M
  dec : (eP M N (i + 1)).natAbs < (eP M N i).natAbs
  inc : eQ M N i ≤ eQ M N (i + 1) ∧ 1 ≤ eQ M N (i + 1) ∧ 0 ≤ eQ M N i
  opp : (eP M N i ≤ 0 ∧ 0 ≤ eP M N (i + 1)) ∨ (0 ≤ eP M N i ∧ eP M N (i + 1) ≤ 0)
theorem EInv.next {M N : Int} {i : Nat} (h : EInv M N i) (hne : eP M N (i + 1) ≠ 0) : EInv M N (i + 1) ∧ 2 * (eP M N (i + 2)).natAbs ≤ (eP M N i).natAbs := by
  obtain ⟨det, ⟨⟨u, hu⟩, ⟨v, hv⟩⟩, dec, ⟨i1, i2, i3⟩, opp⟩ := h
  have sp := eP_step M N i
  have sq := eQ_step M N i
  generalize hP0 : eP M N i = P0 at *
  generalize hP1 : eP M N (i + 1) = P1 at *
  generalize hQ0 : eQ M N i = Q0 at *
  generalize hQ1 : eQ M N (i + 1) = Q1 at *
  have core : ∃ q r : Int, 0 ≤ r ∧ r < P1.natAbs ∧ 1 ≤ q ∧ 2 * r < P0.natAbs ∧ (P0.natAbs : Int) = P1.natAbs * q + r ∧ eQ M N (i + 2) = Q0 + q * Q1 ∧ eP M N (i + 2) = P0 + q * P1 ∧ ((0 ≤ P1 ∧ eP M N (i + 2) = -r) ∨ (P1 ≤ 0 ∧ eP M N (i + 2) = r)) := by
    rcases opp with ⟨a, b⟩ | ⟨a, b⟩
    · obtain ⟨q, r, e1, e2, e3, e4, e5, e6, e7, _, _⟩ := dm_neg (A := -P0) (B := P1) (by omega) (by omega)
      rw [Int.neg_neg] at e6 e7
      rw [e6] at sp; rw [e7] at sq
      rw [show (P0.natAbs : Int) = -P0 by omega, show (P1.natAbs : Int) = P1 by omega]
      refine ⟨q, r, e2, e3, e4, e5, e1, sq, ?_, .inl ⟨b, sp⟩⟩
      rw [sp, Int.mul_comm q P1]; omega
    · obtain ⟨q, r, e1, e2, e3, e4, e5, _, _, e6, e7⟩ := dm_neg (A := P0) (B := -P1) (by omega) (by omega)
      rw [e6] at sp; rw [e7] at sq
      rw [show (P0.natAbs : Int) = P0 by omega, show (P1.natAbs : Int) = -P1 by omega]
      refine ⟨q, r, e2, e3, e4, e5, e1, sq, ?_, .inr ⟨b, sp⟩⟩
      rw [Int.neg_mul] at e1
      rw [sp, Int.mul_comm q P1]; omega
  obtain ⟨q, r, r0, r1, q1, r2, hA, hQ, hP, hs⟩ := core
  have hr : ((eP M N (i + 2)).natAbs : Int) = r := by rcases hs with ⟨_, e⟩ | ⟨_, e⟩ <;> rw [e] <;> omega
  have hm := Int.mul_le_mul_of_nonneg_right q1 (show (0 : Int) ≤ Q1 by omega)
  refine ⟨⟨?_, ⟨⟨v, ?_⟩, ⟨u + q * v, ?_⟩⟩, ?_, ?_, ?_⟩, by omega⟩
  · show ((eP M N (i + 1)).natAbs : Int) * eQ M N (i + 2) + ((eP M N (i + 2)).natAbs : Int) * eQ M N (i + 1) = M
    rw [hP1, hQ1, hr, hQ, ← det, hA]; grind
  · rw [hP1, hQ1]; exact hv
  · show eP M N (i + 2) = eQ M N (i + 2) * N + _
    rw [hP, hQ, hu, hv]; grind
  · show (eP M N (i + 2)).natAbs < (eP M N (i + 1)).natAbs
    rw [hP1]; omega
  · show eQ M N (i + 1) ≤ eQ M N (i + 2) ∧ 1 ≤ eQ M N (i + 2) ∧ 0 ≤ eQ M N (i + 1)
    rw [hQ, hQ1]; omega
  · show (eP M N (i + 1) ≤ 0 ∧ 0 ≤ eP M N (i + 2)) ∨ (0 ≤ eP M N (i + 1) ∧ eP M N (i + 2) ≤ 0)
    rw [hP1]
    rcases hs with ⟨h, e⟩ | ⟨h, e⟩ <;> rw [e] <;> omega
theorem e_inv {M N : Int} (h0 : 0 ≤ N) (h1 : N < M) : ∀ i, (∀ j, 1 ≤ j → j ≤ i → eP M N j ≠ 0) → EInv M N i
  | 0, _ => by
    refine ⟨?_, ⟨⟨-1, ?_⟩, ⟨0, ?_⟩⟩, ?_, ?_, ?_⟩
    · show ((-M).natAbs : Int) * 1 + (N.natAbs : Int) * 0 = M; omega
    · show -M = 0 * N + -1 * M; omega
    · show N = 1 * N + 0 * M; omega
    · show N.natAbs < (-M).natAbs; omega
    · show (0 : Int) ≤ 1 ∧ (1 : Int) ≤ 1 ∧ (0 : Int) ≤ 0; omega
    · show (-M ≤ 0 ∧ 0 ≤ N) ∨ _; left; omega
  | i + 1, h => ((e_inv h0 h1 i fun j a b => h j a (by omega)).next (h (i + 1) (by omega) (Nat.le_refl _))).1
theorem e_half {M N : Int} (h0 : 0 ≤ N) (h1 : N < M) : ∀ k, (∀ j, 1 ≤ j → j ≤ 2 * k → eP M N j ≠ 0) → (eP M N (2 * k + 1)).natAbs * 2 ^ k ≤ N.natAbs
  | 0, _ => by show N.natAbs * 1 ≤ N.natAbs; omega
  | k + 1, h => by
    have ih := e_half h0 h1 k fun j a b => h j a (by omega)
    have := ((e_inv h0 h1 (2 * k + 1) fun j a b => h j a (by omega)).next (h (2 * k + 2) (by omega) (by omega))).2
    show (eP M N (2 * k + 3)).natAbs * 2 ^ (k + 1) ≤ _
    have e : 2 * k + 1 + 2 = 2 * k + 3 := by omega
    rw [e] at this
    have := Nat.mul_le_mul_right (2 ^ k) this
    rw [Nat.pow_succ]
    have : (eP M N (2 * k + 3)).natAbs * (2 ^ k * 2) = 2 * (eP M N (2 * k + 3)).natAbs * 2 ^ k := by grind
    omega
theorem least {p : Nat → Prop} : ∀ n, (∃ i, 1 ≤ i ∧ i ≤ n ∧ p i) → ∃ i, 1 ≤ i ∧ i ≤ n ∧ p i ∧ ∀ j, 1 ≤ j → j < i → ¬ p j
  | 0, ⟨i, a, b, _⟩ => by omega
  | n + 1, h => by
    by_cases hn : ∃ i, 1 ≤ i ∧ i ≤ n ∧ p i
    · obtain ⟨i, a, b, c, d⟩ := least n hn
      exact ⟨i, a, by omega, c, d⟩
    · obtain ⟨i, a, b, c⟩ := h
      refine ⟨i, a, b, c, fun j ja jb jc => hn ⟨j, ja, by omega, jc⟩⟩
theorem run_ex {M N : Int} (h0 : 0 ≤ N) (h1 : N < M) (h2 : N < 4096) : ∃ n, Run M N (eP M N) (eQ M N) n ∧ ∀ j, 1 ≤ j → j + 1 < n → eP M N j ≠ 0 := by
  have hz : ∃ i, 1 ≤ i ∧ i ≤ 25 ∧ eP M N i = 0 := by
    by_cases h : ∃ i, 1 ≤ i ∧ i ≤ 25 ∧ eP M N i = 0
    · exact h
    · have := e_half h0 h1 12 fun j a b e => h ⟨j, a, by omega, e⟩
      refine ⟨25, by omega, by omega, ?_⟩
      have e : 2 * 12 + 1 = 25 := rfl
      rw [e] at this
      omega
  obtain ⟨i, a, b, c, d⟩ := least 25 hz
  have inv : ∀ k, k + 1 < i + 1 → EInv M N k := fun k hk => e_inv h0 h1 k fun j ja jb => d j ja (by omega)
  refine ⟨i + 1, ⟨by omega, by omega, rfl, rfl, rfl, rfl, fun k hk => (inv k hk).det, fun k hk => ?_, fun k hk => (inv k hk).dec, fun k hk => (inv k hk).inc, fun k hk => (inv k hk).opp, c⟩, fun j ja jb => d j ja (by omega)⟩
  rcases Nat.lt_or_ge k i with h | h
  · exact (inv k (by omega)).cong.1
  · obtain rfl : k = i := by omega
    obtain ⟨k', rfl⟩ : ∃ k', k = k' + 1 := ⟨k - 1, by omega⟩
    exact (inv k' (by omega)).cong.2

/-! VX3 -/
theorem bisR_eq {f : Nat → Int} {x : Int} {r : Nat} : ∀ (n lo hi : Nat), hi - lo ≤ n → lo ≤ r → r ≤ hi → (∀ i, lo ≤ i → i < r → f i ≤ x) → (∀ i, r ≤ i → i < hi → x < f i) → bisR f x lo hi = r
  | 0, lo, hi, hn, h1, h2, _, _ => by
    rw [bisR, dif_neg (by omega)]; omega
  | n + 1, lo, hi, hn, h1, h2, h3, h4 => by
    rw [bisR]
    split
    · split
      · rename_i hlt hx
        have hr : r ≤ (lo + hi) / 2 := by
          rcases Nat.lt_or_ge ((lo + hi) / 2) r with h | h
          · have := h3 ((lo + hi) / 2) (by omega) h; omega
          · exact h
        exact bisR_eq n lo _ (by omega) h1 hr h3 fun i a b => h4 i a (by omega)
      · rename_i hlt hx
        have hr : (lo + hi) / 2 < r := by
          rcases Nat.lt_or_ge ((lo + hi) / 2) r with h | h
          · exact h
          · have := h4 ((lo + hi) / 2) h (by omega); omega
        exact bisR_eq n _ hi (by omega) hr h2 (fun i a b => h3 i (by omega) b) h4
    · omega
theorem bisL_eq {f : Nat → Int} {x : Int} {r : Nat} : ∀ (n lo hi : Nat), hi - lo ≤ n → lo ≤ r → r ≤ hi → (∀ i, lo ≤ i → i < r → f i < x) → (∀ i, r ≤ i → i < hi → x ≤ f i) → bisL f x lo hi = r
  | 0, lo, hi, hn, h1, h2, _, _ => by
    rw [bisL, dif_neg (by omega)]; omega
  | n + 1, lo, hi, hn, h1, h2, h3, h4 => by
    rw [bisL]
    split
    · split
      · rename_i hlt hx
        have hr : (lo + hi) / 2 < r := by
          rcases Nat.lt_or_ge ((lo + hi) / 2) r with h | h
          · exact h
          · have := h4 ((lo + hi) / 2) h (by omega); omega
        exact bisL_eq n _ hi (by omega) hr h2 (fun i a b => h3 i (by omega) b) h4
      · rename_i hlt hx
        have hr : r ≤ (lo + hi) / 2 := by
          rcases Nat.lt_or_ge ((lo + hi) / 2) r with h | h
          · have := h3 ((lo + hi) / 2) (by omega) h; omega
          · exact h
        exact bisL_eq n lo _ (by omega) h1 hr h3 fun i a b => h4 i a (by omega)
    · omega



theorem mono_split (f : Nat → Int) (x : Int) : ∀ n, (∀ i, i + 1 < n → f i ≤ f (i + 1)) → ∃ r, r ≤ n ∧ (∀ i, i < r → f i < x) ∧ ∀ i, r ≤ i → i < n → x ≤ f i
  | 0, _ => ⟨0, Nat.le_refl _, fun i h => by omega, fun i _ h => by omega⟩
  | n + 1, h => by
    obtain ⟨r, a, b, c⟩ := mono_split f x n fun i hi => h i (by omega)
    rcases Nat.lt_or_ge r n with hr | hr
    · refine ⟨r, by omega, b, fun i h1 h2 => ?_⟩
      rcases Nat.lt_or_ge i n with h3 | h3
      · exact c i h1 h3
      · obtain rfl : i = n := by omega
        have h4 := c (i - 1) (by omega) (by omega)
        have h5 := h (i - 1) (by omega)
        rw [show i - 1 + 1 = i by omega] at h5
        omega
    · obtain rfl : r = n := by omega
      rcases Int.lt_or_le (f r) x with hx | hx
      · refine ⟨r + 1, Nat.le_refl _, fun i hi => ?_, fun i h1 h2 => by omega⟩
        rcases Nat.lt_or_ge i r with h3 | h3
        · exact b i h3
        · obtain rfl : i = r := by omega
          exact hx
      · refine ⟨r, by omega, b, fun i h1 h2 => ?_⟩
        obtain rfl : i = r := by omega
        exact hx
section
variable {M N : Int} {P Q : Nat → Int} {n : Nat}
theorem Run.place (R : Run M N P Q n) {near : Int} (h0 : 0 ≤ near) (h1 : near < M) : ∃ j, j + 1 < n ∧ bisL (fun i => -((P i).natAbs : Int)) (-near) 0 n = j + 1 ∧ ((P (j + 1)).natAbs : Int) ≤ near ∧ near < (P j).natAbs := by
  obtain ⟨r, a, b, c⟩ := mono_split (fun i => -((P i).natAbs : Int)) (-near) n fun i hi => by have := R.dec i hi; omega
  have e := bisL_eq (f := fun i => -((P i).natAbs : Int)) (x := -near) n 0 n (by omega) (Nat.zero_le r) a (fun i _ h => b i h) fun i h k => c i h k
  have hn := R.two
  have hr : r < n := by
    rcases Nat.lt_or_ge r n with h | h
    · exact h
    · have := b (n - 1) (by omega)
      rw [R.last] at this
      omega
  have hr0 : r ≠ 0 := by
    intro h
    have := c 0 (by omega) (by omega)
    rw [R.p0] at this
    omega
  obtain ⟨j, rfl⟩ : ∃ j, r = j + 1 := ⟨r - 1, by omega⟩
  refine ⟨j, hr, e, ?_, ?_⟩
  · have := c (j + 1) (Nat.le_refl _) hr; omega
  · have := b j (by omega); omega
theorem Run.behind (R : Run M N P Q n) (W : Int) : ∃ b, b ≤ n ∧ bisR Q W 0 n = b ∧ (∀ i, i < b → Q i ≤ W) ∧ ∀ i, b ≤ i → i < n → W < Q i := by
  obtain ⟨r, a, b, c⟩ := mono_split Q (W + 1) n fun i hi => (R.inc i hi).1
  refine ⟨r, a, bisR_eq n 0 n (by omega) (Nat.zero_le r) a (fun i _ h => by have := b i h; omega) (fun i h k => by have := c i h k; omega), fun i h => by have := b i h; omega, fun i h k => by have := c i h k; omega⟩
theorem Run.qpos (R : Run M N P Q n) {j : Nat} (hj : j + 1 < n) : 1 ≤ Q (j + 1) := (R.inc j hj).2.1
/-! the pairs -/
noncomputable def kS (W : Nat) : List Int := (List.range W).map fun i : Nat => (1 : Int) + (i : Int) * 1
theorem kS_mem {W : Nat} {k : Int} : k ∈ kS W ↔ 1 ≤ k ∧ k ≤ W := by
  unfold kS
  rw [List.mem_map]
  constructor
  · rintro ⟨i, hi, rfl⟩
    have := List.mem_range.mp hi
    omega
  · rintro ⟨h1, h2⟩
    exact ⟨(k - 1).toNat, List.mem_range.mpr (by omega), by omega⟩
theorem kS_pw (W : Nat) : (kS W).Pairwise (· < ·) := by
  unfold kS
  rw [List.pairwise_map]
  exact List.pairwise_lt_range.imp fun h => by omega
theorem sorted_ext : ∀ {l₁ l₂ : List (Int × Int)}, l₁.Pairwise (fun a b => a.2 < b.2) → l₂.Pairwise (fun a b => a.2 < b.2) → (∀ x, x ∈ l₁ ↔ x ∈ l₂) → l₁ = l₂
  | [], [], _, _, _ => rfl
  | [], b :: _, _, _, h => absurd ((h b).mpr List.mem_cons_self) (by simp)
  | a :: _, [], _, _, h => absurd ((h a).mp List.mem_cons_self) (by simp)
  | a :: r, b :: s, h1, h2, h => by
    obtain ⟨p1, p2⟩ := List.pairwise_cons.mp h1
    obtain ⟨q1, q2⟩ := List.pairwise_cons.mp h2
    have hab : a = b := by
      rcases List.mem_cons.mp ((h a).mp List.mem_cons_self) with e | m1
      · exact e
      · rcases List.mem_cons.mp ((h b).mpr List.mem_cons_self) with e | m2
        · exact e.symm
        · have := q1 a m1; have := p1 b m2; omega
    subst hab
    rw [sorted_ext p2 q2 fun x => ⟨fun hx => ?_, fun hx => ?_⟩]
    · rcases List.mem_cons.mp ((h x).mp (List.mem_cons_of_mem _ hx)) with e | m
      · have := p1 x hx; rw [e] at this; omega
      · exact m
    · rcases List.mem_cons.mp ((h x).mpr (List.mem_cons_of_mem _ hx)) with e | m
      · have := q1 x hx; rw [e] at this; omega
      · exact m
noncomputable def toldL (W : Nat) (near p q : Int) : List (Int × Int) := ((kS W).filter fun k => decide (k * q ≤ W) && decide (k * (p.natAbs : Int) ≤ near)).map fun k => (k * p, k * q)
noncomputable def dueL (M N : Int) (W : Nat) (near : Int) : List (Int × Int) := ((kS W).filter fun k => decide (((endOf M (k * N)).natAbs : Int) ≤ near)).map fun k => (endOf M (k * N), k)
theorem told_none {W : Nat} {near p q : Int} (hq : (W : Int) < q) : toldL W near p q = [] := by
  unfold toldL
  rw [List.filter_eq_nil_iff.mpr]
  · rfl
  · intro k hk
    obtain ⟨h1, _⟩ := kS_mem.mp hk
    have := Int.mul_le_mul_of_nonneg_right h1 (show (0 : Int) ≤ q by omega)
    simp
    intro h
    omega
theorem due_none {W : Nat} {near : Int} (h : ∀ k : Int, 1 ≤ k → k ≤ W → near < (endOf M (k * N)).natAbs) : dueL M N W near = [] := by
  unfold dueL
  rw [List.filter_eq_nil_iff.mpr]
  · rfl
  · intro k hk
    obtain ⟨h1, h2⟩ := kS_mem.mp hk
    have := h k h1 h2
    simp
    omega
theorem mul_natAbs (k p : Int) (hk : 0 ≤ k) : ((k * p).natAbs : Int) = k * (p.natAbs : Int) := by
  rw [Int.natAbs_mul, Int.natCast_mul, Int.natAbs_of_nonneg hk]
theorem Run.told (R : Run M N P Q n) (hM : 0 < M) {W : Nat} (hW : 1 ≤ W) {near : Int} (h0 : 0 ≤ near) (h2 : 2 * (W : Int) * near < M) {j : Nat} (hj : j + 1 < n) (hp : ((P (j + 1)).natAbs : Int) ≤ near) (hq : Q (j + 1) ≤ W) : toldL W near (P (j + 1)) (Q (j + 1)) = dueL M N W near := by
  have q1 := R.qpos hj
  have hnear : 2 * near < M := by
    have := Int.mul_le_mul_of_nonneg_right (show (1 : Int) ≤ W by omega) h0
    rw [Int.mul_assoc] at h2
    omega
  generalize hP' : P (j + 1) = p at *
  generalize hQ' : Q (j + 1) = q at *
  refine sorted_ext ?_ ?_ ?_
  · unfold toldL
    rw [List.pairwise_map]
    refine ((kS_pw W).filter _).imp fun {a b} h => ?_
    exact Int.mul_lt_mul_of_pos_right h (by omega)
  · unfold dueL
    rw [List.pairwise_map]
    exact ((kS_pw W).filter _).imp fun h => h
  · rintro ⟨e, k⟩
    unfold toldL dueL
    simp only [List.mem_map, List.mem_filter, Bool.and_eq_true, decide_eq_true_eq, Prod.mk.injEq, kS_mem]
    constructor
    · rintro ⟨y, ⟨⟨y1, y2⟩, y3, y4⟩, rfl, rfl⟩
      have hl : Lat M N (y * p) (y * q) := by rw [← hP', ← hQ']; exact (R.lat hj).mul y
      have hb := mul_natAbs y p (by omega)
      have he := end_unique hM hl (by omega) (by omega)
      refine ⟨y * q, ⟨⟨?_, y3⟩, ?_⟩, he, rfl⟩
      · have := Int.mul_le_mul_of_nonneg_right y1 (show (0 : Int) ≤ q by omega)
        omega
      · rw [he, hb]; exact y4
    · rintro ⟨k', ⟨⟨k1, k2⟩, k3⟩, rfl, rfl⟩
      have hl := end_lat (N := N) hM k'
      generalize endOf M (k' * N) = e at *
      have hc : e * q = k' * p := by
        obtain ⟨s, hs⟩ := hl
        obtain ⟨t, ht⟩ := R.lat hj
        rw [hP', hQ'] at ht
        have e1 : e * q - k' * p = (s * q - k' * t) * M := by rw [hs, ht]; grind
        have b1 : (e * q).natAbs = e.natAbs * q.natAbs := Int.natAbs_mul _ _
        have b2 : (k' * p).natAbs = k'.natAbs * p.natAbs := Int.natAbs_mul _ _
        have m1 : e.natAbs * q.natAbs ≤ near.natAbs * W := Nat.mul_le_mul (by omega) (by omega)
        have m2 : k'.natAbs * p.natAbs ≤ W * near.natAbs := Nat.mul_le_mul (by omega) (by omega)
        have m3 : ((near.natAbs * W : Nat) : Int) = near * W := by rw [Int.natCast_mul, Int.natAbs_of_nonneg h0]
        have m4 : ((W * near.natAbs : Nat) : Int) = near * W := by rw [Nat.mul_comm, m3]
        have m5 : 2 * (near * W) < M := by rw [Int.mul_comm near, ← Int.mul_assoc]; exact h2
        generalize s * q - k' * t = z at e1
        have hz : z = 0 := by
          rcases Int.lt_trichotomy z 0 with h | h | h
          · have := Int.mul_le_mul_of_nonneg_right (show z ≤ -1 by omega) (show (0 : Int) ≤ M by omega)
            omega
          · exact h
          · have := Int.mul_le_mul_of_nonneg_right (show 1 ≤ z by omega) (show (0 : Int) ≤ M by omega)
            omega
        rw [hz] at e1
        omega
      obtain ⟨y, y1, y2⟩ := R.mult hM hj (by omega) hl (by rw [hP', hQ']; exact hc)
      rw [hP'] at y1; rw [hQ'] at y2
      have hy : 1 ≤ y := by
        rcases Int.lt_or_le 0 y with h | h
        · omega
        · have := Int.mul_nonpos_of_nonpos_of_nonneg h (show (0 : Int) ≤ q by omega)
          omega
      have hyW : y ≤ W := by
        have := Int.mul_le_mul_of_nonneg_left q1 (show (0 : Int) ≤ y by omega)
        omega
      refine ⟨y, ⟨⟨hy, hyW⟩, by omega, ?_⟩, y1.symm, y2.symm⟩
      rw [← mul_natAbs y p (by omega), ← y1]; exact k3
/-- the pairs told are just those due -/
theorem Run.main (R : Run M N P Q n) (hM : 0 < M) {W : Nat} (hW : 1 ≤ W) (hWM : (W : Int) < M) {near : Int} (h0 : 0 ≤ near) (h2 : 2 * (W : Int) * near < M) :
    ∃ j b, j + 1 < n ∧ bisL (fun i => -((P i).natAbs : Int)) (-near) 0 n = j + 1 ∧ b ≤ n ∧ bisR Q W 0 n = b ∧ toldL W near (if j + 1 < b then P (j + 1) else M) (if j + 1 < b then Q (j + 1) else M) = dueL M N W near := by
  have hnear : near < M := by
    have := Int.mul_le_mul_of_nonneg_right (show (1 : Int) ≤ W by omega) h0
    rw [Int.mul_assoc] at h2
    omega
  obtain ⟨j, hj, e1, p1, p2⟩ := R.place h0 hnear
  obtain ⟨b, hb, e2, b1, b2⟩ := R.behind W
  refine ⟨j, b, hj, e1, hb, e2, ?_⟩
  by_cases h : j + 1 < b
  · rw [if_pos h, if_pos h]
    exact R.told hM hW h0 h2 hj p1 (b1 _ h)
  · rw [if_neg h, if_neg h, told_none hWM, due_none]
    intro k k1 k2
    have hq := b2 (j + 1) (by omega) hj
    have := R.best hM hj (end_lat (N := N) hM k) k1 (by omega)
    omega
/-- where the upper numbers' size is met -/
theorem Run.cross (R : Run M N P Q n) {S : Nat} (hS : M = (S : Int) * S) (h2 : 3 ≤ S) : ∃ c, c + 1 < n ∧ bisL (fun i => Q i - ((P i).natAbs : Int)) 0 0 n = c + 1 ∧
    (∀ k : Int, 1 ≤ k → (if Q (c + 1) < (P c).natAbs then Q (c + 1) else ((P c).natAbs : Int)) ≤ (if k > ((endOf M (k * N)).natAbs : Int) then k else (endOf M (k * N)).natAbs)) ∧
    ∃ k : Int, 1 ≤ k ∧ k ≤ S ∧ (if k > ((endOf M (k * N)).natAbs : Int) then k else ((endOf M (k * N)).natAbs : Int)) = if Q (c + 1) < (P c).natAbs then Q (c + 1) else ((P c).natAbs : Int) := by
  have hS2 := Int.mul_le_mul_of_nonneg_right (show (3 : Int) ≤ S by omega) (show (0 : Int) ≤ S by omega)
  have hM : 0 < M := by omega
  obtain ⟨r, a, b, c⟩ := mono_split (fun i => Q i - ((P i).natAbs : Int)) 0 n fun i hi => by have := R.dec i hi; have := (R.inc i hi).1; omega
  have e := bisL_eq (f := fun i => Q i - ((P i).natAbs : Int)) (x := 0) n 0 n (by omega) (Nat.zero_le r) a (fun i _ h => b i h) fun i h k => c i h k
  have hn := R.two
  have hr : r < n := by
    rcases Nat.lt_or_ge r n with h | h
    · exact h
    · have h3 := b (n - 1) (by omega)
      have h4 := (R.inc (n - 2) (by omega)).2.1
      rw [show n - 2 + 1 = n - 1 by omega] at h4
      rw [R.last] at h3
      omega
  have hr0 : r ≠ 0 := by
    intro h
    have := c 0 (by omega) (by omega)
    rw [R.p0, R.q0] at this
    omega
  obtain ⟨i, rfl⟩ : ∃ i, r = i + 1 := ⟨r - 1, by omega⟩
  have c1 := c (i + 1) (Nat.le_refl _) hr
  have b1 := b i (by omega)
  have det := R.det i hr
  have hin := R.inc i hr
  have hPi := Int.mul_nonneg (show (0 : Int) ≤ ((P (i + 1)).natAbs : Int) by omega) hin.2.2
  refine ⟨i, hr, e, fun k hk => ?_, ?_⟩
  · rcases Int.lt_or_le k (Q (i + 1)) with h | h
    · have := R.best hM hr (end_lat (N := N) hM k) hk h
      split <;> split <;> omega
    · split <;> split <;> omega
  · by_cases hlt : Q (i + 1) < (P i).natAbs
    · rw [if_pos hlt]
      have hle : Q (i + 1) ≤ S := by
        rcases Int.lt_or_le (S : Int) (Q (i + 1)) with h | h
        · have m1 := Int.mul_le_mul (show (S : Int) ≤ ((P i).natAbs : Int) by omega) (show (S : Int) + 1 ≤ Q (i + 1) by omega) (by omega) (by omega)
          rw [Int.mul_add] at m1
          omega
        · exact h
      have he := end_unique hM (R.lat hr) (by omega) (by omega)
      refine ⟨Q (i + 1), hin.2.1, hle, ?_⟩
      rw [he]
      split <;> omega
    · rw [if_neg hlt]
      have hi0 : i ≠ 0 := by
        intro h
        subst h
        rw [R.p0, R.q1] at hlt
        omega
      obtain ⟨i', rfl⟩ : ∃ i', i = i' + 1 := ⟨i - 1, by omega⟩
      have hq1 := (R.inc i' (by omega)).2.1
      have hle : ((P (i' + 1)).natAbs : Int) ≤ S := by
        rcases Int.lt_or_le (S : Int) ((P (i' + 1)).natAbs : Int) with h | h
        · have m1 := Int.mul_le_mul (show (S : Int) + 1 ≤ ((P (i' + 1)).natAbs : Int) by omega) (show (S : Int) ≤ Q (i' + 1 + 1) by omega) (by omega) (by omega)
          rw [Int.add_mul] at m1
          omega
        · exact h
      have he := end_unique hM (R.lat (show i' + 1 < n by omega)) (by omega) (by omega)
      refine ⟨Q (i' + 1), hq1, by omega, ?_⟩
      rw [he]
      split <;> omega
end

/-! Y10 -/
noncomputable def rowV (P Q : Nat → Int) (i : Nat) : V := .tup [.int (P i), .int (Q i)]
noncomputable def rowsV (P Q : Nat → Int) (n : Nat) : List V := (List.range n).map (rowV P Q)
theorem rowsV_len (P Q : Nat → Int) (n : Nat) : (rowsV P Q n).length = n := by simp [rowsV]
theorem rowsV_succ (P Q : Nat → Int) (n : Nat) : rowsV P Q (n + 1) = rowsV P Q n ++ [rowV P Q n] := by simp [rowsV, List.range_succ]
theorem rowsV_get {P Q : Nat → Int} {n i : Nat} (h : i < n) : (rowsV P Q n)[i]? = some (rowV P Q i) := by simp [rowsV, h]
theorem rowsV_getE {P Q : Nat → Int} {n i k : Nat} (e : k = i) (h : i < n) : (rowsV P Q n)[k]? = some (rowV P Q i) := by subst e; exact rowsV_get h
theorem rowsV_pure (P Q : Nat → Int) (n : Nat) : arePure (rowsV P Q n) = true := by
  induction n with
  | zero => rfl
  | succ n ih => rw [rowsV_succ, arePure_append, ih]; rfl
inductive RunAt (M N : Int) (i : Nat) (σ : St) : Prop
  | mk (k : Nat) (h1 : σ.loc "rows" = some (.ref k)) (h2 : σ.mu[k]? = some (false, rowsV (eP M N) (eQ M N) (i + 2))) : RunAt M N i σ
theorem run_bnd {M N : Int} {P Q : Nat → Int} {n i : Nat} (R : Run M N P Q n) (hM : 0 < M) (hi : i < n) : (P i).natAbs ≤ M ∧ (1 ≤ i → Q i ≤ M) := by
  have h2 := R.two
  have mono : ∀ j, j < n → (P j).natAbs ≤ M := by
    intro j hj
    induction j with
    | zero => rw [R.p0]; omega
    | succ j ih => have := R.dec j hj; have := ih (by omega); omega
  refine ⟨mono i hi, fun h1 => ?_⟩
  obtain ⟨j, rfl⟩ : ∃ j, i = j + 1 := ⟨i - 1, by omega⟩
  have d := R.det j hi
  have dc := R.dec j hi
  obtain ⟨_, q1, q0⟩ := R.inc j hi
  have a := Int.mul_nonneg (show (0 : Int) ≤ ((P (j + 1)).natAbs : Int) by omega) q0
  have b := Int.mul_le_mul_of_nonneg_right (show (1 : Int) ≤ ((P j).natAbs : Int) by omega) (show (0 : Int) ≤ Q (j + 1) by omega)
  omega
theorem law_run_ok {T : Tbl} (hT : Tops T hd.heap_39) (hP : TabsOk T) (M N : Int) (n : Nat) (R : Run M N (eP M N) (eQ M N) n) (hM : 0 < M) (hM2 : M ≤ 4096) (hz : ∀ j, 1 ≤ j → j + 1 < n → eP M N j ≠ 0) : FnOkF T 15 "_law_run" [.int M, .int N] (fun v => v = .list (rowsV (eP M N) (eQ M N) n)) := by
  intro outer
  have h2n := R.two
  have hn30 := R.le
  refine FnOkAt.intro (dargs := []) (FnIs.ofK hT (by rfl) (by rfl) (by rfl) (by rfl) (by rfl) (by rfl) (by rfl)) ["power", "number"] ?_ rfl (by rfl) hT.plain ?_
  · intro s vals top hl
    obtain ⟨a, b, rfl⟩ := vals2 hl
    exact ⟨[], fun _ => .nil, BindsTo.of_eq rfl⟩
  · dsimp only
    refine WxO.one ?_
    refine Ws.assign ?_
    repeat walk_at "v"
    show WxO _ _ _ _ _
    refine WxO.cons (WsO.for ?_)
    repeat walk_at "v"
    refine Cb.range1 ?_
    refine ⟨_, _, _, rfl, Src.range (n := 40) (by decide) (by rfl), ?_⟩
    refine WforO.inv (fun i σ => RunAt M N i σ ∧ i + 2 ≤ n) _ ?step ?done _ 0 _ rfl (Nat.zero_le _) ⟨⟨0, rfl, rfl⟩, h2n⟩
    case step =>
      rintro i d σ hd ⟨⟨k, h1, h2⟩, hi⟩
      have hkl : k < σ.mu.length := (List.getElem?_eq_some_iff.mp h2).1
      clear hd
      refine Asg.name ?_
      have hlen := rowsV_len (eP M N) (eQ M N) (i + 2)
      have g0 : (rowsV (eP M N) (eQ M N) (i + 2))[((-2 : Int) + ((rowsV (eP M N) (eQ M N) (i + 2)).length : Int)).toNat]? = some (rowV (eP M N) (eQ M N) i) := rowsV_getE (by omega) (by omega)
      have g1 : (rowsV (eP M N) (eQ M N) (i + 2))[((-1 : Int) + ((rowsV (eP M N) (eQ M N) (i + 2)).length : Int)).toNat]? = some (rowV (eP M N) (eQ M N) (i + 1)) := rowsV_getE (by omega) (by omega)
      have hb0 := (run_bnd R hM (show i < n by omega)).1
      have hb1 := (run_bnd R hM (show i + 1 < n by omega)).1
      by_cases hz0 : eP M N (i + 1) = 0
      · have hin : n = i + 2 := by
          rcases Nat.lt_or_ge (i + 2) n with h | h
          · exact absurd hz0 (hz (i + 1) (by omega) (by omega))
          · omega
        refine WxO.cons (WsO.tryRaiseT (d := 14) (FnIs.at (FnIs.ofK hT (by rfl) (by rfl) (by rfl) (by rfl) (by rfl) (by rfl) (by rfl))) ?_ (Nat.le_of_ble_eq_true rfl) (by rfl) (by decide) (by rfl) (by rfl) (no_zde hT) bb_zde (by decide) (by decide) (by rfl) (by decide) PySem.F.isExc_ZeroDivisionError PySem.F.notTuple_ZeroDivisionError PySem.F.self_ZeroDivisionError (by intro _; rfl) (by rfl))
        repeat walk_at "v"
        refine Su.itemNeg (listOf_ref h2) (by decide) (by omega) (by decide) g0 ?_
        repeat walk_at "v"
        refine Su.tup (v := .int (eP M N i)) (by decide) (by decide) rfl ?_
        repeat walk_at "v"
        refine Su.itemNeg (listOf_ref h2) (by decide) (by omega) (by decide) g1 ?_
        repeat walk_at "v"
        refine Su.tup (v := .int (eP M N (i + 1))) (by decide) (by decide) rfl ?_
        repeat walk_at "v"
        rw [hz0]
        refine ⟨_, _, _, _, _, purs_cons (pur_int _) (purs_cons (pur_int _) purs_nil), int_divmod_zero hT _, h1, pur_ref h2 (rowsV_pure _ _ _), ?_⟩
        rw [hin]
      · have hlt : i + 2 < n := by
          rcases Nat.lt_or_ge (i + 2) n with h | h
          · exact h
          · have hl := R.last
            rw [show n - 1 = i + 1 by omega] at hl
            exact absurd hl hz0
        have hb2 := (run_bnd R hM hlt).1
        have hq2 := (run_bnd R hM hlt).2 (by omega)
        have hq1 := (run_bnd R hM (show i + 1 < n by omega)).2 (by omega)
        have hi1 := (R.inc (i + 1) hlt)
        have hi0 := (R.inc i (by omega))
        refine WxO.cons (WsO.of (Ws.try ?_))
        refine Wx.cons (Ws.assignTup ?_)
        repeat walk_at "v"
        refine We.call (d := 14) (FnIs.at (FnIs.ofK hT (by rfl) (by rfl) (by rfl) (by rfl) (by rfl) (by rfl) (by rfl))) ?_ (Nat.le_of_ble_eq_true rfl)
        repeat walk_at "v"
        refine Su.itemNeg (listOf_ref h2) (by decide) (by omega) (by decide) g0 ?_
        repeat walk_at "v"
        refine Su.tup (v := .int (eP M N i)) (by decide) (by decide) rfl ?_
        repeat walk_at "v"
        refine Su.itemNeg (listOf_ref h2) (by decide) (by omega) (by decide) g1 ?_
        repeat walk_at "v"
        refine Su.tup (v := .int (eP M N (i + 1))) (by decide) (by decide) rfl ?_
        repeat walk_at "v"
        refine CallOk.eq (purs_cons (pur_int _) (purs_cons (pur_int _) purs_nil)) (int_divmod_ok hT hP (eP M N i) (-(eP M N (i + 1))) (by omega) (by omega) (by omega)) ?_
        have sp := eP_step M N i
        have sq := eQ_step M N i
        rw [← sp]
        generalize dmQ (eP M N i) (-(eP M N (i + 1))) = t at sq
        refine Asg.tuple (Asgs.cons (Asgs.cons (Asgs.nil ?_)))
        repeat walk_at "v"
        refine Me.append ?_ hkl
        repeat walk_at "v"
        refine Su.itemNeg (listOf_ref h2) (by decide) (by omega) (by decide) g0 ?_
        repeat walk_at "v"
        refine Su.tup (v := .int (eQ M N i)) (by decide) (by decide) rfl ?_
        repeat walk_at "v"
        refine Su.itemNeg (listOf_ref h2) (by decide) (by omega) (by decide) g1 ?_
        repeat walk_at "v"
        refine Su.tup (v := .int (eQ M N (i + 1))) (by decide) (by decide) rfl ?_
        refine Bi.mul ?_ (.inr (by omega))
        refine Bi.addE sq.symm ?_
        repeat walk_at "v"
        refine ⟨_, h2, by omega, rfl, ?_⟩
        repeat walk_at "v"
        refine ⟨⟨k, h1, ?_⟩, hlt⟩
        show (σ.mu.set k _)[k]? = _
        rw [List.getElem?_set_self hkl, rowsV_succ _ _ (i + 2)]
        rfl
    case done =>
      rintro σ ⟨_, hi⟩
      rw [List.length_map, List.length_range] at hi
      omega

/-! VX4 -/
/-! words of a number -/
noncomputable def numD (ds : List Nat) : Nat := ds.foldl (fun n d => 16 * n + d) 0
noncomputable def wd (ds : List Nat) : List UInt8 := ds.map fun d => (65 + d).toUInt8
theorem numD_snoc (ds : List Nat) (d : Nat) : numD (ds ++ [d]) = 16 * numD ds + d := by simp [numD]
theorem wd_get {ds : List Nat} {i : Nat} {v : V} (hd : ∀ d ∈ ds, d < 16) (h : ((wd ds).map fun c => V.int (c.toNat : Int))[i]? = some v) : ∃ d, i < ds.length ∧ ds.take (i + 1) = ds.take i ++ [d] ∧ v = .int ((65 + d : Nat) : Int) := by
  unfold wd at h
  rw [List.map_map, List.getElem?_map] at h
  obtain ⟨d, h1, h2⟩ := Option.map_eq_some_iff.mp h
  obtain ⟨hi, h3⟩ := List.getElem?_eq_some_iff.mp h1
  have hd16 := hd d (h3 ▸ List.getElem_mem hi)
  refine ⟨d, hi, by rw [List.take_add_one, h1]; rfl, h2.symm.trans ?_⟩
  have : ∀ d : Fin 16, ((65 + d.1).toUInt8).toNat = 65 + d.1 := by decide
  show V.int _ = _
  rw [this ⟨d, hd16⟩]

/-- the figures of a number that has n of them -/
noncomputable def figL (h n : Nat) : List Nat := (List.range n).reverse.map fun k => h / 16 ^ k % 16
theorem apWord_zero : apWord 0 = [] := by rw [apWord]; rfl
theorem figL_succ (h n : Nat) : figL h (n + 1) = figL (h / 16) n ++ [h % 16] := by
  unfold figL
  rw [List.range_succ_eq_map, List.reverse_cons, List.map_append, ← List.map_reverse, List.map_map]
  congr 1
  · refine List.map_congr_left fun k _ => ?_
    show h / 16 ^ (k + 1) % 16 = h / 16 / 16 ^ k % 16
    rw [Nat.pow_succ, Nat.mul_comm, Nat.div_div_eq_div_mul]
  · simp
theorem ap_figs : ∀ (n h : Nat), h < 16 ^ n → (∀ m, n = m + 1 → 16 ^ m ≤ h) → apWord h = wd (figL h n)
  | 0, h, h1, _ => by
    obtain rfl : h = 0 := by simpa using h1
    rw [apWord_zero]; rfl
  | n + 1, h, h1, h2 => by
    have hp := h2 n rfl
    have hpos : 0 < 16 ^ n := Nat.pow_pos (by decide)
    rw [apWord, dif_neg (by omega), figL_succ, ap_figs n (h / 16) (by rw [Nat.pow_succ] at h1; omega) fun m e => ?_]
    · unfold wd; rw [List.map_append]; rfl
    · subst e
      rw [Nat.pow_succ] at hp; omega
theorem ap_cases {h : Nat} (hh : h < 16 ^ 5) : ∃ L, L ≤ 5 ∧ apWord h = wd (figL h L) ∧ h < 16 ^ L ∧ ∀ k, k < 5 → (16 ^ k ≤ h ↔ k < L) := by
  have go : ∀ L, L ≤ 5 → h < 16 ^ L → (∀ m, L = m + 1 → 16 ^ m ≤ h) → ∃ L, L ≤ 5 ∧ apWord h = wd (figL h L) ∧ h < 16 ^ L ∧ ∀ k, k < 5 → (16 ^ k ≤ h ↔ k < L) := by
    intro L h1 h2 h3
    refine ⟨L, h1, ap_figs L h h2 h3, h2, fun k hk => ⟨fun hkh => ?_, fun hkL => ?_⟩⟩
    · rcases Nat.lt_or_ge k L with h | h
      · exact h
      · have := Nat.pow_le_pow_right (n := 16) (by decide) h
        omega
    · obtain ⟨m, rfl⟩ : ∃ m, L = m + 1 := ⟨L - 1, by omega⟩
      have := Nat.pow_le_pow_right (n := 16) (by decide) (show k ≤ m by omega)
      have := h3 m rfl
      omega
  by_cases h0 : h < 16 ^ 0
  · exact go 0 (by omega) h0 fun m e => by omega
  by_cases h1 : h < 16 ^ 1
  · exact go 1 (by omega) h1 fun m e => by obtain rfl : m = 0 := by omega
                                           omega
  by_cases h2 : h < 16 ^ 2
  · exact go 2 (by omega) h2 fun m e => by obtain rfl : m = 1 := by omega
                                           omega
  by_cases h3 : h < 16 ^ 3
  · exact go 3 (by omega) h3 fun m e => by obtain rfl : m = 2 := by omega
                                           omega
  by_cases h4 : h < 16 ^ 4
  · exact go 4 (by omega) h4 fun m e => by obtain rfl : m = 3 := by omega
                                           omega
  · exact go 5 (by omega) hh fun m e => by obtain rfl : m = 4 := by omega
                                           omega
/-- the letters that the law writes for itself -/
noncomputable def ks5 : List Int := (List.range 5).map fun i : Nat => (4 : Int) + (i : Int) * (-1)
theorem ap_told {h : Nat} (hh : h < 16 ^ 5) : ((ks5.filter fun k => decide (((16 ^ k.toNat : Nat) : Int) ≤ (h : Int))).map fun k => 65 + (h : Int) / ((16 ^ k.toNat : Nat) : Int) % 16).map (fun n => n.toNat.toUInt8) = apWord h := by
  obtain ⟨L, hL, e, _, hk⟩ := ap_cases hh
  have ek : ks5 = [4, 3, 2, 1, 0] := by decide
  have f : ∀ k : Nat, k < 5 → decide (((16 ^ k : Nat) : Int) ≤ (h : Int)) = decide (k < L) := fun k hk5 => decide_eq_decide.mpr (by rw [← hk k hk5]; omega)
  have f4 := f 4 (by omega)
  have f3 := f 3 (by omega)
  have f2 := f 2 (by omega)
  have f1 := f 1 (by omega)
  have f0 := f 0 (by omega)
  have g : ∀ k : Nat, (65 + (h : Int) / ((16 ^ k : Nat) : Int) % 16).toNat.toUInt8 = (65 + h / 16 ^ k % 16).toUInt8 := fun k => by
    congr 1
  have g4 := g 4
  have g3 := g 3
  have g2 := g 2
  have g1 := g 1
  have g0 := g 0
  rw [e, ek]
  have t4 : (4 : Int).toNat = 4 := rfl
  have t3 : (3 : Int).toNat = 3 := rfl
  have t2 : (2 : Int).toNat = 2 := rfl
  have t1 : (1 : Int).toNat = 1 := rfl
  have t0 : (0 : Int).toNat = 0 := rfl
  simp only [List.filter_cons, List.filter_nil, t4, t3, t2, t1, t0, f4, f3, f2, f1, f0]
  have : L = 0 ∨ L = 1 ∨ L = 2 ∨ L = 3 ∨ L = 4 ∨ L = 5 := by omega
  rcases this with rfl | rfl | rfl | rfl | rfl | rfl <;> simp only [Nat.lt_irrefl, decide_true, decide_false, if_true, Nat.reduceLT, Bool.false_eq_true, if_false, List.map_cons, List.map_nil, t4, t3, t2, t1, t0, g4, g3, g2, g1, g0] <;> rfl
theorem wd_zeros (n : Nat) : wd (List.replicate n 0) = List.replicate n 65 := by
  unfold wd; rw [List.map_replicate]; rfl
theorem wd_append (a b : List Nat) : wd (a ++ b) = wd a ++ wd b := by simp [wd]
theorem figL_len (h n : Nat) : (figL h n).length = n := by simp [figL]
/-- its last letters -/
theorem ap_last {h sz : Nat} (hh : h < 16 ^ 5) (hs : sz = 2 ∨ sz = 3) : (List.replicate sz (65 : UInt8) ++ apWord h).drop (apWord h).length = wd (figL h sz) ∧ (apWord h).length ≤ 5 ∧ numD (figL h sz) = h % 16 ^ sz ∧ ∀ d ∈ figL h sz, d < 16 := by
  obtain ⟨L, hL, e, hlt, hk⟩ := ap_cases hh
  refine ⟨?_, by rw [e]; simp [wd, figL_len]; exact hL, ?_, fun d hd => ?_⟩
  · rw [e, ← wd_zeros, ← wd_append]
    rw [show (wd (figL h L)).length = L by simp [wd, figL_len]]
    unfold wd
    rw [← List.map_drop]
    congr 1
    have z : ∀ k, h < 16 ^ k → h / 16 ^ k % 16 = 0 := fun k hk => by rw [Nat.div_eq_of_lt hk]
    have : L = 0 ∨ L = 1 ∨ L = 2 ∨ L = 3 ∨ L = 4 ∨ L = 5 := by omega
    rcases hs with rfl | rfl <;> rcases this with rfl | rfl | rfl | rfl | rfl | rfl <;> simp [figL, List.range_succ, List.replicate] <;> omega
  · rcases hs with rfl | rfl <;> simp [figL, List.range_succ, numD] <;> omega
  · unfold figL at hd
    obtain ⟨k, _, rfl⟩ := List.mem_map.mp hd
    exact Nat.mod_lt _ (by decide)
theorem endOf_nat (M h : Nat) : endOf (M : Int) (h : Int) = if 2 * ((h % M : Nat) : Int) ≤ M then ((h % M : Nat) : Int) else ((h % M : Nat) : Int) - M := by
  unfold endOf
  rw [Int.natCast_emod]

/-! Y11 -/
theorem rng_up {n : Nat} : Builtin.Range.rangeSize 1 ((n : Int) + 1) 1 = (n : Int) := by
  unfold Builtin.Range.rangeSize
  simp
  omega
theorem rng_ups {n : Nat} (h : n ≤ 1000000) : Builtin.Range.small 1 ((n : Int) + 1) 1 = true := by
  unfold Builtin.Range.small
  rw [rng_up]
  unfold Builtin.Range.rangeFitsLong
  simp only [Bool.and_eq_true, Bool.or_eq_true, decide_eq_true_eq, beq_iff_eq]
  simp only [if_pos (show ((1 : Int) > 0) by decide)]
  refine ⟨⟨⟨⟨by omega, by omega⟩, by omega⟩, by omega⟩, .inr ?_⟩
  simp only [Bool.and_eq_true, decide_eq_true_eq]
  omega
noncomputable def endL (sz N : Nat) (i : Nat) : List Int := (List.range i).map fun j : Nat => endOf ((16 ^ sz : Nat) : Int) (((j + 1) * N : Nat) : Int)
theorem endL_succ (sz N i : Nat) : (endL sz N i).map V.int ++ [V.int (endOf ((16 ^ sz : Nat) : Int) (((i + 1) * N : Nat) : Int))] = (endL sz N (i + 1)).map V.int := by simp [endL, List.range_succ]
theorem endL_len (sz N i : Nat) : (endL sz N i).length = i := by simp [endL]
inductive EndAt (N sz i : Nat) (σ : St) : Prop
  | mk (k : Nat) (h1 : σ.loc "found" = some (.ref k)) (h2 : σ.mu[k]? = some (false, (endL sz N i).map V.int)) (h3 : σ.loc "number" = some (.int N)) (h4 : σ.loc "size" = some (.int sz)) : EndAt N sz i σ
inductive EndIn (N sz i k : Nat) (p : Nat) (σ : St) : Prop
  | mk (hp : σ.loc "p" = some (.int p)) (h1 : σ.loc "found" = some (.ref k)) (h2 : σ.mu[k]? = some (false, (endL sz N i).map V.int)) (h3 : σ.loc "number" = some (.int N)) (h4 : σ.loc "size" = some (.int sz)) : EndIn N sz i k p σ
theorem pickB_last (b : List UInt8) (s : Nat) (h0 : 1 ≤ s) (h : s ≤ b.length) : pickB b (some (-(s : Int))) none = b.drop (b.length - s) := by
  have : clipAt b.length (-(s : Int)) = b.length - s := by
    unfold clipAt
    rw [if_pos (by omega)]
    omega
  unfold pickB
  simp only [Option.elim, this]
  rw [List.take_of_length_le (by simp)]
theorem flat_as (n : Nat) (c : UInt8) : (List.replicate n [c]).flatten = List.replicate n c := by
  induction n with
  | zero => rfl
  | succ n ih => rw [List.replicate_succ, List.replicate_succ, List.flatten_cons, ih]; rfl
theorem pow16 (m : Nat) : (16 : Int) ^ m = ((16 ^ m : Nat) : Int) := by
  induction m with
  | zero => rfl
  | succ m ih => rw [Int.pow_succ, Nat.pow_succ, ih, Int.natCast_mul]; rfl
theorem pow4 (m : Nat) : (4 : Int) ^ m = ((4 ^ m : Nat) : Int) := by
  induction m with
  | zero => rfl
  | succ m ih => rw [Int.pow_succ, Nat.pow_succ, ih, Int.natCast_mul]; rfl
noncomputable def endBody : List Stmt → List Stmt
  | _ :: .For _ _ b _ _ :: _ => b
  | _ => []
theorem law_ends_ok {T : Tbl} (hT : Tops T hd.heap_39) (N sz : Nat) (hs : sz = 2 ∨ sz = 3) (hN : N < 16 ^ sz) : FnOk T 15 "_law_ends" [.int N, .int sz] (fun v => v = .list ((endL sz N (4 ^ sz)).map .int)) := by
  refine FnOk.intro (dargs := []) (FnIs.ofK hT (by rfl) (by rfl) (by rfl) (by rfl) (by rfl) (by rfl) (by rfl)) ["number", "size"] ?_ rfl (by rfl) hT.plain ?_
  · intro s vals top hl
    obtain ⟨a, b, rfl⟩ := vals2 hl
    exact ⟨[], fun _ => .nil, BindsTo.of_eq rfl⟩
  · dsimp only
    have h4 : 4 ^ sz ≤ 64 ∧ 16 ^ sz ≤ 4096 ∧ 4 ^ sz * 16 ^ sz < 16 ^ 5 := by rcases hs with rfl | rfl <;> decide
    obtain ⟨h64, h4096, h165⟩ := h4
    repeat walk_at "v"
    refine Ws.for ?_
    repeat walk_at "v"
    refine Bi.pow ?_ (by omega) (by omega) (by decide)
    rw [Int.toNat_natCast, pow4]
    repeat walk_at "v"
    refine Cb.range2 ?_
    refine ⟨_, _, _, rfl, Src.range (n := 4 ^ sz) rng_up (rng_ups (by omega)), ?_⟩
    refine Wfor.inv (EndAt N sz) _ ?step ?done _ 0 _ rfl (Nat.zero_le _) ⟨_, rfl, rfl, rfl, rfl⟩
    case done =>
      rintro σ ⟨k, h1, h2, h3, h4⟩
      rw [List.length_map, List.length_range] at h2
      repeat walk_at "v"
      exact ⟨_, _, pur_ref h2 (arePure_map_int _), rfl⟩
    case step =>
      rintro i d σ hd ⟨k, h1, h2, h3, h4⟩
      obtain ⟨hi, e⟩ : i < 4 ^ sz ∧ d = .int ((i + 1 : Nat) : Int) := by
        obtain ⟨hi, e⟩ := List.getElem?_eq_some_iff.mp hd
        rw [List.length_map, List.length_range] at hi
        refine ⟨hi, ?_⟩
        rw [← e]
        simp [rangeV]
        omega
      subst e
      clear hd
      have hkl : k < σ.mu.length := (List.getElem?_eq_some_iff.mp h2).1
      have hH : (i + 1) * N < 16 ^ 5 := Nat.lt_of_le_of_lt (Nat.mul_le_mul (show i + 1 ≤ 4 ^ sz by omega) (Nat.le_of_lt hN)) h165
      generalize hHe : (i + 1) * N = H at hH
      refine Asg.name ?_
      repeat walk_at "v"
      refine Bi.mul ?_ (.inl (by omega))
      rw [show ((i + 1 : Nat) : Int) * (N : Int) = (H : Int) by rw [← hHe, Int.natCast_mul]]
      repeat walk_at "v"
      refine We.call (d := 0) (FnIs.at (FnIs.ofK hT (by rfl) (by rfl) (by rfl) (by rfl) (by rfl) (by rfl) (by rfl))) ?_ (Nat.le_of_ble_eq_true rfl)
      repeat walk_at "v"
      refine Bi.mod ?_ (by decide)
      repeat walk_at "v"
      refine Bi.mul ?_ (.inr (by decide))
      repeat walk_at "v"
      have hsg : 1 - ((i + 1 : Nat) : Int) % 2 * 2 = 1 ∨ 1 - ((i + 1 : Nat) : Int) % 2 * 2 = -1 := by omega
      generalize 1 - ((i + 1 : Nat) : Int) % 2 * 2 = S at hsg
      refine Bi.mul ?_ (.inr (by rcases hsg with rfl | rfl <;> decide))
      have hz : ((H : Int) * S).natAbs = H := by rcases hsg with rfl | rfl <;> simp
      repeat walk_at "v"
      have hap := int2ap_ok hT ((H : Int) * S) (by rw [hz]; exact Nat.lt_trans hH (by decide))
      rw [hz] at hap
      refine CallOk.eq (purs_cons (pur_int _) purs_nil) hap ?_
      clear hap hz hsg
      obtain ⟨l1, l2, l3, l4⟩ := ap_last hH hs
      have hat := ap_told hH
      repeat walk_at "v"
      refine ⟨_, rfl, ?_⟩
      repeat walk_at "v"
      refine Cb.range3 (by decide) (by decide) ?_
      refine ⟨_, _, _, _, _, rfl, Src.range (n := 5) (by decide) (by rfl), caps_cons rfl (pur_int _) rfl, ?_⟩
      rw [rangeV_ints]
      refine comp1n _ (fun k => decide (((16 ^ k.toNat : Nat) : Int) ≤ (H : Int))) (fun k => 65 + (H : Int) / ((16 ^ k.toNat : Nat) : Int) % 16) rfl (by simp) rfl ?hs ?hd
      case hs =>
        intro j hj σ₁ g4 g5
        have hj5 : 0 ≤ j ∧ j ≤ 4 := by
          obtain ⟨a, ha, rfl⟩ := List.mem_map.mp hj
          have := List.mem_range.mp ha
          omega
        have e1 : σ₁.loc "here" = some (.int H) := (g4 _ (by decide)).trans rfl
        have hpp : 0 < 16 ^ j.toNat ∧ 16 ^ j.toNat ≤ 65536 := ⟨Nat.pow_pos (by decide), Nat.pow_le_pow_right (n := 16) (by decide) (show j.toNat ≤ 4 by omega)⟩
        refine Wt.cmp ?_
        repeat walk_at "v"
        refine Bi.pow ?_ hj5.1 (by omega) (by decide)
        rw [pow16]
        repeat walk_at "v"
        split
        · rename_i hc
          refine ⟨by simpa using hc, rfl, fun _ => ?_⟩
          repeat walk_at "v"
          refine Bi.pow ?_ hj5.1 (by omega) (by decide)
          rw [pow16]
          refine Bi.div ?_ (by omega) (lt4096 (by omega))
          repeat walk_at "v"
          refine Bi.mod ?_ (by decide)
          refine Bi.add ⟨rfl, rfl, rfl⟩
        · rename_i hc
          exact ⟨by simpa using hc, rfl, fun h => by cases h⟩
      case hd =>
        intro σ' hmu
        refine ⟨_, _, hmu, arePure_map_int _, ?_⟩
        repeat walk_at "v"
        refine Cb.bytes (ns := ((ks5.filter fun k => decide (((16 ^ k.toNat : Nat) : Int) ≤ (H : Int))).map fun k => 65 + (H : Int) / ((16 ^ k.toNat : Nat) : Int) % 16)) rfl ?_ ?_ ?_
        · intro x hx
          obtain ⟨j, _, rfl⟩ := List.mem_map.mp hx
          omega
        · rw [List.length_map]
          exact Nat.le_trans (List.length_filter_le _ _) (by simp [ks5])
        rw [hat]
        repeat walk_at "v"
        refine Cm.neBT rfl ?_
        repeat walk_at "v"
        refine Ws.mono (Φ := fun g σ => g = .next ∧ EndIn N sz i k (H % 16 ^ sz) σ) ?for1 ?rest
        case for1 =>
          refine Ws.for ?_
          repeat walk_at "v"
          refine Bi.mulB (by decide) (by decide) (by omega) (by omega) ?_
          rw [flat_as, Int.toNat_natCast]
          repeat walk_at "v"
          refine Bi.catB (by simp; omega) ?_
          repeat walk_at "v"
          refine Sl.bytes (by simp; omega) ?_
          have hpick : pickB (List.replicate sz (65 : UInt8) ++ apWord H) (some (-(sz : Int))) none = wd (figL H sz) := by
            rw [pickB_last _ _ (by omega) (by simp), ← l1]
            congr 1
            simp
          rw [hpick]
          refine ⟨_, _, _, rfl, Src.bytes, ?_⟩
          refine Wfor.inv (fun a σ => EndIn N sz i k (numD ((figL H sz).take a)) σ) _ ?step ?done _ 0 _ rfl (Nat.zero_le _) ⟨rfl, h1, h2, h3, h4⟩
          case step =>
            rintro a v σ hv ⟨hp, g1, g2, g3, g4⟩
            obtain ⟨d, hi, hs, rfl⟩ := wd_get l4 hv
            refine Asg.name ?_
            repeat walk_at "v"
            refine Bi.mul ?_ (.inl (by decide))
            repeat walk_at "v"
            refine ⟨?_, g1, g2, g3, g4⟩
            rw [hs, numD_snoc]
            show some _ = some _
            congr 2
            omega
          case done =>
            rintro σ ⟨hp, g1, g2, g3, g4⟩
            rw [show ((wd (figL H sz)).map fun c => V.int (c.toNat : Int)).length = (figL H sz).length by simp [wd], List.take_length, l3] at hp
            exact ⟨rfl, hp, g1, g2, g3, g4⟩
        case rest =>
          rintro g σ ⟨rfl, hp, g1, g2, g3, g4⟩
          have hkl : k < σ.mu.length := (List.getElem?_eq_some_iff.mp g2).1
          have hfin : ∀ σ' : St, σ'.loc = σ.loc → σ'.mu = σ.mu.set k (false, (endL sz N i).map V.int ++ [V.int (endOf ((16 ^ sz : Nat) : Int) (H : Int))]) → EndAt N sz (i + 1) σ' := by
            intro σ' q1 q2
            refine ⟨k, by rw [q1]; exact g1, ?_, by rw [q1]; exact g3, by rw [q1]; exact g4⟩
            rw [q2, List.getElem?_set_self hkl, ← hHe, endL_succ]
          rw [endOf_nat] at hfin
          have hr := Nat.mod_lt H (show 0 < 16 ^ sz from Nat.pow_pos (by decide))
          repeat walk_at "v"
          refine Me.append ?_ hkl
          refine We.ifexp ?_
          repeat walk_at "v"
          refine Bi.mul ?_ (.inl (by decide))
          repeat walk_at "v"
          refine Bi.pow ?_ (by omega) (by omega) (by decide)
          rw [Int.toNat_natCast, pow16]
          repeat walk_at "v"
          by_cases hc : 2 * ((H % 16 ^ sz : Nat) : Int) ≤ ((16 ^ sz : Nat) : Int)
          · rw [if_pos hc] at hfin
            rw [decide_eq_true hc, if_pos rfl]
            repeat walk_at "v"
            refine ⟨_, g2, by simp [endL_len]; omega, rfl, ?_⟩
            repeat walk_at "v"
            exact hfin _ rfl rfl
          · rw [if_neg hc] at hfin
            rw [decide_eq_false hc, if_neg (by decide)]
            repeat walk_at "v"
            refine Bi.pow ?_ (by omega) (by omega) (by decide)
            rw [Int.toNat_natCast, pow16]
            repeat walk_at "v"
            refine ⟨_, g2, by simp [endL_len]; omega, rfl, ?_⟩
            repeat walk_at "v"
            exact hfin _ rfl rfl

/-! Y12 -/
section
variable {C : Cx} {σ : St} {Φ : V → St → Prop}
theorem Bi.divX {a b c : Int} (e : a = c * b) (h0 : b ≠ 0) (hz : b.natAbs < 2 ^ 4096) (h : Φ (.int c) σ) : Bi C σ .FloorDiv (.int a) (.int b) Φ := fun X ok G s va vb R ha hb => by
  obtain ⟨ta, rfl⟩ := ha.int_inv; obtain ⟨tb, rfl⟩ := hb.int_inv
  refine floordiv_int h0 ⟨G, σ, _, .refl, R.toks _, .int _ _, ?_⟩ (.inl (PyProof.noPylong_of_log2 (log2_lt hz)))
  rw [e, Int.mul_fdiv_cancel _ h0]; exact h
/-- a list that is not empty, and the empty one -/
theorem Cm.eqNil {a b : V} {d : V} {ds : List V} (ha : σ.der a = .list (d :: ds)) (hD : (V.list (d :: ds)).isD = true) (hk : kqdOk 6 (V.list (d :: ds)).toD = true) (hb : σ.der b = .list []) (h : Φ (.bool false) σ) : Cm C σ .Eq a b Φ := fun X ok G s va vb R hva hvb => by
  obtain ⟨as, ra⟩ := R.reads hva (by rw [ha]; exact hD)
  obtain ⟨bs, rb⟩ := R.reads hvb (by rw [hb]; rfl)
  rw [ha] at ra
  rw [hb] at rb
  exact eq_dataH ra rb (shaped_ok hk) (shaped_ok (by rfl)) (by have := ok.units; omega) ⟨G, σ, _, .refl, R, .bool _, h⟩
end
noncomputable def pairV (x : Int × Int) : V := .tup [.int x.1, .int x.2]
theorem pairs_D (l : List (Int × Int)) : (V.list (l.map pairV)).isD = true ∧ kqdOk 6 (V.list (l.map pairV)).toD = true := by
  have h1 : areD (l.map pairV) = true := by
    induction l with
    | nil => rfl
    | cons n r ih => simp only [List.map_cons, areD, ih]; rfl
  have h2 : (toDs (l.map pairV)).all (kqdOk 5) = true := by
    clear h1
    induction l with
    | nil => rfl
    | cons n r ih => simp only [List.map_cons, toDs, List.all_cons, ih]; rfl
  exact ⟨by simpa [V.isD] using h1, by simpa [V.toD, kqdOk] using h2⟩
theorem ints_D (ns : List Int) : (V.list (ns.map .int)).isD = true ∧ kqdOk 6 (V.list (ns.map .int)).toD = true := by
  have h1 : areD (ns.map .int) = true := by
    induction ns with
    | nil => rfl
    | cons n r ih => simp only [List.map_cons, areD, V.isD, ih]; rfl
  have h2 : (toDs (ns.map .int)).all (kqdOk 5) = true := by
    clear h1
    induction ns with
    | nil => rfl
    | cons n r ih => simp only [List.map_cons, toDs, List.all_cons, ih]; rfl
  exact ⟨by simpa [V.isD] using h1, by simpa [V.toD, kqdOk] using h2⟩
theorem der_list {σ : St} (ds : List V) : σ.der (.list ds) = .list ds := by simp [St.der]
theorem der_new {lc : Str → Option V} {mu : List (Bool × List V)} {b : Bool} {ds : List V} : St.der ⟨lc, mu ++ [(b, ds)]⟩ (.ref mu.length) = .list ds := der_ref (fr := b) (by simp)
theorem Cm.nePairs {C : Cx} {σ : St} {l : List (Int × Int)} {Φ : V → St → Prop} (h : Φ (.bool false) σ) : Cm C σ .NotEq (.list (l.map pairV)) (.list (l.map pairV)) Φ :=
  Cm.neD (by rw [der_list]; exact (pairs_D l).1) (by rw [der_list]; exact (pairs_D l).2) rfl h
theorem rowsV_pairs (P Q : Nat → Int) (n : Nat) : rowsV P Q n = ((List.range n).map fun i => (P i, Q i)).map pairV := by
  unfold rowsV
  rw [List.map_map]; rfl
theorem dm_share {M a c e side : Int} (hM : 0 < M) (hs : side = if e ≥ 0 then M else -M) (ha : a = c * side + e) (h1 : -M < e) (h2 : e < M) : dmQ a side = c ∧ dmR a side = e ∧ dmQ (-a) (-side) = c ∧ dmR (-a) (-side) = -e ∧ side ≠ 0 := by
  by_cases he : e ≥ 0
  · rw [if_pos he] at hs
    subst hs
    have u := (Int.ediv_emod_unique (a := a) (b := side) (r := e) (q := c) hM).mpr ⟨by rw [ha, Int.mul_comm]; omega, by omega, h2⟩
    unfold dmQ dmR
    rw [if_pos hM, if_pos hM, if_neg (by omega), if_neg (by omega)]
    simp only [Int.neg_neg]
    exact ⟨u.1, u.2, u.1, by rw [u.2], by omega⟩
  · rw [if_neg he] at hs
    subst hs
    have u := (Int.ediv_emod_unique (a := -a) (b := M) (r := -e) (q := c) hM).mpr ⟨by rw [ha, Int.mul_neg, Int.mul_comm]; omega, by omega, by omega⟩
    unfold dmQ dmR
    simp only [Int.neg_neg]
    rw [if_neg (by omega), if_neg (by omega), if_pos hM, if_pos hM]
    exact ⟨u.1, by rw [u.2]; omega, u.1, u.2, by omega⟩
/-! the functions without a name -/
noncomputable def lamKw : Stmt → Option (Arguments × Expr × Scope)
  | .Assign _ (.Call _ _ [⟨_, .Lambda p e sc _, _⟩] _) _ => some (p, e, sc)
  | _ => none
noncomputable def lawLm (K : Frag) (k : Nat) (fd : FuncData) : Prop := ∃ x, ((fnBody K "law").filterMap lamKw)[k]? = some x ∧ LamIs x.1 x.2.1 x.2.2 fd
theorem lam_at {T : Tbl} {K : Frag} {k : Nat} {p : Arguments} {e : Expr} {sc : Scope} (hL : T.lm = lawLm K) (hx : ((fnBody K "law").filterMap lamKw)[k]? = some (p, e, sc)) (fd : FuncData) (h : T.lm k fd) : LamIs p e sc fd := by
  rw [hL] at h
  obtain ⟨x, h1, h2⟩ := h
  rw [hx] at h1
  cases h1
  exact h2
theorem lam_to {T : Tbl} {K : Frag} {k : Nat} {p : Arguments} {e : Expr} {sc : Scope} (hL : T.lm = lawLm K) (hx : ((fnBody K "law").filterMap lamKw)[k]? = some (p, e, sc)) (fd : FuncData) (h : LamIs p e sc fd) : T.lm k fd := by
  rw [hL]
  exact ⟨_, hx, h⟩
theorem rows_isPure {P Q : Nat → Int} {n : Nat} (i : Nat) (v : V) (h : (rowsV P Q n)[i]? = some v) : v.isPure = true ∧ v = rowV P Q i := by
  have hi : i < n := by
    have := (List.getElem?_eq_some_iff.mp h).1
    rw [rowsV_len] at this; exact this
  rw [rowsV_get hi] at h
  cases h
  exact ⟨rfl, rfl⟩
theorem lam_bind {p : Arguments} {e : Expr} {sc : Scope} {n : Str} (hb : ∀ fd, LamIs p e sc fd → ∀ a, bindArgs fd ⟨[a], []⟩ = pure [(n, a)]) (s : Shared) (fd : FuncData) (vals : List Value) (I : LamIs p e sc fd) (hl : vals.length = 1) : BindsTo s fd ⟨vals, []⟩ ([n].zip vals) := by
  obtain ⟨a, rfl⟩ := vals1 hl
  exact BindsTo.of_eq (hb fd I a)
theorem key0 {T : Tbl} (hT : Tops T hd.heap_39) (hL : T.lm = lawLm (hd.heap_39 T.w.params)) (d : Nat) (P Q : Nat → Int) (n : Nat) : KeyOk T d 0 (rowsV P Q n) (fun i => -((P i).natAbs : Int)) := by
  refine ⟨_, _, _, "row", lam_at hL (by rfl), (lam_bind fun fd I a => by obtain ⟨n0, n1, n2, n3, n4, n5, n6, n7, n8, n9⟩ := fd; obtain ⟨i1, i2, i3, i4, i5, i6, i7, i8⟩ := I; dsimp only at i1 i2 i3 i4 i5 i6 i7 i8; subst i1; subst i7; subst i8; rfl), (by rfl), fun i v h => (rows_isPure i v h).1, fun i v h => ?_⟩
  obtain ⟨_, rfl⟩ := rows_isPure i v h
  clear h
  repeat walk_at "v"
  refine Su.tup (v := .int (P i)) (by decide) (by decide) rfl ?_
  repeat walk_at "v"
  refine Cb.abs ?_
  repeat walk_at "v"
  exact ⟨_, _, rfl, rfl⟩
theorem key1 {T : Tbl} (hT : Tops T hd.heap_39) (hL : T.lm = lawLm (hd.heap_39 T.w.params)) (d : Nat) (P Q : Nat → Int) (n : Nat) : KeyOk T d 1 (rowsV P Q n) (fun i => Q i) := by
  refine ⟨_, _, _, "row", lam_at hL (by rfl), (lam_bind fun fd I a => by obtain ⟨n0, n1, n2, n3, n4, n5, n6, n7, n8, n9⟩ := fd; obtain ⟨i1, i2, i3, i4, i5, i6, i7, i8⟩ := I; dsimp only at i1 i2 i3 i4 i5 i6 i7 i8; subst i1; subst i7; subst i8; rfl), (by rfl), fun i v h => (rows_isPure i v h).1, fun i v h => ?_⟩
  obtain ⟨_, rfl⟩ := rows_isPure i v h
  clear h
  repeat walk_at "v"
  exact Su.tup (v := .int (Q i)) (by decide) (by decide) rfl ⟨_, _, rfl, rfl⟩
theorem key2 {T : Tbl} (hT : Tops T hd.heap_39) (hL : T.lm = lawLm (hd.heap_39 T.w.params)) (d : Nat) (P Q : Nat → Int) (n : Nat) : KeyOk T d 2 (rowsV P Q n) (fun i => Q i - ((P i).natAbs : Int)) := by
  refine ⟨_, _, _, "row", lam_at hL (by rfl), (lam_bind fun fd I a => by obtain ⟨n0, n1, n2, n3, n4, n5, n6, n7, n8, n9⟩ := fd; obtain ⟨i1, i2, i3, i4, i5, i6, i7, i8⟩ := I; dsimp only at i1 i2 i3 i4 i5 i6 i7 i8; subst i1; subst i7; subst i8; rfl), (by rfl), fun i v h => (rows_isPure i v h).1, fun i v h => ?_⟩
  obtain ⟨_, rfl⟩ := rows_isPure i v h
  clear h
  repeat walk_at "v"
  refine Su.tup (v := .int (Q i)) (by decide) (by decide) rfl ?_
  repeat walk_at "v"
  refine Su.tup (v := .int (P i)) (by decide) (by decide) rfl ?_
  repeat walk_at "v"
  refine Cb.abs ?_
  repeat walk_at "v"
  exact ⟨_, _, rfl, rfl⟩

/-! Y13 -/
noncomputable abbrev pwr (sz : Nat) : Int := ((16 ^ sz : Nat) : Int)
inductive LawC (sz N n : Nat) (σ : St) : Prop
  | mk (hs : σ.loc "size" = some (.int sz)) (hp : σ.loc "power" = some (.int (pwr sz))) (hn : σ.loc "number" = some (.int N)) (hr : σ.loc "rows" = some (.list (rowsV (eP (pwr sz) N) (eQ (pwr sz) N) n))) (he : σ.loc "ends" = some (.list ((endL sz N (4 ^ sz)).map .int))) : LawC sz N n σ
theorem pwr_facts {sz : Nat} (h : sz = 2 ∨ sz = 3) : 256 ≤ pwr sz ∧ pwr sz ≤ 4096 ∧ pwr sz = ((4 ^ sz : Nat) : Int) * ((4 ^ sz : Nat) : Int) ∧ 16 ≤ 4 ^ sz ∧ 4 ^ sz ≤ 64 ∧ ((4 ^ sz : Nat) : Int) < pwr sz := by
  rcases h with rfl | rfl <;> decide
theorem endL_get {sz N S : Nat} {k : Int} (h1 : 1 ≤ k) (h2 : k ≤ S) : ((endL sz N S).map V.int)[(k - 1).toNat]? = some (.int (endOf (pwr sz) (k * N))) := by
  have : (k - 1).toNat < S := by omega
  simp only [endL, List.map_map, List.getElem?_map, List.getElem?_range this, Option.map_some, Function.comp]
  congr 3
  rw [Int.natCast_mul]
  congr 1
  omega
theorem due_len (M N : Int) (W : Nat) (near : Int) : (dueL M N W near).length ≤ W := by
  unfold dueL
  rw [List.length_map]
  exact Nat.le_trans (List.length_filter_le _ _) (by simp [kS])
theorem due_mem {M N : Int} {W : Nat} {near : Int} {x : Int × Int} (h : x ∈ dueL M N W near) : 1 ≤ x.2 ∧ x.2 ≤ W ∧ x.1 = endOf M (x.2 * N) := by
  unfold dueL at h
  obtain ⟨k, hk, rfl⟩ := List.mem_map.mp h
  obtain ⟨hk, _⟩ := List.mem_filter.mp hk
  obtain ⟨a, b⟩ := kS_mem.mp hk
  exact ⟨a, b, rfl⟩
theorem pairs_pure (l : List (Int × Int)) : arePure (l.map pairV) = true := by
  induction l with
  | nil => rfl
  | cons n r ih => simp only [List.map_cons, arePure, ih]; rfl
theorem pur_pairs {σ : St} (l : List (Int × Int)) : σ.pur (.list (l.map pairV)) = some (.list (l.map pairV), σ) := by simp [St.pur, V.isPure, pairs_pure]
theorem rows_pur {σ : St} (P Q : Nat → Int) (n : Nat) : σ.pur (.list (rowsV P Q n)) = some (.list (rowsV P Q n), σ) := by simp [St.pur, V.isPure, rowsV_pure]
structure TabL (T : Tbl) : Prop where
  h : T.tabs 105 = some (("law.<locals>." : Str) ++ "<lambda>")
theorem law_end {T : Tbl} (hT : Tops T hd.heap_39) (hP : TabsOk T) (hLt : TabL T) (hL : T.lm = lawLm (hd.heap_39 T.w.params)) {sz N n W : Nat} (hsz : sz = 2 ∨ sz = 3) (hN : (N : Int) < pwr sz) (R : Run (pwr sz) N (eP (pwr sz) N) (eQ (pwr sz) N) n) (hW : (W : Int) ≤ ((4 ^ sz : Nat) : Int)) {near : Int} {σ : St} (h : LawC sz N n σ)
    (hdue : σ.loc "due" = some (.list ((dueL (pwr sz) N W near).map pairV))) {body : List Stmt} (hb : body = (fnBody (hd.heap_39 T.w.params) "law").drop 19) :
    WxO ⟨T, 16, fnScope (hd.heap_39 T.w.params) "law", true⟩ (escL ⟨T, 16, fnScope (hd.heap_39 T.w.params) "law", true⟩ [] (fun v => v = .bool true) 107 "law.<locals>.") σ body (Ret (fun v => v = .bool true)) := by
  subst hb
  show WxO ⟨T, 16, ⟨_, _, _, _, _⟩, true⟩ _ σ (_ :: _) _
  obtain ⟨p256, p4096, psq, s16, s64, spw⟩ := pwr_facts hsz
  have hM : 0 < pwr sz := by omega
  refine WxO.one (Ws.mono (Φ := fun g σ' => g = .next ∧ LawC sz N n σ') ?for1 ?rest)
  case for1 =>
    refine Ws.for ?_
    repeat walk_at "v"
    refine Sl.list (ds := (dueL (pwr sz) N W near).map pairV) rfl (by have := due_len (pwr sz) N W near; rw [List.length_map]; omega) (by decide) ?_
    rw [pickL_map]
    refine ⟨_, _, _, pur_pairs _, Src.list, ?_⟩
    refine Wfor.inv (fun _ σ' => LawC sz N n σ') _ ?step ?done _ 0 _ rfl (Nat.zero_le _) h
    case done => exact fun σ' h' => ⟨rfl, h'⟩
    case step =>
      clear h hdue σ
      rintro i d σ hd ⟨hs, hp, hn, hr, he⟩
      obtain ⟨x, hx, rfl⟩ : ∃ x, x ∈ dueL (pwr sz) N W near ∧ d = pairV x := by
        rw [List.getElem?_map] at hd
        obtain ⟨x, h1, h2⟩ := Option.map_eq_some_iff.mp hd
        exact ⟨x, pickL_mem (List.mem_of_getElem? h1), h2.symm⟩
      clear hd
      obtain ⟨k1, k2, hE⟩ := due_mem hx
      obtain ⟨e, k⟩ := x
      dsimp only at k1 k2 hE
      obtain ⟨b1, b2⟩ := end_bound hM (k * N)
      obtain ⟨t, ht⟩ := end_lat (N := (N : Int)) hM k
      rw [← hE] at b1 b2 ht
      have hkN : (k * (N : Int)).natAbs < 2 ^ 200 := by
        rw [Int.natAbs_mul]
        have : k.natAbs * (N : Int).natAbs ≤ 64 * 4096 := Nat.mul_le_mul (by omega) (by omega)
        omega
      have hk64 : k.natAbs < 2 ^ 64 := by omega
      have hsm : (if e ≥ 0 then pwr sz else -(pwr sz)).natAbs ≤ 4096 ∧ (if e ≥ 0 then pwr sz else -(pwr sz)) ≠ 0 := by split <;> omega
      have hex : ∃ c, k * (N : Int) - e = c * (if e ≥ 0 then pwr sz else -(pwr sz)) := by
        split
        · exact ⟨-t, by rw [Int.neg_mul]; omega⟩
        · exact ⟨t, by rw [Int.mul_neg]; omega⟩
      obtain ⟨c, hc⟩ := hex
      refine Asg.tuple (Asgs.cons (Asgs.cons (Asgs.nil ?_)))
      refine Wx.cons (Ws.assign ?_)
      refine We.mono (Φ := fun v σ' => v = .int (if e ≥ 0 then pwr sz else -(pwr sz)) ∧ σ' = (σ.set "end" (.int e)).set "times" (.int k)) ?side ?rest1
      case side =>
        refine We.ifexp ?_
        refine Wt.cmp ?_
        repeat walk_at "v"
        by_cases he0 : e ≥ 0
        · rw [decide_eq_true he0, if_pos rfl, if_pos he0]
          repeat walk_at "v"
          rfl
        · rw [decide_eq_false he0, if_neg (by decide), if_neg he0]
          repeat walk_at "v"
          rfl
      case rest1 =>
        rintro v σ' ⟨rfl, rfl⟩
        have sh := dm_share hM (a := k * (N : Int)) (c := c) (e := e) rfl (by omega) (by omega) (by omega)
        generalize (if e ≥ 0 then pwr sz else -(pwr sz)) = side at *
        obtain ⟨d1, d2, d3, d4, d5⟩ := sh
        have c1 := int_divmod_ok hT hP (k * (N : Int)) side d5 (by omega) (by omega)
        have c2 := int_divmod_ok hT hP (-(k * (N : Int))) (-side) (by omega) (by omega) (by omega)
        rw [d1, d2] at c1
        rw [d3, d4] at c2
        repeat walk_at "v"
        refine Bi.mul ?_ (.inl hk64)
        repeat walk_at "v"
        refine Bi.divX hc hsm.2 (lt4096 (by omega)) ?_
        repeat walk_at "v"
        refine We.call (d := 14) (FnIs.at (FnIs.ofK hT (by rfl) (by rfl) (by rfl) (by rfl) (by rfl) (by rfl) (by rfl))) ?_ (Nat.le_of_ble_eq_true rfl)
        repeat walk_at "v"
        refine Bi.mul ?_ (.inl hk64)
        repeat walk_at "v"
        refine CallOk.eq (purs_cons (pur_int _) (purs_cons (pur_int _) purs_nil)) c1 ?_
        repeat walk_at "v"
        refine Cm.neD (by rfl) (by rfl) rfl ?_
        repeat walk_at "v"
        refine We.call (d := 14) (FnIs.at (FnIs.ofK hT (by rfl) (by rfl) (by rfl) (by rfl) (by rfl) (by rfl) (by rfl))) ?_ (Nat.le_of_ble_eq_true rfl)
        repeat walk_at "v"
        refine Bi.mul ?_ (.inl (by omega))
        rw [Int.neg_mul]
        repeat walk_at "v"
        refine CallOk.eq (purs_cons (pur_int _) (purs_cons (pur_int _) purs_nil)) c2 ?_
        repeat walk_at "v"
        refine Cm.neD (by rfl) (by rfl) rfl ?_
        repeat walk_at "v"
        exact ⟨hs, hp, hn, hr, he⟩
  case rest =>
    clear h hdue hP σ
    rintro g σ ⟨rfl, hs, hp, hn, hr, he⟩
    show WxO _ _ _ _ _
    have h30 := R.le
    obtain ⟨cr, hcr, ebis, hle, kk, kk1, kk2, kk3⟩ := R.cross (S := 4 ^ sz) psq (by omega)
    refine WxO.cons (WsO.assign ?_)
    refine WeO.callKey (d := 1) (FnIs.at (FnIs.ofK hT (by rfl) (by rfl) (by rfl) (by rfl) (by rfl) (by rfl) (by rfl))) ?_ (Nat.le_of_ble_eq_true rfl) (by rfl) (by decide) (by rfl)
    repeat walk_at "v"
    refine WeO.lam (P := 105) (k := 2) (fun h X => codeHd_of_K X (by rw [hT.frag]; rfl)) hLt.h (lam_to hL (by rfl)) ?_ (by intro _; rfl) (by intro _; rfl)
    refine ⟨_, _, _, purs_key _ _ (rowsV_pure _ _ _), bisect_left_key hT 1 0 _ _ _ _ (key2 hT hL 0 _ _ _) (Nat.le_refl _) (by rw [rowsV_len]; omega), ?_⟩
    rintro _ rfl
    rw [rowsV_len, ebis]
    clear ebis
    refine WxO.one (Ws.ret ?_)
    have w0 : (rowsV (eP (pwr sz) N) (eQ (pwr sz) N) n)[(((cr + 1 : Nat) : Int) - 1).toNat]? = some (rowV (eP (pwr sz) N) (eQ (pwr sz) N) cr) := rowsV_getE (by omega) (by omega)
    have w1 : (rowsV (eP (pwr sz) N) (eQ (pwr sz) N) n)[((cr + 1 : Nat) : Int).toNat]? = some (rowV (eP (pwr sz) N) (eQ (pwr sz) N) (cr + 1)) := rowsV_getE (by omega) (by omega)
    repeat walk_at "v"
    refine Su.item (ds := rowsV (eP (pwr sz) N) (eQ (pwr sz) N) n) rfl (by omega) (by omega) w0 ?_
    repeat walk_at "v"
    refine Su.tup (v := .int (eP (pwr sz) N cr)) (by decide) (by decide) rfl ?_
    repeat walk_at "v"
    refine Cb.abs ?_
    repeat walk_at "v"
    refine Su.item (ds := rowsV (eP (pwr sz) N) (eQ (pwr sz) N) n) rfl (by omega) (by omega) w1 ?_
    repeat walk_at "v"
    refine Su.tup (v := .int (eQ (pwr sz) N (cr + 1))) (by decide) (by decide) rfl ?_
    repeat walk_at "v"
    refine Cb.min2 ?_
    generalize (if eQ (pwr sz) N (cr + 1) < ((eP (pwr sz) N cr).natAbs : Int) then eQ (pwr sz) N (cr + 1) else ((eP (pwr sz) N cr).natAbs : Int)) = mm at hle kk3
    repeat walk_at "v"
    refine Bi.pow ?_ (by omega) (by omega) (by decide)
    rw [Int.toNat_natCast, pow4]
    repeat walk_at "v"
    refine Cb.range1 ?_
    refine ⟨_, _, _, _, _, rfl, Src.range (n := 4 ^ sz) rng1 (rng1s (by omega)), caps_cons he (pur_ints _) rfl, ?_⟩
    rw [rangeV_ints]
    refine comp1n _ (fun _ => true) (fun k => if k + 1 > ((endOf (pwr sz) ((k + 1) * N)).natAbs : Int) then k + 1 else ((endOf (pwr sz) ((k + 1) * N)).natAbs : Int)) rfl (by simp; omega) rfl ?hs ?hd
    case hs =>
      intro k hk σ₁ g4 g5
      have hk2 : 0 ≤ k ∧ k < ((4 ^ sz : Nat) : Int) := by
        obtain ⟨a, ha, rfl⟩ := List.mem_map.mp hk
        have := List.mem_range.mp ha
        omega
      have e1 : σ₁.loc "ends" = some (.list ((endL sz N (4 ^ sz)).map .int)) := (g4 _ (by decide)).trans rfl
      have hg : ((endL sz N (4 ^ sz)).map V.int)[k.toNat]? = some (.int (endOf (pwr sz) ((k + 1) * N))) := by
        have := endL_get (sz := sz) (N := N) (S := 4 ^ sz) (k := k + 1) (by omega) (by omega)
        rw [show k + 1 - 1 = k by omega] at this
        exact this
      refine ⟨rfl, rfl, fun _ => ?_⟩
      repeat walk_at "v"
      refine Su.item (ds := (endL sz N (4 ^ sz)).map .int) rfl hk2.1 (by omega) hg ?_
      repeat walk_at "v"
      refine Cb.abs ?_
      repeat walk_at "v"
      refine Cb.max2 ?_
      exact ⟨rfl, rfl, rfl⟩
    case hd =>
      intro σ' hmu
      rw [filter_tt] at hmu
      refine ⟨_, _, hmu, arePure_map_int _, ?_⟩
      repeat walk_at "v"
      refine Cb.min (ns := ((List.range (4 ^ sz)).map fun i : Nat => (0 : Int) + (i : Int) * 1).map fun k => if k + 1 > ((endOf (pwr sz) ((k + 1) * N)).natAbs : Int) then k + 1 else ((endOf (pwr sz) ((k + 1) * N)).natAbs : Int)) rfl ?_ ?_
      · intro h
        have := congrArg List.length h
        simp at this <;> omega
      · intro m hm hmin
        have h1 : mm ≤ m := by
          obtain ⟨j, hj, rfl⟩ := List.mem_map.mp hm
          obtain ⟨a, ha, rfl⟩ := List.mem_map.mp hj
          exact hle _ (by omega)
        have h2 : m ≤ mm := by
          rw [← kk3]
          refine hmin _ (List.mem_map.mpr ⟨kk - 1, List.mem_map.mpr ⟨(kk - 1).toNat, List.mem_range.mpr (by omega), by omega⟩, ?_⟩)
          rw [show kk - 1 + 1 = kk by omega]
        have h3 : mm = m := by omega
        refine Cm.eq ?_
        rw [decide_eq_true h3]
        exact ⟨_, _, rfl, rfl⟩

/-! Y14 -/
theorem We.val {C : Cx} {σ : St} {e : Expr} {w : V} {Φ : V → St → Prop} (h : We C σ e fun v σ' => v = w ∧ σ' = σ) (k : Φ w σ) : We C σ e Φ := h.mono fun v σ' ⟨a, b⟩ => by subst a; subst b; exact k
theorem We.valE {C : Cx} {σ : St} {e : Expr} {q : V → Prop} {Φ : V → St → Prop} (h : We C σ e fun v σ' => q v ∧ σ'.loc = σ.loc) (k : ∀ v mu, q v → Φ v ⟨σ.loc, mu⟩) : We C σ e Φ := h.mono fun v σ' ⟨a, b⟩ => by
  obtain ⟨loc, mu⟩ := σ'
  dsimp only at b
  subst b
  exact k v mu a
theorem listOf_new {lc : Str → Option V} {mu : List (Bool × List V)} {b : Bool} {ds : List V} : St.listOf ⟨lc, mu ++ [(b, ds)]⟩ (.ref mu.length) = some ds := by simp [St.listOf]
noncomputable def sel0 : V → Int
  | .tup [.int p, .int _] => p
  | _ => 0
noncomputable def sel1 : V → Int
  | .tup [.int _, .int q] => q
  | _ => 0
theorem rowsV_mem {P Q : Nat → Int} {n : Nat} {d : V} (h : d ∈ rowsV P Q n) : ∃ i, i < n ∧ d = rowV P Q i := by
  obtain ⟨i, hi, rfl⟩ := List.mem_map.mp h
  exact ⟨i, List.mem_range.mp hi, rfl⟩
theorem mem_rowsV {P Q : Nat → Int} {n i : Nat} (h : i < n) : rowV P Q i ∈ rowsV P Q n := List.mem_map.mpr ⟨i, List.mem_range.mpr h, rfl⟩
theorem map_sel (l : List V) (f : V → Int) : l.map (fun d => V.int (f d)) = (l.map f).map V.int := by rw [List.map_map]; rfl
/-- the comprehension over the rows with a look at one of both -/
theorem comp1s {C : Cx} {x : Str} {px : Pos} {elt : Expr} {ifs : List Expr} {σ : St} {Φ : St → Prop} (P Q : Nat → Int) (n : Nat) (p : V → Bool) (f : V → Int) (hk : kindOk C x = true) (hz : n ≤ 1000000) (h0 : σ.mu = [(false, [])])
    (h : ∀ i, i < n → ∀ σ₁ : St, (∀ m, m ≠ x → σ₁.loc m = σ.loc m) → σ₁.loc x = some (rowV P Q i) → Wifs C ifs σ₁ fun b σ₂ => b = p (rowV P Q i) ∧ σ₂ = σ₁ ∧ (b = true → We C σ₁ elt fun v σ₃ => v = .int (f (rowV P Q i)) ∧ σ₃.loc = σ₁.loc ∧ σ₃.mu[0]? = σ₁.mu[0]?))
    (hΦ : ∀ σ' : St, σ'.mu[0]? = some (false, (((rowsV P Q n).filter p).map f).map V.int) → Φ σ') : Witems C (.Name x px) (Wturn C elt [] ifs) (rowsV P Q n) σ Φ := by
  refine comp1 _ p (fun d => .int (f d)) hk (by rw [rowsV_len]; exact hz) h0 ?_ fun σ' hmu => hΦ σ' (by rw [hmu, map_sel])
  intro d hd σ₁ h1 h2
  obtain ⟨i, hi, rfl⟩ := rowsV_mem hd
  exact h i hi σ₁ h1 h2
theorem told_map (W : Nat) (near p q : Int) : ((kS W).filter fun k => decide (k * q ≤ W) && decide (k * (p.natAbs : Int) ≤ near)).map (fun k => V.tup [.int (k * p), .int (k * q)]) = (toldL W near p q).map pairV := by
  unfold toldL; rw [List.map_map]; rfl
theorem due_map (M N : Int) (W : Nat) (near : Int) : ((kS W).filter fun k => decide (((endOf M (k * N)).natAbs : Int) ≤ near)).map (fun k => V.tup [.int (endOf M (k * N)), .int k]) = (dueL M N W near).map pairV := by
  unfold dueL; rw [List.map_map]; rfl
theorem law_mid {T : Tbl} (hT : Tops T hd.heap_39) (hP : TabsOk T) (hLt : TabL T) (hL : T.lm = lawLm (hd.heap_39 T.w.params)) {sz N n : Nat} (hsz : sz = 2 ∨ sz = 3) (hN : (N : Int) < pwr sz) (R : Run (pwr sz) N (eP (pwr sz) N) (eQ (pwr sz) N) n) {c0 c1 c2 c3 c4 : Int} {σ : St} (h : LawC sz N n σ)
    (hc : σ.loc "cells" = some (.list [.int c0, .int c1, .int c2, .int c3, .int c4])) {body : List Stmt} (hb : body = (fnBody (hd.heap_39 T.w.params) "law").drop 9) :
    WxO ⟨T, 16, fnScope (hd.heap_39 T.w.params) "law", true⟩ (escL ⟨T, 16, fnScope (hd.heap_39 T.w.params) "law", true⟩ [] (fun v => v = .bool true) 107 "law.<locals>.") σ body (Ret (fun v => v = .bool true)) := by
  subst hb
  show WxO ⟨T, 16, ⟨_, _, _, _, _⟩, true⟩ (escL ⟨T, 16, ⟨_, _, _, _, _⟩, true⟩ [] _ _ _) σ (_ :: _) _
  obtain ⟨p256, p4096, psq, s16, s64, spw⟩ := pwr_facts hsz
  have hM : 0 < pwr sz := by omega
  have h30 := R.le
  have h2n := R.two
  obtain ⟨hs, hp, hn, hr, he⟩ := h
  repeat walk_at "v"
  refine Su.item (v := .int c3) rfl (by decide) (by decide) rfl ?_
  repeat walk_at "v"
  refine Bi.pow ?_ (by omega) (by omega) (by decide)
  rw [Int.toNat_natCast, pow4]
  refine Bi.mod ?_ (by omega)
  obtain ⟨F, hF⟩ : ∃ F : Nat, 1 + c3 % ((4 ^ sz : Nat) : Int) = (F : Int) ∧ 1 ≤ F ∧ F ≤ 4 ^ sz := by
    have h1 := Int.emod_nonneg c3 (show ((4 ^ sz : Nat) : Int) ≠ 0 by omega)
    have h2 := Int.emod_lt_of_pos c3 (show 0 < ((4 ^ sz : Nat) : Int) by omega)
    exact ⟨(1 + c3 % ((4 ^ sz : Nat) : Int)).toNat, by omega, by omega, by omega⟩
  refine Bi.addE hF.1 ?_
  obtain ⟨_, hF1, hF2⟩ := hF
  show WxO _ _ _ _ _
  refine WxO.one (Ws.assign ?_)
  refine We.valE (q := fun v => ∃ W : Nat, v = .int W ∧ 1 ≤ W ∧ W ≤ 4 ^ sz) ?wide ?rest1
  case wide =>
    refine We.ifexp ?_
    refine Wt.cmp ?_
    repeat walk_at "v"
    refine Su.item (v := .int c0) rfl (by decide) (by decide) rfl ?_
    repeat walk_at "v"
    refine Bi.div (b := 8) ?_ (by decide) (lt4096 (by decide))
    repeat walk_at "v"
    refine Bi.mod ?_ (by decide)
    repeat walk_at "v"
    by_cases hb : c0 / 8 % 2 = 0
    · rw [decide_eq_true hb, if_pos rfl]
      repeat walk_at "v"
      exact ⟨⟨F, rfl, hF1, hF2⟩, rfl⟩
    · rw [decide_eq_false hb, if_neg (by decide)]
      repeat walk_at "v"
      refine ⟨_, _, _, _, _, rows_pur _ _ _, Src.list, caps_cons rfl (pur_int _) rfl, ?_⟩
      refine comp1s _ _ n (fun d => decide (sel1 d ≤ F)) sel1 rfl (by omega) rfl ?hs ?hd
      case hs =>
        intro i hi σ₁ g4 g5
        have e1 : σ₁.loc "far" = some (.int F) := (g4 _ (by decide)).trans rfl
        refine Wt.cmp ?_
        repeat walk_at "v"
        refine Su.tup (v := .int (eQ (pwr sz) N i)) (by decide) (by decide) rfl ?_
        repeat walk_at "v"
        split
        · rename_i hc
          refine ⟨hc.symm, rfl, fun _ => ?_⟩
          repeat walk_at "v"
          exact Su.tup (v := .int (eQ (pwr sz) N i)) (by decide) (by decide) rfl ⟨rfl, rfl, rfl⟩
        · rename_i hc
          exact ⟨((Bool.not_eq_true _).mp hc).symm, rfl, fun h => by cases h⟩
      case hd =>
        intro σ' hmu
        refine ⟨_, _, hmu, arePure_map_int _, ?_⟩
        have hone : (1 : Int) ∈ ((rowsV (eP (pwr sz) N) (eQ (pwr sz) N) n).filter fun d => decide (sel1 d ≤ F)).map sel1 := by
          refine List.mem_map.mpr ⟨_, List.mem_filter.mpr ⟨mem_rowsV (show 1 < n by omega), ?_⟩, ?_⟩
          · show decide (eQ (pwr sz) N 1 ≤ F) = true
            rw [R.q1]; exact decide_eq_true (by omega)
          · show eQ (pwr sz) N 1 = 1
            exact R.q1
        repeat walk_at "v"
        refine Cb.max (ns := ((rowsV (eP (pwr sz) N) (eQ (pwr sz) N) n).filter fun d => decide (sel1 d ≤ F)).map sel1) rfl (by intro h; rw [h] at hone; cases hone) ?_
        intro m hm hmax
        obtain ⟨d, hd, rfl⟩ := List.mem_map.mp hm
        have h1 := hmax _ hone
        have h2 : sel1 d ≤ F := of_decide_eq_true (List.mem_filter.mp hd).2
        exact ⟨⟨(sel1 d).toNat, by congr 1; omega, by omega, by omega⟩, rfl⟩
  case rest1 =>
    rintro v mu1 ⟨W, rfl, hW1, hW2⟩
    repeat walk_at "v"
    refine Bi.mul ?_ (.inl (by decide))
    refine Bi.div ?_ (by omega) (lt4096 (by omega))
    have hmost : 0 ≤ (pwr sz - 1) / (2 * (W : Int)) ∧ 2 * (W : Int) * ((pwr sz - 1) / (2 * (W : Int))) < pwr sz := by
      have h1 := Int.mul_ediv_add_emod (pwr sz - 1) (2 * (W : Int))
      have h2 := Int.emod_nonneg (pwr sz - 1) (show 2 * (W : Int) ≠ 0 by omega)
      exact ⟨Int.ediv_nonneg (by omega) (by omega), by omega⟩
    generalize (pwr sz - 1) / (2 * (W : Int)) = most at hmost
    obtain ⟨hm0, hm1⟩ := hmost
    show WxO _ _ _ _ _
    refine WxO.one (Ws.assign ?_)
    refine We.valE (q := fun v => ∃ x : Int, v = .int x ∧ 0 ≤ x ∧ x ≤ most) ?near ?rest2
    case near =>
      refine We.ifexp ?_
      refine Wt.cmp ?_
      repeat walk_at "v"
      refine Su.item (v := .int c0) rfl (by decide) (by decide) rfl ?_
      repeat walk_at "v"
      refine Bi.div (b := 4) ?_ (by decide) (lt4096 (by decide))
      repeat walk_at "v"
      refine Bi.mod ?_ (by decide)
      repeat walk_at "v"
      by_cases hb : c0 / 4 % 2 = 0
      · rw [decide_eq_true hb, if_pos rfl]
        repeat walk_at "v"
        refine Su.item (v := .int c4) rfl (by decide) (by decide) rfl ?_
        repeat walk_at "v"
        refine Bi.mod ?_ (by omega)
        have h1 := Int.emod_nonneg c4 (show most + 1 ≠ 0 by omega)
        have h2 := Int.emod_lt_of_pos c4 (show 0 < most + 1 by omega)
        exact ⟨⟨_, rfl, h1, by omega⟩, rfl⟩
      · rw [decide_eq_false hb, if_neg (by decide)]
        repeat walk_at "v"
        refine ⟨_, _, _, _, _, rows_pur _ _ _, Src.list, caps_cons rfl (pur_int _) rfl, ?_⟩
        refine comp1s _ _ n (fun d => decide (((sel0 d).natAbs : Int) ≤ most)) (fun d => ((sel0 d).natAbs : Int)) rfl (by omega) rfl ?hs ?hd
        case hs =>
          intro i hi σ₁ g4 g5
          have e1 : σ₁.loc "most" = some (.int most) := (g4 _ (by decide)).trans rfl
          refine Wt.cmp ?_
          repeat walk_at "v"
          refine Su.tup (v := .int (eP (pwr sz) N i)) (by decide) (by decide) rfl ?_
          repeat walk_at "v"
          refine Cb.abs ?_
          repeat walk_at "v"
          split
          · rename_i hc
            refine ⟨hc.symm, rfl, fun _ => ?_⟩
            repeat walk_at "v"
            refine Su.tup (v := .int (eP (pwr sz) N i)) (by decide) (by decide) rfl ?_
            repeat walk_at "v"
            refine Cb.abs ?_
            exact ⟨rfl, rfl, rfl⟩
          · rename_i hc
            exact ⟨((Bool.not_eq_true _).mp hc).symm, rfl, fun h => by cases h⟩
        case hd =>
          intro σ' hmu
          refine ⟨_, _, hmu, arePure_map_int _, ?_⟩
          have hall : ∀ x ∈ ((rowsV (eP (pwr sz) N) (eQ (pwr sz) N) n).filter fun d => decide (((sel0 d).natAbs : Int) ≤ most)).map (fun d => ((sel0 d).natAbs : Int)), 0 ≤ x ∧ x ≤ most := by
            intro x hx
            obtain ⟨d, hd, rfl⟩ := List.mem_map.mp hx
            have h2 : ((sel0 d).natAbs : Int) ≤ most := of_decide_eq_true (List.mem_filter.mp hd).2
            omega
          have hlen : (((rowsV (eP (pwr sz) N) (eQ (pwr sz) N) n).filter fun d => decide (((sel0 d).natAbs : Int) ≤ most)).map (fun d => ((sel0 d).natAbs : Int))).length ≤ 30 := by
            rw [List.length_map]
            exact Nat.le_trans (List.length_filter_le _ _) (by rw [rowsV_len]; omega)
          generalize (((rowsV (eP (pwr sz) N) (eQ (pwr sz) N) n).filter fun d => decide (((sel0 d).natAbs : Int) ≤ most)).map (fun d => ((sel0 d).natAbs : Int))) = ns at hall hlen
          refine Bi.cat (xs := [.int 0]) (ys := ns.map V.int) listOf_new rfl (by simp; omega) ?_
          repeat walk_at "v"
          refine Cb.max (ns := 0 :: ns) rfl (by simp) ?_
          intro m hm hmax
          rcases List.mem_cons.mp hm with rfl | hm
          · exact ⟨⟨_, rfl, by omega, hm0⟩, rfl⟩
          · exact ⟨⟨_, rfl, (hall m hm).1, (hall m hm).2⟩, rfl⟩
    case rest2 =>
      rintro v mu2 ⟨near, rfl, hn0, hn1⟩
      have hWn : 2 * (W : Int) * near < pwr sz := by
        have := Int.mul_le_mul_of_nonneg_left hn1 (show (0 : Int) ≤ 2 * (W : Int) by omega)
        omega
      obtain ⟨j, b, hj, ebis, hbn, ebis2, hmain⟩ := R.main hM (W := W) hW1 (by omega) hn0 hWn
      clear hm0 hm1 hn1 hWn hM
      -- place
      show WxO _ _ _ _ _
      refine WxO.cons (WsO.assign ?_)
      refine WeO.callKey (d := 1) (FnIs.at (FnIs.ofK hT (by rfl) (by rfl) (by rfl) (by rfl) (by rfl) (by rfl) (by rfl))) ?_ (Nat.le_of_ble_eq_true rfl) (by rfl) (by decide) (by rfl)
      repeat walk_at "v"
      refine WeO.lam (P := 105) (k := 0) (fun h X => codeHd_of_K X (by rw [hT.frag]; rfl)) hLt.h (lam_to hL (by rfl)) ?_ (by intro _; rfl) (by intro _; rfl)
      refine ⟨_, _, _, purs_key _ _ (rowsV_pure _ _ _), bisect_left_key hT 1 0 _ _ _ _ (key0 hT hL 0 _ _ _) (Nat.le_refl _) (by rw [rowsV_len]; omega), ?_⟩
      rintro _ rfl
      rw [rowsV_len, ebis]
      clear ebis
      -- behind
      show WxO _ _ _ _ _
      refine WxO.cons (WsO.assign ?_)
      refine WeO.callKey (d := 1) (FnIs.at (FnIs.ofK hT (by rfl) (by rfl) (by rfl) (by rfl) (by rfl) (by rfl) (by rfl))) ?_ (Nat.le_of_ble_eq_true rfl) (by rfl) (by decide) (by rfl)
      repeat walk_at "v"
      refine WeO.lam (P := 105) (k := 1) (fun h X => codeHd_of_K X (by rw [hT.frag]; rfl)) hLt.h (lam_to hL (by rfl)) ?_ (by intro _; rfl) (by intro _; rfl)
      refine ⟨_, _, _, purs_key _ _ (rowsV_pure _ _ _), bisect_right_key hT 1 0 _ _ _ _ (key1 hT hL 0 _ _ _) (Nat.le_refl _) (by rw [rowsV_len]; omega), ?_⟩
      rintro _ rfl
      rw [rowsV_len, ebis2]
      clear ebis2
      -- p, q
      show WxO _ _ _ _ _
      refine WxO.one (Ws.assignTup ?_)
      refine We.val (w := .tup [.int (if j + 1 < b then eP (pwr sz) N (j + 1) else pwr sz), .int (if j + 1 < b then eQ (pwr sz) N (j + 1) else pwr sz)]) ?pq ?rest3
      case pq =>
        refine We.ifexp ?_
        refine Wt.cmp ?_
        repeat walk_at "v"
        by_cases hjb : j + 1 < b
        · rw [decide_eq_true (show ((j + 1 : Nat) : Int) < (b : Int) by omega), if_pos rfl, if_pos hjb, if_pos hjb]
          repeat walk_at "v"
          exact Su.item (ds := rowsV (eP (pwr sz) N) (eQ (pwr sz) N) n) rfl (by omega) (by omega) (rowsV_getE (by omega) hj) ⟨rfl, rfl⟩
        · rw [decide_eq_false (show ¬ ((j + 1 : Nat) : Int) < (b : Int) by omega), if_neg (by decide), if_neg hjb, if_neg hjb]
          repeat walk_at "v"
          rfl
      case rest3 =>
        generalize (if j + 1 < b then eP (pwr sz) N (j + 1) else pwr sz) = p at hmain
        generalize (if j + 1 < b then eQ (pwr sz) N (j + 1) else pwr sz) = q at hmain
        clear hj hbn
        refine Asg.tuple (Asgs.cons (Asgs.cons (Asgs.nil ?_)))
        -- told
        repeat walk_at "v"
        refine Cb.range2 ?_
        refine ⟨_, _, _, _, _, rfl, Src.range (n := W) rng_up (rng_ups (by omega)), by rfl, ?_⟩
        rw [rangeV_ints]
        refine comp1i (kS W) (fun k => decide (k * q ≤ W) && decide (k * (p.natAbs : Int) ≤ near)) (fun k => V.tup [.int (k * p), .int (k * q)]) rfl (by simp [kS]; omega) rfl ?hs ?hd
        case hs =>
          intro k hk σ₁ g4 g5
          have hk64 : k.natAbs < 2 ^ 64 := by
            have := kS_mem.mp hk
            omega
          have e1 : σ₁.loc "q" = some (.int q) := (g4 _ (by decide)).trans rfl
          have e2 : σ₁.loc "p" = some (.int p) := (g4 _ (by decide)).trans rfl
          have e3 : σ₁.loc "wide" = some (.int W) := (g4 _ (by decide)).trans rfl
          have e4 : σ₁.loc "near" = some (.int near) := (g4 _ (by decide)).trans rfl
          refine Wt.all (Wal.and (Wt.cmp ?_))
          repeat walk_at "v"
          refine Bi.mul ?_ (.inl hk64)
          repeat walk_at "v"
          by_cases hc1 : k * q ≤ W
          · rw [decide_eq_true hc1, if_pos rfl]
            refine Wal.and (Wt.cmp ?_)
            repeat walk_at "v"
            refine Cb.abs ?_
            refine Bi.mul ?_ (.inl hk64)
            repeat walk_at "v"
            by_cases hc2 : k * (p.natAbs : Int) ≤ near
            · rw [decide_eq_true hc2, if_pos rfl]
              repeat walk_at "v"
              refine ⟨by simp, rfl, fun _ => ?_⟩
              repeat walk_at "v"
              refine Bi.mul ?_ (.inl hk64)
              repeat walk_at "v"
              refine Bi.mul ?_ (.inl hk64)
              repeat walk_at "v"
              rfl
            · rw [decide_eq_false hc2, if_neg (by decide)]
              exact ⟨by simp, rfl, fun h => by cases h⟩
          · rw [decide_eq_false hc1, if_neg (by decide)]
            exact ⟨by simp, rfl, fun h => by cases h⟩
        case hd =>
          intro σ' hmu
          rw [told_map, hmain] at hmu
          clear hmain
          refine ⟨_, _, hmu, pairs_pure _, ?_⟩
          clear hmu σ'
          -- due
          repeat walk_at "v"
          refine Cb.range2 ?_
          refine ⟨_, _, _, _, _, rfl, Src.range (n := W) rng_up (rng_ups (by omega)), caps_cons (by first | rfl | assumption) (by first | exact pur_int _ | exact pur_ints _) (caps_cons (by first | rfl | assumption) (by first | exact pur_int _ | exact pur_ints _) rfl), ?_⟩
          rw [rangeV_ints]
          refine comp1i (kS W) (fun k => decide (((endOf (pwr sz) (k * N)).natAbs : Int) ≤ near)) (fun k => V.tup [.int (endOf (pwr sz) (k * N)), .int k]) rfl (by simp [kS]; omega) rfl ?hs2 ?hd2
          case hs2 =>
            intro k hk σ₁ g4 g5
            obtain ⟨k1, k2⟩ := kS_mem.mp hk
            have e1 : σ₁.loc "ends" = some (.list ((endL sz N (4 ^ sz)).map .int)) := (g4 _ (by decide)).trans rfl
            have e2 : σ₁.loc "near" = some (.int near) := (g4 _ (by decide)).trans rfl
            have hg := endL_get (sz := sz) (N := N) (S := 4 ^ sz) k1 (show k ≤ ((4 ^ sz : Nat) : Int) by omega)
            refine Wt.cmp ?_
            repeat walk_at "v"
            refine Su.item (ds := (endL sz N (4 ^ sz)).map .int) rfl (by omega) (by omega) hg ?_
            repeat walk_at "v"
            refine Cb.abs ?_
            repeat walk_at "v"
            split
            · rename_i hc
              refine ⟨hc.symm, rfl, fun _ => ?_⟩
              repeat walk_at "v"
              refine Su.item (ds := (endL sz N (4 ^ sz)).map .int) rfl (by omega) (by omega) hg ?_
              repeat walk_at "v"
              rfl
            · rename_i hc
              exact ⟨((Bool.not_eq_true _).mp hc).symm, rfl, fun h => by cases h⟩
          case hd2 =>
            intro σ' hmu
            rw [due_map] at hmu
            refine ⟨_, _, hmu, pairs_pure _, ?_⟩
            clear hmu σ'
            repeat walk_at "v"
            refine WxO.one (Ws.if ?_)
            repeat walk_at "v"
            refine Cm.nePairs ?_
            repeat walk_at "v"
            refine law_end hT hP hLt hL hsz hN R (W := W) (near := near) (by omega) ?_ ?_ rfl
            · exact ⟨hs, hp, hn, hr, he⟩
            · rfl

/-! Y15 -/
theorem Cm.eqNilN {C : Cx} {σ : St} {Φ : V → St → Prop} {a b : V} {ds : List V} (ha : σ.der a = .list ds) (hne : ds ≠ []) (hD : (V.list ds).isD = true ∧ kqdOk 6 (V.list ds).toD = true) (hb : σ.der b = .list []) (h : Φ (.bool false) σ) : Cm C σ .Eq a b Φ := by
  obtain ⟨d, r, rfl⟩ := List.exists_cons_of_ne_nil hne
  exact Cm.eqNil ha hD.1 hD.2 hb h
inductive LawD (c0 c1 c2 c3 c4 : Int) (sz N n : Nat) (σ : St) : Prop
  | mk (h : LawC sz N n σ) (hc : σ.loc "cells" = some (.list [.int c0, .int c1, .int c2, .int c3, .int c4])) : LawD c0 c1 c2 c3 c4 sz N n σ
theorem law_ok {T : Tbl} (hT : Tops T hd.heap_39) (hP : TabsOk T) (hLt : TabL T) (hL : T.lm = lawLm (hd.heap_39 T.w.params)) (ns : List Int) (hn : ns.length ≤ 1000) : FnOkAt [] T 16 "law" [.list (ns.map .int)] (fun v => v = .bool true) := by
  refine FnOkAt.introL (dargs := []) (c := 107) (q := "law.<locals>.") (FnIs.ofK hT (by rfl) (by rfl) (by rfl) (by rfl) (by rfl) (by rfl) (by rfl)) ["script"] (by rfl) (by rfl) ?_ rfl (by rfl) hT.plain ?_
  · intro s vals top hl
    obtain ⟨a, rfl⟩ := vals1 hl
    exact ⟨[], fun _ => .nil, BindsTo.of_eq rfl⟩
  · dsimp only
    refine WxO.one (Ws.assign ?_)
    refine We.call (d := 0) (FnIs.at (FnIs.ofK hT (by rfl) (by rfl) (by rfl) (by rfl) (by rfl) (by rfl) (by rfl))) ?_ (Nat.le_of_ble_eq_true rfl)
    repeat walk_at "v"
    refine ⟨_, _, _, purs_cons (pur_ints _) (purs_cons (pur_tints [1, 3, 45, 29, 21]) purs_nil), law_cells_ok hT ns [1, 3, 45, 29, 21] hn (by decide) (by decide), ?_⟩
    rintro _ ⟨cs, hcl, rfl⟩
    obtain ⟨c0, c1, c2, c3, c4, rfl⟩ : ∃ c0 c1 c2 c3 c4, cs = [c0, c1, c2, c3, c4] := by
      match cs, hcl with
      | [c0, c1, c2, c3, c4], _ => exact ⟨c0, c1, c2, c3, c4, rfl⟩
    clear hcl
    repeat walk_at "v"
    refine Su.item (v := .int c0) rfl (by decide) (by decide) rfl ?_
    repeat walk_at "v"
    refine Bi.mod ?_ (by decide)
    obtain ⟨sz, hsz, hsze⟩ : ∃ sz : Nat, (sz = 2 ∨ sz = 3) ∧ 2 + c0 % 2 = (sz : Int) := ⟨(2 + c0 % 2).toNat, by omega, by omega⟩
    refine Bi.addE hsze ?_
    clear hsze
    obtain ⟨p256, p4096, psq, s16, s64, spw⟩ := pwr_facts hsz
    repeat walk_at "v"
    refine Bi.pow ?_ (by omega) (by omega) (by decide)
    rw [Int.toNat_natCast, pow16]
    show WxO _ _ _ _ _
    refine WxO.one (Ws.assign ?_)
    refine We.valE (q := fun v => ∃ U : Int, v = .int U) ?upper ?rest1
    case upper =>
      refine We.ifexp ?_
      refine Wt.cmp ?_
      repeat walk_at "v"
      refine Su.item (v := .int c0) rfl (by decide) (by decide) rfl ?_
      repeat walk_at "v"
      refine Bi.div (b := 2) ?_ (by decide) (lt4096 (by decide))
      repeat walk_at "v"
      refine Bi.mod ?_ (by decide)
      repeat walk_at "v"
      by_cases hb : c0 / 2 % 2 = 0
      · rw [decide_eq_true hb, if_pos rfl]
        repeat walk_at "v"
        refine Su.item (v := .int c2) rfl (by decide) (by decide) rfl ?_
        repeat walk_at "v"
        refine Bi.mod ?_ (by decide)
        repeat walk_at "v"
        exact ⟨⟨_, rfl⟩, rfl⟩
      · rw [decide_eq_false hb, if_neg (by decide)]
        repeat walk_at "v"
        refine Su.item (v := .int c2) rfl (by decide) (by decide) rfl ?_
        repeat walk_at "v"
        refine Bi.mod ?_ (by decide)
        repeat walk_at "v"
        exact ⟨⟨_, rfl⟩, rfl⟩
    case rest1 =>
      rintro v mu1 ⟨U, rfl⟩
      repeat walk_at "v"
      refine We.call (d := 0) (FnIs.at (FnIs.ofK hT (by rfl) (by rfl) (by rfl) (by rfl) (by rfl) (by rfl) (by rfl))) ?_ (Nat.le_of_ble_eq_true rfl)
      repeat walk_at "v"
      refine Su.item (v := .int c1) rfl (by decide) (by decide) rfl ?_
      repeat walk_at "v"
      refine Bi.mod ?_ (by decide)
      repeat walk_at "v"
      refine Bi.mul ?_ (.inr (by decide))
      repeat walk_at "v"
      have w1 : (1 + c1 % 24 * 2) % 2 = 1 := by omega
      have w2 : (1 + c1 % 24 * 2).natAbs < 2 ^ 64 := by omega
      generalize 1 + c1 % 24 * 2 = w at w1 w2
      refine ⟨_, _, _, purs_cons (pur_int _) (purs_cons (pur_int _) (purs_cons (pur_int _) purs_nil)), law_number_ok hT U w sz w1 w2 (by omega), ?_⟩
      clear w1 w2 w
      rintro _ ⟨N', rfl, n0, n1⟩
      obtain ⟨N, rfl⟩ : ∃ N : Nat, N' = (N : Int) := ⟨N'.toNat, by omega⟩
      rw [pow16] at n1
      have hN : (N : Int) < pwr sz := n1
      obtain ⟨n, R, hnz⟩ := run_ex (M := pwr sz) (N := (N : Int)) n0 hN (by omega)
      have h30 := R.le
      have h2n := R.two
      clear n0 n1
      show WxO _ _ _ _ _
      refine WxO.cons (WsO.assign (WeO.weaken (K := escF _ [] fun _ => True) ?_ fun X F => F.1))
      refine WeO.call (d := 15) (FnIs.at (FnIs.ofK hT (by rfl) (by rfl) (by rfl) (by rfl) (by rfl) (by rfl) (by rfl))) ?_ (Nat.le_of_ble_eq_true rfl) (by rfl) (by decide) (by rfl)
      repeat walk_at "v"
      refine ⟨_, _, _, purs_cons (pur_int _) (purs_cons (pur_int _) purs_nil), law_run_ok hT hP (pwr sz) N n R (by omega) p4096 hnz, ?_⟩
      rintro _ rfl
      clear hnz
      show WxO _ _ _ _ _
      refine WxO.one (Ws.assign ?_)
      refine We.call (d := 15) (FnIs.at (FnIs.ofK hT (by rfl) (by rfl) (by rfl) (by rfl) (by rfl) (by rfl) (by rfl))) ?_ (Nat.le_of_ble_eq_true rfl)
      repeat walk_at "v"
      refine CallOk.eq (purs_cons (pur_int _) (purs_cons (pur_int _) purs_nil)) (law_ends_ok hT N sz hsz (by have := hN; unfold pwr at this; omega)) ?_
      show WxO _ _ _ _ _
      refine WxO.one (Ws.if ?_)
      repeat walk_at "v"
      refine Cm.eqNilN (der_list _) (fun h => by have := congrArg List.length h; rw [rowsV_len] at this; simp at this; omega) (by rw [rowsV_pairs]; exact pairs_D _) der_new ?_
      repeat walk_at "v"
      refine Cm.eqNilN (der_list _) (fun h => by have := congrArg List.length h; rw [List.length_map, endL_len] at this; simp at this <;> omega) (ints_D _) der_new ?_
      repeat walk_at "v"
      refine WxO.one (Ws.mono (Φ := fun g σ' => g = .next ∧ LawD c0 c1 c2 c3 c4 sz N n σ') ?for1 ?rest2)
      case rest2 =>
        rintro g σ ⟨rfl, h, hc⟩
        exact law_mid hT hP hLt hL hsz hN R h hc rfl
      case for1 =>
        refine Ws.for ?_
        repeat walk_at "v"
        refine Cb.len (ds := rowsV (eP (pwr sz) N) (eQ (pwr sz) N) n) rfl (by rw [rowsV_len]; omega) ?_
        rw [rowsV_len, show (n : Int) = ((n - 1 : Nat) : Int) + 1 by omega]
        repeat walk_at "v"
        refine Cb.range2 ?_
        refine ⟨_, _, _, rfl, Src.range (n := n - 1) rng_up (rng_ups (by omega)), ?_⟩
        refine Wfor.inv (fun _ σ' => LawD c0 c1 c2 c3 c4 sz N n σ') _ ?step ?done _ 0 _ rfl (Nat.zero_le _) ⟨⟨rfl, rfl, rfl, rfl, rfl⟩, rfl⟩
        case done => exact fun σ' h' => ⟨rfl, h'⟩
        case step =>
          rintro i d σ hd ⟨⟨hs, hp, hnn, hr, he⟩, hc⟩
          obtain ⟨hi, e⟩ : i < n - 1 ∧ d = .int ((i + 1 : Nat) : Int) := by
            obtain ⟨hi, e⟩ := List.getElem?_eq_some_iff.mp hd
            rw [List.length_map, List.length_range] at hi
            refine ⟨hi, ?_⟩
            rw [← e]
            simp
            omega
          subst e
          clear hd
          have g0 : (rowsV (eP (pwr sz) N) (eQ (pwr sz) N) n)[(((i + 1 : Nat) : Int) - 1).toNat]? = some (rowV (eP (pwr sz) N) (eQ (pwr sz) N) i) := rowsV_getE (by omega) (by omega)
          have g1 : (rowsV (eP (pwr sz) N) (eQ (pwr sz) N) n)[((i + 1 : Nat) : Int).toNat]? = some (rowV (eP (pwr sz) N) (eQ (pwr sz) N) (i + 1)) := rowsV_getE (by omega) (by omega)
          have hb0 := (run_bnd R (by omega) (show i < n by omega)).1
          have hb1 := (run_bnd R (by omega) (show i + 1 < n by omega)).1
          have hdet := R.det i (by omega)
          refine Asg.name ?_
          repeat walk_at "v"
          refine Su.item (ds := rowsV (eP (pwr sz) N) (eQ (pwr sz) N) n) rfl (by omega) (by omega) g0 ?_
          repeat walk_at "v"
          refine Su.tup (v := .int (eP (pwr sz) N i)) (by decide) (by decide) rfl ?_
          repeat walk_at "v"
          refine Cb.abs ?_
          repeat walk_at "v"
          refine Su.item (ds := rowsV (eP (pwr sz) N) (eQ (pwr sz) N) n) rfl (by omega) (by omega) g1 ?_
          repeat walk_at "v"
          refine Su.tup (v := .int (eQ (pwr sz) N (i + 1))) (by decide) (by decide) rfl ?_
          refine Bi.mul ?_ (.inl (by omega))
          repeat walk_at "v"
          refine Su.item (ds := rowsV (eP (pwr sz) N) (eQ (pwr sz) N) n) rfl (by omega) (by omega) g1 ?_
          repeat walk_at "v"
          refine Su.tup (v := .int (eP (pwr sz) N (i + 1))) (by decide) (by decide) rfl ?_
          repeat walk_at "v"
          refine Cb.abs ?_
          repeat walk_at "v"
          refine Su.item (ds := rowsV (eP (pwr sz) N) (eQ (pwr sz) N) n) rfl (by omega) (by omega) g0 ?_
          repeat walk_at "v"
          refine Su.tup (v := .int (eQ (pwr sz) N i)) (by decide) (by decide) rfl ?_
          refine Bi.mul ?_ (.inl (by omega))
          refine Bi.addE hdet ?_
          repeat walk_at "v"
          refine Cm.neT rfl ?_
          repeat walk_at "v"
          exact ⟨⟨hs, hp, hnn, hr, he⟩, hc⟩

/-! Y16 -/
theorem plain_list {P : Params} {h : Heap} {l : Addr} {vs : Array Value} {d : WData} {xs : List WData} (e : d = .list xs) (W : Well P h (.ref l) d) (L : h.IsList l vs) : h.get? l = some { cls := .type "list", data := .seq vs } := by
  subst e
  cases W with
  | list h1 h2 =>
    obtain ⟨o, g1, g2, n, g3⟩ := L
    rw [h1] at g1
    cases g1
    cases g3
    exact h1

end Mine
open Mine
theorem PySem.Challenge.cw_ta0030_01_holds : PySem.Challenge.rw_ta0030_01.Holds := by
  refine Mine.hd ?_
  k_fill
  intro w s₀ s₁ mg mb G Y fa o pm cd doc dV kV ho hd hcd hD hmg hg args vals as hpre hlay hrd hwl hlo
  clear hd hD hcd ho
  have hmg' : mg "law" = some (.ref fa) := hmg
  clear hmg
  have KX := km_in_of Y
  have KT := km_tabs_of Y
  clear Y
  refine Ground.open G ?_
  intro T B D TE TW
  clear B D TE TW
  wrow_args hpre hlay hrd hwl hlo
  rename_i ns hs hlay0 hL1 hr1 hl2 b4 b3 l vs b0 hL ra hW r0 hI hr2 hc1 hc2
  refine head_closeF (d := 16) (K := Mine.hd.heap_39) (ts := [(41, 37, Str.ofString "_int2digits" ++ Str.ofString ".<locals>." ++ Str.ofString "inner"), (48, 44, Str.ofString "_digits2int" ++ Str.ofString ".<locals>." ++ Str.ofString "inner"), (107, 105, Str.ofString "law.<locals>." ++ Str.ofString "<lambda>")]) (lm := lawLm (Mine.hd.heap_39 w.params)) T KX ?_ ?_ ?_ (fun hT => law_ok hT ⟨rfl, rfl⟩ ⟨rfl⟩ rfl ns (by omega)) (by decide) hmg' (plain_list rfl hW hL) hI hg ?_ ?_
  · intro P hP
    simp at hP
    rcases hP with rfl | rfl | rfl
    · exact KT _ (by simp)
    · exact KT _ (by simp)
    · exact KT _ (by simp)
  · intro P hP
    simp at hP
    rcases hP with rfl | rfl | rfl
    · kernel_rfl
    · kernel_rfl
    · kernel_rfl
  · intro x hx
    simp at hx
    rcases hx with rfl | rfl | rfl
    · exact codeHd_of_K KX (by kernel_rfl)
    · exact codeHd_of_K KX (by kernel_rfl)
    · exact codeHd_of_K KX (by kernel_rfl)
  · intro cls; rfl
  · wrow_post

