import PyProof.Rows.All
import Wide.All
import OpenK.AllK
import Wide.FinOn
import PySem.Challenge.RW_mj0217_01
open PySem PySem.W PyProof.Rows
set_option Elab.async false
set_option maxRecDepth 100000
set_option maxHeartbeats 8000000
namespace Mine
section
-- the fragment alone: no head yet
local macro_rules | `(tactic| o_head $_) => `(tactic| assumption)
theorem hd0 (h : PySem.Challenge.rw_mj0217_01.row.Holds) : PySem.Challenge.rw_mj0217_01.row.Holds := by k_head
end
/-- what the head keeps of the text: all its statements but three -/
noncomputable def view : Program := { PySem.Challenge.rw_mj0217_01.row.toRowW.prog with main := { PySem.Challenge.rw_mj0217_01.row.toRowW.prog.main with body := ((PySem.Challenge.rw_mj0217_01.row.toRowW.prog.main.body.eraseIdx 58).eraseIdx 4).eraseIdx 0 } }
end Mine

set_option maxRecDepth 100000
set_option Elab.async false
set_option maxHeartbeats 4000000
set_option linter.unusedVariables false
open PySem PySem.W PySem.Calls PyProof.Rows PySem.Spec
namespace Mine
local macro_rules | `(tactic| ktr_rel) => `(tactic| k_extra "ktr_rel")
local macro_rules | `(tactic| ktr_unf) => `(tactic| k_extra "ktr_unf")
local macro_rules | `(tactic| kun_tup) => `(tactic| k_extra "kun_tup")
local macro_rules | `(tactic| k_inst) => `(tactic| k_extra "k_inst")
local macro_rules | `(tactic| k_updF) => `(tactic| k_extra "k_updF")
local macro_rules | `(tactic| k_all) => `(tactic| k_extra "k_all")
local macro_rules | `(tactic| x_close) => `(tactic| k_extra "x_close")
local macro_rules | `(tactic| walk_at $s:str) => `(tactic| k_extra $s)
noncomputable section
example (w : World) (h : Heap) : PySem.Challenge.rw_mj0217_01.Holds → (Mine.hd0.heap_1 w.params).In h → True := by
  k_fill
  intros
  trivial
section

noncomputable abbrev loose : List Str := looseW Mine.view [Str.ofString "Whitespace", Str.ofString "EXACT_TOKEN_TYPES"]

/-- entry of a plain def, the whole heap as its base -/
theorem enter {prog : Program} {w : World} {A : Around} {s : Shared} {K : Frag} {p : Program} {ls : List Str} {mg mb : Str → Option Value}
    {R : Result → Shared → Prop} {name qual : Str} {params : Arguments} {body : List Stmt} {scope : Scope} {dV kV doc pm cdv ct oc : Value} {an od : Option Addr} {osl : Array (Option Value)} {f : Addr} {args : Args} {binds : List (Str × Value)}
    (X : K.In s.heap) (T : TopRead p ls mg mb s.heap)
    (ho : K.lookup f = some ⟨oc, od, .func (fnOf name qual params body scope dV kV doc pm an cdv ct), osl⟩) (hcd : codeIn K cdv qual = true) (hroom : A.depth < recursionLimit)
    (hbind : BindsTo s (fnOf name qual params body scope dV kV doc pm an cdv ct) args binds) (hloc : ∀ y ∈ binds, scope.names.lookup y.1 = some .local)
    (h : ∀ L h₁, Fr s.heap L h₁ (fun y => binds.reverse.lookup y) → News s.heap L h₁ [] →
      wpAny (model prog w) (A.deeper (envOf qual scope L f cdv)) (execs body (envOf qual scope L f cdv))
        (fun fl s' => R (.ok (.ret (match fl with | .ret v => v | _ => .none))) s') (fun _ _ => False)
        { s with heap := h₁, toks := s.toks + binds.length })
    (hcell : ∀ x ∈ scope.names, x.2 ≠ .cell)
    (hco : scope.isCoroutine = false := by rfl) (hgen : scope.isGenerator = false := by rfl) (hk : scope.kind = .function := by rfl) :
    codeAny (model prog w) A (.call (.ref f) args) R s := by
  refine codeAny_call_def (fd := fnOf name qual params body scope dV kV doc pm an cdv ct) (body := body) (binds := binds) hroom (X _ _ ho) rfl T.nolimit (codeRec_of X hcd) rfl hbind hcell hloc (fun h₁ hns hk₁ => ?_) hco hgen hk
  exact wpAny_mono (h _ h₁ ⟨hns, hk₁, Nat.le_refl _⟩ News.nil) (fun _ _ x => x) (fun _ _ x => x.elim)

/-- entry of a def whose own new objects are told in a ledger over an elder base -/
theorem enterN {prog : Program} {w : World} {A : Around} {s : Shared} {K : Frag} {p : Program} {ls : List Str} {mg mb : Str → Option Value}
    {R : Result → Shared → Prop} {name qual : Str} {params : Arguments} {body : List Stmt} {scope : Scope} {dV kV doc pm cdv ct oc : Value} {an od : Option Addr} {osl : Array (Option Value)} {f : Addr} {args : Args} {binds : List (Str × Value)}
    {base : Heap} {news : List (Addr × Obj)}
    (kb : ∀ b o, base.get? b = some o → s.heap.get? b = some o) (hbs : base.objs.size ≤ s.heap.objs.size) (hnw : ∀ p ∈ news, s.heap.get? p.1 = some p.2 ∧ base.get? p.1 = none)
    (X : K.In base) (T : TopRead p ls mg mb base)
    (ho : K.lookup f = some ⟨oc, od, .func (fnOf name qual params body scope dV kV doc pm an cdv ct), osl⟩) (hcd : codeIn K cdv qual = true) (hroom : A.depth < recursionLimit)
    (hbind : BindsTo s (fnOf name qual params body scope dV kV doc pm an cdv ct) args binds) (hloc : ∀ y ∈ binds, scope.names.lookup y.1 = some .local)
    (h : ∀ L h₁, Fr base L h₁ (fun y => binds.reverse.lookup y) → News base L h₁ news → (∀ p ∈ news, p.1 < L) →
      wpAny (model prog w) (A.deeper (envOf qual scope L f cdv)) (execs body (envOf qual scope L f cdv))
        (fun fl s' => R (.ok (.ret (match fl with | .ret v => v | _ => .none))) s') (fun _ _ => False)
        { s with heap := h₁, toks := s.toks + binds.length })
    (hcell : ∀ x ∈ scope.names, x.2 ≠ .cell)
    (hco : scope.isCoroutine = false := by rfl) (hgen : scope.isGenerator = false := by rfl) (hk : scope.kind = .function := by rfl) :
    codeAny (model prog w) A (.call (.ref f) args) R s := by
  have X' : K.In s.heap := fun a o e => kb _ _ (X a o e)
  refine codeAny_call_def (fd := fnOf name qual params body scope dV kV doc pm an cdv ct) (body := body) (binds := binds) hroom (X' _ _ ho) rfl (T.keeps kb).nolimit (codeRec_of X' hcd) rfl hbind hcell hloc (fun h₁ hns hk₁ => ?_) hco hgen hk
  refine wpAny_mono (h _ h₁ ⟨hns, fun b o e => hk₁ _ _ (kb _ _ e), hbs⟩ (fun p hp => ⟨hk₁ _ _ (hnw p hp).1, Nat.ne_of_lt (Heap.lt_size (hnw p hp).1), (hnw p hp).2⟩) (fun p hp => Heap.lt_size (hnw p hp).1)) (fun _ _ x => x) (fun _ _ x => x.elim)

theorem InstAt.keepsH {h h' : Heap} {x : Addr} {ox : Obj} {C : Addr} {od : Option Obj} (I : InstAt h x ox C od) (hk : ∀ b o, h.get? b = some o → h'.get? b = some o) : InstAt h' x ox C od := by
  refine ⟨hk _ _ I.at_, I.cls, I.no, ?_⟩
  have d := I.dict
  cases e : ox.dict with
  | none => rw [e] at d; cases od with
    | none => trivial
    | some o => exact d.elim
  | some dx => rw [e] at d; cases od with
    | none => exact d.elim
    | some o => exact hk _ _ d

/-- the data of a Whitespace -/
structure WSd where
  raw : Str
  n : Int
  nt : Int
  count : List Int
  b : Int

noncomputable abbrev tupObj (vs : List Value) : Obj := { cls := .type "tuple", data := .seq vs.toArray }

structure WSat (h : Heap) (x dx tA tB : Addr) (d : WSd) (e1 e2 e3 e4 e5 : Int) (k1 k2 k3 k4 k5 t1 t2 t3 t4 : Tok) (cs : List Value) : Prop where
  inst : h.get? x = some (instObj 117 dx)
  dict : h.get? dx = some (dictOf [⟨e1, .str (Str.ofString "raw") k1, .str d.raw t1⟩, ⟨e2, .str (Str.ofString "n") k2, .int d.n t2⟩, ⟨e3, .str (Str.ofString "nt") k3, .int d.nt t3⟩,
    ⟨e4, .str (Str.ofString "norm") k4, .ref tA⟩, ⟨e5, .str (Str.ofString "is_simple") k5, .bool (decide (d.count.length ≤ 1))⟩] 5)
  norm : h.get? tA = some (tupObj [.ref tB, .int d.b t4])
  cnt : h.get? tB = some (tupObj cs)
  hints : IntsAre cs d.count
  small : d.count.length ≤ 100
  blo : 0 ≤ d.b
  bhi : d.b ≤ 100

/-- a Whitespace object with these data -/
noncomputable def WS (h : Heap) (x : Addr) (d : WSd) : Prop := ∃ dx tA tB e1 e2 e3 e4 e5 k1 k2 k3 k4 k5 t1 t2 t3 t4 cs, WSat h x dx tA tB d e1 e2 e3 e4 e5 k1 k2 k3 k4 k5 t1 t2 t3 t4 cs

noncomputable abbrev Up (h h' : Heap) : Prop := ∀ b o, h.get? b = some o → h'.get? b = some o
theorem WS.up {h h' : Heap} {x : Addr} {d : WSd} (W : WS h x d) (k : Up h h') : WS h' x d := by
  obtain ⟨dx, tA, tB, e1, e2, e3, e4, e5, k1, k2, k3, k4, k5, t1, t2, t3, t4, cs, W⟩ := W
  exact ⟨dx, tA, tB, e1, e2, e3, e4, e5, k1, k2, k3, k4, k5, t1, t2, t3, t4, cs, k _ _ W.inst, k _ _ W.dict, k _ _ W.norm, k _ _ W.cnt, W.hints, W.small, W.blo, W.bhi⟩

/-- what the top left, as far as the calls read it -/
structure Gd (w : World) (mg mb : Str → Option Value) (h : Heap) : Prop where
  k : (Mine.hd0.heap_1 w.params).In h
  t : TopRead Mine.view loose mg mb h
  bm : ∃ bm ob, BMod h mainGlobals mg bm ob
theorem Gd.up {w : World} {mg mb : Str → Option Value} {h h' : Heap} (G : Gd w mg mb h) (k : Up h h') : Gd w mg mb h' := ⟨fun a o e => k _ _ (G.k a o e), G.t.keeps k, let ⟨bm, ob, M⟩ := G.bm; ⟨bm, ob, M.keeps k⟩⟩

noncomputable abbrev PG : Program := PySem.Challenge.rw_mj0217_01.row.prog

end
section

noncomputable abbrev Aof (dp un : Nat) (fr : Option (List Env)) (gd : Option (List Code)) : Around := { handled := none, depth := dp, frames := fr, guards := gd, units := un }

theorem frUp {h₀ h h' : Heap} {L : Addr} {m : Str → Option Value} (F : Fr h₀ L h m) (k : Up h h') : Fr h₀ L h' m := ⟨F.ns.keeps k, fun b o e => k _ _ (F.keep b o e), F.above⟩
theorem newsUp {h₀ h h' : Heap} {L : Addr} {news : List (Addr × Obj)} (N : News h₀ L h news) (k : Up h h') : News h₀ L h' news := fun p hp => ⟨k _ _ (N p hp).1, (N p hp).2⟩

noncomputable def LpEnd {σ : Type} (h₀ : Heap) (L : Addr) (icls : Value) (Led : σ → List (Addr × Obj)) (ps : σ → List (Str × Value)) (x : Str) (stored : List Str) (m₀ : Str → Option Value) (P : σ → Prop) (own : List (Addr × Obj)) (s₁ s₂ : Shared) : Prop :=
  ∃ h' tk m' c, s₂ = { s₁ with heap := h', toks := tk } ∧ Fr h₀ L h' m' ∧ News h₀ L h' (own ++ Led c) ∧ (∀ p ∈ Led c, p.2.cls ≠ icls) ∧ (∀ p ∈ ps c, m' p.1 = some p.2) ∧
    (∀ z, z ≠ x → (∀ p ∈ ps c, z ≠ p.1) → stored.contains z = false → m' z = m₀ z) ∧ P c

noncomputable def LpPost {σ : Type} (h₀ : Heap) (L : Addr) (icls : Value) (Led : σ → List (Addr × Obj)) (ps : σ → List (Str × Value)) (x : Str) (stored : List Str) (m₀ : Str → Option Value) (P : σ → Prop) (own : List (Addr × Obj)) (s₁ : Shared) (Q : Flow → Shared → Prop) (f : Flow) (s₂ : Shared) : Prop :=
  match f with
  | .ret v => Q (.ret v) s₂
  | .brk => Q .next s₂
  | _ => LpEnd h₀ L icls Led ps x stored m₀ P own s₁ s₂

section
variable {prog : Program} {w : World} {A : Around} {E : Value → Shared → Prop} {s : Shared} {env : Env} {h₀ : Heap} {x : Str} {body : List Stmt} {Q : Flow → Shared → Prop}

theorem lp_end {σ : Type} {L : Addr} {icls : Value} {Led : σ → List (Addr × Obj)} {ps : σ → List (Str × Value)} {stored : List Str} {m₀ m' : Str → Option Value} {P : σ → Prop} {own : List (Addr × Obj)} {s₁ : Shared} {h' : Heap} {tk : Nat} (c : σ)
    (F : Fr h₀ L h' m') (N : News h₀ L h' (own ++ Led c)) (hc : ∀ p ∈ Led c, p.2.cls ≠ icls) (hk : ∀ p ∈ ps c, m' p.1 = some p.2) (hr : ∀ z, z ≠ x → (∀ p ∈ ps c, z ≠ p.1) → stored.contains z = false → m' z = m₀ z) (hp : P c) :
    LpEnd h₀ L icls Led ps x stored m₀ P own s₁ { s₁ with heap := h', toks := tk } := ⟨h', tk, m', c, rfl, F, N, hc, hk, hr, hp⟩

theorem lp_walk {σ : Type} {I : Addr} {fp : List Addr} {n : Nat} {Pv : Nat → Value → Prop} {St : Nat → Heap → Prop} {m₀ : Str → Option Value} (icls : Value)
    (Led : σ → List (Addr × Obj)) (ps : σ → List (Str × Value)) (stored : List Str) (P : Nat → σ → Prop) (c₀ : σ)
    (W : Walks prog w A I fp [I] n Pv St) (hic : ∀ i h, St i h → ∃ o, h.get? I = some o ∧ o.cls = icls) (hLf : env.locals ∉ fp) (hI : h₀.get? I = none) (hst : St 0 s.heap)
    (F : Fr h₀ env.locals s.heap m₀) (N : News h₀ env.locals s.heap (Led c₀)) (hcl : ∀ p ∈ Led c₀, p.2.cls ≠ icls) (hk : ∀ p ∈ ps c₀, m₀ p.1 = some p.2) (hp : P 0 c₀)
    (turn : ∀ (c : σ) (i : Nat) v (u : Str → Option Value) h tk own, i < n → Pv i v → P i c → (∀ p ∈ own, p.1 ∈ fp) → St (i + 1) h →
      Fr h₀ env.locals h (fun y => if y = x then some v else kstB (fun z => if stored.contains z then u z else m₀ z) (ps c) y) → News h₀ env.locals h (own ++ Led c) →
      wpAny (model prog w) A (execs body env) (LpPost h₀ env.locals icls Led ps x stored m₀ (P (i + 1)) own { s with heap := h, toks := tk } Q) E { s with heap := h, toks := tk })
    (done : ∀ (c : σ) (u : Str → Option Value) h tk, P n c → Fr h₀ env.locals h (fun y => if y = x then u y else kstB (fun z => if stored.contains z then u z else m₀ z) (ps c) y) → News h₀ env.locals h (Led c) → Q .next { s with heap := h, toks := tk }) :
    LoopAtV prog w A h₀ env x body Q E (.ref I) s := by
  have off : ∀ (h : Heap) (i : Nat) (l : List (Addr × Obj)), St i h → News h₀ env.locals h l → (∀ p ∈ l, p.2.cls ≠ icls) → ∀ p ∈ l, p.1 ∉ [I] := by
    intro h i l st N hc p hp hm
    have e := List.mem_singleton.mp hm
    obtain ⟨o, ho, hoc⟩ := hic i h st
    have z := (N p hp).1
    rw [e, ho] at z
    exact hc p hp (by rw [← Option.some.inj z]; exact hoc)
  refine ⟨I, fp, [I], n, Pv, St, m₀, Led c₀, (fun i m nx => ∃ c : σ, nx = Led c ∧ (∀ p ∈ Led c, p.2.cls ≠ icls) ∧ (∀ p ∈ ps c, m p.1 = some p.2) ∧ (∀ z, z ≠ x → (∀ p ∈ ps c, z ≠ p.1) → stored.contains z = false → m z = m₀ z) ∧ P i c), rfl, W, hLf, ?_, ?_, hst, F, N, ⟨c₀, rfl, hcl, hk, fun _ _ _ _ => rfl, hp⟩, ?_, ?_⟩
  · intro b hb; rw [List.mem_singleton.mp hb]; exact hI
  · exact off _ 0 _ hst N hcl
  · rintro i v m₁ news₁ s₁ own ⟨h, tk, rfl⟩ hi hP ⟨c, rfl, hcc, h1, h2, hpc⟩ _ hown _ hall hst₁ F₁ N₁
    refine wpAny_mono (turn c i v m₁ h tk own hi hP hpc hown hst₁ (kst_fr h1 h2 F₁) N₁) (fun f s₂ p => ?_) fun _ _ e => e
    have fin : LpEnd h₀ env.locals icls Led ps x stored m₀ (P (i + 1)) own { s with heap := h, toks := tk } s₂ → LoopStepU h₀ env.locals [I] own (fun m nx => ∃ c : σ, nx = Led c ∧ (∀ p ∈ Led c, p.2.cls ≠ icls) ∧ (∀ p ∈ ps c, m p.1 = some p.2) ∧ (∀ z, z ≠ x → (∀ p ∈ ps c, z ≠ p.1) → stored.contains z = false → m z = m₀ z) ∧ P (i + 1) c) { s with heap := h, toks := tk } .next s₂ := by
      rintro ⟨h', tk', m', c', e, F', N', hc', hk', hr', hp'⟩
      refine ⟨rfl, h', tk', m', Led c', e, F', N', ?_, c', rfl, hc', hk', hr', hp'⟩
      obtain ⟨o, ho, hoc⟩ := hic _ _ hst₁
      have hmem := hall I (W.sub I (List.mem_singleton.mpr rfl)) hI o ho
      intro p hp hm
      have e1 := List.mem_singleton.mp hm
      have z1 := (N' _ (List.mem_append_left _ hmem)).1
      have z2 := (N' p (List.mem_append_right _ hp)).1
      rw [e1] at z2
      rw [z2] at z1
      exact hc' p hp (by rw [Option.some.inj z1]; exact hoc)
    cases f with
    | ret v => exact .ret p
    | brk => exact .brk p
    | next => exact .next (fin p)
    | cont => exact .cont (fin p)
  · rintro h' tk m' news' F' N' _ ⟨c, rfl, hcc, h1, h2, hpc⟩
    exact done c m' h' tk hpc (kst_frOut h1 h2 F') N'

theorem lp_range {σ : Type} {r : Addr} {a₀ b₀ : Int} {t₀ u₀ v₀ : Tok} {n : Nat} {m₀ : Str → Option Value}
    (Led : σ → List (Addr × Obj)) (ps : σ → List (Str × Value)) (stored : List Str) (P : Nat → σ → Prop) (c₀ : σ)
    (hh : A.handled = none) (hr : IsRange s.heap r a₀ b₀ 1 t₀ u₀ v₀) (hsmall : Builtin.Range.small a₀ b₀ 1 = true) (hn : Builtin.Range.rangeSize a₀ b₀ 1 = (n : Int))
    (F : Fr h₀ env.locals s.heap m₀) (N : News h₀ env.locals s.heap (Led c₀)) (hcl : ∀ p ∈ Led c₀, p.2.cls ≠ .type "range_iterator") (hk : ∀ p ∈ ps c₀, m₀ p.1 = some p.2) (hp : P 0 c₀)
    (turn : ∀ (c : σ) (i : Nat) t (u : Str → Option Value) h tk own, i < n → P i c → (∀ p ∈ own, p.2.cls = .type "range_iterator") →
      Fr h₀ env.locals h (fun y => if y = x then some (.int (a₀ + i) t) else kstB (fun z => if stored.contains z then u z else m₀ z) (ps c) y) → News h₀ env.locals h (own ++ Led c) →
      wpAny (model prog w) A (execs body env) (LpPost h₀ env.locals (.type "range_iterator") Led ps x stored m₀ (P (i + 1)) own { s with heap := h, toks := tk } Q) E { s with heap := h, toks := tk })
    (done : ∀ (c : σ) (u : Str → Option Value) h tk, P n c → Fr h₀ env.locals h (fun y => if y = x then u y else kstB (fun z => if stored.contains z then u z else m₀ z) (ps c) y) → News h₀ env.locals h (Led c) → Q .next { s with heap := h, toks := tk }) :
    wpAny (model prog w) A (pyIter (.ref r)) (fun it s₂ => LoopAtV prog w A h₀ env x body Q E it s₂) E s := by
  refine wpAny_pyIter_range hr hsmall ?_
  have W := Walks.range (prog := prog) (w := w) hh s.heap.objs.size a₀ 1 n
  refine lp_walk (.type "range_iterator") Led ps stored P c₀ W (fun i h st => ⟨_, st, rfl⟩) ?_ (next_is_new F) ?_ (F.push _) (fun p hp => ⟨Heap.get?_push_of_some _ (N p hp).1, (N p hp).2⟩) hcl hk hp ?_ done
  · intro hm
    exact absurd F.ns.lt ((List.mem_singleton.mp hm) ▸ Nat.lt_irrefl _)
  · show IsRangeIter _ _ _ _ _
    rw [hn]; simpa using Heap.get?_push_size _ rfl
  · rintro c i v u h tk own hi ⟨t, rfl⟩ hpc hown hst₁ F₁ N₁
    have e1 : a₀ + (i : Int) * 1 = a₀ + (i : Int) := by omega
    rw [e1] at F₁
    refine turn c i t u h tk own hi hpc (fun p hp => ?_) F₁ N₁
    have e2 := List.mem_singleton.mp (hown p hp)
    have z := (N₁ p (List.mem_append_left _ hp)).1
    rw [e2] at z
    rw [hst₁] at z
    rw [← Option.some.inj z]
end

section
variable {prog : Program} {w : World} {A : Around} {E : Value → Shared → Prop} {s : Shared} {env : Env} {h₀ : Heap} {x : Str} {body : List Stmt} {Q : Flow → Shared → Prop}
theorem lp_str {σ : Type} {st : Str} {t₀ : Tok} {m₀ : Str → Option Value}
    (Led : σ → List (Addr × Obj)) (ps : σ → List (Str × Value)) (stored : List Str) (P : Nat → σ → Prop) (c₀ : σ)
    (hh : A.handled = none) (ha : st.cps.all (· < 128) = true)
    (F : Fr h₀ env.locals s.heap m₀) (N : News h₀ env.locals s.heap (Led c₀)) (hcl : ∀ p ∈ Led c₀, p.2.cls ≠ .type "str_ascii_iterator") (hk : ∀ p ∈ ps c₀, m₀ p.1 = some p.2) (hp : P 0 c₀)
    (turn : ∀ (c : σ) (i : Nat) (ch : Nat) t (u : Str → Option Value) h tk own, i < st.cps.size → st.cps[i]? = some ch → P i c → (∀ p ∈ own, p.2.cls = .type "str_ascii_iterator") →
      Fr h₀ env.locals h (fun y => if y = x then some (.str ⟨#[ch]⟩ t) else kstB (fun z => if stored.contains z then u z else m₀ z) (ps c) y) → News h₀ env.locals h (own ++ Led c) →
      wpAny (model prog w) A (execs body env) (LpPost h₀ env.locals (.type "str_ascii_iterator") Led ps x stored m₀ (P (i + 1)) own { s with heap := h, toks := tk } Q) E { s with heap := h, toks := tk })
    (done : ∀ (c : σ) (u : Str → Option Value) h tk, P st.cps.size c → Fr h₀ env.locals h (fun y => if y = x then u y else kstB (fun z => if stored.contains z then u z else m₀ z) (ps c) y) → News h₀ env.locals h (Led c) → Q .next { s with heap := h, toks := tk }) :
    wpAny (model prog w) A (pyIter (.str st t₀)) (fun it s₂ => LoopAtV prog w A h₀ env x body Q E it s₂) E s := by
  refine wpAny_pyIter_ascii ha ?_
  have W := Walks.strAscii (prog := prog) (w := w) hh s.heap.objs.size st t₀
  refine lp_walk (.type "str_ascii_iterator") Led ps stored P c₀ W (fun i h st => let ⟨o, ho, hc, _⟩ := st; ⟨o, ho, hc⟩) ?_ (next_is_new F) ⟨_, Heap.get?_push_size _ rfl, rfl, rfl⟩ (F.push _) (fun p hp => ⟨Heap.get?_push_of_some _ (N p hp).1, (N p hp).2⟩) hcl hk hp ?_ done
  · intro hm
    exact absurd F.ns.lt ((List.mem_singleton.mp hm) ▸ Nat.lt_irrefl _)
  · rintro c i v u h tk own hi ⟨ch, t, hch, rfl⟩ hpc hown hst₁ F₁ N₁
    refine turn c i ch t u h tk own hi hch hpc (fun p hp => ?_) F₁ N₁
    have e2 := List.mem_singleton.mp (hown p hp)
    have z := (N₁ p (List.mem_append_left _ hp)).1
    obtain ⟨o, ho, hc, _⟩ := hst₁
    rw [e2, ho] at z
    rw [← Option.some.inj z]
    exact hc
end

/-- as LpPost, the loop's break told as a state too -/
noncomputable def LpPostB {σ : Type} (h₀ : Heap) (L : Addr) (icls : Value) (Led : σ → List (Addr × Obj)) (ps : σ → List (Str × Value)) (x : Str) (stored : List Str) (m₀ : Str → Option Value) (P Pe : σ → Prop) (own : List (Addr × Obj)) (s₁ : Shared) (Q : Flow → Shared → Prop) (f : Flow) (s₂ : Shared) : Prop :=
  match f with
  | .ret v => Q (.ret v) s₂
  | .brk => LpEnd h₀ L icls Led ps x stored m₀ Pe own s₁ s₂
  | _ => LpEnd h₀ L icls Led ps x stored m₀ P own s₁ s₂
theorem lp_strB {prog : Program} {w : World} {A : Around} {E : Value → Shared → Prop} {s : Shared} {env : Env} {h₀ : Heap} {x : Str} {body : List Stmt} {Q : Flow → Shared → Prop} {σ : Type} {st : Str} {t₀ : Tok} {m₀ : Str → Option Value}
    (Led : σ → List (Addr × Obj)) (ps : σ → List (Str × Value)) (stored : List Str) (P : Nat → σ → Prop) (Pe : σ → Prop) (c₀ : σ)
    (hh : A.handled = none) (ha : st.cps.all (· < 128) = true)
    (F : Fr h₀ env.locals s.heap m₀) (N : News h₀ env.locals s.heap (Led c₀)) (hcl : ∀ p ∈ Led c₀, p.2.cls ≠ .type "str_ascii_iterator") (hk : ∀ p ∈ ps c₀, m₀ p.1 = some p.2) (hp : P 0 c₀) (hpe : ∀ c, P st.cps.size c → Pe c)
    (turn : ∀ (c : σ) (i : Nat) (ch : Nat) t (u : Str → Option Value) h tk own, i < st.cps.size → st.cps[i]? = some ch → P i c → (∀ p ∈ own, p.2.cls = .type "str_ascii_iterator") →
      Fr h₀ env.locals h (fun y => if y = x then some (.str ⟨#[ch]⟩ t) else kstB (fun z => if stored.contains z then u z else m₀ z) (ps c) y) → News h₀ env.locals h (own ++ Led c) →
      wpAny (model prog w) A (execs body env) (LpPostB h₀ env.locals (.type "str_ascii_iterator") Led ps x stored m₀ (P (i + 1)) Pe own { s with heap := h, toks := tk } Q) E { s with heap := h, toks := tk })
    (done : ∀ (c : σ) (u : Str → Option Value) h tk, Pe c → Fr h₀ env.locals h (fun y => if y = x then u y else kstB (fun z => if stored.contains z then u z else m₀ z) (ps c) y) → News h₀ env.locals h (Led c) → Q .next { s with heap := h, toks := tk }) :
    wpAny (model prog w) A (pyIter (.str st t₀)) (fun it s₂ => LoopAtV prog w A h₀ env x body Q E it s₂) E s := by
  refine lp_str Led ps stored P c₀ hh ha F N hcl hk hp (fun c i ch t u h tk own hi hch hP hown F₁ N₁ => wpAny_mono (turn c i ch t u h tk own hi hch hP hown F₁ N₁) (fun f s₂ z => ?_) fun _ _ e => e) (fun c u h tk hP => done c u h tk (hpe c hP))
  cases f with
  | ret v => exact z
  | next => exact z
  | cont => exact z
  | brk =>
    obtain ⟨h', tk', m', c', e, F', N', _, h1, h2, hp'⟩ := z
    subst e
    exact done c' m' h' tk' hp' (kst_frOut h1 h2 F') (fun p hp => N' p (List.mem_append_right _ hp))

theorem newsSub {h₀ h : Heap} {L : Addr} {l l' : List (Addr × Obj)} (N : News h₀ L h l) (hs : ∀ p ∈ l', p ∈ l) : News h₀ L h l' := fun p hp => N p (hs p hp)

theorem newsDrop2 {h₀ h : Heap} {L : Addr} {p q : Addr × Obj} {l : List (Addr × Obj)} (N : News h₀ L h (p :: q :: l)) : News h₀ L h (p :: l) := newsSub N (by
  intro z hz
  simp only [List.mem_cons] at hz ⊢
  rcases hz with h | h <;> simp [h])
theorem newsSwap {h₀ h : Heap} {L : Addr} {p q : Addr × Obj} {l : List (Addr × Obj)} (N : News h₀ L h (p :: q :: l)) : News h₀ L h (q :: p :: l) := newsSub N (by
  intro z hz
  simp only [List.mem_cons] at hz ⊢
  rcases hz with h | h | h <;> simp [h])

/-- append to a list of the ledger; all the other entries are no lists -/
theorem app_rule {prog : Program} {w : World} {A : Around} {E : Value → Shared → Prop} {s : Shared} {h₀ : Heap} {L a : Addr} {m : Str → Option Value} {rest : List (Addr × Obj)} {items : List Value} {n : Nat} {v : Value} {Q : Value → Shared → Prop}
    (F : Fr h₀ L s.heap m) (N : News h₀ L s.heap ((a, listOf items.toArray n) :: rest)) (hne : ∀ p ∈ rest, p.2.cls ≠ .type "list") (hsz : items.length ≤ 100000)
    (h : ∀ h' n', Fr h₀ L h' m → News h₀ L h' ((a, listOf (items ++ [v]).toArray n') :: rest) → Q .none { s with heap := h' }) :
    wpAny (model prog w) A (call (.builtin "list.append") [.ref a, v]) Q E s := by
  have ha := N _ (List.mem_cons_self ..)
  refine wpAny_list_append_plain (items := items.toArray) ⟨n, ha.1⟩ (fun h' ⟨n', hp'⟩ hs => ?_) (by simp [sizeLine]; omega)
  refine h h' n' (F.change hs ha.2.1 ha.2.2) (fun p hp => ?_)
  rcases List.mem_cons.mp hp with rfl | hp
  · refine ⟨?_, ha.2⟩
    rw [hp']; simp
  · have z := N p (List.mem_cons_of_mem _ hp)
    have ne : p.1 ≠ a := fun e => by
      have z1 := z.1
      rw [e, ha.1] at z1
      exact hne p hp (by rw [← Option.some.inj z1])
    exact ⟨(hs.2 _ ne).trans z.1, z.2⟩

/-- a store into a list of the ledger -/
theorem set_rule {prog : Program} {w : World} {A : Around} {E : Value → Shared → Prop} {s : Shared} {h₀ : Heap} {L a : Addr} {m : Str → Option Value} {rest : List (Addr × Obj)} {items : List Value} {n : Nat} {k : Int} {t : Tok} {v : Value} {Q : Unit → Shared → Prop}
    (F : Fr h₀ L s.heap m) (N : News h₀ L s.heap ((a, listOf items.toArray n) :: rest)) (hne : ∀ p ∈ rest, p.2.cls ≠ .type "list") (h0 : 0 ≤ k) (hk : k < items.length) (hfit : k < 2 ^ 63)
    (h : ∀ h', Fr h₀ L h' m → News h₀ L h' ((a, listOf (items.set k.toNat v).toArray n) :: rest) → Q () { s with heap := h' }) :
    wpAny (model prog w) A (setItem (.ref a) (.int k t) v) Q E s := by
  have ha := N _ (List.mem_cons_self ..)
  have ne : ∀ p ∈ rest, p.1 ≠ a := fun p hp e => by
    have z1 := (N p (List.mem_cons_of_mem _ hp)).1
    rw [e, ha.1] at z1
    exact hne p hp (by rw [← Option.some.inj z1])
  refine ki_setAt ha.1 h0 hfit (by simpa using hk) (h _ (F.change (Heap.SameBut.update ..) ha.2.1 ha.2.2) ?_)
  have z := ki_turn (pre := []) (post := rest) (n' := n) (its' := (items.set k.toNat v).toArray) (fun x => x.setIfInBounds k.toNat v) N (by intro p hp; cases hp) ne (by simp) (by simp)
  exact z

theorem newsNe {h₀ h : Heap} {L a b : Addr} {o o' : Obj} {l : List (Addr × Obj)} (N : News h₀ L h l) (ha : (a, o) ∈ l) (hb : (b, o') ∈ l) (hc : o.cls ≠ o'.cls) : a ≠ b := by
  rintro rfl
  have z := (N _ ha).1
  have z' := (N _ hb).1
  dsimp only at z z'
  rw [z] at z'
  exact hc (by rw [Option.some.inj z'])

end
example : True := by
  (k_with "ktr_rel" => with_reducible (first | show wpAny _ _ (pyIter _) _ _ _ | show wpAny _ _ (call (Value.builtin "list.append") _) _ _ _ | show wpAny _ _ (setItem _ _ _) _ _ _))
  (k_with "ktr_unf" => repeat' (first | (k_unfold; (try dsimp only)) | ((fail_if_success ktr_rel); (first | walk1 | (dsimp only; walk1) | (leave1; (try dsimp only))))))
  (k_with "execs cons Assign cons" => with_reducible refine wpAny_execs_cons ?_)
  (k_with "kun_tup" => exact IsTup.keeps (by assumption) (Fr.keep (by k_asm)))
  (k_with "k_inst" => exact InstAt.keepsH (by assumption) (Fr.keep (by k_asm)))
  (k_with "call builtin:len" => (k_here; (with_reducible show wpAny _ _ (call (Value.builtin "len") [Value.ref _]) _ _ _); k_dflt (refine' PyProof.Rows.len_tuple ?k1 ?k2 ?_; (case k1 => kun_tup); (case k2 => first | assumption | decide); k_whole)))
  (k_with "call builtin:len" => (k_here; (with_reducible show wpAny _ _ (call (Value.builtin "len") [Value.ref _]) _ _ _); k_dflt (refine' PyProof.Rows.len_list ?k1 ?k2 ?_; (case k1 => exact stays_list (Fr.keep (by k_asm)) (by assumption)); (case k2 => first | assumption | decide); k_whole)))
  (k_with "subscriptTail" => (k_here; (with_reducible show wpAny _ _ (subscriptTail _ _ (Value.ref _) (Value.int _ _)) _ _ _); k_dflt (refine' item_tuple_ints ?t ?i ?a ?b ?c ?_; (case t => kun_tup); (case i => assumption); (case a => omega); (case b => omega); (case c => omega); k_whole); intro t9))
  trivial
section
theorem longest {w : World} {dp un : Nat} {fr : Option (List Env)} {gd : Option (List Code)} {s : Shared} {mg mb : Str → Option Value} {Q : Value → Shared → Prop} {E : Value → Shared → Prop} {x : Addr} {d : WSd}
    (hA : dp + 10 < recursionLimit) (hu : un + 50 < cLine) (G : Gd w mg mb s.heap) (W : WS s.heap x d)
    (hQ : ∀ t h' tk, Up s.heap h' → Q (.int (max ((d.count.length : Int) - 1) d.b) t) { s with heap := h', toks := tk }) :
    wpAny (model PG w) (Aof dp un fr gd) (call (.ref 79) [.ref x]) Q E s := by
  obtain ⟨dx, tA, tB, e1, e2, e3, e4, e5, k1, k2, k3, k4, k5, t1, t2, t3, t4, cs, W⟩ := W
  have X := G.k
  have T := G.t
  have hc := W.small
  have I : InstAt s.heap x (instObj 117 dx) 117 (some (dictOf [⟨e1, .str (Str.ofString "raw") k1, .str d.raw t1⟩, ⟨e2, .str (Str.ofString "n") k2, .int d.n t2⟩, ⟨e3, .str (Str.ofString "nt") k3, .int d.nt t3⟩,
    ⟨e4, .str (Str.ofString "norm") k4, .ref tA⟩, ⟨e5, .str (Str.ofString "is_simple") k5, .bool (decide (d.count.length ≤ 1))⟩] 5)) := ⟨W.inst, rfl, rfl, W.dict⟩
  have IA : IsTup s.heap tA #[.ref tB, .int d.b t4] := ⟨_, W.norm, rfl, _, rfl⟩
  have IB : IsTup s.heap tB cs.toArray := ⟨_, W.cnt, rfl, _, rfl⟩
  have hsz : (cs.toArray.size : Int) < 2 ^ 63 := by have := W.hints.length; simp; omega
  refine wpAny_call ?_
  refine' enter (binds := [(Str.ofString "self", .ref x)]) X T ?k6 ?k7 ?k8 ?k9 ?kB ?_ ?c5 ?c2 ?c3 ?c4
  case k6 => k_is
  case k7 => k_is
  case k8 => (show dp < _; omega)
  case k9 => exact BindsTo.of_eq rfl
  case kB => exact locs rfl
  case c5 => decide
  case c2 => exact rfl
  case c3 => exact rfl
  case c4 => exact rfl
  intro L h₁ F N
  (try dsimp only)
  (try k_fold)
  ktr_unf
  rename_i h9 tk9 F9 N9
  have e : (if d.b > (cs.toArray.size : Int) - 1 then d.b else (cs.toArray.size : Int) - 1) = max ((d.count.length : Int) - 1) d.b := by
    have := W.hints.length
    simp only [List.size_toArray]
    split <;> omega
  rw [e]
  exact hQ _ _ _ F9.keep

end
section
noncomputable def ilStep (ts : Int) (cnt : List Int) : Nat → Int
  | 0 => 0
  | j + 1 => ilStep ts cnt j + Int.fdiv (ts + j) ts * cnt.getD (ts + j).toNat 0
noncomputable def indentZ (d : WSd) (ts : Int) : Int := d.b + ts * (ilStep ts d.count (d.count.length - ts.toNat) + d.nt)

theorem indent {w : World} {dp un : Nat} {fr : Option (List Env)} {gd : Option (List Code)} {s : Shared} {mg mb : Str → Option Value} {Q : Value → Shared → Prop} {E : Value → Shared → Prop} {x : Addr} {d : WSd} {ts : Int} {tt : Tok}
    (hA : dp + 10 < recursionLimit) (hu : un + 50 < cLine) (G : Gd w mg mb s.heap) (W : WS s.heap x d) (hts : 1 ≤ ts) (hts2 : ts ≤ 1000)
    (hQ : ∀ t h' tk, Up s.heap h' → Q (.int (indentZ d ts) t) { s with heap := h', toks := tk }) :
    wpAny (model PG w) (Aof dp un fr gd) (call (.ref 86) [.ref x, .int ts tt]) Q E s := by
  obtain ⟨dx, tA, tB, e1, e2, e3, e4, e5, k1, k2, k3, k4, k5, t1, t2, t3, t4, cs, W⟩ := W
  have X := G.k
  have T := G.t
  have hc := W.small
  have I : InstAt s.heap x (instObj 117 dx) 117 (some (dictOf [⟨e1, .str (Str.ofString "raw") k1, .str d.raw t1⟩, ⟨e2, .str (Str.ofString "n") k2, .int d.n t2⟩, ⟨e3, .str (Str.ofString "nt") k3, .int d.nt t3⟩,
    ⟨e4, .str (Str.ofString "norm") k4, .ref tA⟩, ⟨e5, .str (Str.ofString "is_simple") k5, .bool (decide (d.count.length ≤ 1))⟩] 5)) := ⟨W.inst, rfl, rfl, W.dict⟩
  have IA : IsTup s.heap tA #[.ref tB, .int d.b t4] := ⟨_, W.norm, rfl, _, rfl⟩
  have IB : IsTup s.heap tB cs.toArray := ⟨_, W.cnt, rfl, _, rfl⟩
  have hsz : (cs.toArray.size : Int) < 2 ^ 63 := by have := W.hints.length; simp; omega
  have hints := W.hints
  refine wpAny_call ?_
  refine' enter (binds := [(Str.ofString "self", .ref x), (Str.ofString "tabsize", .int ts tt)]) X T ?k6 ?k7 ?k8 ?k9 ?kB ?_ ?c5 ?c2 ?c3 ?c4
  case k6 => k_is
  case k7 => k_is
  case k8 => (show dp < _; omega)
  case k9 => exact BindsTo.of_eq rfl
  case kB => exact locs rfl
  case c5 => decide
  case c2 => exact rfl
  case c3 => exact rfl
  case c4 => exact rfl
  intro L h₁ F N
  (try dsimp only)
  (try k_fold)
  ktr_unf
  (with_reducible rename IsRange _ _ _ _ _ _ _ _ => R6)
  (with_reducible rename Fr _ _ _ _ => F6)
  (with_reducible rename News _ _ _ _ => N6)
  have hlen := W.hints.length
  have hn : Builtin.Range.rangeSize ts (d.count.length : Int) 1 = ((d.count.length - ts.toNat : Nat) : Int) := by
    unfold Builtin.Range.rangeSize
    skip
    split
    · split <;> omega
    · omega
  have hsm : Builtin.Range.small ts (d.count.length : Int) 1 = true := by
    skip
    exact small_one (by omega) (by omega) (by omega) (by omega)
  refine lp_range (σ := Int × Tok) (fun _ => []) (fun c => [(Str.ofString "il", .int c.1 c.2)]) [] (fun i c => c.1 = ilStep ts d.count i) (0, _) rfl (by exact R6) hsm hn (by exact F6) (by exact N6) (by intro p hp; cases hp) (by intro p hp; rw [List.mem_singleton.mp hp]; rfl) rfl ?_ ?_
  · rintro ⟨c, ct⟩ i t u h tk own hi hP hown Fb Nb
    dsimp only at hP
    (try dsimp only)
    (try k_fold)
    have h1 : 0 ≤ Int.fdiv (ts + i) ts := Int.fdiv_nonneg (by omega) (by omega)
    have h2 : Int.fdiv (ts + i) ts ≤ 1000000 := by
      rw [Int.fdiv_eq_ediv_of_nonneg _ (by omega)]
      have : (ts + (i:Int)) / ts ≤ ts + i := Int.ediv_le_self _ (by omega)
      omega
    ktr_unf
    (with_reducible rename Fr _ _ _ _ => F7)
    (with_reducible rename News _ _ _ _ => N7)
    refine' lp_end (?v, ?t) (by exact F7) (by exact N7) (by intro p hp; cases hp) ?hk ?hr ?hp
    case hk => intro p hp; rw [List.mem_singleton.mp hp]; exact rfl
    case hr =>
      intro z hz hp _
      have h9 := hp _ (List.mem_singleton.mpr rfl)
      dsimp only at h9 ⊢
      simp [hz, h9, kstB]
    case hp =>
      show _ = ilStep ts d.count i + _
      rw [← hP]
  · rintro ⟨c, ct⟩ u h tk hP Fb Nb
    (try dsimp only)
    (try k_fold)
    ktr_unf
    have e : d.b + ts * (c + d.nt) = indentZ d ts := by unfold indentZ; rw [← hP]
    exact e ▸ hQ _ _ _ Fb.keep

end
example : True := by
  (k_with "call ref" => (k_here; (show wpAny _ _ (call (Value.ref 79) [Value.ref _]) _ _ _); k_dflt (refine' longest ?hA ?hu ?G ?W ?_; (case hA => ktr_room); (case hu => ktr_units); (case G => exact Gd.up (by assumption) (Fr.keep (by k_asm))); (case W => exact WS.up (by assumption) (Fr.keep (by k_asm))); k_whole); intro t9 h9 tk9 hk9; (with_reducible rename Fr _ _ _ _ => F8); (with_reducible rename News _ _ _ _ => N8); (have F9 := frUp F8 hk9); (have N9 := newsUp N8 hk9); (try dsimp only)))
  (k_with "call ref" => (k_here; (show wpAny _ _ (call (Value.ref 86) [Value.ref _, Value.int _ _]) _ _ _); k_dflt (refine' indent ?hA ?hu ?G ?W ?h1 ?h2 ?_; (case hA => ktr_room); (case hu => ktr_units); (case G => exact Gd.up (by assumption) (Fr.keep (by k_asm))); (case W => exact WS.up (by assumption) (Fr.keep (by k_asm))); (case h1 => omega); (case h2 => omega); k_whole); intro t9 h9 tk9 hk9; (with_reducible rename Fr _ _ _ _ => F8); (with_reducible rename News _ _ _ _ => N8); (have F9 := frUp F8 hk9); (have N9 := newsUp N8 hk9); (try dsimp only)))
  trivial
section
noncomputable def longestZ (d : WSd) : Int := max ((d.count.length : Int) - 1) d.b
noncomputable def topZ (d d' : WSd) : Int := max (longestZ d) (longestZ d') + 1
noncomputable def lessZ (d d' : WSd) : Bool :=
  if d'.n ≤ d.n then false else if d.count.length ≤ 1 ∧ d'.count.length ≤ 1 then decide (d.nt ≤ d'.nt)
  else decide (∀ i : Nat, i < (topZ d d' - 1).toNat → indentZ d (2 + i) < indentZ d' (2 + i))
theorem endB {Q : Value → Shared → Prop} {s : Shared} {v v' : Bool} {h' : Heap} {tk : Nat} (hQ : ∀ h' tk, Up s.heap h' → Q (.bool v) { s with heap := h', toks := tk }) (e : v = v') (k : Up s.heap h') : Q (.bool v') { s with heap := h', toks := tk } := e ▸ hQ h' tk k
theorem lessC {w : World} {dp un : Nat} {fr : Option (List Env)} {gd : Option (List Code)} {s : Shared} {mg mb : Str → Option Value} {Q : Value → Shared → Prop} {E : Value → Shared → Prop} {x y : Addr} {d d' : WSd}
    (hA : dp + 20 < recursionLimit) (hu : un + 100 < cLine) (G : Gd w mg mb s.heap) (WX : WS s.heap x d) (WY : WS s.heap y d')
    (hQ : ∀ h' tk, Up s.heap h' → Q (.bool (lessZ d d')) { s with heap := h', toks := tk }) :
    wpAny (model PG w) (Aof dp un fr gd) (call (.ref 107) [.ref x, .ref y]) Q E s := by
  obtain ⟨dx, tA, tB, e1, e2, e3, e4, e5, k1, k2, k3, k4, k5, t1, t2, t3, t4, cs, W⟩ := id WX
  obtain ⟨dx', tA', tB', e1', e2', e3', e4', e5', k1', k2', k3', k4', k5', t1', t2', t3', t4', cs', W'⟩ := id WY
  have X := G.k
  have T := G.t
  have I : InstAt s.heap x (instObj 117 dx) 117 (some (dictOf [⟨e1, .str (Str.ofString "raw") k1, .str d.raw t1⟩, ⟨e2, .str (Str.ofString "n") k2, .int d.n t2⟩, ⟨e3, .str (Str.ofString "nt") k3, .int d.nt t3⟩,
    ⟨e4, .str (Str.ofString "norm") k4, .ref tA⟩, ⟨e5, .str (Str.ofString "is_simple") k5, .bool (decide (d.count.length ≤ 1))⟩] 5)) := ⟨W.inst, rfl, rfl, W.dict⟩
  have I' : InstAt s.heap y (instObj 117 dx') 117 (some (dictOf [⟨e1', .str (Str.ofString "raw") k1', .str d'.raw t1'⟩, ⟨e2', .str (Str.ofString "n") k2', .int d'.n t2'⟩, ⟨e3', .str (Str.ofString "nt") k3', .int d'.nt t3'⟩,
    ⟨e4', .str (Str.ofString "norm") k4', .ref tA'⟩, ⟨e5', .str (Str.ofString "is_simple") k5', .bool (decide (d'.count.length ≤ 1))⟩] 5)) := ⟨W'.inst, rfl, rfl, W'.dict⟩
  refine wpAny_call ?_
  refine' enter (binds := [(Str.ofString "self", .ref x), (Str.ofString "other", .ref y)]) X T ?k6 ?k7 ?k8 ?k9 ?kB ?_ ?c5 ?c2 ?c3 ?c4
  case k6 => k_is
  case k7 => k_is
  case k8 => (show dp < _; omega)
  case k9 => exact BindsTo.of_eq rfl
  case kB => exact locs rfl
  case c5 => decide
  case c2 => exact rfl
  case c3 => exact rfl
  case c4 => exact rfl
  intro L h₁ F N
  (try dsimp only)
  (try k_fold)
  have hb1 := W.small
  have hb2 := W'.small
  have hb3 := W.blo
  have hb4 := W.bhi
  have hb5 := W'.blo
  have hb6 := W'.bhi
  ktr_unf
  · (with_reducible rename Fr _ _ _ _ => F6)
    refine endB (s := s) hQ ?_ F6.keep
    unfold lessZ
    rw [if_pos (by assumption)]
  · (with_reducible rename Fr _ _ _ _ => F6)
    refine endB (s := s) hQ ?_ F6.keep
    unfold lessZ
    rw [if_neg (by omega), if_pos (by omega)]
  all_goals (
    (with_reducible rename IsRange _ _ _ _ _ _ _ _ => R6)
    (with_reducible rename Fr _ _ _ _ => F6)
    (with_reducible rename News _ _ _ _ => N6)
    have hn : Builtin.Range.rangeSize 2 ((if max ((d'.count.length : Int) - 1) d'.b > max ((d.count.length : Int) - 1) d.b then max ((d'.count.length : Int) - 1) d'.b else max ((d.count.length : Int) - 1) d.b) + 1 + 1) 1 = (((topZ d d' - 1).toNat : Nat) : Int) := by
      unfold Builtin.Range.rangeSize topZ longestZ
      (repeat' split) <;> omega
    have hsm : Builtin.Range.small 2 ((if max ((d'.count.length : Int) - 1) d'.b > max ((d.count.length : Int) - 1) d.b then max ((d'.count.length : Int) - 1) d'.b else max ((d.count.length : Int) - 1) d.b) + 1 + 1) 1 = true := by
      exact small_one (by omega) (by omega) (by split <;> omega) (by split <;> omega)
    have htop : topZ d d' ≤ 200 := by unfold topZ longestZ; omega
    refine lp_range (σ := Unit) (fun _ => []) (fun _ => []) [] (fun i _ => ∀ j : Nat, j < i → indentZ d (2 + j) < indentZ d' (2 + j)) () rfl (by exact R6) hsm hn (by exact F6) (by exact N6) (by intro p hp; cases hp) (by intro p hp; cases hp) (by intro j hj; omega) ?_ ?_
    · rintro ⟨⟩ i t u h tk own hi hP hown Fb Nb
      (try dsimp only)
      (try k_fold)
      ktr_unf
      · (with_reducible rename Fr _ _ _ _ => F7)
        refine endB (s := s) hQ ?_ F7.keep
        unfold lessZ
        rw [if_neg (by omega), if_neg (by omega)]
        exact decide_eq_false fun hall => by have := hall i hi; omega
      · (with_reducible rename Fr _ _ _ _ => F7)
        (with_reducible rename News _ _ _ _ => N7)
        refine' lp_end () (by exact F7) (by exact N7) (by intro p hp; cases hp) (by intro p hp; cases hp) ?hr ?hp
        case hr =>
          intro z hz hp _
          dsimp only
          simp [hz, kstB]
        case hp =>
          intro j hj
          by_cases e : j = i
          · subst e; omega
          · exact hP j (by omega)
    · rintro ⟨⟩ u h tk hP Fb Nb
      (try dsimp only)
      (try k_fold)
      ktr_unf
      (with_reducible rename Fr _ _ _ _ => F7)
      refine endB (s := s) hQ ?_ F7.keep
      unfold lessZ
      rw [if_neg (by omega), if_neg (by omega)]
      exact decide_eq_true hP)

end
section
/-- one witness as it lies: the tuple's place and its three ints -/
structure Wit where
  at_ : Addr
  ts : Int
  il : Int
  jl : Int
  t1 : Tok
  t2 : Tok
  t3 : Tok
noncomputable def Wit.obj (q : Wit) : Obj := tupObj [.int q.ts q.t1, .int q.il q.t2, .int q.jl q.t3]
noncomputable def Wit.ent (q : Wit) : Addr × Obj := (q.at_, q.obj)
noncomputable def Wit.ref (q : Wit) : Value := .ref q.at_
noncomputable def LedW (a : Addr) (c : List Wit × Nat) : List (Addr × Obj) := (a, listOf (c.1.map Wit.ref).toArray c.2) :: c.1.map Wit.ent
theorem ledW_cls {a : Addr} {c : List Wit × Nat} : ∀ p ∈ LedW a c, p.2.cls ≠ .type "range_iterator" := by
  intro p hp
  rcases List.mem_cons.mp hp with rfl | hp
  · show Value.type "list" ≠ _
    decide
  · obtain ⟨q, _, rfl⟩ := List.mem_map.mp hp
    show Value.type "tuple" ≠ _
    decide
theorem ledW_front {h₀ h : Heap} {L a : Addr} {own : List (Addr × Obj)} {qs : List Wit} {n : Nat} (N : News h₀ L h (own ++ LedW a (qs, n))) : News h₀ L h ((a, listOf (qs.map Wit.ref).toArray n) :: (own ++ qs.map Wit.ent)) := newsSub N (by
  intro p hp
  simp only [LedW, List.mem_append, List.mem_cons] at hp ⊢
  rcases hp with h | h | h <;> simp [h])
theorem ledW_back {h₀ h : Heap} {L a : Addr} {own : List (Addr × Obj)} {qs : List Wit} {n : Nat} (N : News h₀ L h ((a, listOf (qs.map Wit.ref).toArray n) :: (own ++ qs.map Wit.ent))) : News h₀ L h (own ++ LedW a (qs, n)) := newsSub N (by
  intro p hp
  simp only [LedW, List.mem_append, List.mem_cons] at hp ⊢
  rcases hp with h | h | h <;> simp [h])
/-- the sizes that a witness list names -/
noncomputable def nlw (d d' : WSd) (n : Nat) : List Int := ((List.range n).map fun i : Nat => (1 : Int) + i).filter fun ts => decide (indentZ d' ts ≤ indentZ d ts)
theorem nlw_succ (d d' : WSd) (i : Nat) : nlw d d' (i + 1) = nlw d d' i ++ (if indentZ d' (1 + i) ≤ indentZ d (1 + i) then [(1 : Int) + i] else []) := by
  unfold nlw
  rw [List.range_succ, List.map_append, List.filter_append]
  congr 1
  simp only [List.map_cons, List.map_nil, List.filter_cons, List.filter_nil]
  by_cases h : indentZ d' (1 + i) ≤ indentZ d (1 + i) <;> simp [h]
theorem nlw_len (d d' : WSd) (i : Nat) : (nlw d d' i).length ≤ i := by
  unfold nlw
  refine Nat.le_trans (List.length_filter_le ..) ?_
  simp
theorem ledW_snoc {h₀ h : Heap} {L a D : Addr} {own : List (Addr × Obj)} {qs : List Wit} {n : Nat} {ts il jl : Int} {t1 t2 t3 : Tok}
    (N : News h₀ L h ((a, listOf (qs.map Wit.ref ++ [Value.ref D]).toArray n) :: (D, tupObj [.int ts t1, .int il t2, .int jl t3]) :: (own ++ qs.map Wit.ent))) : News h₀ L h (own ++ LedW a (qs ++ [⟨D, ts, il, jl, t1, t2, t3⟩], n)) := newsSub N (by
  intro p hp
  simp only [LedW, List.mem_append, List.mem_cons, List.map_append, List.map_cons, List.map_nil, List.not_mem_nil, or_false] at hp ⊢
  rcases hp with h | h | h | h
  · simp [h]
  · left; rw [h]; rfl
  · simp [h]
  · right; left; rw [h]; rfl)

theorem notLess {w : World} {dp un : Nat} {fr : Option (List Env)} {gd : Option (List Code)} {s : Shared} {mg mb : Str → Option Value} {Q : Value → Shared → Prop} {E : Value → Shared → Prop} {x y : Addr} {d d' : WSd}
    (hA : dp + 20 < recursionLimit) (hu : un + 100 < cLine) (G : Gd w mg mb s.heap) (WX : WS s.heap x d) (WY : WS s.heap y d')
    (hQ : ∀ a n (qs : List Wit) h' tk, Up s.heap h' → h'.get? a = some (listOf (qs.map Wit.ref).toArray n) → (∀ q ∈ qs, h'.get? q.at_ = some q.obj) → qs.map Wit.ts = nlw d d' (topZ d d').toNat → Q (.ref a) { s with heap := h', toks := tk }) :
    wpAny (model PG w) (Aof dp un fr gd) (call (.ref 114) [.ref x, .ref y]) Q E s := by
  obtain ⟨dx, tA, tB, e1, e2, e3, e4, e5, k1, k2, k3, k4, k5, t1, t2, t3, t4, cs, W⟩ := id WX
  obtain ⟨dx', tA', tB', e1', e2', e3', e4', e5', k1', k2', k3', k4', k5', t1', t2', t3', t4', cs', W'⟩ := id WY
  have X := G.k
  have T := G.t
  have I : InstAt s.heap x (instObj 117 dx) 117 (some (dictOf [⟨e1, .str (Str.ofString "raw") k1, .str d.raw t1⟩, ⟨e2, .str (Str.ofString "n") k2, .int d.n t2⟩, ⟨e3, .str (Str.ofString "nt") k3, .int d.nt t3⟩,
    ⟨e4, .str (Str.ofString "norm") k4, .ref tA⟩, ⟨e5, .str (Str.ofString "is_simple") k5, .bool (decide (d.count.length ≤ 1))⟩] 5)) := ⟨W.inst, rfl, rfl, W.dict⟩
  have I' : InstAt s.heap y (instObj 117 dx') 117 (some (dictOf [⟨e1', .str (Str.ofString "raw") k1', .str d'.raw t1'⟩, ⟨e2', .str (Str.ofString "n") k2', .int d'.n t2'⟩, ⟨e3', .str (Str.ofString "nt") k3', .int d'.nt t3'⟩,
    ⟨e4', .str (Str.ofString "norm") k4', .ref tA'⟩, ⟨e5', .str (Str.ofString "is_simple") k5', .bool (decide (d'.count.length ≤ 1))⟩] 5)) := ⟨W'.inst, rfl, rfl, W'.dict⟩
  refine wpAny_call ?_
  refine' enter (binds := [(Str.ofString "self", .ref x), (Str.ofString "other", .ref y)]) X T ?k6 ?k7 ?k8 ?k9 ?kB ?_ ?c5 ?c2 ?c3 ?c4
  case k6 => k_is
  case k7 => k_is
  case k8 => (show dp < _; omega)
  case k9 => exact BindsTo.of_eq rfl
  case kB => exact locs rfl
  case c5 => decide
  case c2 => exact rfl
  case c3 => exact rfl
  case c4 => exact rfl
  intro L h₁ F N
  (try dsimp only)
  (try k_fold)
  have hb1 := W.small
  have hb2 := W'.small
  have hb3 := W.blo
  have hb4 := W.bhi
  have hb5 := W'.blo
  have hb6 := W'.bhi
  ktr_unf
  (with_reducible rename IsRange _ _ _ _ _ _ _ _ => R6)
  (with_reducible rename Fr _ _ _ _ => F6)
  (with_reducible rename News _ _ _ _ => N6)
  have hn : Builtin.Range.rangeSize 1 ((if max ((d'.count.length : Int) - 1) d'.b > max ((d.count.length : Int) - 1) d.b then max ((d'.count.length : Int) - 1) d'.b else max ((d.count.length : Int) - 1) d.b) + 1 + 1) 1 = (((topZ d d').toNat : Nat) : Int) := by
    unfold Builtin.Range.rangeSize topZ longestZ
    (repeat' split) <;> omega
  have hsm : Builtin.Range.small 1 ((if max ((d'.count.length : Int) - 1) d'.b > max ((d.count.length : Int) - 1) d.b then max ((d'.count.length : Int) - 1) d'.b else max ((d.count.length : Int) - 1) d.b) + 1 + 1) 1 = true := by
    exact small_one (by omega) (by omega) (by split <;> omega) (by split <;> omega)
  have htop : topZ d d' ≤ 200 := by unfold topZ longestZ; omega
  refine' lp_range (LedW ?adr9) (fun _ => []) [] (fun i c => c.1.map Wit.ts = nlw d d' i) ([], 0) rfl (by exact R6) hsm hn (by exact F6) ?N ledW_cls (by intro p hp; cases hp) rfl ?_ ?_
  case N => exact N6
  · rintro ⟨qs, n⟩ i t u h tk own hi hP hown Fb Nb
    have Nc := ledW_front Nb
    clear Nb
    (try dsimp only)
    (try k_fold)
    ktr_unf
    · (with_reducible rename Fr _ _ _ _ => F7)
      (with_reducible rename News _ _ _ _ => N7)
      refine app_rule (items := qs.map Wit.ref) F7 (newsSwap N7) ?_ ?_ ?_
      · intro p hp
        simp only [List.mem_cons, List.mem_append] at hp
        rcases hp with h | h | h
        · rw [h]; show Value.type "tuple" ≠ _; decide
        · rw [hown p h]; decide
        · obtain ⟨q, _, rfl⟩ := List.mem_map.mp h
          show Value.type "tuple" ≠ _
          decide
      · have e1 := congrArg List.length hP
        have e2 := nlw_len d d' i
        simp only [List.length_map] at e1 ⊢
        omega
      · intro h8 n8 F8 N8
        (try dsimp only)
        ktr_unf
        refine' lp_end (qs ++ [?q9], n8) (by exact F8) (ledW_snoc (by exact N8)) ledW_cls (by intro p hp; cases hp) ?hr ?hp
        case hr =>
          intro z hz hp _
          dsimp only
          simp [hz, kstB]
        case hp =>
          dsimp only at hP ⊢
          rw [nlw_succ, if_pos (by assumption), List.map_append, hP]
          rfl
    · (with_reducible rename Fr _ _ _ _ => F7)
      (with_reducible rename News _ _ _ _ => N7)
      refine' lp_end (qs, n) (by exact F7) (ledW_back N7) ledW_cls (by intro p hp; cases hp) ?hr ?hp
      case hr =>
        intro z hz hp _
        dsimp only
        simp [hz, kstB]
      case hp =>
        dsimp only at hP ⊢
        rw [nlw_succ, if_neg (by omega), hP, List.append_nil]
  · rintro ⟨qs, n⟩ u h tk hP Fb Nb
    (try dsimp only)
    (try k_fold)
    ktr_unf
    (with_reducible rename Fr _ _ _ _ => F7)
    exact hQ _ n qs _ _ F7.keep (Nb _ (List.mem_cons_self ..)).1 (fun q hq => (Nb _ (List.mem_cons_of_mem _ (List.mem_map_of_mem hq))).1) hP

end
section
/-- a value that reads as this datum -/
noncomputable def Rd (h : Heap) (v : Value) (d : PyData) : Prop := ∃ as, Reads h v d as
theorem Rd.up {h h' : Heap} {v : Value} {d : PyData} (r : Rd h v d) (k : Up h h') : Rd h' v d := let ⟨as, r⟩ := r; ⟨as, PyProof.Rows.Reads.keeps k r⟩
theorem rdAll_ints {h : Heap} : ∀ {vs : List Value} {ns : List Int}, IntsAre vs ns → ReadsAll h vs (ns.map .int) []
  | _, _, .nil => .nil
  | _, _, .cons n t r => .cons (.int n t) (rdAll_ints r)
noncomputable def normD (d : WSd) : PyData := .tuple [.tuple (d.count.map .int), .int d.b]
theorem WSat.norm_reads {h : Heap} {x dx tA tB : Addr} {d : WSd} {e1 e2 e3 e4 e5 : Int} {k1 k2 k3 k4 k5 t1 t2 t3 t4 : Tok} {cs : List Value} (W : WSat h x dx tA tB d e1 e2 e3 e4 e5 k1 k2 k3 k4 k5 t1 t2 t3 t4 cs) :
    Reads h (.ref tA) (normD d) [] :=
  .tuple W.norm rfl rfl (.cons (.tuple W.cnt rfl rfl (by simpa using rdAll_ints W.hints)) (.cons (.int _ _) .nil))
theorem normD_shaped (d : WSd) : SeqAt.shaped (normD d) = true := by
  unfold normD SeqAt.shaped
  simp [PyData.canLay0, PyData.canLayAll0, PyData.depth, PyData.depthAll, ke_canLayAll0, ke_depthAll]

theorem equalC {w : World} {dp un : Nat} {fr : Option (List Env)} {gd : Option (List Code)} {s : Shared} {mg mb : Str → Option Value} {Q : Value → Shared → Prop} {E : Value → Shared → Prop} {x y : Addr} {d d' : WSd}
    (hA : dp + 20 < recursionLimit) (hu : un + 100 < cLine) (G : Gd w mg mb s.heap) (WX : WS s.heap x d) (WY : WS s.heap y d')
    (hQ : ∀ h' tk, Up s.heap h' → Q (.bool (PyData.eqv (normD d) (normD d'))) { s with heap := h', toks := tk }) :
    wpAny (model PG w) (Aof dp un fr gd) (call (.ref 93) [.ref x, .ref y]) Q E s := by
  obtain ⟨dx, tA, tB, e1, e2, e3, e4, e5, k1, k2, k3, k4, k5, t1, t2, t3, t4, cs, W⟩ := id WX
  obtain ⟨dx', tA', tB', e1', e2', e3', e4', e5', k1', k2', k3', k4', k5', t1', t2', t3', t4', cs', W'⟩ := id WY
  have X := G.k
  have T := G.t
  have I : InstAt s.heap x (instObj 117 dx) 117 (some (dictOf [⟨e1, .str (Str.ofString "raw") k1, .str d.raw t1⟩, ⟨e2, .str (Str.ofString "n") k2, .int d.n t2⟩, ⟨e3, .str (Str.ofString "nt") k3, .int d.nt t3⟩,
    ⟨e4, .str (Str.ofString "norm") k4, .ref tA⟩, ⟨e5, .str (Str.ofString "is_simple") k5, .bool (decide (d.count.length ≤ 1))⟩] 5)) := ⟨W.inst, rfl, rfl, W.dict⟩
  have I' : InstAt s.heap y (instObj 117 dx') 117 (some (dictOf [⟨e1', .str (Str.ofString "raw") k1', .str d'.raw t1'⟩, ⟨e2', .str (Str.ofString "n") k2', .int d'.n t2'⟩, ⟨e3', .str (Str.ofString "nt") k3', .int d'.nt t3'⟩,
    ⟨e4', .str (Str.ofString "norm") k4', .ref tA'⟩, ⟨e5', .str (Str.ofString "is_simple") k5', .bool (decide (d'.count.length ≤ 1))⟩] 5)) := ⟨W'.inst, rfl, rfl, W'.dict⟩
  refine wpAny_call ?_
  refine' enter (binds := [(Str.ofString "self", .ref x), (Str.ofString "other", .ref y)]) X T ?k6 ?k7 ?k8 ?k9 ?kB ?_ ?c5 ?c2 ?c3 ?c4
  case k6 => k_is
  case k7 => k_is
  case k8 => (show dp < _; omega)
  case k9 => exact BindsTo.of_eq rfl
  case kB => exact locs rfl
  case c5 => decide
  case c2 => exact rfl
  case c3 => exact rfl
  case c4 => exact rfl
  intro L h₁ F N
  (try dsimp only)
  (try k_fold)
  have hR := W.norm_reads
  have hR' := W'.norm_reads
  ktr_unf
  (with_reducible rename Fr _ _ _ _ => F7)
  refine SeqAt.compareEq_shaped (PyProof.Rows.Reads.keeps F7.keep hR) (PyProof.Rows.Reads.keeps F7.keep hR') (normD_shaped d) (normD_shaped d') ?_ ?_
  · have := cLine_is
    simp only [units_in1, units_deeper]
    omega
  · ktr_unf
    exact hQ _ _ F7.keep

theorem notEqualC {w : World} {dp un : Nat} {fr : Option (List Env)} {gd : Option (List Code)} {s : Shared} {mg mb : Str → Option Value} {Q : Value → Shared → Prop} {E : Value → Shared → Prop} {x y : Addr} {d d' : WSd}
    (hA : dp + 20 < recursionLimit) (hu : un + 100 < cLine) (G : Gd w mg mb s.heap) (WX : WS s.heap x d) (WY : WS s.heap y d') (heq : ∀ ts, indentZ d ts = indentZ d' ts)
    (hQ : ∀ a n h' tk, Up s.heap h' → h'.get? a = some (listOf #[] n) → Q (.ref a) { s with heap := h', toks := tk }) :
    wpAny (model PG w) (Aof dp un fr gd) (call (.ref 100) [.ref x, .ref y]) Q E s := by
  obtain ⟨dx, tA, tB, e1, e2, e3, e4, e5, k1, k2, k3, k4, k5, t1, t2, t3, t4, cs, W⟩ := id WX
  obtain ⟨dx', tA', tB', e1', e2', e3', e4', e5', k1', k2', k3', k4', k5', t1', t2', t3', t4', cs', W'⟩ := id WY
  have X := G.k
  have T := G.t
  have I : InstAt s.heap x (instObj 117 dx) 117 (some (dictOf [⟨e1, .str (Str.ofString "raw") k1, .str d.raw t1⟩, ⟨e2, .str (Str.ofString "n") k2, .int d.n t2⟩, ⟨e3, .str (Str.ofString "nt") k3, .int d.nt t3⟩,
    ⟨e4, .str (Str.ofString "norm") k4, .ref tA⟩, ⟨e5, .str (Str.ofString "is_simple") k5, .bool (decide (d.count.length ≤ 1))⟩] 5)) := ⟨W.inst, rfl, rfl, W.dict⟩
  have I' : InstAt s.heap y (instObj 117 dx') 117 (some (dictOf [⟨e1', .str (Str.ofString "raw") k1', .str d'.raw t1'⟩, ⟨e2', .str (Str.ofString "n") k2', .int d'.n t2'⟩, ⟨e3', .str (Str.ofString "nt") k3', .int d'.nt t3'⟩,
    ⟨e4', .str (Str.ofString "norm") k4', .ref tA'⟩, ⟨e5', .str (Str.ofString "is_simple") k5', .bool (decide (d'.count.length ≤ 1))⟩] 5)) := ⟨W'.inst, rfl, rfl, W'.dict⟩
  refine wpAny_call ?_
  refine' enter (binds := [(Str.ofString "self", .ref x), (Str.ofString "other", .ref y)]) X T ?k6 ?k7 ?k8 ?k9 ?kB ?_ ?c5 ?c2 ?c3 ?c4
  case k6 => k_is
  case k7 => k_is
  case k8 => (show dp < _; omega)
  case k9 => exact BindsTo.of_eq rfl
  case kB => exact locs rfl
  case c5 => decide
  case c2 => exact rfl
  case c3 => exact rfl
  case c4 => exact rfl
  intro L h₁ F N
  (try dsimp only)
  (try k_fold)
  have hb1 := W.small
  have hb2 := W'.small
  have hb3 := W.blo
  have hb4 := W.bhi
  have hb5 := W'.blo
  have hb6 := W'.bhi
  ktr_unf
  (with_reducible rename IsRange _ _ _ _ _ _ _ _ => R6)
  (with_reducible rename Fr _ _ _ _ => F6)
  (with_reducible rename News _ _ _ _ => N6)
  have hn : Builtin.Range.rangeSize 1 ((if max ((d'.count.length : Int) - 1) d'.b > max ((d.count.length : Int) - 1) d.b then max ((d'.count.length : Int) - 1) d'.b else max ((d.count.length : Int) - 1) d.b) + 1 + 1) 1 = (((topZ d d').toNat : Nat) : Int) := by
    unfold Builtin.Range.rangeSize topZ longestZ
    (repeat' split) <;> omega
  have hsm : Builtin.Range.small 1 ((if max ((d'.count.length : Int) - 1) d'.b > max ((d.count.length : Int) - 1) d.b then max ((d'.count.length : Int) - 1) d'.b else max ((d.count.length : Int) - 1) d.b) + 1 + 1) 1 = true := by
    exact small_one (by omega) (by omega) (by split <;> omega) (by split <;> omega)
  have htop : topZ d d' ≤ 200 := by unfold topZ longestZ; omega
  refine' lp_range (LedW ?adr9) (fun _ => []) [] (fun i c => c.1 = []) ([], 0) rfl (by exact R6) hsm hn (by exact F6) ?N ledW_cls (by intro p hp; cases hp) rfl ?_ ?_
  case N => exact N6
  · rintro ⟨qs, n⟩ i t u h tk own hi hP hown Fb Nb
    dsimp only at hP
    subst hP
    have Nc := ledW_front Nb
    clear Nb
    (try dsimp only)
    (try k_fold)
    have he := heq (1 + i)
    ktr_unf
    · exfalso
      first | contradiction | omega
    · (with_reducible rename Fr _ _ _ _ => F7)
      (with_reducible rename News _ _ _ _ => N7)
      refine' lp_end ([], n) (by exact F7) (ledW_back N7) ledW_cls (by intro p hp; cases hp) ?hr ?hp
      case hr =>
        intro z hz hp _
        dsimp only
        simp [hz, kstB]
      case hp => rfl
  · rintro ⟨qs, n⟩ u h tk hP Fb Nb
    dsimp only at hP
    subst hP
    (try dsimp only)
    (try k_fold)
    ktr_unf
    (with_reducible rename Fr _ _ _ _ => F7)
    exact hQ _ n _ _ F7.keep (Nb _ (List.mem_cons_self ..)).1

end
section
/-- a list of counts, one more at place b -/
noncomputable def bump (c : List Int) (b : Nat) : List Int :=
  let c' := if c.length ≤ b then c ++ List.replicate (b - c.length + 1) 0 else c
  c'.set b (c'.getD b 0 + 1)
/-- what __init__ reckons from the signs -/
noncomputable def wsScan : List Nat → Int → Int → Nat → List Int → Int × Int × Nat × List Int
  | [], n, nt, b, c => (n, nt, b, c)
  | ch :: r, n, nt, b, c => if ch = 32 then wsScan r (n + 1) nt (b + 1) c else if ch = 9 then wsScan r (n + 1) (nt + 1) 0 (bump c b) else (n, nt, b, c)
noncomputable def wsOf (st : Str) : WSd := let r := wsScan st.cps.toList 0 0 0 []; ⟨st, r.1, r.2.1, r.2.2.2, r.2.2.1⟩

structure IS where
  n : Int
  nt : Int
  b : Nat
  cnt : List Int
  ca : Addr
  vs : List Value
  ep : Nat
  tn : Tok
  tnt : Tok
  tb : Tok
noncomputable def LedI (kh : Int) (st : Str) (t0 kt : Tok) (x dx : Addr) (c : IS) : List (Addr × Obj) :=
  [(c.ca, listOf c.vs.toArray c.ep), (x, instObj 117 dx), (dx, dictOf [⟨kh, .str (Str.ofString "raw") kt, .str st t0⟩] 1)]
noncomputable def psI (c : IS) : List (Str × Value) := [(Str.ofString "count", .ref c.ca), (Str.ofString "b", .int c.b c.tb), (Str.ofString "n", .int c.n c.tn), (Str.ofString "nt", .int c.nt c.tnt)]
structure InvI (st : Str) (i : Nat) (c : IS) : Prop where
  scan : wsScan (st.cps.toList.drop i) c.n c.nt c.b c.cnt = wsScan st.cps.toList 0 0 0 []
  hints : IntsAre c.vs c.cnt
  bi : c.b ≤ i
  len : c.cnt.length ≤ i
structure EndI (st : Str) (c : IS) : Prop where
  scan : (c.n, c.nt, c.b, c.cnt) = wsScan st.cps.toList 0 0 0 []
  hints : IntsAre c.vs c.cnt
  bi : c.b ≤ st.cps.size
  len : c.cnt.length ≤ st.cps.size
theorem endI_of {st : Str} (c : IS) (h : InvI st st.cps.size c) : EndI st c := by
  refine ⟨?_, h.hints, h.bi, h.len⟩
  have := h.scan
  rw [List.drop_of_length_le (by simp)] at this
  exact this
theorem ledI_cls {kh : Int} {st : Str} {t0 kt : Tok} {x dx : Addr} {c : IS} : ∀ p ∈ LedI kh st t0 kt x dx c, p.2.cls ≠ .type "str_ascii_iterator" := by
  intro p hp
  simp only [LedI, List.mem_cons, List.not_mem_nil, or_false] at hp
  rcases hp with rfl | rfl | rfl
  · show Value.type "list" ≠ _; decide
  · show Value.ref _ ≠ _; simp
  · show Value.type "dict" ≠ _; decide
theorem ledI_front {kh : Int} {st : Str} {t0 kt : Tok} {x dx : Addr} {c : IS} {h₀ h : Heap} {L : Addr} {own : List (Addr × Obj)} (N : News h₀ L h (own ++ LedI kh st t0 kt x dx c)) :
    News h₀ L h ((c.ca, listOf c.vs.toArray c.ep) :: (x, instObj 117 dx) :: (dx, dictOf [⟨kh, .str (Str.ofString "raw") kt, .str st t0⟩] 1) :: own) := newsSub N (by
  intro p hp
  simp only [LedI, List.mem_append, List.mem_cons, List.not_mem_nil, or_false] at hp ⊢
  rcases hp with h | h | h | h <;> simp [h])
theorem ledI_back {kh : Int} {st : Str} {t0 kt : Tok} {x dx : Addr} (c : IS) {h₀ h : Heap} {L : Addr} {own : List (Addr × Obj)} (N : News h₀ L h ((c.ca, listOf c.vs.toArray c.ep) :: (x, instObj 117 dx) :: (dx, dictOf [⟨kh, .str (Str.ofString "raw") kt, .str st t0⟩] 1) :: own)) :
    News h₀ L h (own ++ LedI kh st t0 kt x dx c) := newsSub N (by
  intro p hp
  simp only [LedI, List.mem_append, List.mem_cons, List.not_mem_nil, or_false] at hp ⊢
  rcases hp with h | h | h | h <;> simp [h])

theorem sp_is : Str.ofString " " = ⟨#[32]⟩ := by decide +kernel
theorem tab_is : Str.ofString "\t" = ⟨#[9]⟩ := by decide +kernel
theorem one_eq {ch k : Nat} (h : ((⟨#[ch]⟩ : Str) == ⟨#[k]⟩) = true) : ch = k := by
  have := beq_iff_eq.mp h
  injection this with e
  simpa using e
theorem one_sp {ch : Nat} (h : ((⟨#[ch]⟩ : Str) == Str.ofString " ") = true) : ch = 32 := one_eq (sp_is ▸ h)
theorem one_tab {ch : Nat} (h : ((⟨#[ch]⟩ : Str) == Str.ofString "\t") = true) : ch = 9 := one_eq (tab_is ▸ h)
theorem one_sp_ne {ch : Nat} (h : ((⟨#[ch]⟩ : Str) == Str.ofString " ") = false) : ch ≠ 32 := fun e => by rw [e, sp_is] at h; cases h
theorem one_tab_ne {ch : Nat} (h : ((⟨#[ch]⟩ : Str) == Str.ofString "\t") = false) : ch ≠ 9 := fun e => by rw [e, tab_is] at h; cases h
theorem drop_at {st : Str} {i ch : Nat} (h : st.cps[i]? = some ch) : st.cps.toList.drop i = ch :: st.cps.toList.drop (i + 1) := by
  have h' : st.cps.toList[i]? = some ch := by simpa using h
  obtain ⟨hl, he⟩ := List.getElem?_eq_some_iff.mp h'
  rw [List.drop_eq_getElem_cons hl, he]
theorem ints_set {x : Int} {t : Tok} : ∀ {vs : List Value} {ns : List Int} (i : Nat), IntsAre vs ns → IntsAre (vs.set i (.int x t)) (ns.set i x)
  | _, _, _, .nil => by simpa using IntsAre.nil
  | _, _, 0, .cons n u r => .cons x t r
  | _, _, i + 1, .cons n u r => .cons n u (ints_set i r)
theorem bump_ext {cnt : List Int} {b : Nat} (h : (cnt.length : Int) ≤ (b : Int)) :
    (cnt ++ (List.replicate ((b : Int) - cnt.length + 1).toNat [(0 : Int)]).flatten).set ((b : Int)).toNat ((cnt ++ (List.replicate ((b : Int) - cnt.length + 1).toNat [(0 : Int)]).flatten).getD ((b : Int)).toNat 0 + 1) = bump cnt b := by
  have e1 : ((b : Int) - cnt.length + 1).toNat = b - cnt.length + 1 := by omega
  unfold bump
  rw [if_pos (by omega), e1, List.flatten_replicate_singleton]
  rfl
theorem bump_in {cnt : List Int} {b : Nat} (h : ¬ (cnt.length : Int) ≤ (b : Int)) : cnt.set ((b : Int)).toNat (cnt.getD ((b : Int)).toNat 0 + 1) = bump cnt b := by
  unfold bump
  rw [if_neg (by omega)]
  rfl
theorem ledI_no {x dx : Addr} {es : List DictEntry} {own : List (Addr × Obj)} (hown : ∀ p ∈ own, p.2.cls = .type "str_ascii_iterator") : ∀ p ∈ (x, instObj 117 dx) :: (dx, dictOf es 1) :: own, p.2.cls ≠ .type "list" := by
  intro p hp
  simp only [List.mem_cons] at hp
  rcases hp with rfl | rfl | h
  · show Value.ref _ ≠ _; simp
  · show Value.type "dict" ≠ _; decide
  · rw [hown p h]; decide
theorem bump_len (c : List Int) (b : Nat) : (bump c b).length = max c.length (b + 1) := by
  unfold bump
  simp only [List.length_set]
  split
  · simp only [List.length_append, List.length_replicate]; omega
  · omega
theorem invI_blank {st : Str} {i ch : Nat} {n nt : Int} {b : Nat} {cnt : List Int} {ca ca' : Addr} {vs : List Value} {ep ep' : Nat} {tn tnt tb tn' tnt' tb' : Tok}
    (h : InvI st i ⟨n, nt, b, cnt, ca, vs, ep, tn, tnt, tb⟩) (hch : st.cps[i]? = some ch) (e : ch = 32) : InvI st (i + 1) ⟨n + 1, nt, b + 1, cnt, ca', vs, ep', tn', tnt', tb'⟩ := by
  refine ⟨?_, h.hints, Nat.succ_le_succ h.bi, Nat.le_succ_of_le h.len⟩
  have z := h.scan
  dsimp only at z ⊢
  rw [drop_at hch, wsScan, if_pos e] at z
  exact z
theorem invI_tab {st : Str} {i ch : Nat} {n nt : Int} {b : Nat} {cnt cnt' : List Int} {ca ca' : Addr} {vs vs' : List Value} {ep ep' : Nat} {tn tnt tb tn' tnt' tb' : Tok}
    (h : InvI st i ⟨n, nt, b, cnt, ca, vs, ep, tn, tnt, tb⟩) (hch : st.cps[i]? = some ch) (e : ch = 9) (hc : cnt' = bump cnt b) (hi : IntsAre vs' cnt') : InvI st (i + 1) ⟨n + 1, nt + 1, 0, cnt', ca', vs', ep', tn', tnt', tb'⟩ := by
  have h1 := h.bi
  have h2 := h.len
  subst hc
  refine ⟨?_, hi, Nat.zero_le _, ?_⟩
  · have z := h.scan
    dsimp only at z ⊢
    rw [drop_at hch, wsScan, if_neg (by omega), if_pos e] at z
    exact z
  · dsimp only at h1 h2 ⊢
    rw [bump_len]; omega
theorem endI_brk {st : Str} {i ch : Nat} {c : IS} (h : InvI st i c) (hi : i < st.cps.size) (hch : st.cps[i]? = some ch) (e1 : ch ≠ 32) (e2 : ch ≠ 9) : EndI st c := by
  have h1 := h.bi
  have h2 := h.len
  refine ⟨?_, h.hints, by omega, by omega⟩
  have z := h.scan
  rw [drop_at hch, wsScan, if_neg e1, if_neg e2] at z
  exact z


end
section
/-- what holds wherever these objects lie -/
noncomputable def Bears (T : List (Addr × Obj)) (P : Heap → Prop) : Prop := ∀ h : Heap, (∀ p ∈ T, h.get? p.1 = some p.2) → P h
/-- objects that are new, and neither cells nor tables -/
noncomputable def NewT (h h' : Heap) (T : List (Addr × Obj)) : Prop := ∀ p ∈ T, h'.get? p.1 = some p.2 ∧ h.get? p.1 = none ∧ (∀ v, p.2.data ≠ .cell v) ∧ p.2.cls ≠ .none
theorem newT4 {h h' : Heap} {a b c d : Addr} {oa ob oc od : Obj} (ha : h'.get? a = some oa) (hb : h'.get? b = some ob) (hc : h'.get? c = some oc) (hd : h'.get? d = some od) (fa : h.get? a = none) (fb : h.get? b = none) (fc : h.get? c = none) (fd : h.get? d = none)
    (ca : ∀ v, oa.data ≠ .cell v) (cb : ∀ v, ob.data ≠ .cell v) (cc : ∀ v, oc.data ≠ .cell v) (cd : ∀ v, od.data ≠ .cell v) (na : oa.cls ≠ .none) (nb : ob.cls ≠ .none) (nc : oc.cls ≠ .none) (nd : od.cls ≠ .none) : NewT h h' [(a, oa), (b, ob), (c, oc), (d, od)] := by
  intro p hp
  simp only [List.mem_cons, List.not_mem_nil, or_false] at hp
  rcases hp with rfl | rfl | rfl | rfl
  · exact ⟨ha, fa, ca, na⟩
  · exact ⟨hb, fb, cb, nb⟩
  · exact ⟨hc, fc, cc, nc⟩
  · exact ⟨hd, fd, cd, nd⟩
theorem kstB_out {m : Str → Option Value} {z : Str} : ∀ {l : List (Str × Value)}, (∀ p ∈ l, z ≠ p.1) → kstB m l z = m z
  | [], _ => rfl
  | p :: _, h => (if_neg (h p (.head _))).trans (kstB_out fun q hq => h q (.tail _ hq))
theorem outNil {z : Str} : ∀ p ∈ ([] : List (Str × Value)), z ≠ p.1 := nofun
theorem outCons {z k : Str} {v : Value} {l : List (Str × Value)} (h : z ≠ k) (t : ∀ p ∈ l, z ≠ p.1) : ∀ p ∈ (k, v) :: l, z ≠ p.1 := fun p hp => by
  rcases List.mem_cons.mp hp with rfl | hp
  · exact h
  · exact t p hp
theorem keepNil {B h : Heap} {L : Addr} {m : Str → Option Value} (_ : Fr B L h m) : ∀ p ∈ ([] : List (Str × Value)), m p.1 = some p.2 := nofun
theorem keepCons {B h' : Heap} {L : Addr} {m : Str → Option Value} (_ : Fr B L h' m) {k : Str} {v : Value} {l : List (Str × Value)} (h : m k = some v) (t : ∀ p ∈ l, m p.1 = some p.2) : ∀ p ∈ (k, v) :: l, m p.1 = some p.2 := fun p hp => by
  rcases List.mem_cons.mp hp with rfl | hp
  · exact h
  · exact t p hp
theorem wsNewT {w : World} {dp un : Nat} {fr : Option (List Env)} {gd : Option (List Code)} {s : Shared} {mg mb : Str → Option Value} {Q : Value → Shared → Prop} {E : Value → Shared → Prop} {st : Str} {t0 : Tok} (hasc : st.cps.all (· < 128) = true) (hlen : st.cps.size ≤ 90)
    (hA : dp + 20 < recursionLimit) (hu : un + 100 < cLine) (G : Gd w mg mb s.heap)
    (hQ : ∀ x h' tk T, Up s.heap h' → NewT s.heap h' T → Bears T (fun h => WS h x (wsOf st)) → Q (.ref x) { s with heap := h', toks := tk }) :
    wpAny (model PG w) (Aof dp un fr gd) (call (.ref 117) [.str st t0]) Q E s := by
  have X := G.k
  have T := G.t
  obtain ⟨hh, gg, dd, tk0, os0⟩ := s
  dsimp only at X T G hQ
  refine wpAny_call (make_core (init := .ref 72) (makes_of X ?m1) (looks_findIn X ?m2) (fun self => bind_fn X self ?m3) (.inl rfl) ?_)
  case m1 => k_is
  case m2 => k_is
  case m3 => k_is
  have hs1 : hh.get? hh.objs.size = none := by
    cases e : hh.get? hh.objs.size with
    | none => rfl
    | some o => exact absurd (Heap.lt_size e) (Nat.lt_irrefl _)
  have hs2 : hh.get? (hh.objs.size + 1) = none := by
    cases e : hh.get? (hh.objs.size + 1) with
    | none => rfl
    | some o => exact absurd (Heap.lt_size e) (Nat.not_lt.mpr (Nat.le_succ _))
  refine' enterN (base := hh) (news := [(hh.objs.size + 1, instObj 117 hh.objs.size), (hh.objs.size, dictOf [] 0)]) (binds := [(Str.ofString "self", .ref (hh.objs.size + 1)), (Str.ofString "ws", .str st t0)]) ?b1 ?b2 ?b3 X T ?k6 ?k7 ?k8 ?k9 ?kB ?_ ?c5 ?c2 ?c3 ?c4
  case b1 => exact fun b o e => Heap.get?_push_of_some _ (Heap.get?_push_of_some _ e)
  case b2 => simp only [Heap.size_push]; omega
  case b3 =>
    intro p hp
    simp only [List.mem_cons, List.not_mem_nil, or_false] at hp
    rcases hp with rfl | rfl
    · exact ⟨by heap_get, hs2⟩
    · exact ⟨by heap_get, hs1⟩
  case k6 => k_is
  case k7 => k_is
  case k8 => exact (show dp + 1 < recursionLimit by omega)
  case k9 => exact BindsTo.of_eq rfl
  case kB => exact locs rfl
  case c5 => decide
  case c2 => exact rfl
  case c3 => exact rfl
  case c4 => exact rfl
  intro L h₁ F N hl
  have hl1 : hh.objs.size + 1 < L := hl _ (List.mem_cons_self ..)
  (try dsimp only)
  (try k_fold)
  ktr_unf
  (with_reducible rename Fr _ _ _ _ => F6)
  (with_reducible rename News _ _ _ _ => N6)
  refine' lp_strB (LedI ?kh9 st t0 ?kt9 (hh.objs.size + 1) hh.objs.size) psI [] (InvI st) (EndI st) ⟨0, 0, 0, [], ?ca9, [], 0, ?tn9, ?tnt9, ?tb9⟩ rfl hasc (by exact F6) ?N6 ledI_cls ?hk6 ⟨rfl, .nil, Nat.le_refl _, Nat.le_refl _⟩ endI_of ?_ ?_
  case N6 =>
    have N7 := newsDrop2 N6
    exact N7
  case hk6 => (refine keepCons F6 ?_ (keepCons F6 ?_ (keepCons F6 ?_ (keepCons F6 ?_ (keepNil F6)))) <;> exact rfl)
  · rintro ⟨n, nt, b, cnt, ca, vs, ep, tn, tnt, tb⟩ i ch t u h tk own hi hch hP hown Fb Nb
    have Nc := ledI_front Nb
    clear Nb
    have hI := hP.hints
    have hP1 := hP.bi
    have hP2 := hP.len
    dsimp only at hI hP1 hP2 Nc
    (try dsimp only)
    (try k_fold)
    ktr_unf
    · -- a blank
      (with_reducible rename Fr _ _ _ _ => F7)
      (with_reducible rename News _ _ _ _ => N7)
      refine' lp_end (⟨n + 1, nt, b + 1, cnt, ca, vs, ep, ?tn, tnt, ?tb⟩ : IS) (by exact F7) (ledI_back _ (by exact N7)) ledI_cls ?hk ?hr ?hp
      case hk => (refine keepCons F7 ?_ (keepCons F7 ?_ (keepCons F7 ?_ (keepCons F7 ?_ (keepNil F7)))) <;> exact rfl)
      case hr =>
        intro z hz hp _
        have h1 := hp _ (List.mem_cons_self ..)
        have h2 := hp _ (List.mem_cons_of_mem _ (List.mem_cons_self ..))
        have h3 := hp _ (List.mem_cons_of_mem _ (List.mem_cons_of_mem _ (List.mem_cons_self ..)))
        have h4 := hp _ (List.mem_cons_of_mem _ (List.mem_cons_of_mem _ (List.mem_cons_of_mem _ (List.mem_cons_self ..))))
        dsimp only at h1 h2 h3 h4 ⊢
        (repeat (first | with_reducible rfl | refine Eq.trans (if_neg (by first | exact h1 | exact h2 | exact h3 | exact h4 | exact hz)) ?_ | refine Eq.trans (kstB_out (by repeat (first | exact outNil | refine outCons (by first | exact h1 | exact h2 | exact h3 | exact h4) ?_))) ?_ | refine Eq.trans ?_ (Eq.symm (if_neg (by first | exact h1 | exact h2 | exact h3 | exact h4 | exact hz)))))
      case hp => exact invI_blank hP hch (one_sp (by assumption))
    · -- a tab, the counts made longer
      (with_reducible rename Fr _ _ _ _ => F7)
      (with_reducible rename News _ _ _ _ => N7)
      have hlt : (cnt.length : Int) ≤ (b : Int) := by assumption
      (with_reducible rename IntsAre _ _ => hI2)
      have hl2 := hI2.length
      rw [List.length_append, List.flatten_replicate_singleton, List.length_replicate] at hl2
      refine set_rule (k := (b : Int)) (by exact F7) (newsDrop2 (newsDrop2 (newsDrop2 N7))) ?_ ?_ ?_ ?_ ?_
      · exact ledI_no hown
      · omega
      · omega
      · omega
      · intro h8 F8 N8
        (try dsimp only)
        ktr_unf
        (with_reducible rename Fr _ _ _ _ => F9)
        (with_reducible rename News _ _ _ _ => N9)
        refine' lp_end (⟨n + 1, nt + 1, 0, bump cnt b, ?caA, ?vsA, ?epA, ?tnA, ?tntA, ?tbA⟩ : IS) (by exact F9) (ledI_back _ (by exact N9)) ledI_cls ?hk ?hr ?hp
        case hk => (refine keepCons F9 ?_ (keepCons F9 ?_ (keepCons F9 ?_ (keepCons F9 ?_ (keepNil F9)))) <;> exact rfl)
        case hr =>
          intro z hz hp _
          have h1 := hp _ (List.mem_cons_self ..)
          have h2 := hp _ (List.mem_cons_of_mem _ (List.mem_cons_self ..))
          have h3 := hp _ (List.mem_cons_of_mem _ (List.mem_cons_of_mem _ (List.mem_cons_self ..)))
          have h4 := hp _ (List.mem_cons_of_mem _ (List.mem_cons_of_mem _ (List.mem_cons_of_mem _ (List.mem_cons_self ..))))
          dsimp only at h1 h2 h3 h4 ⊢
          (repeat (first | with_reducible rfl | refine Eq.trans (if_neg (by first | exact h1 | exact h2 | exact h3 | exact h4 | exact hz)) ?_ | refine Eq.trans (kstB_out (by repeat (first | exact outNil | refine outCons (by first | exact h1 | exact h2 | exact h3 | exact h4) ?_))) ?_ | refine Eq.trans ?_ (Eq.symm (if_neg (by first | exact h1 | exact h2 | exact h3 | exact h4 | exact hz)))))
        case hp => exact invI_tab hP hch (one_tab (by assumption)) rfl (bump_ext hlt ▸ Mine.ints_set _ hI2)
    · -- a tab
      (with_reducible rename Fr _ _ _ _ => F7)
      (with_reducible rename News _ _ _ _ => N7)
      have hlt : ¬ (cnt.length : Int) ≤ (b : Int) := by assumption
      have hvl := hI.length
      refine set_rule (k := (b : Int)) (by exact F7) (by exact N7) ?_ ?_ ?_ ?_ ?_
      · exact ledI_no hown
      · omega
      · omega
      · omega
      · intro h8 F8 N8
        (try dsimp only)
        ktr_unf
        (with_reducible rename Fr _ _ _ _ => F9)
        (with_reducible rename News _ _ _ _ => N9)
        refine' lp_end (⟨n + 1, nt + 1, 0, bump cnt b, ?caB, ?vsB, ?epB, ?tnB, ?tntB, ?tbB⟩ : IS) (by exact F9) (ledI_back _ (by exact N9)) ledI_cls ?hk ?hr ?hp
        case hk => (refine keepCons F9 ?_ (keepCons F9 ?_ (keepCons F9 ?_ (keepCons F9 ?_ (keepNil F9)))) <;> exact rfl)
        case hr =>
          intro z hz hp _
          have h1 := hp _ (List.mem_cons_self ..)
          have h2 := hp _ (List.mem_cons_of_mem _ (List.mem_cons_self ..))
          have h3 := hp _ (List.mem_cons_of_mem _ (List.mem_cons_of_mem _ (List.mem_cons_self ..)))
          have h4 := hp _ (List.mem_cons_of_mem _ (List.mem_cons_of_mem _ (List.mem_cons_of_mem _ (List.mem_cons_self ..))))
          dsimp only at h1 h2 h3 h4 ⊢
          (repeat (first | with_reducible rfl | refine Eq.trans (if_neg (by first | exact h1 | exact h2 | exact h3 | exact h4 | exact hz)) ?_ | refine Eq.trans (kstB_out (by repeat (first | exact outNil | refine outCons (by first | exact h1 | exact h2 | exact h3 | exact h4) ?_))) ?_ | refine Eq.trans ?_ (Eq.symm (if_neg (by first | exact h1 | exact h2 | exact h3 | exact h4 | exact hz)))))
        case hp => exact invI_tab hP hch (one_tab (by assumption)) rfl (bump_in hlt ▸ Mine.ints_set _ hI)
    · -- another sign
      repeat (first | k_unfold | dsimp only)
      unfold LpPostB
      dsimp only
      (with_reducible rename Fr _ _ _ _ => F7)
      (with_reducible rename News _ _ _ _ => N7)
      refine' lp_end (⟨n, nt, b, cnt, ca, vs, ep, tn, tnt, tb⟩ : IS) (by exact F7) (ledI_back _ (by exact N7)) ledI_cls ?hk ?hr ?hp
      case hk => (refine keepCons F7 ?_ (keepCons F7 ?_ (keepCons F7 ?_ (keepCons F7 ?_ (keepNil F7)))) <;> exact rfl)
      case hr =>
        intro z hz hp _
        have h1 := hp _ (List.mem_cons_self ..)
        have h2 := hp _ (List.mem_cons_of_mem _ (List.mem_cons_self ..))
        have h3 := hp _ (List.mem_cons_of_mem _ (List.mem_cons_of_mem _ (List.mem_cons_self ..)))
        have h4 := hp _ (List.mem_cons_of_mem _ (List.mem_cons_of_mem _ (List.mem_cons_of_mem _ (List.mem_cons_self ..))))
        dsimp only at h1 h2 h3 h4 ⊢
        (repeat (first | with_reducible rfl | refine Eq.trans (if_neg (by first | exact h1 | exact h2 | exact h3 | exact h4 | exact hz)) ?_ | refine Eq.trans (kstB_out (by repeat (first | exact outNil | refine outCons (by first | exact h1 | exact h2 | exact h3 | exact h4) ?_))) ?_ | refine Eq.trans ?_ (Eq.symm (if_neg (by first | exact h1 | exact h2 | exact h3 | exact h4 | exact hz)))))
      case hp => exact endI_brk hP hi hch (one_sp_ne (by assumption)) (one_tab_ne (by assumption))
  · rintro ⟨n, nt, b, cnt, ca, vs, ep, tn, tnt, tb⟩ u h tk hP Fb Nb
    have hI := hP.hints
    have hP1 := hP.bi
    have hP2 := hP.len
    dsimp only at hI hP1 hP2
    unfold LedI at Nb
    dsimp only at Nb
    have hc1 : ca ≠ hh.objs.size + 1 := newsNe Nb (List.mem_cons_self ..) (List.mem_cons_of_mem _ (List.mem_cons_self ..)) (by show Value.type "list" ≠ Value.ref _; simp)
    have hc2 : ca ≠ hh.objs.size := newsNe Nb (List.mem_cons_self ..) (List.mem_cons_of_mem _ (List.mem_cons_of_mem _ (List.mem_cons_self ..))) (by show Value.type "list" ≠ Value.type "dict"; decide)
    (try dsimp only)
    (try k_fold)
    ktr_unf
    (with_reducible rename News _ _ _ _ => N9)
    have hd1 := newsNe N9 (List.mem_cons_of_mem _ (List.mem_cons_self ..)) (List.mem_cons_of_mem _ (List.mem_cons_of_mem _ (List.mem_cons_of_mem _ (List.mem_cons_self ..)))) (by show Value.type "tuple" ≠ Value.ref _; simp)
    have hd2 := newsNe N9 (List.mem_cons_of_mem _ (List.mem_cons_self ..)) (List.mem_cons_of_mem _ (List.mem_cons_of_mem _ (List.mem_cons_of_mem _ (List.mem_cons_of_mem _ (List.mem_cons_self ..))))) (by show Value.type "tuple" ≠ Value.type "dict"; decide)
    ktr_unf
    (with_reducible rename News _ _ _ _ => N10)
    (with_reducible rename Fr _ _ _ _ => F10)
    have hw : wsOf st = ⟨st, n, nt, cnt, (b : Int)⟩ := by
      unfold wsOf
      rw [← hP.scan]
    have hb : decide ((cnt.length : Int) ≤ 1) = decide (cnt.length ≤ 1) := decide_eq_decide.mpr (by omega)
    have zn := (N10 _ (List.mem_cons_self ..)).1
    have zc := (N10 _ (List.mem_cons_of_mem _ (List.mem_cons_self ..))).1
    have zi := (N10 _ (List.mem_cons_of_mem _ (List.mem_cons_of_mem _ (List.mem_cons_of_mem _ (List.mem_cons_self ..))))).1
    have zd := (N10 _ (List.mem_cons_of_mem _ (List.mem_cons_of_mem _ (List.mem_cons_of_mem _ (List.mem_cons_of_mem _ (List.mem_cons_self ..)))))).1
    dsimp only at zd
    rw [hb] at zd
    refine ⟨rfl, ?_⟩
    have fi := (N10 _ (List.mem_cons_of_mem _ (List.mem_cons_of_mem _ (List.mem_cons_of_mem _ (List.mem_cons_self ..))))).2.2
    have fd := (N10 _ (List.mem_cons_of_mem _ (List.mem_cons_of_mem _ (List.mem_cons_of_mem _ (List.mem_cons_of_mem _ (List.mem_cons_self ..)))))).2.2
    have fn := (N10 _ (List.mem_cons_self ..)).2.2
    have fc := (N10 _ (List.mem_cons_of_mem _ (List.mem_cons_self ..))).2.2
    refine hQ _ _ _ [(_, _), (_, _), (_, _), (_, _)] F10.keep (newT4 zi zd zn zc fi fd fn fc (by nofun) (by nofun) (by nofun) (by nofun) (by nofun) (by nofun) (by nofun) (by nofun)) ?_
    rw [hw]
    intro h9 h9T
    exact ⟨_, _, _, _, _, _, _, _, _, _, _, _, _, _, _, _, _, _, h9T _ (.head _), h9T _ (.tail _ (.head _)), h9T _ (.tail _ (.tail _ (.head _))), h9T _ (.tail _ (.tail _ (.tail _ (.head _)))), hI, (show cnt.length ≤ 100 by omega), (show (0 : Int) ≤ (b : Int) by omega), (show (b : Int) ≤ 100 by omega)⟩

end
section
/-- the table of format_witnesses' code, at 123 -/
noncomputable abbrev tabO (ps : Array Value) : Obj := { cls := .none, data := .fields ps }
structure Tb (h : Heap) (ps : Array Value) : Prop where
  at_ : h.get? 123 = some (tabO ps)
  ok : TriplesOk ps.toList
theorem Tb.up {h h' : Heap} {ps : Array Value} (T : Tb h ps) (k : Up h h') : Tb h' ps := ⟨k _ _ T.at_, T.ok⟩
/-- all but that table is kept, and it grows alone -/
structure UpX (h h' : Heap) (ps ps' : Array Value) : Prop where
  keep : ∀ b o, b ≠ 123 → h.get? b = some o → h'.get? b = some o
  tab : Tb h' ps'
  grown : ∃ more, ps' = ps ++ more
theorem kNo123 (P : Params) : List.lookup (123 : Addr) (Mine.hd0.heap_1 P) = none := by rfl
theorem k127 {w : World} {h : Heap} {ps : Array Value} (X : (Mine.hd0.heap_1 w.params).In h) (T : Tb h ps) : h.IsCode 127 123 ps ∧ h.TableAt 127 123 ps := by
  have z := X 127 _ rfl
  exact ⟨⟨_, _, _, _, _, _, _, _, _, _, z, rfl, rfl, rfl, rfl, rfl, rfl, T.at_, rfl, T.ok, by decide⟩, ⟨_, _, z, rfl, rfl, rfl⟩, T.at_⟩
theorem Gd.ext {w : World} {mg mb : Str → Option Value} {h h' : Heap} {ps : Array Value} (G : Gd w mg mb h) (T : Tb h ps) (hx : Heap.ExtBut 123 h h') : Gd w mg mb h' := by
  refine ⟨fun a o e => hx a o ?_ (G.k a o e), ⟨G.t.g.extBut hx (by decide), G.t.b.extBut hx (by decide), G.t.nolimit.extBut hx (by decide), G.t.builtins, G.t.free⟩, ?_⟩
  · rintro rfl
    rw [kNo123] at e
    cases e
  · obtain ⟨bm, ob, M⟩ := G.bm
    exact ⟨bm, ob, M.extBut (k127 G.k T).2 hx⟩
theorem hidExt (h : Heap) : Heap.ExtBut 123 h (h.hide 123) := fun b o hb e => (Heap.hide_ne h hb).trans e
theorem hidUp (h : Heap) : Up (h.hide 123) h := fun _ _ e => Heap.of_hide e
theorem hidCls {h : Heap} {ps : Array Value} (T : Tb h ps) {b : Addr} {o : Obj} (e : h.get? b = some o) (hc : o.cls ≠ .none) : (h.hide 123).get? b = some o := by
  refine hidExt h b o ?_ e
  rintro rfl
  rw [T.at_] at e
  cases e
  exact hc rfl
theorem WS.hid {h : Heap} {ps : Array Value} {x : Addr} {d : WSd} (W : WS h x d) (T : Tb h ps) : WS (h.hide 123) x d := by
  obtain ⟨dx, tA, tB, e1, e2, e3, e4, e5, k1, k2, k3, k4, k5, t1, t2, t3, t4, cs, W⟩ := W
  exact ⟨dx, tA, tB, e1, e2, e3, e4, e5, k1, k2, k3, k4, k5, t1, t2, t3, t4, cs, hidCls T W.inst nofun, hidCls T W.dict nofun, hidCls T W.norm nofun, hidCls T W.cnt nofun, W.hints, W.small, W.blo, W.bhi⟩
theorem frX {base h h' : Heap} {L : Addr} {m : Str → Option Value} (F : Fr base L h m) (hx : Heap.ExtBut 123 h h') (hb : base.get? 123 = none) (hL : L ≠ 123) : Fr base L h' m := by
  refine ⟨F.ns.extBut hx hL, fun b o e => hx b o ?_ (F.keep b o e), F.above⟩
  rintro rfl
  rw [hb] at e
  cases e

end
section
theorem eltFW {w : World} {A' : Around} {E' : Value → Shared → Prop} {s : Shared} {mg mb : Str → Option Value} {m₂ : Str → Option Value} {cl : List (Str × Addr)} {C : Addr} {code : Value} {env : Env} {scope : Scope} {p1 p2 p3 p4 p5 : Pos} {q : Wit}
    (hk : scope.kind = .function) (h1 : scope.names.lookup (Str.ofString "str") = some .globalImplicit) (h2 : scope.names.lookup (Str.ofString "tup") = some .local) (hgl : env.globals = mainGlobals)
    (hns : s.heap.Ns C m₂) (hv : m₂ (Str.ofString "tup") = some (.ref q.at_)) (hg : s.heap.Ns mainGlobals mg) (hgn : mg (Str.ofString "str") = none) (hb : s.heap.Ns builtinsNs mb) (hbn : mb (Str.ofString "str") = some (.type "str"))
    (ht : s.heap.get? q.at_ = some q.obj) (hts : 0 ≤ q.ts ∧ q.ts ≤ 1000) :
    wpAny (model PG w) A' (eval (.Call (.Name (Str.ofString "str") p1) [.Subscript (.Name (Str.ofString "tup") p2) (.Constant (.int 0) 0 p3) p4] [] p5) (genEnv scope cl C code builtinsNs env))
      (fun y s₃ => (∃ u, y = .str (Str.ofString (toString q.ts)) u) ∧ Keeps s s₃) E' s := by
  walk1
  refine Name_function_global hk h1 (loadGlobal_builtin (show s.heap.Ns env.globals mg from hgl ▸ hg) hgn hb hbn ?_) (by decide)
  walk1
  walk1
  walk1
  refine wpAny_Name (wpAny_loadName_local hk h2 hns hv ?_) (by decide)
  walk1
  refine item_tupleT (t := q.at_) (l := [.int q.ts q.t1, .int q.il q.t2, .int q.jl q.t3]) (j := 0) ⟨_, ht, rfl, _, rfl⟩ (by decide) (by decide) rfl rfl ?_
  walk1
  refine P.str_of_int (shown (N := 2 ^ 1920) (by omega) (by omega) (by decide)) ?_
  exact ⟨⟨_, rfl⟩, ⟨_, _, rfl, fun _ _ e => e⟩⟩

/-- the code of the generator's expression: at hand, or made now -/
theorem genCode {w : World} {A : Around} {E : Value → Shared → Prop} {s : Shared} {ps : Array Value} {env : Env} {pos : Pos} {qn : Str} {scope : Scope} {Q : Value → Shared → Prop} (hc : env.code = .ref 127)
    (X : (Mine.hd0.heap_1 w.params).In s.heap) (T : Tb s.heap ps)
    (hQ : ∀ code h' tk ps', UpX s.heap h' ps ps' → s.heap.objs.size ≤ h'.objs.size → Q code { s with heap := h', toks := tk }) : wpAny (model PG w) A (genexprCode env pos qn scope) Q E s := by
  have h1 := k127 X T
  cases hcm : codeAmong pos ps.toList with
  | some c' => exact wpAny_genexprCode_hit hc h1.1 hcm (hQ c' s.heap s.toks ps ⟨fun _ _ _ e => e, T, ⟨#[], by simp⟩⟩ (Nat.le_refl _))
  | none =>
    refine wpAny_genexprCodeX hc h1.1 h1.2 hcm fun c' h' tk hx hge hlt hcode _ htab _ => hQ _ h' tk _ ⟨hx, ⟨htab.2, ?_⟩, ⟨_, rfl⟩⟩ (Nat.le_trans hge (Nat.le_of_lt hlt))
    obtain ⟨_, _, _, _, _, _, _, _, _, op, _, _, _, _, _, _, _, e1, e2, e3, _⟩ := hcode
    rw [htab.2] at e1
    cases e1
    cases e2
    exact e3

noncomputable def txt (n : Int) : Str := Str.ofString (toString n)
theorem txt_len {n : Int} (h0 : 0 ≤ n) (h1 : n ≤ 1000) : (txt n).length ≤ 5 := by
  unfold txt
  rw [PySem.ofString_length]
  exact int_text_length_le10 (k := 4) (by decide) (by omega)
theorem txts_sum : ∀ (ns : List Int), (∀ n ∈ ns, 0 ≤ n ∧ n ≤ 1000) → ((ns.map txt).map (·.length)).sum ≤ 5 * ns.length
  | [], _ => by simp
  | n :: ns, h => by
    have h1 := txts_sum ns fun k hk => h k (List.mem_cons_of_mem _ hk)
    have h2 := txt_len (h n (List.mem_cons_self ..)).1 (h n (List.mem_cons_self ..)).2
    simp only [List.map_cons, List.sum_cons, List.length_cons]
    omega
theorem join_ok {ns : List Int} (h : ∀ n ∈ ns, 0 ≤ n ∧ n ≤ 1000) (hl : ns.length ≤ 200) : JoinOk (Str.ofString ", ") (ns.map txt) = true := by
  refine joinOk_of_weight ?_ (by decide +kernel)
  have := txts_sum ns h
  simp only [List.length_map] at this ⊢
  omega
theorem join_len {ns : List Int} (h : ∀ n ∈ ns, 0 ≤ n ∧ n ≤ 1000) (hl : ns.length ≤ 200) : (Txt.join (Str.ofString ", ") (ns.map txt)).length ≤ 2000 := by
  have h1 := txts_sum ns h
  have h2 := StrLaws.join_length_le (Str.ofString ", ") (ns.map txt)
  have h3 : (Str.ofString ", ").length = 2 := by decide +kernel
  rw [show Txt.join (Str.ofString ", ") (ns.map txt) = Str.join (Str.ofString ", ") (ns.map txt) from StrLaws.glued_eq_join _ _]
  rw [h3] at h2
  simp only [List.length_map] at h2
  omega
/-- the words of format_witnesses -/
noncomputable def fmtS (sizes : List Int) : Str := (if 1 < sizes.length then Str.ofString "at tab sizes" else Str.ofString "at tab size") ++ Str.ofString " " ++ Txt.join (Str.ofString ", ") (sizes.map txt)
theorem passing_all (n : Nat) : passing (fun _ => true) n 0 = List.range n := by
  unfold passing
  rw [List.drop_zero]
  exact List.filter_eq_self.mpr (fun _ _ => rfl)

theorem joinFW {w : World} {A : Around} {E : Value → Shared → Prop} {s : Shared} {mg mb : Str → Option Value} {base : Heap} {L : Addr} {m : Str → Option Value} {ps : Array Value} {a : Addr} {qs : List Wit} {gA C I : Addr} {go oC : Obj} {gi : Nat} {t : Tok}
    {env : Env} {scope : Scope} {code : Value} {iter : Expr} {p1 p2 p3 p4 p5 px pos : Pos} {Q : Value → Shared → Prop} {mC : Str → Option Value}
    (hh : A.handled = none) (hroom : A.depth < recursionLimit)
    (F : Fr base L s.heap m) (N : News base L s.heap [(gA, go), (C, oC), (I, { cls := .type "list_iterator", data := .fields #[.ref a, .int 0 0] }), (123, tabO ps)]) (Gb : Gd w mg mb base)
    (hIL : base.IsList a (qs.map Wit.ref).toArray) (hq : ∀ q ∈ qs, base.get? q.at_ = some q.obj) (hts : ∀ q ∈ qs, 0 ≤ q.ts ∧ q.ts ≤ 1000) (hlen : qs.length ≤ 200)
    (hLI : L < I) (hIC : I < C) (hCg : C < gA) (h123 : 123 < L)
    (hgo : ∃ nm qn, go = { cls := .type "generator", data := .fields #[.int gi 0, nm, qn] })
    (hnC : s.heap.Ns C mC)
    (hk : scope.kind = .function) (h1 : scope.names.lookup (Str.ofString "str") = some .globalImplicit) (h2 : scope.names.lookup (Str.ofString "tup") = some .local) (hgl : env.globals = mainGlobals) (hco : scope.isCoroutine = false)
    (hgs : s.gens[gi]? = some (.fresh (.compStart (.GeneratorExp (.Call (.Name (Str.ofString "str") p1) [.Subscript (.Name (Str.ofString "tup") p2) (.Constant (.int 0) 0 p3) p4] [] p5) [⟨.Name (Str.ofString "tup") px, iter, [], 0⟩] scope pos) 0 (.ref I) .none (genEnv scope [] C code builtinsNs env))))
    (hG : AllBare s.gens)
    (hQ : ∀ t' s', Fr base L s'.heap m → s'.heap.get? 123 = some (tabO ps) → AllBare s'.gens → s'.os = s.os → Q (.str (Txt.join (Str.ofString ", ") ((qs.map Wit.ts).map txt)) t') s') :
    wpAny (model PG w) A (call (.builtin "str.join") [.str (Str.ofString ", ") t, .ref gA]) Q E s := by
  obtain ⟨oa, hoa, _⟩ := id hIL
  have haL : a < L := Nat.lt_of_lt_of_le (Heap.lt_size hoa) F.above
  have Gs := Gb.up F.keep
  have hsubfp : ∀ b ∈ [I, a], b ∈ I :: List.range L := fun b hb => by
    simp only [List.mem_cons, List.not_mem_nil, or_false, List.mem_range] at hb ⊢
    rcases hb with rfl | rfl
    · exact .inl rfl
    · exact .inr haL
  have W₀ : ∀ A' : Around, A'.handled = none → Walks PG w A' I (I :: List.range L) [I] (qs.map Wit.ref).toArray.size (fun i v => (qs.map Wit.ref).toArray[i]? = some v) (fun i h => h.IsListIter I a i ∧ h.IsList a (qs.map Wit.ref).toArray) :=
    fun A' hA => (Walks.list hA I a (Nat.ne_of_lt (Nat.lt_trans haL hLI)) _).mono_fp hsubfp
  have hclt : cStatics < L := Nat.lt_trans (show 2 < 123 by decide) h123
  have W := WalksS.genexpQ (prog := PG) (w := w) (A := A.in1.in1) hh gA gi C (I :: List.range L) [I] (fun _ => true) (qs.map Wit.ref).toArray.size (fun i y => ∃ u, y = .str (txt ((qs.map Wit.ts).getD i 0)) u)
    (Nat.ne_of_gt hCg) ?haf (by intro b hb; rw [List.mem_singleton.mp hb]; exact List.mem_cons_self ..) hroom (List.mem_cons_of_mem _ (List.mem_range.mpr hclt)) (Nat.ne_of_lt (Nat.lt_trans hclt (Nat.lt_trans hLI hIC))) ?hcw
  case haf =>
    intro hm
    simp only [List.mem_cons, List.mem_range] at hm
    rcases hm with e | e
    · exact absurd (Nat.lt_trans hIC hCg) (e ▸ Nat.lt_irrefl _)
    · exact absurd (Nat.lt_trans hLI (Nat.lt_trans hIC hCg)) (Nat.not_lt.mpr (Nat.le_of_lt e))
  case hcw =>
    intro hm
    exact absurd (Nat.lt_trans hclt hLI) (List.mem_singleton.mp hm ▸ Nat.lt_irrefl _)
  have hquiet : QuietGen PG w (genEnv scope [] C code builtinsNs env) (Str.ofString "tup") [] (.Call (.Name (Str.ofString "str") p1) [.Subscript (.Name (Str.ofString "tup") p2) (.Constant (.int 0) 0 p3) p4] [] p5) (I :: List.range L) [I]
      (fun i v => (qs.map Wit.ref).toArray[i]? = some v) (fun _ => true) (fun i y => ∃ u, y = .str (txt ((qs.map Wit.ts).getD i 0)) u) s.heap := by
    refine ⟨fun A' E' i v s₂ m₂ hA hP hn hm hkp => wpAny_pure ⟨rfl, ⟨_, _, rfl, fun _ _ e => e⟩⟩, fun A' E' i v s₂ m₂ hA hP _ hn hm hkp => ?_⟩
    have hP' : (qs.map Wit.ref)[i]? = some v := by simpa using hP
    rw [List.getElem?_map] at hP'
    obtain ⟨q, hqi, hqv⟩ := Option.map_eq_some_iff.mp hP'
    subst hqv
    have hmem : q ∈ qs := List.mem_of_getElem? hqi
    have kp : ∀ b o, b < L → s.heap.get? b = some o → s₂.heap.get? b = some o := fun b o hb e => hkp b (List.mem_cons_of_mem _ (List.mem_range.mpr hb)) (fun hI => absurd (Nat.lt_trans hb hLI) (List.mem_singleton.mp hI ▸ Nat.lt_irrefl _)) o e
    have kb : ∀ b o, base.get? b = some o → s₂.heap.get? b = some o := fun b o e => kp b o (Nat.lt_of_lt_of_le (Heap.lt_size e) F.above) (F.keep b o e)
    have G2 := Gb.up kb
    have e1 : txt ((qs.map Wit.ts).getD i 0) = Str.ofString (toString q.ts) := by
      rw [List.getD_eq_getElem?_getD, List.getElem?_map, hqi]; rfl
    rw [e1]
    refine eltFW hk h1 h2 hgl hn hm G2.t.g (mg_none_of G2.k G2.t.g ?m1) G2.t.b ((G2.t.builtins _ (by decide)).trans ?m2) (kb _ _ (hq q hmem)) (hts q hmem)
    case m1 => k_is
    case m2 => exact boot_str
  have hCf : (genEnv scope [] C code builtinsNs env).locals ∉ I :: List.range L := by
    intro hm
    simp only [genEnv, List.mem_cons, List.mem_range] at hm
    rcases hm with e | e
    · exact absurd hIC (e ▸ Nat.lt_irrefl _)
    · exact absurd (Nat.lt_trans hLI hIC) (Nat.not_lt.mpr (Nat.le_of_lt e))
  have hisg : s.heap.IsGen gA gi := by
    obtain ⟨nm, qn, e⟩ := hgo
    exact ⟨go, nm, qn, (N _ (List.mem_cons_self ..)).1, by rw [e], by rw [e], by rw [e]⟩
  have hiter := (N _ (List.mem_cons_of_mem _ (List.mem_cons_of_mem _ (List.mem_cons_self ..)))).1
  have hst := GenAt.fresh (prog := PG) (w := w) (A := A.in1.in1) (cenv := genEnv scope [] C code builtinsNs env) (m := mC) hh W₀ (fun _ => true) (fun i y => ∃ u, y = .str (txt ((qs.map Wit.ts).getD i 0)) u) h2 (by simp [genEnv, hk]) hco hCf hquiet hisg hgs ⟨⟨_, hiter, rfl, rfl⟩, stays_list F.keep hIL⟩ hnC Gs.t.nolimit
  refine SC.joinGen W (fun i s' st => st.1.typeIs) hst ?_ (List.mem_cons_self ..) (fun j v hv => ?_) (fun s' lt hm hacc => ?_) ?_
  · intro b hb
    simp only [List.mem_cons, List.mem_range] at hb
    rcases hb with rfl | rfl | rfl | hb
    · exact Heap.lt_size (N _ (List.mem_cons_self ..)).1
    · exact Heap.lt_size (N _ (List.mem_cons_of_mem _ (List.mem_cons_self ..))).1
    · exact Heap.lt_size hiter
    · exact Nat.lt_trans hb F.ns.lt
  · obtain ⟨i, _, u, e⟩ := hv
    exact ⟨_, u, e⟩
  · have hnlen : (passing (fun _ => true) (qs.map Wit.ref).toArray.size 0).length = qs.length := by rw [passing_all]; simp
    have hsz : lt.length = qs.length := by have := hacc.1; rw [hnlen] at this; simpa [strValues] using this
    have hl : lt.map (·.1) = (qs.map Wit.ts).map txt := by
      apply List.ext_getElem?
      intro j
      by_cases hj : j < qs.length
      · have hj' : j < lt.length := hsz ▸ hj
        obtain ⟨i, hi, u, hv⟩ := hacc.2 j (.str lt[j].1 lt[j].2) (by simp [strValues, List.getElem?_eq_getElem hj'])
        rw [passing_all, List.getElem?_range (by simpa using hj)] at hi
        cases hi
        injection hv with h1 _
        rw [List.getElem?_map, List.getElem?_eq_getElem hj', List.getElem?_map, List.getElem?_map, List.getElem?_eq_getElem hj]
        simp only [Option.map_some]
        rw [h1, List.getD_eq_getElem?_getD, List.getElem?_map, List.getElem?_eq_getElem hj]
        rfl
      · rw [List.getElem?_eq_none (by simpa [hsz] using Nat.le_of_not_lt hj), List.getElem?_eq_none (by simpa using Nat.le_of_not_lt hj)]
    rw [hl]
    have hwr : ∀ b ∈ C :: [I], L < b := fun b hb => by
      simp only [List.mem_cons, List.not_mem_nil, or_false] at hb
      rcases hb with rfl | rfl
      · exact Nat.lt_trans hLI hIC
      · exact hLI
    have k123 := hm.heap 123 _ (fun hb => absurd (Nat.lt_trans h123 (hwr _ hb)) (Nat.lt_irrefl _)) (N _ (List.mem_cons_of_mem _ (List.mem_cons_of_mem _ (List.mem_cons_of_mem _ (List.mem_cons_self ..))))).1
    have f1 := F.moved hm hwr
    have g1 := hG.movedS hm
    have o1 := hm.os
    exact ⟨join_ok (fun n hn => by obtain ⟨q, hq1, rfl⟩ := List.mem_map.mp hn; exact hts q hq1) (by simpa using hlen), fun t' k => hQ t' { s' with toks := k } f1 k123 g1 o1⟩
  · rw [passing_all]
    simp [sizeLine]
    omega

theorem fmtW {w : World} {dp un : Nat} {fr : Option (List Env)} {gd : Option (List Code)} {s : Shared} {mg mb : Str → Option Value} {Q : Value → Shared → Prop} {E : Value → Shared → Prop} {ps : Array Value} {a : Addr} {n : Nat} {qs : List Wit}
    (hA : dp + 20 < recursionLimit) (hu : un + 100 < cLine) (G : Gd w mg mb s.heap) (T : Tb s.heap ps) (hg : AllBare s.gens)
    (hl : s.heap.get? a = some (listOf (qs.map Wit.ref).toArray n)) (hq : ∀ q ∈ qs, s.heap.get? q.at_ = some q.obj) (hn : qs.length ≤ 200) (hts : ∀ q ∈ qs, 0 ≤ q.ts ∧ q.ts ≤ 1000)
    (hQ : ∀ t s' ps', UpX s.heap s'.heap ps ps' → AllBare s'.gens → s'.os = s.os → Q (.str (fmtS (qs.map Wit.ts)) t) s') :
    wpAny (model PG w) (Aof dp un fr gd) (call (.ref 128) [.ref a]) Q E s := by
  have hQ' : ∀ v t s' ps', fmtS (qs.map Wit.ts) = v → UpX s.heap s'.heap ps ps' → AllBare s'.gens → s'.os = s.os → Q (.str v t) s' := fun v t s' ps' e => e ▸ hQ t s' ps'
  have Gh := G.ext T (hidExt s.heap)
  have X := Gh.k
  have TT := Gh.t
  have hlB := hidCls T hl nofun
  have hIL : (s.heap.hide 123).IsList a (qs.map Wit.ref).toArray := ⟨_, hlB, rfl, _, rfl⟩
  have hfit : ((qs.map Wit.ref).toArray.size : Int) < 2 ^ 63 := by simp; omega
  have h123 : 123 < s.heap.objs.size := Heap.lt_size T.at_
  refine wpAny_call ?_
  refine' enterN (base := s.heap.hide 123) (news := [(123, tabO ps)]) (binds := [(Str.ofString "w", .ref a)]) (hidUp _) (Nat.le_of_eq (Heap.hide_size _ _)) ?b3 X TT ?k6 ?k7 ?k8 ?k9 ?kB ?_ ?c5 ?c2 ?c3 ?c4
  case b3 =>
    intro p hp
    rw [List.mem_singleton.mp hp]
    exact ⟨T.at_, Heap.hide_self _ _⟩
  case k6 => k_is
  case k7 => k_is
  case k8 => (show dp < _; omega)
  case k9 => exact BindsTo.of_eq rfl
  case kB => exact locs rfl
  case c5 => decide
  case c2 => exact rfl
  case c3 => exact rfl
  case c4 => exact rfl
  intro L h₁ F N hL
  (try dsimp only)
  (try k_fold)
  have hL1 : s.heap.objs.size ≤ L := by have := F.above; rw [Heap.hide_size] at this; exact this
  have hL2 : L ≠ 123 := Nat.ne_of_gt (Nat.lt_of_lt_of_le h123 hL1)
  have hbn : (s.heap.hide 123).get? 123 = none := Heap.hide_self _ _
  ktr_unf
  refine wpAny_GeneratorExp_make (cl := []) rfl (closureFor_none (by decide)) (by decide) rfl rfl (show dp + 1 < recursionLimit by omega) ?_ (by intro x; rfl)
  refine ld F rfl ?_
  refine wpAny_pyIter_list (stays_list F.keep hIL) ?_
  have hN123 := (N _ (List.mem_singleton.mpr rfl)).1
  dsimp only at hN123
  have up1 : ∀ o, Up h₁ (h₁.push o) := fun o b x e => Heap.get?_push_of_some _ e
  have T2 : Tb (h₁.push { cls := .type "list_iterator", data := .fields #[.ref a, .int 0 0] }) ps := ⟨up1 _ _ _ hN123, T.ok⟩
  have G2 : Gd w mg mb (h₁.push { cls := .type "list_iterator", data := .fields #[.ref a, .int 0 0] }) := (Gh.up F.keep).up (up1 _)
  refine ⟨G2.t.nolimit, genCode rfl G2.k T2 ?_⟩
  intro code h3 tk3 ps3 U3 hsz3
  have G3 := G2.ext T2 U3.keep
  obtain ⟨bm, ob, M⟩ := G3.bm
  refine wpAny_builtinsFor M.ns M.name M.ne M.obj M.cls M.dict M.data ?_
  intro h4 hn4 hs4
  have hsz4 : h4.objs.size = h3.objs.size + 1 := by rw [hs4.1]; exact Heap.size_push ..
  have up34 : Up h3 h4 := fun b o e => hs4.extBut b o (Nat.ne_of_lt (Heap.lt_size e)) (Heap.get?_push_of_some _ e)
  obtain ⟨oC, esC, epC, hoC, hrC⟩ := id hn4
  have hIiter : (h₁.push { cls := .type "list_iterator", data := .fields #[.ref a, .int 0 0] }).get? h₁.objs.size = some { cls := .type "list_iterator", data := .fields #[.ref a, .int 0 0] } := Heap.get?_push_size _ rfl
  have hLlt : L < h₁.objs.size := F.ns.lt
  have hI3 : h3.get? h₁.objs.size = some { cls := .type "list_iterator", data := .fields #[.ref a, .int 0 0] } := U3.keep _ _ (Nat.ne_of_gt (Nat.lt_of_le_of_lt (Nat.le_of_lt (Nat.lt_of_lt_of_le h123 hL1)) hLlt)) hIiter
  have F5 := frUp (frX (frUp F (up1 { cls := .type "list_iterator", data := .fields #[.ref a, .int 0 0] })) U3.keep hbn hL2) up34
  have hsz2 : (h₁.push { cls := .type "list_iterator", data := .fields #[.ref a, .int 0 0] }).objs.size = h₁.objs.size + 1 := Heap.size_push ..
  have hnone : ∀ b, L ≤ b → (s.heap.hide 123).get? b = none := fun b hb => by
    cases e : (s.heap.hide 123).get? b with
    | none => rfl
    | some o => exact absurd (Nat.lt_of_lt_of_le (Heap.lt_size e) F.above) (Nat.not_lt.mpr hb)
  generalize hgo : ({ cls := .type "generator", data := .fields #[.int _ 0, .str "<genexpr>" _, .str _ _] } : Obj) = go
  generalize hG : Array.push _ (GenState.fresh _) = gs5
  have up45 : Up h4 (h4.push go) := fun b x e => Heap.get?_push_of_some _ e
  have F6 := frUp F5 up45
  have N6 : News (s.heap.hide 123) L (h4.push go) [(h4.objs.size, go), (h3.objs.size, oC), (h₁.objs.size, { cls := .type "list_iterator", data := .fields #[.ref a, .int 0 0] }), (123, tabO ps3)] := by
    intro p hp
    simp only [List.mem_cons, List.not_mem_nil, or_false] at hp
    have e1 : h₁.objs.size < h3.objs.size := by have := hsz3; dsimp only at this; rw [hsz2] at this; exact this
    have e2 : L < h3.objs.size := Nat.lt_trans hLlt e1
    have e3 : L < h4.objs.size := by rw [hsz4]; exact Nat.lt_succ_of_lt e2
    rcases hp with rfl | rfl | rfl | rfl
    · exact ⟨Heap.get?_push_size _ (by rw [← hgo]; rfl), Nat.ne_of_gt e3, hnone _ (Nat.le_of_lt e3)⟩
    · exact ⟨up45 _ _ hoC, Nat.ne_of_gt e2, hnone _ (Nat.le_of_lt e2)⟩
    · exact ⟨up45 _ _ (up34 _ _ hI3), Nat.ne_of_gt hLlt, hnone _ (Nat.le_of_lt hLlt)⟩
    · exact ⟨up45 _ _ (up34 _ _ U3.tab.at_), hL2.symm, hbn⟩
  clear F N F5
  (try dsimp only)
  (try k_fold)
  have e1 : h₁.objs.size < h3.objs.size := by have := hsz3; dsimp only at this; rw [hsz2] at this; exact this
  have hgs5 := hG ▸ Array.getElem?_push_size ..
  have hbare : AllBare gs5 := hG ▸ hg.push rfl
  have hqB : ∀ q ∈ qs, (s.heap.hide 123).get? q.at_ = some q.obj := fun q hq1 => hidCls T (hq q hq1) nofun
  ktr_unf
  all_goals (
    (with_reducible rename Fr _ _ _ _ => F7)
    (with_reducible rename News _ _ _ _ => N7)
    refine joinFW rfl (show dp + 1 < recursionLimit by omega) F7 N7 Gh hIL hqB hts hn hLlt e1 (by rw [hsz4]; exact Nat.lt_succ_self _) (Nat.lt_of_lt_of_le h123 hL1) ⟨_, _, hgo.symm⟩ ⟨oC, esC, epC, (N7 _ (List.mem_cons_of_mem _ (List.mem_cons_self ..))).1, hrC⟩ rfl rfl rfl rfl rfl hgs5 hbare ?_
    intro t' s' F8 h8 G8 o8
    refine PyProof.Rows.add_str (fun t9 tk9 => ?_) (hsz := ?hsz)
    case hsz => exact Nat.le_trans (Nat.add_le_add (show _ ≤ 20 by decide +kernel) (join_len (ns := qs.map Wit.ts) (fun n hn => by obtain ⟨q, hq1, rfl⟩ := List.mem_map.mp hn; exact hts q hq1) (by simpa using hn))) (by simp [sizeLine])
    ktr_unf
    have hU : UpX s.heap s'.heap ps ps3 := ⟨fun b o hb e => F8.keep b o (hidExt _ b o hb e), ⟨h8, U3.tab.ok⟩, U3.grown⟩
    refine hQ' _ _ _ _ ?_ hU G8 o8
    unfold fmtS
    simp only [List.length_map])
  · rw [if_pos]
    have : (1 : Int) < ((qs.map Wit.ref).toArray.size : Int) := by assumption
    simp only [List.size_toArray, List.length_map] at this
    omega
  · rw [if_neg]
    have : ¬ (1 : Int) < ((qs.map Wit.ref).toArray.size : Int) := by assumption
    simp only [List.size_toArray, List.length_map] at this
    omega

end
section
theorem wpAny_around {α : Type} {M : Model} {A A' : Around} {t : Sem α} {Q : α → Shared → Prop} {E : Value → Shared → Prop} {s : Shared} (h : wpAny M A' t Q E s) (h1 : A'.handled = A.handled) (h2 : A.depth ≤ A'.depth) (h3 : A'.frames = none) (h4 : A'.guards = none) (h5 : A.units ≤ A'.units) : wpAny M A t Q E s := by
  intro Γ p hΓ
  refine h Γ p ⟨hΓ.1.trans h1.symm, Nat.le_trans hΓ.2.1 h2, fun l e => ?_, fun l e => ?_, Nat.le_trans hΓ.2.2.2.2 h5⟩
  · rw [h3] at e; cases e
  · rw [h4] at e; cases e

noncomputable abbrev nagDict (pl : Int) (ms ln : Str) (t1 t2 t3 k1 k2 k3 : Tok) (e1 e2 e3 : Int) : Obj :=
  { cls := .type "dict", data := .dict #[⟨e1, .str (Str.ofString "lineno") k1, .int pl t1⟩, ⟨e2, .str (Str.ofString "msg") k2, .str ms t2⟩, ⟨e3, .str (Str.ofString "line") k3, .str ln t3⟩] 3 }
noncomputable abbrev nagObj (a t : Addr) : Obj := { cls := .ref 52, dict := some a, data := .fields #[.ref t, .none, .none, .none, .bool false, .none] }

theorem Mem.up {h₀ h : Heap} {news : List (Addr × Obj)} (D : PySem.W.X.Mem h₀ h [] news) : Up h₀ h := fun b o e => D.keep b o e (Bool.or_true _)

theorem nagFin {s : Shared} {Q : Value → Shared → Prop} {pl : Int} {ms ln : Str} {t1 t2 t3 : Tok} {e : Addr} {h' : Heap} {tk : Nat} {news : List (Addr × Obj)} {a t : Addr} {k1 k2 k3 : Tok} {e1 e2 e3 : Int}
    (hQ : ∀ e a t k1 k2 k3 e1 e2 e3 h' tk, Up s.heap h' → h'.get? a = some (nagDict pl ms ln t1 t2 t3 k1 k2 k3 e1 e2 e3) → h'.get? e = some (nagObj a t) → s.heap.get? e = none → s.heap.get? a = none → Q (.ref e) { s with heap := h', toks := tk })
    (D : PySem.W.X.Mem s.heap h' [] news) (m1 : (e, nagObj a t) ∈ news) (m2 : (a, nagDict pl ms ln t1 t2 t3 k1 k2 k3 e1 e2 e3) ∈ news) : Q (.ref e) { s with heap := h', toks := tk } :=
  hQ e a t k1 k2 k3 e1 e2 e3 h' tk (Mem.up D) (D.nw _ m2).1 (D.nw _ m1).1 (D.nw _ m1).2 (D.nw _ m2).2

example : True := by
  (k_with "x_close" => (refine' nagFin (by assumption) (by assumption) ?m1 ?m2; (case m1 => repeat (first | exact List.Mem.head _ | apply List.Mem.tail)); (case m2 => repeat (first | exact List.Mem.head _ | apply List.Mem.tail))))
  trivial
open PySem.W.X in
theorem nagNew0 {pg : Program} {w : World} {s : Shared} {Q : Value → Shared → Prop} {E : Value → Shared → Prop} {pl : Int} {ms ln : Str} {t1 t2 t3 : Tok} (X : (Mine.hd0.heap_1 w.params).In s.heap)
    (hQ : ∀ e a t k1 k2 k3 e1 e2 e3 h' tk, Up s.heap h' → h'.get? a = some (nagDict pl ms ln t1 t2 t3 k1 k2 k3 e1 e2 e3) → h'.get? e = some (nagObj a t) → s.heap.get? e = none → s.heap.get? a = none → Q (.ref e) { s with heap := h', toks := tk }) :
    wpAny (model pg w) (Aof 700 5000 none none) (call (.ref 52) [.int pl t1, .str ms t2, .str ln t3]) Q E s := by
  x_run

end
example : True := by
  k_with_none
  (k_with "ktr_rel" => with_reducible (first | show wpAny _ _ (pyIter _) _ _ _ | show wpAny _ _ (call (Value.builtin "list.append") _) _ _ _ | show wpAny _ _ (setItem _ _ _) _ _ _))
  (k_with "ktr_unf" => repeat' (first | (k_unfold; (try dsimp only)) | ((fail_if_success ktr_rel); (first | walk1 | (dsimp only; walk1) | (leave1; (try dsimp only))))))
  (k_with "execs cons Assign cons" => with_reducible refine wpAny_execs_cons ?_)
  (k_with "kun_tup" => exact IsTup.keeps (by assumption) (Fr.keep (by k_asm)))
  (k_with "k_inst" => exact InstAt.keepsH (by assumption) (Fr.keep (by k_asm)))
  (k_with "call builtin:len" => (k_here; (with_reducible show wpAny _ _ (call (Value.builtin "len") [Value.ref _]) _ _ _); k_dflt (refine' PyProof.Rows.len_tuple ?k1 ?k2 ?_; (case k1 => kun_tup); (case k2 => first | assumption | decide); k_whole)))
  (k_with "call builtin:len" => (k_here; (with_reducible show wpAny _ _ (call (Value.builtin "len") [Value.ref _]) _ _ _); k_dflt (refine' PyProof.Rows.len_list ?k1 ?k2 ?_; (case k1 => exact stays_list (Fr.keep (by k_asm)) (by assumption)); (case k2 => first | assumption | decide); k_whole)))
  (k_with "subscriptTail" => (k_here; (with_reducible show wpAny _ _ (subscriptTail _ _ (Value.ref _) (Value.int _ _)) _ _ _); k_dflt (refine' item_tuple_ints ?t ?i ?a ?b ?c ?_; (case t => kun_tup); (case i => assumption); (case a => omega); (case b => omega); (case c => omega); k_whole); intro t9))
  (k_with "call ref" => (k_here; (show wpAny _ _ (call (Value.ref 79) [Value.ref _]) _ _ _); k_dflt (refine' longest ?hA ?hu ?G ?W ?_; (case hA => ktr_room); (case hu => ktr_units); (case G => exact Gd.up (by assumption) (Fr.keep (by k_asm))); (case W => exact WS.up (by assumption) (Fr.keep (by k_asm))); k_whole); intro t9 h9 tk9 hk9; (with_reducible rename Fr _ _ _ _ => F8); (with_reducible rename News _ _ _ _ => N8); (have F9 := frUp F8 hk9); (have N9 := newsUp N8 hk9); (try dsimp only)))
  (k_with "call ref" => (k_here; (show wpAny _ _ (call (Value.ref 86) [Value.ref _, Value.int _ _]) _ _ _); k_dflt (refine' indent ?hA ?hu ?G ?W ?h1 ?h2 ?_; (case hA => ktr_room); (case hu => ktr_units); (case G => exact Gd.up (by assumption) (Fr.keep (by k_asm))); (case W => exact WS.up (by assumption) (Fr.keep (by k_asm))); (case h1 => omega); (case h2 => omega); k_whole); intro t9 h9 tk9 hk9; (with_reducible rename Fr _ _ _ _ => F8); (with_reducible rename News _ _ _ _ => N8); (have F9 := frUp F8 hk9); (have N9 := newsUp N8 hk9); (try dsimp only)))
  trivial
section
theorem raise_own {w : World} {A : Around} {E : Value → Shared → Prop} {s : Shared} {env : Env} {x : Expr} {pos : Pos} {Q : Flow → Shared → Prop} (hh : A.handled = none)
    (h : wpAny (model PG w) A (eval x env) (fun v s₁ => ∃ e a t, v = .ref e ∧ s₁.heap.get? e = some (nagObj a t) ∧ (Mine.hd0.heap_1 w.params).In s₁.heap ∧ E (.ref e) s₁) E s) :
    wpAny (model PG w) A (exec (.Raise (some x) none pos) env) Q E s := by
  have key : ∀ (y : Sem Value) (s : Shared), wpAny (model PG w) A y (fun v s₁ => ∃ e a t, v = .ref e ∧ s₁.heap.get? e = some (nagObj a t) ∧ (Mine.hd0.heap_1 w.params).In s₁.heap ∧ E (.ref e) s₁) E s →
      wpAny (model PG w) A (raiseStmt env (some y) none) Q E s := by
    intro y s h
    unfold raiseStmt
    refine wpAny_bind (wpAny_mono h (fun v s₁ h₁ => ?_) fun _ _ x => x)
    obtain ⟨e, a, t, rfl, he, X, hE⟩ := h₁
    obtain ⟨hp, g, d, tk, os⟩ := s₁
    have L1 : Looks (model PG w) hp (isSubtype (.ref 52) (.type "BaseException")) true := looks_mroIn X rfl
    have h52 := X 52 _ rfl
    refine wpAny_bind (wpAny_pure ?_)
    dsimp only
    have L2 : Looks (model PG w) hp (isType (.ref e)) false := (Looks.ld he).andThen .now
    have L3 : Looks (model PG w) hp (isInstance (.ref e) (.type "BaseException")) true := ((Looks.ld he).andThen .now).andThen L1
    have L4 : Looks (model PG w) hp (isExcClass (.ref e)) false := L2.andThen .now
    have L5 : Looks (model PG w) hp (excFromValue (.ref e) "exceptions must derive from BaseException") (.ref e) := L4.andThen (L3.andThen .now)
    have L6 : Looks (model PG w) hp (raisedInstance (.ref e)) (.ref e) := ((Looks.ld he).andThen .now).andThen (((Looks.ld h52).andThen .now).andThen .now)
    refine wpAny_bind (wpAny_holding (L5.at ?_))
    refine wpAny_bind (L2.at ?_)
    rw [if_neg (by decide)]
    refine wpAny_bind (L6.at ?_)
    unfold setFlight
    refine wpAny_bind (wpAny_bind (wpAny_field he rfl (x := .none) rfl ?_))
    rw [if_neg (by decide)]
    refine wpAny_pure ?_
    exact wpAny_raiseNew_none hh hE
  rw [arm_exec_Raise]
  exact wpAny_bind (wpAny_standAt (key _ _ (wpAny_bind (wpAny_mono h (fun v s₁ h₁ => wpAny_bind (wpAny_standAt (wpAny_pure h₁))) fun _ _ x => x))))

theorem note_own {M : Model} {A : Around} {E : Value → Shared → Prop} {s : Shared} {base : Heap} {env eW : Env} {L Lw e : Addr} {oe : Obj} {vs : Array Value} {Q : Unit → Shared → Prop}
    (hfr : A.frames = some [env, eW]) (hl : s.heap.FunFrames base [env, eW]) (hf : env.frame = some L) (hw : eW.frame = some Lw)
    (he : s.heap.get? e = some oe) (hd : oe.data = .fields vs) (h1 : vs[1]? = some .none)
    (h : ∀ h' tb ts, (∀ b o, b ≠ L → b ≠ Lw → b ≠ e → s.heap.get? b = some o → h'.get? b = some o) → (∀ b o, b ≠ e → s.heap.get? b = some o → ∃ sl, h'.get? b = some { o with slots := sl }) →
      h'.get? e = some (oe.mapFields (·.setIfInBounds 1 (.ref tb))) → h'.get? tb = some { cls := .type "traceback", data := .fields ts } → s.heap.get? tb = none → 3 < ts.size → s.heap.objs.size ≤ tb → Q () { s with heap := h' }) :
    wpAny M A (noteFrame (.ref e) env) Q E s := by
  have hsz : 1 < vs.size := (Array.getElem?_eq_some_iff.mp h1).1
  have hene : e ∉ [env, eW].filterMap (·.frame) := fun hm => by
    obtain ⟨_, o, ho, hnf⟩ := hl.mem hm
    rw [he] at ho; injection ho with ho; subst ho; exact hnf vs hd
  unfold noteFrame
  simp only [hf]
  refine wpAny_bind (wpAny_field he hd h1 ?_)
  rw [if_neg (by decide)]
  refine wpAny_bind (wpAny_frameOf_fun hfr hl hf fun h₁ hs₁ => ?_)
  refine wpAny_bind (wpAny_entryPlaceOf fun pl hpl => ?_)
  unfold EntryCells.newEntry newFields
  refine wpAny_bind (wpAny_newObj_type ?_ (hpl.sizeOk5 _ _ _ _ _))
  have he₁ : h₁.get? e = some oe := (hs₁.2.1 e hene).trans he
  have he₂ := Heap.get?_push_of_some (h := h₁) { cls := .type "traceback", dict := none, data := .fields ([Value.none, .ref L, .none, rawInt L, .none] ++ (if pl.isEmpty then List.replicate 6 Value.none else pl)).toArray } he₁
  refine wpAny_setField he₂ hd hsz ?_
  have hTe : h₁.objs.size ≠ e := Nat.ne_of_gt (Heap.lt_size he₁)
  have hd₃ := Obj.data_mapFields hd (·.setIfInBounds 1 (Value.ref h₁.objs.size))
  have he₃ := Heap.get?_update_self (Obj.mapFields (·.setIfInBounds 1 (Value.ref h₁.objs.size))) he₂ (Obj.isFreed_of_fields hd₃)
  have hT₃ := (Heap.get?_update_other (h₁.push { cls := .type "traceback", dict := none, data := .fields ([Value.none, .ref L, .none, rawInt L, .none] ++ (if pl.isEmpty then List.replicate 6 Value.none else pl)).toArray })
    (Obj.mapFields (·.setIfInBounds 1 (Value.ref h₁.objs.size))) (Ne.symm hTe)).trans (Heap.get?_push_size h₁ rfl)
  refine h _ h₁.objs.size _ (fun b o hbL hbW hbe hb => ?_) (fun b o hbe hb => ?_) he₃ hT₃ (Heap.get?_none_of_le (by rw [hs₁.1]; exact Nat.le_refl _)) (by simp only [List.size_toArray, List.length_append, List.length_cons, List.length_nil] <;> omega) (by rw [hs₁.1]; exact Nat.le_refl _)
  · rw [Heap.get?_update_other _ _ (Ne.symm hbe)]
    refine Heap.get?_push_of_some _ ((hs₁.2.1 b ?_).trans hb)
    rw [List.filterMap_cons, hf, List.filterMap_cons, hw]
    intro hm
    rcases List.mem_cons.mp hm with e1 | hm
    · exact hbL e1
    · rcases List.mem_cons.mp hm with e1 | hm
      · exact hbW e1
      · cases hm
  · obtain ⟨sl, hs⟩ := hs₁.2.2 b o hb
    refine ⟨sl, ?_⟩
    rw [Heap.get?_update_other _ _ (Ne.symm hbe)]
    exact Heap.get?_push_of_some _ hs

end
section
theorem getFin {s : Shared} {Q : Value → Shared → Prop} {v : Value} {h' : Heap} {tk : Nat} {news : List (Addr × Obj)} (hQ : ∀ h' tk, Up s.heap h' → Q v { s with heap := h', toks := tk }) (D : PySem.W.X.Mem s.heap h' [] news) : Q v { s with heap := h', toks := tk } := hQ h' tk (Mem.up D)
example : True := by
  (k_with "x_close" => exact getFin (by assumption) (by assumption))
  trivial
open PySem.W.X in
theorem getter35 {pg : Program} {w : World} {hd : Option Value} {s : Shared} {Q : Value → Shared → Prop} {E : Value → Shared → Prop} {e a : Addr} {vs : Array Value}
    {pl : Int} {ms ln : Str} {t1 t2 t3 k1 k2 k3 : Tok} {e1 e2 e3 : Int} (X : (Mine.hd0.heap_1 w.params).In s.heap)
    (he : s.heap.get? e = some ⟨.ref 52, some a, .fields vs, #[]⟩) (ha : s.heap.get? a = some ⟨.type "dict", none, .dict #[⟨e1, .str (Str.ofString "lineno") k1, .int pl t1⟩, ⟨e2, .str (Str.ofString "msg") k2, .str ms t2⟩, ⟨e3, .str (Str.ofString "line") k3, .str ln t3⟩] 3, #[]⟩)
    (hQ : ∀ h' tk, Up s.heap h' → Q (.int pl t1) { s with heap := h', toks := tk }) :
    wpAny (model pg w) { handled := hd, depth := 700, frames := none, guards := none, units := 5000 } (call (.ref 35) [.ref e]) Q E s := by
  x_run

open PySem.W.X in
theorem getter42 {pg : Program} {w : World} {hd : Option Value} {s : Shared} {Q : Value → Shared → Prop} {E : Value → Shared → Prop} {e a : Addr} {vs : Array Value}
    {pl : Int} {ms ln : Str} {t1 t2 t3 k1 k2 k3 : Tok} {e1 e2 e3 : Int} (X : (Mine.hd0.heap_1 w.params).In s.heap)
    (he : s.heap.get? e = some ⟨.ref 52, some a, .fields vs, #[]⟩) (ha : s.heap.get? a = some ⟨.type "dict", none, .dict #[⟨e1, .str (Str.ofString "lineno") k1, .int pl t1⟩, ⟨e2, .str (Str.ofString "msg") k2, .str ms t2⟩, ⟨e3, .str (Str.ofString "line") k3, .str ln t3⟩] 3, #[]⟩)
    (hQ : ∀ h' tk, Up s.heap h' → Q (.str ms t2) { s with heap := h', toks := tk }) :
    wpAny (model pg w) { handled := hd, depth := 700, frames := none, guards := none, units := 5000 } (call (.ref 42) [.ref e]) Q E s := by
  x_run

open PySem.W.X in
theorem getter49 {pg : Program} {w : World} {hd : Option Value} {s : Shared} {Q : Value → Shared → Prop} {E : Value → Shared → Prop} {e a : Addr} {vs : Array Value}
    {pl : Int} {ms ln : Str} {t1 t2 t3 k1 k2 k3 : Tok} {e1 e2 e3 : Int} (X : (Mine.hd0.heap_1 w.params).In s.heap)
    (he : s.heap.get? e = some ⟨.ref 52, some a, .fields vs, #[]⟩) (ha : s.heap.get? a = some ⟨.type "dict", none, .dict #[⟨e1, .str (Str.ofString "lineno") k1, .int pl t1⟩, ⟨e2, .str (Str.ofString "msg") k2, .str ms t2⟩, ⟨e3, .str (Str.ofString "line") k3, .str ln t3⟩] 3, #[]⟩)
    (hQ : ∀ h' tk, Up s.heap h' → Q (.str ln t3) { s with heap := h', toks := tk }) :
    wpAny (model pg w) { handled := hd, depth := 700, frames := none, guards := none, units := 5000 } (call (.ref 49) [.ref e]) Q E s := by
  x_run


end
example : True := by
  k_with_none
  (k_with "ktr_rel" => with_reducible (first | show wpAny _ _ (pyIter _) _ _ _ | show wpAny _ _ (call (Value.builtin "list.append") _) _ _ _ | show wpAny _ _ (setItem _ _ _) _ _ _))
  (k_with "ktr_unf" => repeat' (first | (k_unfold; (try dsimp only)) | ((fail_if_success ktr_rel); (first | walk1 | (dsimp only; walk1) | (leave1; (try dsimp only))))))
  (k_with "execs cons Assign cons" => with_reducible refine wpAny_execs_cons ?_)
  (k_with "kun_tup" => exact IsTup.keeps (by assumption) (Fr.keep (by k_asm)))
  (k_with "k_inst" => exact InstAt.keepsH (by assumption) (Fr.keep (by k_asm)))
  (k_with "call builtin:len" => (k_here; (with_reducible show wpAny _ _ (call (Value.builtin "len") [Value.ref _]) _ _ _); k_dflt (refine' PyProof.Rows.len_tuple ?k1 ?k2 ?_; (case k1 => kun_tup); (case k2 => first | assumption | decide); k_whole)))
  (k_with "call builtin:len" => (k_here; (with_reducible show wpAny _ _ (call (Value.builtin "len") [Value.ref _]) _ _ _); k_dflt (refine' PyProof.Rows.len_list ?k1 ?k2 ?_; (case k1 => exact stays_list (Fr.keep (by k_asm)) (by assumption)); (case k2 => first | assumption | decide); k_whole)))
  (k_with "subscriptTail" => (k_here; (with_reducible show wpAny _ _ (subscriptTail _ _ (Value.ref _) (Value.int _ _)) _ _ _); k_dflt (refine' item_tuple_ints ?t ?i ?a ?b ?c ?_; (case t => kun_tup); (case i => assumption); (case a => omega); (case b => omega); (case c => omega); k_whole); intro t9))
  (k_with "call ref" => (k_here; (show wpAny _ _ (call (Value.ref 79) [Value.ref _]) _ _ _); k_dflt (refine' longest ?hA ?hu ?G ?W ?_; (case hA => ktr_room); (case hu => ktr_units); (case G => exact Gd.up (by assumption) (Fr.keep (by k_asm))); (case W => exact WS.up (by assumption) (Fr.keep (by k_asm))); k_whole); intro t9 h9 tk9 hk9; (with_reducible rename Fr _ _ _ _ => F8); (with_reducible rename News _ _ _ _ => N8); (have F9 := frUp F8 hk9); (have N9 := newsUp N8 hk9); (try dsimp only)))
  (k_with "call ref" => (k_here; (show wpAny _ _ (call (Value.ref 86) [Value.ref _, Value.int _ _]) _ _ _); k_dflt (refine' indent ?hA ?hu ?G ?W ?h1 ?h2 ?_; (case hA => ktr_room); (case hu => ktr_units); (case G => exact Gd.up (by assumption) (Fr.keep (by k_asm))); (case W => exact WS.up (by assumption) (Fr.keep (by k_asm))); (case h1 => omega); (case h2 => omega); k_whole); intro t9 h9 tk9 hk9; (with_reducible rename Fr _ _ _ _ => F8); (with_reducible rename News _ _ _ _ => N8); (have F9 := frUp F8 hk9); (have N9 := newsUp N8 hk9); (try dsimp only)))
  trivial
section
example : True := by
  (k_with "call ref" => (k_here; (show wpAny _ _ (call (Value.ref 107) [Value.ref _, Value.ref _]) _ _ _); k_dflt (refine' lessC ?hA ?hu ?G ?W1 ?W2 ?_; (case hA => ktr_room); (case hu => ktr_units); (case G => exact Gd.up (by assumption) (Fr.keep (by k_asm))); (case W1 => exact WS.up (by assumption) (Fr.keep (by k_asm))); (case W2 => exact WS.up (by assumption) (Fr.keep (by k_asm))); k_whole); intro h9 tk9 hk9; (with_reducible rename Fr _ _ _ _ => F8); (with_reducible rename News _ _ _ _ => N8); (have F9 := frUp F8 hk9); (have N9 := newsUp N8 hk9); (try dsimp only)))
  trivial
example : True := by
  (k_with "call ref" => (k_here; (show wpAny _ _ (call (Value.ref 114) [Value.ref _, Value.ref _]) _ _ _); k_dflt (refine' notLess ?hA ?hu ?G ?W1 ?W2 ?_; (case hA => ktr_room); (case hu => ktr_units); (case G => exact Gd.up (by assumption) (Fr.keep (by k_asm))); (case W1 => exact WS.up (by assumption) (Fr.keep (by k_asm))); (case W2 => exact WS.up (by assumption) (Fr.keep (by k_asm))); k_whole); intro a9 n9 qs9 h9 tk9 hk9 hl9 hq9 he9; (with_reducible rename Fr _ _ _ _ => F8); (with_reducible rename News _ _ _ _ => N8); (have F9 := frUp F8 hk9); (have N9 := newsUp N8 hk9); (try dsimp only)))
  trivial


theorem frSlots {B h h' : Heap} {L : Addr} {m : Str → Option Value} (F : Fr B L h m) (keep : ∀ b o, B.get? b = some o → h'.get? b = some o) (hs : ∀ o, h.get? L = some o → ∃ sl, h'.get? L = some { o with slots := sl }) : Fr B L h' m := by
  refine ⟨?_, keep, F.above⟩
  obtain ⟨o, es, ep, ho, hd, r⟩ := F.ns
  obtain ⟨sl, z⟩ := hs o ho
  exact ⟨_, es, ep, z, hd, r⟩
theorem InstAt.ofN {h₀ h : Heap} {L x C dx : Addr} {news : List (Addr × Obj)} {ox od : Obj} (N : News h₀ L h news) (h1 : (x, ox) ∈ news) (hd : ox.dict = some dx) (h2 : (dx, od) ∈ news) (hc : ox.cls = .ref C) (hn : notCls ox = true) : InstAt h x ox C (some od) := by
  refine ⟨(N _ h1).1, hc, hn, ?_⟩
  rw [hd]
  exact (N _ h2).1

theorem canon_bexc_ga : Manifest.canonical "BaseException.__getattribute__" = "object.__getattribute__" := by decide +kernel
theorem method_exc {w : World} {A : Around} {E : Value → Shared → Prop} {s : Shared} {K : Frag} {x C dx : Addr} {ox : Obj} {es : List DictEntry} {n : Nat} {name : Str} {pl : Sem Bool} {Q : Value × List Value → Shared → Prop} {f : Addr} {h₀ : Heap} {L : Addr} {m : Str → Option Value} {news : List (Addr × Obj)}
    (F : Fr h₀ L s.heap m) (X₀ : K.In h₀) (N : News h₀ L s.heap news) (h1 : (x, ox) ∈ news) (hcl : ox.cls = .ref C) (hdx : ox.dict = some dx) (h2 : (dx, dictOf es n) ∈ news)
    (hga : findIn K (.ref C) "__getattribute__" = some (some (.builtin "BaseException.__getattribute__"))) (hk : findIn K (.ref C) "__getattr__" = some none)
    (hf : findIn K (.ref C) name = some (some (.ref f))) (ht : typeIn K (.ref f) = some (.type "function")) (hl : getL name es = some none) (h : Q (.ref f, [.ref x]) s) :
    wpAny (model PG w) A (getMethod (.ref x) name pl) Q E s := by
  have hs : shadowIn (some (dictOf es n)) name = some false := by show (lookIn name (dictOf es n)).map _ = _; rw [lookIn_dict, hl]; rfl
  have X := X₀.keeps F.keep
  have he := (N _ h1).1
  have hd := (N _ h2).1
  have LT : ∀ M, Looks M s.heap (typeOf (.ref x)) (.ref C) := fun M => hcl ▸ (Looks.ld he).andThen .now
  unfold getMethod specialOf
  refine wpAny_bind (wpAny_bind ((LT _).here ((looks_findIn X hga).here ?_)))
  dsimp only
  rw [canon_bexc_ga, if_neg (by decide)]
  refine wpAny_bind (wpAny_bind ((LT _).here ((looks_findIn X hk).here ?_)))
  refine wpAny_bind (wpAny_bind ((LT _).here ((looks_findIn X hf).here (wpAny_bind ((looks_typeIn X ht).here ?_)))))
  rw [if_neg (by decide +kernel)]
  refine wpAny_bind (wpAny_loadPart he ?_)
  rw [hdx]
  obtain ⟨r, a, b⟩ := Option.map_eq_some_iff.mp hs
  refine wpAny_bind (wpAny_bind (wpAny_loadPart hd ?_))
  rw [nsLook_of a]
  refine wpAny_pure ?_
  rw [b, if_neg Bool.false_ne_true]
  exact wpAny_bind (wpAny_rule (wpAny_pure h))

example : True := by
  (k_with "ktr_rel" => with_reducible (first | show wpAny _ _ (exec (Stmt.Raise _ _ _) _) _ _ _))
  trivial

theorem exm52 (P : Params) : exmOne (Mine.hd0.heap_1 P) (.ref 52) (.ref 52) = some true := by rfl
example : True := by
  (k_with "getMethod ref" => (k_here; k_dflt (refine' method_exc ?k1 ?k2 ?k3 ?k4 ?k5 ?k6 ?k7 ?k8 ?k9 ?k10 ?k11 ?k12 ?_; (case k1 => k_asm); (case k2 => k_asm); (case k3 => k_asm); (case k4 => k_mem); (case k5 => rfl); (case k6 => rfl); (case k7 => k_mem); (case k8 => k_is); (case k9 => k_is); (case k10 => k_is); (case k11 => k_is); (case k12 => k_get); k_whole)))
  trivial
example : True := by
  (k_with "call ref" => (k_here; (show wpAny _ _ (call (Value.ref 35) [Value.ref _]) _ _ _); k_dflt (refine' wpAny_around (A' := { handled := _, depth := 700, frames := none, guards := none, units := 5000 }) ?_ rfl ?dd35 rfl rfl ?uu35; (case dd35 => (dsimp only [Around.mark, Around.deeper]; omega)); (case uu35 => (dsimp only [Around.mark, Around.deeper]; omega)); refine' getter35 ?X35 ?he35 ?ha35 ?_; (case X35 => exact Frag.In.keeps (by k_asm) (Fr.keep (by k_asm))); (case he35 => exact (News.get (by k_asm) (by k_mem))); (case ha35 => exact (News.get (by k_asm) (by k_mem))); k_whole); intro h9 tk9 hk9; (with_reducible rename Fr _ _ _ _ => F8); (with_reducible rename News _ _ _ _ => N8); (have F9 := frUp F8 hk9); (have N9 := newsUp N8 hk9); (try dsimp only)))
  trivial
example : True := by
  (k_with "call ref" => (k_here; (show wpAny _ _ (call (Value.ref 42) [Value.ref _]) _ _ _); k_dflt (refine' wpAny_around (A' := { handled := _, depth := 700, frames := none, guards := none, units := 5000 }) ?_ rfl ?dd42 rfl rfl ?uu42; (case dd42 => (dsimp only [Around.mark, Around.deeper]; omega)); (case uu42 => (dsimp only [Around.mark, Around.deeper]; omega)); refine' getter42 ?X42 ?he42 ?ha42 ?_; (case X42 => exact Frag.In.keeps (by k_asm) (Fr.keep (by k_asm))); (case he42 => exact (News.get (by k_asm) (by k_mem))); (case ha42 => exact (News.get (by k_asm) (by k_mem))); k_whole); intro h9 tk9 hk9; (with_reducible rename Fr _ _ _ _ => F8); (with_reducible rename News _ _ _ _ => N8); (have F9 := frUp F8 hk9); (have N9 := newsUp N8 hk9); (try dsimp only)))
  trivial
example : True := by
  (k_with "call ref" => (k_here; (show wpAny _ _ (call (Value.ref 49) [Value.ref _]) _ _ _); k_dflt (refine' wpAny_around (A' := { handled := _, depth := 700, frames := none, guards := none, units := 5000 }) ?_ rfl ?dd49 rfl rfl ?uu49; (case dd49 => (dsimp only [Around.mark, Around.deeper]; omega)); (case uu49 => (dsimp only [Around.mark, Around.deeper]; omega)); refine' getter49 ?X49 ?he49 ?ha49 ?_; (case X49 => exact Frag.In.keeps (by k_asm) (Fr.keep (by k_asm))); (case he49 => exact (News.get (by k_asm) (by k_mem))); (case ha49 => exact (News.get (by k_asm) (by k_mem))); k_whole); intro h9 tk9 hk9; (with_reducible rename Fr _ _ _ _ => F8); (with_reducible rename News _ _ _ _ => N8); (have F9 := frUp F8 hk9); (have N9 := newsUp N8 hk9); (try dsimp only)))
  trivial
theorem nagC {w : World} {dp un : Nat} {eW : Env} {gd : Option (List Code)} {s : Shared} {mg mb : Str → Option Value} {Q : Value → Shared → Prop} {E : Value → Shared → Prop} {ps : Array Value} {x y Lw : Addr} {oW : Obj} {d d' : WSd} {pl : Int} {tp tl : Tok} {ln : Str}
    (hA : dp + 60 < recursionLimit) (hu : un + 300 < cLine) (hdp : dp + 60 < 700) (hun : un + 300 < 5000) (hkW : eW.scope.kind ≠ .module) (hfW : eW.frame = some Lw) (hoW : s.heap.get? Lw = some oW) (hdD : ∃ es ep, oW.data = .dict es ep)
    (Gh : Gd w mg mb ((s.heap.hide 123).hide Lw)) (T : Tb s.heap ps) (hg : AllBare s.gens) (WXh : WS ((s.heap.hide 123).hide Lw) x d) (WYh : WS ((s.heap.hide 123).hide Lw) y d')
    (hQ : ∀ a vs s' ps' sl t1 t2 t3, s'.heap.get? Lw = some { oW with slots := sl } → (∀ b o, b ≠ 123 → b ≠ Lw → s.heap.get? b = some o → s'.heap.get? b = some o) → Tb s'.heap ps' → (∃ more, ps' = ps ++ more) → AllBare s'.gens → s'.os = s.os →
      s'.heap.get? a = some (tupObj vs) → s.heap.get? a = none → vs = (if lessZ d d' = true then [] else [.int pl t1, .str (fmtS (nlw d d' (topZ d d').toNat)) t2, .str ln t3]) → Q (.ref a) s') :
    wpAny (model PG w) (Aof dp un (some [eW]) gd) (call (.ref 145) [.ref x, .ref y, .int pl tp, .str ln tl]) Q E s := by
  have X := Gh.k
  have TT := Gh.t
  have hdW : ∀ vs, oW.data ≠ .fields vs := by
    obtain ⟨es, ep, q⟩ := hdD
    intro vs q2
    rw [q] at q2
    cases q2
  have hW3 : Lw ≠ 123 := by
    rintro rfl
    rw [T.at_] at hoW
    cases hoW
    exact hdW _ rfl
  have hbn : ((s.heap.hide 123).hide Lw).get? 123 = none := by rw [Heap.hide_ne _ (Ne.symm hW3)]; exact Heap.hide_self _ _
  have hbw : ((s.heap.hide 123).hide Lw).get? Lw = none := Heap.hide_self _ _
  have hbe : ∀ b o, b ≠ 123 → b ≠ Lw → s.heap.get? b = some o → ((s.heap.hide 123).hide Lw).get? b = some o := fun b o h1 h2 e => by rw [Heap.hide_ne _ h2, Heap.hide_ne _ h1]; exact e
  obtain ⟨dx, tA, tB, e1, e2, e3, e4, e5, k1, k2, k3, k4, k5, t1, t2, t3, t4, cs, W⟩ := id WXh
  obtain ⟨dx', tA', tB', e1', e2', e3', e4', e5', k1', k2', k3', k4', k5', t1', t2', t3', t4', cs', W'⟩ := id WYh
  have h123 : 123 < s.heap.objs.size := Heap.lt_size T.at_
  have hsz : ((s.heap.hide 123).hide Lw).objs.size = s.heap.objs.size := by rw [Heap.hide_size, Heap.hide_size]
  have I : InstAt ((s.heap.hide 123).hide Lw) x (instObj 117 dx) 117 (some (dictOf [⟨e1, .str (Str.ofString "raw") k1, .str d.raw t1⟩, ⟨e2, .str (Str.ofString "n") k2, .int d.n t2⟩, ⟨e3, .str (Str.ofString "nt") k3, .int d.nt t3⟩,
    ⟨e4, .str (Str.ofString "norm") k4, .ref tA⟩, ⟨e5, .str (Str.ofString "is_simple") k5, .bool (decide (d.count.length ≤ 1))⟩] 5)) := ⟨W.inst, rfl, rfl, W.dict⟩
  have I' : InstAt ((s.heap.hide 123).hide Lw) y (instObj 117 dx') 117 (some (dictOf [⟨e1', .str (Str.ofString "raw") k1', .str d'.raw t1'⟩, ⟨e2', .str (Str.ofString "n") k2', .int d'.n t2'⟩, ⟨e3', .str (Str.ofString "nt") k3', .int d'.nt t3'⟩,
    ⟨e4', .str (Str.ofString "norm") k4', .ref tA'⟩, ⟨e5', .str (Str.ofString "is_simple") k5', .bool (decide (d'.count.length ≤ 1))⟩] 5)) := ⟨W'.inst, rfl, rfl, W'.dict⟩
  generalize hB : (s.heap.hide 123).hide Lw = B at *
  refine wpAny_call ?_
  refine' enterN (base := B) (news := [(123, tabO ps), (Lw, oW)]) (binds := [(Str.ofString "one", .ref x), (Str.ofString "other", .ref y), (Str.ofString "place", .int pl tp), (Str.ofString "line", .str ln tl)]) ?b1 (Nat.le_of_eq hsz) ?b3 X TT ?k6 ?k7 ?k8 ?k9 ?kB ?_ ?c5 ?c2 ?c3 ?c4
  case b1 =>
    intro b o e
    rw [← hB] at e
    exact Heap.of_hide (Heap.of_hide e)
  case b3 =>
    intro p hp
    rcases List.mem_cons.mp hp with rfl | hp
    · exact ⟨T.at_, hbn⟩
    · rw [List.mem_singleton.mp hp]
      exact ⟨hoW, hbw⟩
  case k6 => k_is
  case k7 => k_is
  case k8 => (show dp < _; omega)
  case k9 => exact BindsTo.of_eq rfl
  case kB => exact locs rfl
  case c5 => decide
  case c2 => exact rfl
  case c3 => exact rfl
  case c4 => exact rfl
  intro L h₁ F N hL
  (try dsimp only)
  (try k_fold)
  have hL1 : s.heap.objs.size ≤ L := by have := F.above; rw [hsz] at this; exact this
  have hL2 : L ≠ 123 := Nat.ne_of_gt (Nat.lt_of_lt_of_le h123 hL1)
  have hL3 : L ≠ Lw := Nat.ne_of_gt (Nat.lt_of_lt_of_le (Heap.lt_size hoW) hL1)
  ktr_unf
  · (with_reducible rename Fr _ _ _ _ => Fz)
    (with_reducible rename News _ _ _ _ => Nz)
    have hless : lessZ d d' = true := by assumption
    have nD := Nz _ (.head _)
    have n3 := Nz (123, tabO ps) (.tail _ (.head _))
    have nw := Nz (Lw, oW) (.tail _ (.tail _ (.head _)))
    refine hQ _ _ _ ps oW.slots tp tp tp nw.1 (fun b o x1 x2 x3 => Fz.keep b o (hbe b o x1 x2 x3)) ⟨n3.1, T.ok⟩ ⟨#[], by simp⟩ hg rfl nD.1 ?_ ?_
    · cases q : s.heap.get? _ with
      | none => rfl
      | some o =>
        exfalso
        have q' := hbe _ _ ?_ ?_ q
        · rw [nD.2.2] at q'
          cases q'
        · rintro rfl
          have := nD.1
          rw [n3.1] at this
          cases this
        · rintro rfl
          have z1 := nD.1
          rw [nw.1] at z1
          obtain ⟨es, ep, q2⟩ := hdD
          have q3 := congrArg Obj.data (Option.some.inj z1)
          dsimp only at q3
          rw [q2] at q3
          cases q3
    · rw [hless]
      rfl
  · refine raise_own rfl ?_
    ktr_unf
    (with_reducible rename Fr _ _ _ _ => F6)
    (with_reducible rename News _ _ _ _ => N6)
    have htop : topZ d d' ≤ 200 := by
      have := W.small; have := W'.small; have := W.bhi; have := W'.bhi
      unfold topZ longestZ; omega
    have hqn : qs9.length ≤ 200 := by
      have := congrArg List.length he9
      rw [List.length_map] at this
      have := nlw_len d d' (topZ d d').toNat
      omega
    have hqt : ∀ q ∈ qs9, 0 ≤ q.ts ∧ q.ts ≤ 1000 := by
      intro q hq
      have hm : q.ts ∈ nlw d d' (topZ d d').toNat := he9 ▸ List.mem_map_of_mem hq
      obtain ⟨hm, _⟩ := List.mem_filter.mp hm
      obtain ⟨i, hi, e⟩ := List.mem_map.mp hm
      have := List.mem_range.mp hi
      omega
    have z3 := (N6 (123, tabO ps) (.head _)).1
    have zw := (N6 (Lw, oW) (.tail _ (.head _))).1
    refine fmtW (show dp + 1 + 20 < recursionLimit by omega) (show un + 3 + 100 < cLine by omega) (Gh.up F6.keep) ⟨z3, T.ok⟩ hg hl9 hq9 hqn hqt ?_
    intro t8 s8 ps8 U8 hg8 ho8
    have F8 := frX F6 U8.keep hbn hL2
    have N8 : News B L s8.heap [(123, tabO ps8), (Lw, oW)] := by
      intro p hp
      rcases List.mem_cons.mp hp with rfl | hp
      · exact ⟨U8.tab.at_, hL2.symm, hbn⟩
      · rw [List.mem_singleton.mp hp]
        exact ⟨U8.keep _ _ hW3 zw, hL3.symm, hbw⟩
    clear F6 N6
    (try dsimp only)
    ktr_unf
    refine wpAny_around (A' := { handled := none, depth := 700, frames := none, guards := none, units := 5000 }) ?_ rfl (show dp + 1 ≤ 700 by omega) rfl rfl (show un + 3 ≤ 5000 by omega)
    refine nagNew0 (X.keeps F8.keep) ?_
    intro e a t k1 k2 k3 e1 e2 e3 h7 tk7 hu7 ha7 he7 hen han
    have F7 := frUp F8 hu7
    refine ⟨e, a, t, rfl, he7, X.keeps F7.keep, ?_⟩
    have hBL : B.get? L = none := Heap.get?_none_of_le F8.above
    have hBe : B.get? e = none := by
      cases q : B.get? e with
      | none => rfl
      | some o => have := F8.keep _ _ q; rw [hen] at this; cases this
    have hBa : B.get? a = none := by
      cases q : B.get? a with
      | none => rfl
      | some o => have := F8.keep _ _ q; rw [han] at this; cases this
    have hLs : ∃ o, s8.heap.get? L = some o := let ⟨o, _, _, ho, _⟩ := F8.ns; ⟨o, ho⟩
    have hLe : e ≠ L := by rintro rfl; obtain ⟨o, ho⟩ := hLs; rw [hen] at ho; cases ho
    have hLa : a ≠ L := by rintro rfl; obtain ⟨o, ho⟩ := hLs; rw [han] at ho; cases ho
    have z38 := (N8 (123, tabO ps8) (.head _)).1
    have zw8 := (N8 (Lw, oW) (.tail _ (.head _))).1
    have hae : a ≠ e := by rintro rfl; rw [ha7] at he7; cases he7
    have h3e : (123 : Addr) ≠ e := by rintro rfl; rw [hen] at z38; cases z38
    have h3a : (123 : Addr) ≠ a := by rintro rfl; rw [han] at z38; cases z38
    have hwe : Lw ≠ e := by rintro rfl; rw [hen] at zw8; cases zw8
    have hwa : Lw ≠ a := by rintro rfl; rw [han] at zw8; cases zw8
    refine note_own (base := B) (eW := eW) (L := L) (Lw := Lw) rfl (Heap.FunFrames.cons (by nofun) rfl F7.ns hBL ⟨hkW, ⟨Lw, oW, hfW, hbw, hu7 _ _ zw8, hdW⟩, trivial⟩) rfl hfW he7 rfl rfl ?_
    intro h6 tb ts q1 q2 he6 htb hnb hts hle
    have he6' : h6.get? e = some ⟨.ref 52, some a, .fields #[.ref t, .ref tb, .none, .none, .bool false, .none], #[]⟩ := he6
    have old7 : ∀ b o, h7.get? b = some o → b ≠ tb := fun b o e1 e2 => by rw [e2, hnb] at e1; cases e1
    refine wpAny_setFlight_none he6' rfl rfl htb rfl hts ?_
    dsimp only
    have u6 : ∀ b, b ≠ tb → (h6.update tb (Obj.mapFields (·.setIfInBounds 3 .none))).get? b = h6.get? b := fun b hb => Heap.get?_update_other _ _ (Ne.symm hb)
    have htb5 : (h6.update tb (Obj.mapFields (·.setIfInBounds 3 .none))).get? tb = some ⟨.type "traceback", none, .fields (ts.setIfInBounds 3 .none), #[]⟩ := Heap.get?_update_self _ htb rfl
    generalize h6.update tb (Obj.mapFields (·.setIfInBounds 3 .none)) = h5 at *
    have g1 : ∀ b o, b ≠ L → b ≠ Lw → b ≠ e → h7.get? b = some o → h5.get? b = some o := fun b o x1 x2 x3 x4 => by rw [u6 b (old7 b o x4)]; exact q1 b o x1 x2 x3 x4
    have g2 : ∀ b o, b ≠ e → h7.get? b = some o → ∃ sl, h5.get? b = some { o with slots := sl } := fun b o x1 x2 => by rw [u6 b (old7 b o x2)]; exact q2 b o x1 x2
    have he5 : h5.get? e = some ⟨.ref 52, some a, .fields #[.ref t, .ref tb, .none, .none, .bool false, .none], #[]⟩ := by rw [u6 e (old7 e _ he7)]; exact he6'
    have ha5 := g1 a _ hLa (Ne.symm hwa) hae ha7
    have h35 := g1 123 _ (Ne.symm hL2) (Ne.symm hW3) h3e (hu7 _ _ z38)
    obtain ⟨slw, hw5⟩ := g2 Lw _ hwe (hu7 _ _ zw8)
    have k5 : ∀ b o, B.get? b = some o → h5.get? b = some o := by
      intro b o q
      refine g1 b o ?_ ?_ ?_ (F7.keep b o q)
      · rintro rfl; rw [hBL] at q; cases q
      · rintro rfl; rw [hbw] at q; cases q
      · rintro rfl; rw [hBe] at q; cases q
    have F5 := frSlots F7 k5 (fun o ho => g2 L o (Ne.symm hLe) ho)
    have hBt : B.get? tb = none := by
      cases q : B.get? tb with
      | none => rfl
      | some o => exact absurd rfl (old7 _ _ (F7.keep _ _ q))
    have hLt : tb ≠ L := fun q => by obtain ⟨o, _, _, ho, _⟩ := F7.ns; exact old7 _ _ ho q.symm
    have N5 : News B L h5 [(e, ⟨.ref 52, some a, .fields #[.ref t, .ref tb, .none, .none, .bool false, .none], #[]⟩), (a, nagDict pl (fmtS (List.map Wit.ts qs9)) ln tp t8 tl k1 k2 k3 e1 e2 e3), (123, tabO ps8), (Lw, { oW with slots := slw })] := by
      intro p hp
      rcases List.mem_cons.mp hp with rfl | hp
      · exact ⟨he5, hLe, hBe⟩
      rcases List.mem_cons.mp hp with rfl | hp
      · exact ⟨ha5, hLa, hBa⟩
      rcases List.mem_cons.mp hp with rfl | hp
      · exact ⟨h35, hL2.symm, hbn⟩
      · rw [List.mem_singleton.mp hp]
        exact ⟨hw5, hL3.symm, hbw⟩
    have hx5 : ∀ b o, b ≠ 123 → b ≠ Lw → s.heap.get? b = some o → h5.get? b = some o := fun b o x1 x2 x3 => F5.keep b o (hbe b o x1 x2 x3)
    clear F8 N8 F7
    refine wpAny_handleBy_cons (codeAny_handlers_test ?_) nofun
    ktr_unf
    refine (exm_one (b := true) (X.keeps F5.keep) ((Looks.ld he5).andThen .now) (exm52 _)).here ?_
    dsimp only
    refine codeAny_handlers_suite_as ?_
    refine wpAny_setFlight_none he5 rfl rfl htb5 rfl (by rw [Array.size_setIfInBounds]; exact hts) ?_
    dsimp only
    have hs4 : Heap.SameBut tb h5 (h5.update tb (Obj.mapFields (·.setIfInBounds 3 .none))) := Heap.SameBut.update ..
    generalize h5.update tb (Obj.mapFields (·.setIfInBounds 3 .none)) = h4 at *
    have F4 := F5.change hs4 hLt hBt
    have N4 : News B L h4 [(e, ⟨.ref 52, some a, .fields #[.ref t, .ref tb, .none, .none, .bool false, .none], #[]⟩), (a, nagDict pl (fmtS (List.map Wit.ts qs9)) ln tp t8 tl k1 k2 k3 e1 e2 e3), (123, tabO ps8), (Lw, { oW with slots := slw })] := by
      intro p hp
      refine ⟨(hs4.2 p.1 ?_).trans (N5 p hp).1, (N5 p hp).2⟩
      rcases List.mem_cons.mp hp with rfl | hp
      · exact old7 _ _ he7
      rcases List.mem_cons.mp hp with rfl | hp
      · exact old7 _ _ ha7
      rcases List.mem_cons.mp hp with rfl | hp
      · exact old7 _ _ (hu7 _ _ z38)
      · rw [List.mem_singleton.mp hp]
        exact old7 _ _ (hu7 _ _ zw8)
    clear F5 N5
    ktr_unf
    (with_reducible rename Fr _ _ _ _ => Fz)
    (with_reducible rename News _ _ _ _ => Nz)
    refine wpAny_nameGoes rfl Fz.ns rfl ?_
    intro h2 m2 hn2 hs2
    have off : ∀ b o, b ≠ L → _ → h2.get? b = some o := fun b o hb q => (hs2.2 b hb).trans q
    have nD := Nz _ (.head _)
    have n3 := Nz (123, tabO ps8) (.tail _ (.tail _ (.tail _ (.head _))))
    have nw := Nz (Lw, { oW with slots := slw }) (.tail _ (.tail _ (.tail _ (.tail _ (.head _)))))
    have hless : lessZ d d' = false := by assumption
    refine hQ _ _ _ ps8 slw tp t8 tl (off _ _ nw.2.1 nw.1) (fun b o x1 x2 x3 => ?_) ⟨off _ _ n3.2.1 n3.1, U8.tab.ok⟩ U8.grown hg8 ho8 (off _ _ nD.2.1 nD.1) ?_ ?_
    · have q := hbe b o x1 x2 x3
      refine off b o ?_ (Fz.keep b o q)
      rintro rfl
      rw [hBL] at q
      cases q
    · cases q : s.heap.get? _ with
      | none => rfl
      | some o =>
        exfalso
        have q' := hbe _ _ ?_ ?_ q
        · rw [nD.2.2] at q'
          cases q'
        · rintro rfl
          have := nD.1
          rw [n3.1] at this
          cases this
        · rintro rfl
          have z1 := nD.1
          rw [nw.1] at z1
          obtain ⟨es, ep, q2⟩ := hdD
          have q3 := congrArg Obj.data (Option.some.inj z1)
          dsimp only at q3
          rw [q2] at q3
          cases q3
    · rw [hless, he9]
      rfl

end
section
section
variable {prog : Program} {w : World} {A : Around} {R : Result → Shared → Prop}

theorem compLoop_any {s : Shared} {elt target iter : Expr} {ifs : List Expr} {scope : Scope} {pos : Pos} {it acc : Value} {env : Env} (J : Nat → Shared → Prop)
    (turn : ∀ n s, J n s → wpAny (model prog w) A (pyNext it) (fun r s₁ => match r with
      | none => R (.ok .next) s₁
      | some v => wpAny (model prog w) A (letOwnedTupleGo target it v) (fun _ s₂ => wpAny (model prog w) A (assign target env v) (fun _ s₃ =>
          wpAny (model prog w) A (forIn ifs true fun c r => if r = true then do let ok ← isTrue c env (eval c env); pure (ForInStep.yield ok) else pure (ForInStep.yield r)) (fun ok s₄ =>
            if ok = true then wpAny (model prog w) A (eval elt env) (fun x s₅ =>
              wpAny (model prog w) A (call (.builtin "list.append") [acc, x]) (fun _ s₆ => ∃ m, m < n ∧ J m s₆) (notedBy (model prog w) A env fun e s' => R (.error e) s') s₅) (notedBy (model prog w) A env fun e s' => R (.error e) s') s₄
            else ∃ m, m < n ∧ J m s₄) (notedBy (model prog w) A env fun e s' => R (.error e) s') s₃) (notedBy (model prog w) A env fun e s' => R (.error e) s') s₂) (notedBy (model prog w) A env fun e s' => R (.error e) s') s₁) (notedBy (model prog w) A env fun e s' => R (.error e) s') s)
    (n : Nat) (h : J n s) :
    codeAny (model prog w) A (.compLoop (.ListComp elt [⟨target, iter, ifs, 0⟩] scope pos) 0 it acc env) R s := by
  refine codeAny_loop rfl J (fun n s hI => ?_) n h
  show wpAny _ A ((compTurn (.ListComp elt [⟨target, iter, ifs, 0⟩] scope pos) 0 it acc env).onRaise (fun x => do noteFrame x env; theTreesLotGoes x)) _ _ s
  refine wpAny_noted ?_
  rw [compTurn_list]
  refine wpAny_bind (wpAny_standAt (wpAny_bind (wpAny_mono (turn n s hI) (fun r s₁ h₁ => ?_) fun _ _ h' => h')))
  cases r with
  | none => exact wpAny_pure h₁
  | some v =>
    refine wpAny_bind (wpAny_mono h₁ (fun _ s₂ h₂ => wpAny_bind (wpAny_mono h₂ (fun _ s₃ h₃ => wpAny_bind (wpAny_mono h₃ (fun ok s₄ h₄ => ?_) fun _ _ h' => h')) fun _ _ h' => h')) fun _ _ h' => h')
    cases ok with
    | false => exact wpAny_pure ⟨rfl, h₄⟩
    | true => exact wpAny_bind (wpAny_bind (wpAny_mono h₄ (fun x s₅ h₅ => wpAny_bind (wpAny_mono h₅ (fun _ s₆ h₆ => wpAny_pure (wpAny_pure ⟨rfl, h₆⟩)) fun _ _ h' => h')) fun _ _ h' => h'))

/-- the end of one turn of a comprehension: the list so far still as it was, the new ledger, and the new list of items -/
noncomputable def CEnd {σ : Type} (B : Heap) (C D I : Addr) (ys : List Value) (nn : Nat) (oI : Obj) (Led : σ → List (Addr × Obj)) (P : σ → List Value → Prop) (Z : Shared → Prop) (zs : List Value) (s : Shared) : Prop :=
  ∃ c m, Fr B C s.heap m ∧ News B C s.heap ((D, listOf ys.toArray nn) :: (I, oI) :: Led c) ∧ (∀ p ∈ Led c, p.1 ≠ D ∧ p.1 ≠ I) ∧ Z s ∧ P c zs

theorem comp_loop {σ : Type} {s : Shared} {elt target iter : Expr} {ifs : List Expr} {scope : Scope} {pos : Pos} {cenv : Env} {B : Heap} {D I : Addr} {fp : List Addr} {n : Nat} {Pv : Nat → Value → Prop} {St : Nat → Heap → Prop} {u₀ : Str → Option Value} {n₀ : Nat} {o₀ : Obj}
    (Led : σ → List (Addr × Obj)) (P : Nat → σ → List Value → Prop) (Z : Shared → Prop) (c₀ : σ)
    (W : Walks prog w A I fp [I] n Pv St) (hgo : ∀ v (s : Shared) (Q : Unit → Shared → Prop) (E : Value → Shared → Prop) i, St i s.heap → Q () s → wpAny (model prog w) A (letOwnedTupleGo target (.ref I) v) Q E s)
    (hst : St 0 s.heap) (hI : I ∈ fp) (hfp : ∀ b ∈ fp, b = I ∨ ∃ o, B.get? b = some o) (hit : ∀ i h, St i h → ∃ o, h.get? I = some o)
    (F : Fr B cenv.locals s.heap u₀) (N : News B cenv.locals s.heap ((D, listOf #[] n₀) :: (I, o₀) :: Led c₀)) (hap : ∀ p ∈ Led c₀, p.1 ≠ D ∧ p.1 ≠ I) (hDI : D ≠ I)
    (hZ : ∀ s h tk, Z s → Z { s with heap := h, toks := tk }) (z₀ : Z s) (p₀ : P 0 c₀ []) (hpl : ∀ i c ys, P i c ys → ys.length ≤ i) (hn : n ≤ 100000)
    (turn : ∀ c i v ys u oI nn (s₃ : Shared) (E' : Value → Shared → Prop), i < n → Pv i v → P i c ys → Z s₃ → (∀ p ∈ Led c, p.1 ≠ D ∧ p.1 ≠ I) → Fr B cenv.locals s₃.heap u → News B cenv.locals s₃.heap ((D, listOf ys.toArray nn) :: (I, oI) :: Led c) →
      wpAny (model prog w) A (assign target cenv v) (fun _ s₄ => wpAny (model prog w) A (forIn ifs true fun c r => if r = true then do let ok ← isTrue c cenv (eval c cenv); pure (ForInStep.yield ok) else pure (ForInStep.yield r)) (fun ok s₅ =>
        if ok = true then wpAny (model prog w) A (eval elt cenv) (fun y s₆ => CEnd B cenv.locals D I ys nn oI Led (P (i + 1)) Z (ys ++ [y]) s₆) E' s₅
        else CEnd B cenv.locals D I ys nn oI Led (P (i + 1)) Z ys s₅) E' s₄) E' s₃)
    (fin : ∀ c ys nn u s', P n c ys → Z s' → Fr B cenv.locals s'.heap u → News B cenv.locals s'.heap ((D, listOf ys.toArray nn) :: Led c) → (∀ p ∈ Led c, p.1 ≠ D ∧ p.1 ≠ I) → R (.ok .next) s') :
    codeAny (model prog w) A (.compStart (.ListComp elt [⟨target, iter, ifs, 0⟩] scope pos) 0 (.ref I) (.ref D) cenv) R s := by
  have loop : codeAny (model prog w) A (.compLoop (.ListComp elt [⟨target, iter, ifs, 0⟩] scope pos) 0 (.ref I) (.ref D) cenv) R s := by
    refine compLoop_any (fun k s' => ∃ i c ys nn u oI, i ≤ n ∧ k = n + 1 - i ∧ P i c ys ∧ Z s' ∧ St i s'.heap ∧ Fr B cenv.locals s'.heap u ∧ News B cenv.locals s'.heap ((D, listOf ys.toArray nn) :: (I, oI) :: Led c) ∧ (∀ p ∈ Led c, p.1 ≠ D ∧ p.1 ≠ I)) ?_ (n + 1)
      ⟨0, c₀, [], n₀, u₀, o₀, Nat.zero_le _, rfl, p₀, z₀, hst, F, N, hap⟩
    rintro k s' ⟨i, c, ys, nn, u, oI, hin, rfl, hP, hz, hSt, Fi, Ni, hapi⟩
    have hDn := (Ni _ (.head _))
    have hIn := (Ni _ (.tail _ (.head _)))
    -- the list's and the iterator's places are not the frame's, nor of the base
    have keepI : ∀ (h' : Heap), (∀ b o, b ∉ [I] → s'.heap.get? b = some o → h'.get? b = some o) → Fr B cenv.locals h' u ∧ (∀ p ∈ (D, listOf ys.toArray nn) :: Led c, h'.get? p.1 = some p.2 ∧ p.1 ≠ cenv.locals ∧ B.get? p.1 = none) := by
      intro h' hk
      refine ⟨⟨Fi.ns.at' (fun o e => hk _ o (fun hm => hIn.2.1 (List.mem_singleton.mp hm).symm) e), fun b o e => hk b o (fun hm => ?_) (Fi.keep b o e), Fi.above⟩, fun p hp => ?_⟩
      · rw [List.mem_singleton.mp hm, hIn.2.2] at e
        cases e
      · rcases List.mem_cons.mp hp with rfl | hp'
        · exact ⟨hk _ _ (fun hm => hDI (List.mem_singleton.mp hm)) hDn.1, hDn.2⟩
        · have z := Ni p (.tail _ (.tail _ hp'))
          exact ⟨hk _ _ (fun hm => (hapi p hp').2 (List.mem_singleton.mp hm)) z.1, z.2⟩
    by_cases hlt : i < n
    · refine W.item i _ _ _ hlt hSt fun v h₁ tk₁ hPv hst₁ hk₁ => ?_
      obtain ⟨F₁, N₁⟩ := keepI h₁ hk₁
      obtain ⟨oI', ho'⟩ := hit _ _ hst₁
      refine hgo v _ _ _ (i + 1) hst₁ ?_
      have N₁' : News B cenv.locals h₁ ((D, listOf ys.toArray nn) :: (I, oI') :: Led c) := by
        intro p hp
        rcases List.mem_cons.mp hp with rfl | hp
        · exact N₁ _ (.head _)
        · rcases List.mem_cons.mp hp with rfl | hp
          · exact ⟨ho', hIn.2⟩
          · exact N₁ p (.tail _ hp)
      have stay : ∀ h' u' , Fr B cenv.locals h' u' → h'.get? I = some oI' → St (i + 1) h' := by
        intro h' u' F' hI'
        refine W.frame _ _ _ hst₁ fun b hb o e => ?_
        rcases hfp b hb with rfl | ⟨ob, hob⟩
        · rw [ho'] at e
          rw [hI', ← e]
        · have := F₁.keep _ _ hob
          rw [this] at e
          rw [F'.keep _ _ hob, ← e]
      refine wpAny_mono (turn c i v ys u oI' nn _ _ hlt hPv hP (hZ _ _ _ hz) hapi F₁ N₁') (fun _ s₄ h₄ => wpAny_mono h₄ (fun ok s₅ h₅ => ?_) fun _ _ e => e) fun _ _ e => e
      cases ok with
      | false =>
        obtain ⟨c', m', F', N', hap', hz', hP'⟩ := h₅
        exact ⟨n + 1 - (i + 1), by omega, i + 1, c', ys, nn, m', oI', hlt, rfl, hP', hz', stay _ _ F' (N' _ (.tail _ (.head _))).1, F', N', hap'⟩
      | true =>
        refine wpAny_mono h₅ (fun y s₆ h₆ => ?_) fun _ _ e => e
        obtain ⟨c', m', F', N', hap', hz', hP'⟩ := h₆
        have hD' := N' _ (.head _)
        have hys : ys.length ≤ 100000 := by have := hpl _ _ _ hP; omega
        refine wpAny_list_append_plain (items := ys.toArray) ⟨nn, hD'.1⟩ (fun h₇ ⟨n', hp'⟩ hs => ?_) (by rw [List.size_toArray]; simp [sizeLine]; omega)
        have hI7 : h₇.get? I = some oI' := (hs.2 _ (Ne.symm hDI)).trans (N' _ (.tail _ (.head _))).1
        have F7 := F'.change hs hD'.2.1 hD'.2.2
        refine ⟨n + 1 - (i + 1), by omega, i + 1, c', ys ++ [y], n', m', oI', hlt, rfl, hP', hZ _ _ _ hz', stay _ _ F7 hI7, F7, fun p hp => ?_, hap'⟩
        rcases List.mem_cons.mp hp with rfl | hp
        · refine ⟨?_, hD'.2⟩
          rw [hp']; simp
        · rcases List.mem_cons.mp hp with rfl | hp
          · exact ⟨hI7, hIn.2⟩
          · have z := N' p (.tail _ (.tail _ hp))
            exact ⟨(hs.2 _ (hap' p hp).1).trans z.1, z.2⟩
    · have e : i = n := Nat.le_antisymm hin (Nat.not_lt.mp hlt)
      subst e
      refine W.done _ _ _ hSt fun h₁ tk₁ hk₁ => ?_
      obtain ⟨F₁, N₁⟩ := keepI h₁ hk₁
      exact fin c ys nn u _ hP (hZ _ _ _ hz) F₁ N₁ hapi
  exact codeAny_compStart_list loop (W.self 0 _ _ _ hst loop)
end

end
section
section
variable {prog : Program} {w : World} {A : Around} {E : Value → Shared → Prop} {env : Env}

/-- where a comprehension's items come from -/
noncomputable def CSrc (prog : Program) (w : World) (A : Around) (B : Heap) (I : Addr) (s₂ : Shared) (n : Nat) (Pv : Nat → Value → Prop) (target : Expr) : Prop :=
  ∃ fp St, Walks prog w A I fp [I] n Pv St ∧ St 0 s₂.heap ∧ I ∈ fp ∧ (∀ b ∈ fp, b = I ∨ ∃ o, B.get? b = some o) ∧ (∀ i h, St i h → ∃ o, h.get? I = some o) ∧
    (∀ v (s : Shared) (Q : Unit → Shared → Prop) (E : Value → Shared → Prop) i, St i s.heap → Q () s → wpAny (model prog w) A (letOwnedTupleGo target (.ref I) v) Q E s)

noncomputable def Src (prog : Program) (w : World) (A : Around) (B : Heap) (s : Shared) (xv : Value) (n : Nat) (Pv : Nat → Value → Prop) (target : Expr) : Prop :=
  ∀ (Q : Value → Shared → Prop) (E : Value → Shared → Prop), (∀ o, o.isFreed = false → CSrc prog w A B s.heap.objs.size { s with heap := s.heap.push o } n Pv target → Q (.ref s.heap.objs.size) { s with heap := s.heap.push o }) → wpAny (model prog w) A (pyIter xv) Q E s

theorem go_listiter {I r : Addr} {i : Nat} {target : Expr} {v : Value} {s : Shared} {Q : Unit → Shared → Prop} (hit : s.heap.IsListIter I r i) (hQ : Q () s) : wpAny (model prog w) A (letOwnedTupleGo target (.ref I) v) Q E s := by
  cases target with
  | Tuple elts x1 pos =>
    cases v with
    | ref T => exact wpAny_letOwnedTupleGo_listiter hit hQ
    | _ => exact wpAny_pure hQ
  | List elts pos =>
    cases v with
    | ref T =>
      obtain ⟨o, ho, hc, hd⟩ := hit
      unfold letOwnedTupleGo
      refine wpAny_bind (wpAny_load ho ?_)
      rw [hc, hd]
      dsimp only
      rw [if_neg (by
        intro h
        rw [show (["enumerate", "zip", "dict_itemiterator", "dict_reverseitemiterator", "odict_iterator", "itertools.zip_longest", "itertools.pairwise"].contains "list_iterator") = false from by decide, Bool.false_and] at h
        cases h)]
      exact wpAny_pure hQ
    | _ => exact wpAny_pure hQ
  | _ => exact wpAny_pure hQ

theorem src_list {B : Heap} {s : Shared} {r : Addr} {items : Array Value} {target : Expr} (hh : A.handled = none) (hl : B.IsList r items) (kB : ∀ b o, B.get? b = some o → s.heap.get? b = some o) :
    Src prog w A B s (.ref r) items.size (fun i v => items[i]? = some v) target := by
  intro Q E hQ
  have hl' : s.heap.IsList r items := stays_list kB hl
  refine wpAny_pyIter_list hl' (hQ _ rfl ?_)
  have hr : ∃ o, B.get? r = some o := let ⟨o, ho, _⟩ := hl; ⟨o, ho⟩
  have hlt : r < s.heap.objs.size := let ⟨o, ho⟩ := hr; Heap.lt_size (kB _ _ ho)
  refine ⟨_, _, Walks.list hh s.heap.objs.size r (Nat.ne_of_lt hlt) items, ⟨⟨_, Heap.get?_push_size _ rfl, rfl, rfl⟩, hl'.push _⟩, .head _, ?_, ?_, ?_⟩
  · intro b hb
    rcases List.mem_cons.mp hb with rfl | hb
    · exact .inl rfl
    · rw [List.mem_singleton.mp hb]
      exact .inr hr
  · intro i h st
    obtain ⟨⟨o, ho, _⟩, _⟩ := st
    exact ⟨o, ho⟩
  · intro v s' Q' E' i st hq
    exact go_listiter st.1 hq

theorem src_range {B : Heap} {s : Shared} {r : Addr} {a₀ b₀ : Int} {t₀ u₀ v₀ : Tok} {n : Nat} {x : Str} {px : Pos} (hh : A.handled = none) (hr : IsRange s.heap r a₀ b₀ 1 t₀ u₀ v₀) (hsmall : Builtin.Range.small a₀ b₀ 1 = true) (hn : Builtin.Range.rangeSize a₀ b₀ 1 = (n : Int)) :
    Src prog w A B s (.ref r) n (fun i v => ∃ t, v = .int (a₀ + i) t) (.Name x px) := by
  intro Q E hQ
  refine wpAny_pyIter_range hr hsmall (hQ _ rfl ?_)
  have W := Walks.range (prog := prog) (w := w) hh s.heap.objs.size a₀ 1 n
  have e : (fun (i : Nat) (v : Value) => ∃ t, v = .int (a₀ + (i : Int) * 1) t) = (fun (i : Nat) (v : Value) => ∃ t, v = .int (a₀ + (i : Int)) t) := by
    funext i v
    rw [Int.mul_one]
  refine ⟨_, _, e ▸ W, ?_, .head _, ?_, ?_, ?_⟩
  · show IsRangeIter _ _ _ _ _
    rw [hn]; simpa using Heap.get?_push_size _ rfl
  · intro b hb
    exact .inl (List.mem_singleton.mp hb)
  · intro i h st
    exact ⟨_, st⟩
  · intro v s' Q' E' i st hq
    exact wpAny_pure hq

/-- the rest of a list comprehension, behind its iterator -/
noncomputable def CGo (prog : Program) (w : World) (A : Around) (E : Value → Shared → Prop) (env : Env) (scope : Scope) (cl : List (Str × Addr)) (e : Expr) (RR : Value → Addr → Result → Shared → Prop) (it : Value) (s₂ : Shared) : Prop :=
  wpAny (model prog w) A (newList []) (fun acc s₃ => wpAny (model prog w) A (newFunctionEnv scope env.globals cl [] env.qual none .none (some env)) (fun cenv s₄ =>
    codeAny (model prog w) A (.compStart e 0 it acc { cenv with scope := relabel scope env }) (RR acc cenv.locals) s₄) E s₃) E s₂

theorem comp_front {σ : Type} {s : Shared} {elt target iter : Expr} {ifs : List Expr} {scope : Scope} {cl : List (Str × Addr)} {pos : Pos} {B : Heap} {xv : Value} {n : Nat} {Pv : Nat → Value → Prop} {RR : Value → Addr → Result → Shared → Prop}
    (Led : σ → List (Addr × Obj)) (P : Nat → σ → List Value → Prop) (Z : Shared → Prop) (c₀ : σ) (src : Src prog w A B s xv n Pv target)
    (hcell : ∀ y ∈ scope.names, y.2 ≠ .cell) (hkind : scope.kind = .function)
    (kB : ∀ b o, B.get? b = some o → s.heap.get? b = some o) (hBs : B.objs.size ≤ s.heap.objs.size) (hL : ∀ p ∈ Led c₀, s.heap.get? p.1 = some p.2 ∧ B.get? p.1 = none)
    (hZ : ∀ s h tk, Z s → Z { s with heap := h, toks := tk }) (z₀ : Z s) (p₀ : P 0 c₀ []) (hpl : ∀ i c ys, P i c ys → ys.length ≤ i) (hn : n ≤ 100000)
    (turn : ∀ C D I c i v ys u oI nn (s₃ : Shared) (E' : Value → Shared → Prop), s.heap.get? C = none → s.heap.get? D = none → s.heap.get? I = none → i < n → Pv i v → P i c ys → Z s₃ → (∀ p ∈ Led c, p.1 ≠ D ∧ p.1 ≠ I) → Fr B C s₃.heap u → News B C s₃.heap ((D, listOf ys.toArray nn) :: (I, oI) :: Led c) →
      wpAny (model prog w) A (assign target (compEnvC scope cl C env) v) (fun _ s₄ => wpAny (model prog w) A (forIn ifs true fun c r => if r = true then do let ok ← isTrue c (compEnvC scope cl C env) (eval c (compEnvC scope cl C env)); pure (ForInStep.yield ok) else pure (ForInStep.yield r)) (fun ok s₅ =>
        if ok = true then wpAny (model prog w) A (eval elt (compEnvC scope cl C env)) (fun y s₆ => CEnd B C D I ys nn oI Led (P (i + 1)) Z (ys ++ [y]) s₆) E' s₅
        else CEnd B C D I ys nn oI Led (P (i + 1)) Z ys s₅) E' s₄) E' s₃)
    (fin : ∀ C D c ys nn u s', s.heap.get? C = none → s.heap.get? D = none → P n c ys → Z s' → Fr B C s'.heap u → News B C s'.heap ((D, listOf ys.toArray nn) :: Led c) → (∀ p ∈ Led c, p.1 ≠ D) → RR (.ref D) C (.ok .next) s') :
    wpAny (model prog w) A (pyIter xv) (CGo prog w A E env scope cl (.ListComp elt [⟨target, iter, ifs, 0⟩] scope pos) RR) E s := by
  refine src _ _ fun o hof hsrc => ?_
  obtain ⟨fp, St, W, hst, hI, hfp, hit, hgo⟩ := hsrc
  unfold CGo
  refine wpAny_newObj_type (wpAny_newFunctionEnv hcell (by intro y hy; simp at hy) (fun h₁ hns₁ hsb₁ => ?_) hkind)
  dsimp only at hns₁ hsb₁ hst ⊢
  generalize hH2 : (s.heap.push o).push { cls := .type "list", dict := none, data := .seq ([] : List Value).toArray } = H2 at hns₁ hsb₁ ⊢
  have hC : H2.objs.size = s.heap.objs.size + 2 := by rw [← hH2, Heap.size_push, Heap.size_push]
  have hD : (s.heap.push o).objs.size = s.heap.objs.size + 1 := by rw [Heap.size_push]
  have old : ∀ b o', (s.heap.push o).get? b = some o' → h₁.get? b = some o' := fun b o' e => by
    have hlt := Heap.lt_size e
    refine hsb₁.extBut b o' ?_ (Heap.get?_push_of_some _ (hH2 ▸ Heap.get?_push_of_some _ e))
    rw [hC]; rw [hD] at hlt
    exact Nat.ne_of_lt (Nat.lt_trans hlt (Nat.lt_succ_self _))
  have old0 : ∀ b o', s.heap.get? b = some o' → h₁.get? b = some o' := fun b o' e => old b o' (Heap.get?_push_of_some _ e)
  have fresh : ∀ a, s.heap.objs.size ≤ a → s.heap.get? a = none := fun a ha => by
    cases e : s.heap.get? a with
    | none => rfl
    | some o' => exact absurd (Heap.lt_size e) (Nat.not_lt.mpr ha)
  have bfresh : ∀ a, s.heap.objs.size ≤ a → B.get? a = none := fun a ha => by
    cases e : B.get? a with
    | none => rfl
    | some o' => have := kB _ _ e; rw [fresh a ha] at this; cases this
  have hacc : h₁.get? (s.heap.push o).objs.size = some { cls := .type "list", dict := none, data := .seq ([] : List Value).toArray } := by
    refine hsb₁.extBut _ _ ?_ (Heap.get?_push_of_some _ (hH2 ▸ Heap.get?_push_size _ rfl))
    rw [hC, hD]; exact Nat.ne_of_lt (Nat.lt_succ_self _)
  have hIo : h₁.get? s.heap.objs.size = some o := old _ _ (Heap.get?_push_size _ hof)
  have F₁ : Fr B H2.objs.size h₁ (fun x => ([] : List (Str × Value)).reverse.lookup x) := ⟨hns₁, fun b o' e => old0 _ _ (kB _ _ e), by rw [hC]; exact Nat.le_trans hBs (Nat.le_add_right _ _)⟩
  have cD := fresh (s.heap.push o).objs.size (by rw [hD]; exact Nat.le_add_right _ _)
  have cC := fresh H2.objs.size (by rw [hC]; exact Nat.le_add_right _ _)
  have cI := fresh s.heap.objs.size (Nat.le_refl _)
  refine comp_loop (D := (s.heap.push o).objs.size) (I := s.heap.objs.size) (cenv := compEnvC scope cl H2.objs.size env) (n₀ := 0) (o₀ := o) Led P Z c₀ W hgo (W.frame _ _ _ hst fun b _ o' e => old b o' e) hI hfp hit F₁ ?_ ?_ ?_ hZ (hZ { s with heap := s.heap } _ _ z₀) p₀ hpl hn ?_ ?_
  · intro p hp
    rcases List.mem_cons.mp hp with rfl | hp
    · refine ⟨hacc, ?_, bfresh _ (by rw [hD]; exact Nat.le_add_right _ _)⟩
      show (s.heap.push o).objs.size ≠ H2.objs.size
      rw [hC, hD]; exact Nat.ne_of_lt (Nat.lt_succ_self _)
    · rcases List.mem_cons.mp hp with rfl | hp
      · refine ⟨hIo, ?_, bfresh _ (Nat.le_refl _)⟩
        show s.heap.objs.size ≠ H2.objs.size
        rw [hC]; exact Nat.ne_of_lt (Nat.lt_add_of_pos_right (Nat.succ_pos _))
      · refine ⟨old0 _ _ (hL p hp).1, ?_, (hL p hp).2⟩
        have := Heap.lt_size (hL p hp).1
        show p.1 ≠ H2.objs.size
        rw [hC]
        exact Nat.ne_of_lt (Nat.lt_of_lt_of_le this (Nat.le_add_right _ _))
  · intro p hp
    have := Heap.lt_size (hL p hp).1
    refine ⟨?_, Nat.ne_of_lt this⟩
    rw [hD]
    exact Nat.ne_of_lt (Nat.lt_of_lt_of_le this (Nat.le_add_right _ _))
  · rw [hD]; exact Nat.succ_ne_self _
  · intro c i v ys u oI nn s₃ E' hi hv hP hz hap F N
    exact turn _ _ _ c i v ys u oI nn s₃ E' cC cD cI hi hv hP hz hap F N
  · intro c ys nn u s' hP hz F N hap
    exact fin _ _ c ys nn u s' cC cD hP hz F N (fun p hp => (hap p hp).1)

/-- a list comprehension as an expression -/
theorem comp_eval {s : Shared} {elt target iter : Expr} {ifs : List Expr} {scope : Scope} {cl : List (Str × Addr)} {pos : Pos} {Q : Value → Shared → Prop}
    (hclos : closureFor scope env = pure cl) (hkind : scope.kind = .function) (hnames : ∀ y ∈ scope.names, y.2 = .local → scope.names.lookup y.1 = some .local)
    (h : wpAny (model prog w) A (eval iter env) (fun xv s₁ => wpAny (model prog w) A (pyIter xv) (CGo prog w A E env scope cl (.ListComp elt [⟨target, iter, ifs, 0⟩] scope pos) (fun acc C => compPost (model prog w) A E none Q acc C)) E s₁) E s)
    (hs : ∀ x, foldedSetIterable iter env x = pure x := by intro _; rfl) :
    wpAny (model prog w) A (eval (.ListComp elt [⟨target, iter, ifs, 0⟩] scope pos) env) Q E s := by
  rw [eval_ListComp]
  exact wpAny_comprehension_free (use := none) rfl hs hclos hkind hnames h

/-- a list comprehension stored into a local name -/
theorem comp_assign {s : Shared} {elt target iter : Expr} {ifs : List Expr} {scope : Scope} {cl : List (Str × Addr)} {pos spos py : Pos} {y : Str} {Q : Flow → Shared → Prop}
    (hsw : swapsWith (.ListComp elt [⟨target, iter, ifs, 0⟩] scope pos) (some (.Name y py)) spos.line env = pure true)
    (hclos : closureFor scope env = pure cl) (hkind : scope.kind = .function) (hnames : ∀ y ∈ scope.names, y.2 = .local → scope.names.lookup y.1 = some .local)
    (h : wpAny (model prog w) A (eval iter env) (fun xv s₁ => wpAny (model prog w) A (pyIter xv) (CGo prog w A E env scope cl (.ListComp elt [⟨target, iter, ifs, 0⟩] scope pos) (fun acc C => compPost (model prog w) A E (some (assign (.Name y py) env)) (fun _ s' => Q .next s') acc C)) E s₁) E s)
    (hs : ∀ x, foldedSetIterable iter env x = pure x := by intro _; rfl) :
    wpAny (model prog w) A (exec (.Assign [.Name y py] (.ListComp elt [⟨target, iter, ifs, 0⟩] scope pos) spos) env) Q E s := by
  rw [exec_Assign_Name_used _ _ _ _ hsw]
  refine wpAny_bind (wpAny_standAt (wpAny_bind ?_))
  show wpAny _ A (do let _ ← comprehension (.ListComp elt [⟨target, iter, ifs, 0⟩] scope pos) scope env _ (newList []) false (eval iter env) (some (assign (.Name y py) env))) _ _ s
  exact wpAny_bind (wpAny_mono (wpAny_comprehension_free (use := some (assign (.Name y py) env)) (Q := fun _ s' => Q .next s') rfl hs hclos hkind hnames h) (fun _ s' hq => wpAny_pure (wpAny_pure hq)) fun _ _ e => e)

/-- the end of a comprehension used as an expression -/
theorem fin_eval {M : Model} {B : Heap} {C : Addr} {u : Str → Option Value} {news : List (Addr × Obj)} {v : Value} {s' : Shared} {Q : Value → Shared → Prop} (F : Fr B C s'.heap u) (N : News B C s'.heap news)
    (h : ∀ h', (∀ b o, B.get? b = some o → h'.get? b = some o) → (∀ p ∈ news, h'.get? p.1 = some p.2 ∧ B.get? p.1 = none) → Q v { s' with heap := h' }) : compPost M A E none Q v C (.ok .next) s' := by
  refine ⟨u, F.ns, fun h' hs => h h' (fun b o e => ?_) fun p hp => ⟨(hs.2 p.1 (N p hp).2.1).trans (N p hp).1, (N p hp).2.2⟩⟩
  refine (hs.2 b ?_).trans (F.keep b o e)
  exact Nat.ne_of_lt (Nat.lt_of_lt_of_le (Heap.lt_size e) F.above)

/-- .. and stored into a local name -/
theorem fin_assign {M : Model} {B : Heap} {C D : Addr} {u m : Str → Option Value} {news : List (Addr × Obj)} {y : Str} {py : Pos} {s' : Shared} {Q : Flow → Shared → Prop} (F : Fr B C s'.heap u) (N : News B C s'.heap news)
    (hl : env.kindOf y = some .local) (hp : (env.scope.kind == .class || (env.scope.kind == .module && env.locals != env.globals)) = false) (hn : s'.heap.Ns env.locals m) (hLC : env.locals ≠ C)
    (h : ∀ h' tk, h'.Ns env.locals (fun z => if z = y then some (.ref D) else m z) → (∀ b o, b ≠ env.locals → B.get? b = some o → h'.get? b = some o) → (∀ p ∈ news, p.1 ≠ env.locals → h'.get? p.1 = some p.2 ∧ B.get? p.1 = none) → Q .next { s' with heap := h', toks := tk }) :
    compPost M A E (some (assign (.Name y py) env)) (fun _ s' => Q .next s') (.ref D) C (.ok .next) s' := by
  show wpAny M A (assign (.Name y py) env (.ref D)) _ E s'
  refine wpAny_assign_Name (wpAny_storeName_local hl hn (fun h₂ hn₂ hs₂ => ?_) hp)
  refine ⟨u, F.ns.sameBut hs₂ (Ne.symm hLC), fun h' hs => ?_⟩
  refine h h' _ (hn₂.sameBut hs hLC) (fun b o hb e => ?_) (fun p hp hb => ?_)
  · have hbC : b ≠ C := Nat.ne_of_lt (Nat.lt_of_lt_of_le (Heap.lt_size e) F.above)
    exact (hs.2 b hbC).trans ((hs₂.2 b hb).trans (F.keep b o e))
  · exact ⟨(hs.2 p.1 (N p hp).2.1).trans ((hs₂.2 p.1 hb).trans (N p hp).1), (N p hp).2.2⟩
end

section
variable {M : Model} {A : Around} {E : Value → Shared → Prop} {s : Shared} {B : Heap} {C c : Addr} {m mg mb : Str → Option Value} {news : List (Addr × Obj)} {scope : Scope} {cl : List (Str × Addr)} {env : Env} {x : Str} {pos : Pos} {v : Value} {K : Frag} {p : Program} {ls : List Str} {Q : Value → Shared → Prop}
theorem cn_loc (F : Fr B C s.heap m) (hv : m x = some v) (h : Q v s) (hk : (compEnvC scope cl C env).scope.kind = .function) (hx : (compEnvC scope cl C env).kindOf x = some .local) (hd : (x == ("__debug__" : Str)) = false) :
    wpAny M A (eval (.Name x pos) (compEnvC scope cl C env)) Q E s := wpAny_Name (wpAny_loadName_local hk hx F.ns hv h) hd
theorem cn_glob (F : Fr B C s.heap m) (X : K.In B) (T : TopRead p ls mg mb B) (e : nsIn K mainGlobals x = some (some v)) (h : Q v s) (hg : (compEnvC scope cl C env).globals = mainGlobals) (hk : (compEnvC scope cl C env).scope.kind = .function) (hx : (compEnvC scope cl C env).kindOf x = some .globalImplicit) (hd : (x == ("__debug__" : Str)) = false) :
    wpAny M A (eval (.Name x pos) (compEnvC scope cl C env)) Q E s := nameG_K F X T e h hg hk hx hd
theorem cn_cell (F : Fr B C s.heap m) (hc : cl.lookup x = some c) (hm : B.IsCell c (some v)) (h : Q v s) (hk : (compEnvC scope cl C env).scope.kind = .function) (hx : (compEnvC scope cl C env).kindOf x = some .cell) (hb : (x == ("__debug__" : Str)) = false) :
    wpAny M A (eval (.Name x pos) (compEnvC scope cl C env)) Q E s := wpAny_Name (wpAny_loadName_cell hk hx hc (hm.keeps F.keep) h) hb
theorem cn_store {Q : Unit → Shared → Prop} (F : Fr B C s.heap m) (N : News B C s.heap news) (h : ∀ h', Fr B C h' (fun y => if y = x then some v else m y) → News B C h' news → Q () { s with heap := h', toks := s.toks + 1 })
    (hk : (compEnvC scope cl C env).scope.kind = .function) (hx : (compEnvC scope cl C env).kindOf x = some .local) : wpAny M A (storeName (compEnvC scope cl C env) x v) Q E s :=
  wpAny_storeName_local hx F.ns (fun h' hn hs => h h' (F.set hn hs) (N.set hs)) (by rw [hk]; rfl)
theorem cn_bi (F : Fr B C s.heap m) (X : K.In B) (T : TopRead p ls mg mb B) (e : nsIn K mainGlobals x = some none) (hv : bootBuiltins x = some v) (hn : x ≠ "__name__") (h : Q v s) (hg : (compEnvC scope cl C env).globals = mainGlobals) (hbn : (compEnvC scope cl C env).builtins = builtinsNs) (hk : (compEnvC scope cl C env).scope.kind = .function)
    (hx : (compEnvC scope cl C env).kindOf x = some .globalImplicit) (hd : (x == ("__debug__" : Str)) = false) : wpAny M A (eval (.Name x pos) (compEnvC scope cl C env)) Q E s :=
  Name_function_global hk hx (loadGlobal_builtin (env := compEnvC scope cl C env) (by rw [hg]; exact T.g.keeps F.keep) (mg_none_of X T.g e) (by rw [hbn]; exact T.b.keeps F.keep) ((T.builtins x hn).trans hv) h) hd
end

end
section
/-- n blanks -/
noncomputable def sp (n : Int) : Str := ⟨(List.replicate n.toNat 32).toArray⟩
theorem sp_len (n : Int) : (sp n).length = n.toNat := by
  show (List.replicate n.toNat 32).toArray.size = n.toNat
  simp
theorem rep_fold (n : Nat) : ∀ acc : Array Nat, (List.replicate n (Str.ofString " ").cps).foldl (· ++ ·) acc = acc ++ (List.replicate n 32).toArray := by
  have e : (Str.ofString " ").cps = #[32] := by decide +kernel
  rw [e]
  induction n with
  | zero => intro acc; simp
  | succ n ih =>
    intro acc
    rw [List.replicate_succ, List.foldl_cons, ih]
    apply Array.ext'
    simp [List.replicate_succ]
theorem mul_sp {prog : Program} {w : World} {A : Around} {E : Value → Shared → Prop} {s : Shared} {n : Int} {t u : Tok} {Q : Value → Shared → Prop} (h0 : 0 ≤ n) (h1 : n ≤ 100) (h : ∀ t' k, Q (.str (sp n) t') { s with toks := k }) :
    wpAny (model prog w) A (binaryOp .Mult (.str (Str.ofString " ") t) (.int n u)) Q E s := by
  have hl : (Str.ofString " ").length = 1 := by decide +kernel
  refine P.mul_str ?_ ?_ ?_ ?_
  · rw [decide_eq_false (by omega), decide_eq_false (by omega)]; rfl
  · intro h2 _
    rw [hl]
    have : (1 : Int) ≤ (2 ^ 63 - 1) / n := (Int.le_ediv_iff_mul_le (by omega)).mpr (by omega)
    omega
  · intro _ _
    rw [hl]
    show decide _ = false
    exact decide_eq_false (by simp [sizeLine]; omega)
  · by_cases hn : n < 1
    · have e : n = 0 := by omega
      subst e
      rw [if_pos hn]
      exact ⟨by decide, h _ _⟩
    · rw [if_neg hn]
      by_cases h2 : n = 1
      · subst h2
        rw [if_pos (by rfl)]
        have := h t s.toks
        exact this
      · have h3 : (n == 1 || (Str.ofString " ").length == 0) = false := by rw [hl]; simp [h2]
        rw [if_neg (by rw [h3]; decide), rep_fold]
        have e : (⟨#[] ++ (List.replicate n.toNat 32).toArray⟩ : Str) = sp n := by unfold sp; simp
        rw [e]
        refine ⟨?_, h _ _⟩
        rw [sp_len]
        simp [sizeLine]; omega
theorem intsGet : ∀ {vs : List Value} {rs : List Int}, IntsAre vs rs → ∀ {i : Nat} {v : Value}, vs[i]? = some v → ∃ z t, v = .int z t ∧ rs[i]? = some z
  | _, _, .nil, i, v, h => by simp at h
  | _, _, .cons n t hr, 0, v, h => ⟨n, t, by simpa using h.symm, rfl⟩
  | _, _, .cons n t hr, i + 1, v, h => intsGet hr (by simpa using h)
theorem strsSnoc : ∀ {vs : List Value} {ss : List Str} {y : Str} {t : Tok}, StrsAre vs ss → StrsAre (vs ++ [.str y t]) (ss ++ [y])
  | _, _, y, t, .nil => .cons y t .nil
  | _, _, y, t, .cons z u h => .cons z u (strsSnoc h)
theorem intsSnoc : ∀ {vs : List Value} {rs : List Int} {n : Int} {t : Tok}, IntsAre vs rs → IntsAre (vs ++ [.int n t]) (rs ++ [n])
  | _, _, n, t, .nil => .cons n t .nil
  | _, _, n, t, .cons z u h => .cons z u (intsSnoc h)
theorem takeSnoc {α : Type} {l : List α} {i : Nat} {z : α} (h : l[i]? = some z) : l.take (i + 1) = l.take i ++ [z] := by rw [List.take_add_one, h]; rfl

end
section
theorem newsAdd {h₀ h h' : Heap} {L D : Addr} {m : Str → Option Value} {news : List (Addr × Obj)} {o : Obj} (F : Fr h₀ L h m) (N : News h₀ L h news) (k : ∀ b o, h.get? b = some o → h'.get? b = some o) (hD : h'.get? D = some o) (hDn : h.get? D = none) : News h₀ L h' ((D, o) :: news) := by
  intro p hp
  rcases List.mem_cons.mp hp with rfl | hp
  · refine ⟨hD, ?_, ?_⟩
    · intro e
      obtain ⟨o', _, _, ho, _⟩ := F.ns
      rw [← e] at ho
      dsimp only at ho
      rw [hDn] at ho; cases ho
    · cases q : h₀.get? D with
      | none => rfl
      | some o => have := F.keep _ _ q; rw [hDn] at this; cases this
  · exact ⟨k _ _ (N p hp).1, (N p hp).2⟩

/-- the end of one turn of a comprehension whose items need no ledger -/
noncomputable def CE (s : Shared) (C D I : Addr) (ys : List Value) (nn : Nat) (oI : Obj) (P : List Value → Prop) (zs : List Value) (s' : Shared) : Prop :=
  ∃ h' tk m, s' = { s with heap := h', toks := tk } ∧ Fr s.heap C h' m ∧ News s.heap C h' [(D, listOf ys.toArray nn), (I, oI)] ∧ P zs
theorem ce_end {s : Shared} {C D I : Addr} {ys zs : List Value} {nn : Nat} {oI : Obj} {P : List Value → Prop} {h' : Heap} {tk : Nat} {m : Str → Option Value} (F : Fr s.heap C h' m) (N : News s.heap C h' [(D, listOf ys.toArray nn), (I, oI)]) (p : P zs) :
    CE s C D I ys nn oI P zs { s with heap := h', toks := tk } := ⟨h', tk, m, rfl, F, N, p⟩

section
variable {prog : Program} {w : World} {A : Around} {E : Value → Shared → Prop} {env : Env}
theorem comp_mid {s : Shared} {elt target iter : Expr} {ifs : List Expr} {scope : Scope} {cl : List (Str × Addr)} {pos : Pos} {xv : Value} {n : Nat} {Pv : Nat → Value → Prop} {RR : Value → Addr → Result → Shared → Prop}
    (P : Nat → List Value → Prop) (src : Src prog w A s.heap s xv n Pv target)
    (hcell : ∀ y ∈ scope.names, y.2 ≠ .cell) (hkind : scope.kind = .function) (p₀ : P 0 []) (hpl : ∀ i ys, P i ys → ys.length ≤ i) (hn : n ≤ 100000)
    (turn : ∀ C D I i v ys u oI nn h₃ tk₃ (E' : Value → Shared → Prop), i < n → Pv i v → P i ys → Fr s.heap C h₃ u → News s.heap C h₃ [(D, listOf ys.toArray nn), (I, oI)] →
      wpAny (model prog w) A (assign target (compEnvC scope cl C env) v) (fun _ s₄ => wpAny (model prog w) A (forIn ifs true fun c r => if r = true then do let ok ← isTrue c (compEnvC scope cl C env) (eval c (compEnvC scope cl C env)); pure (ForInStep.yield ok) else pure (ForInStep.yield r)) (fun ok s₅ =>
        if ok = true then wpAny (model prog w) A (eval elt (compEnvC scope cl C env)) (fun y s₆ => CE s C D I ys nn oI (P (i + 1)) (ys ++ [y]) s₆) E' s₅
        else CE s C D I ys nn oI (P (i + 1)) ys s₅) E' s₄) E' { s with heap := h₃, toks := tk₃ })
    (fin : ∀ C D ys nn u h' tk, s.heap.get? C = none → s.heap.get? D = none → P n ys → Fr s.heap C h' u → News s.heap C h' [(D, listOf ys.toArray nn)] → RR (.ref D) C (.ok .next) { s with heap := h', toks := tk }) :
    wpAny (model prog w) A (pyIter xv) (CGo prog w A E env scope cl (.ListComp elt [⟨target, iter, ifs, 0⟩] scope pos) RR) E s := by
  have key : ∀ s' : Shared, (s'.gens = s.gens ∧ s'.drawn = s.drawn ∧ s'.os = s.os) → s' = { s with heap := s'.heap, toks := s'.toks } := by
    rintro ⟨h, g, d, t, o⟩ ⟨h1, h2, h3⟩
    dsimp only at h1 h2 h3
    subst h1 h2 h3
    rfl
  refine comp_front (B := s.heap) (fun _ : Unit => []) (fun i _ ys => P i ys) (fun s' => s'.gens = s.gens ∧ s'.drawn = s.drawn ∧ s'.os = s.os) () src hcell hkind (fun _ _ e => e) (Nat.le_refl _) (by intro p hp; cases hp) (fun _ _ _ z => z) ⟨rfl, rfl, rfl⟩ p₀ (fun i c ys h => hpl i ys h) hn ?_ ?_
  · intro C D I c i v ys u oI nn s₃ E' cC cD cI hi hv' hP hz hap F₃ N₃
    rw [key s₃ hz]
    refine wpAny_mono (turn C D I i v ys u oI nn s₃.heap s₃.toks E' hi hv' hP F₃ N₃) (fun _ s₄ h₄ => wpAny_mono h₄ (fun ok s₅ h₅ => ?_) fun _ _ e => e) fun _ _ e => e
    cases ok with
    | false =>
      obtain ⟨h', tk, m, rfl, F, N, p⟩ := h₅
      exact ⟨(), m, F, N, (fun p hp => nomatch hp), ⟨rfl, rfl, rfl⟩, p⟩
    | true =>
      refine wpAny_mono h₅ (fun y s₆ h₆ => ?_) fun _ _ e => e
      obtain ⟨h', tk, m, rfl, F, N, p⟩ := h₆
      exact ⟨(), m, F, N, (fun p hp => nomatch hp), ⟨rfl, rfl, rfl⟩, p⟩
  · intro C D c ys nn u s' cC cD hP hz F N _
    rw [key s' hz]
    exact fin C D ys nn u _ _ cC cD hP F N

theorem comp_simple {s : Shared} {elt target iter : Expr} {ifs : List Expr} {scope : Scope} {cl : List (Str × Addr)} {pos : Pos} {xv : Value} {n : Nat} {Pv : Nat → Value → Prop} {Q : Value → Shared → Prop}
    (P : Nat → List Value → Prop) (src : Src prog w A s.heap s xv n Pv target)
    (hcell : ∀ y ∈ scope.names, y.2 ≠ .cell) (hkind : scope.kind = .function) (p₀ : P 0 []) (hpl : ∀ i ys, P i ys → ys.length ≤ i) (hn : n ≤ 100000)
    (turn : ∀ C D I i v ys u oI nn h₃ tk₃ (E' : Value → Shared → Prop), i < n → Pv i v → P i ys → Fr s.heap C h₃ u → News s.heap C h₃ [(D, listOf ys.toArray nn), (I, oI)] →
      wpAny (model prog w) A (assign target (compEnvC scope cl C env) v) (fun _ s₄ => wpAny (model prog w) A (forIn ifs true fun c r => if r = true then do let ok ← isTrue c (compEnvC scope cl C env) (eval c (compEnvC scope cl C env)); pure (ForInStep.yield ok) else pure (ForInStep.yield r)) (fun ok s₅ =>
        if ok = true then wpAny (model prog w) A (eval elt (compEnvC scope cl C env)) (fun y s₆ => CE s C D I ys nn oI (P (i + 1)) (ys ++ [y]) s₆) E' s₅
        else CE s C D I ys nn oI (P (i + 1)) ys s₅) E' s₄) E' { s with heap := h₃, toks := tk₃ })
    (fin : ∀ D ys nn h' tk, P n ys → (∀ b o, s.heap.get? b = some o → h'.get? b = some o) → h'.get? D = some (listOf ys.toArray nn) → s.heap.get? D = none → Q (.ref D) { s with heap := h', toks := tk }) :
    wpAny (model prog w) A (pyIter xv) (CGo prog w A E env scope cl (.ListComp elt [⟨target, iter, ifs, 0⟩] scope pos) (fun acc C => compPost (model prog w) A E none Q acc C)) E s := by
  refine comp_mid P src hcell hkind p₀ hpl hn turn ?_
  intro C D ys nn u h' tk cC cD hP F N
  refine fin_eval F N ?_
  intro h5 hk5 hn5
  exact fin D ys nn h5 tk hP hk5 (hn5 _ (.head _)).1 cD

theorem comp_simpleA {s : Shared} {elt target iter : Expr} {ifs : List Expr} {scope : Scope} {cl : List (Str × Addr)} {pos py : Pos} {xv : Value} {n : Nat} {Pv : Nat → Value → Prop} {Q : Flow → Shared → Prop} {y : Str} {h₀ : Heap} {m : Str → Option Value} {news : List (Addr × Obj)}
    (P : Nat → List Value → Prop) (src : Src prog w A s.heap s xv n Pv target)
    (hcell : ∀ y ∈ scope.names, y.2 ≠ .cell) (hkind : scope.kind = .function) (p₀ : P 0 []) (hpl : ∀ i ys, P i ys → ys.length ≤ i) (hn : n ≤ 100000)
    (hl : env.kindOf y = some .local) (hp : (env.scope.kind == .class || (env.scope.kind == .module && env.locals != env.globals)) = false) (F₀ : Fr h₀ env.locals s.heap m) (N₀ : News h₀ env.locals s.heap news)
    (turn : ∀ C D I i v ys u oI nn h₃ tk₃ (E' : Value → Shared → Prop), i < n → Pv i v → P i ys → Fr s.heap C h₃ u → News s.heap C h₃ [(D, listOf ys.toArray nn), (I, oI)] →
      wpAny (model prog w) A (assign target (compEnvC scope cl C env) v) (fun _ s₄ => wpAny (model prog w) A (forIn ifs true fun c r => if r = true then do let ok ← isTrue c (compEnvC scope cl C env) (eval c (compEnvC scope cl C env)); pure (ForInStep.yield ok) else pure (ForInStep.yield r)) (fun ok s₅ =>
        if ok = true then wpAny (model prog w) A (eval elt (compEnvC scope cl C env)) (fun y s₆ => CE s C D I ys nn oI (P (i + 1)) (ys ++ [y]) s₆) E' s₅
        else CE s C D I ys nn oI (P (i + 1)) ys s₅) E' s₄) E' { s with heap := h₃, toks := tk₃ })
    (fin : ∀ D ys nn h' tk, P n ys → Fr h₀ env.locals h' (fun z => if z = y then some (.ref D) else m z) → News h₀ env.locals h' ((D, listOf ys.toArray nn) :: news) → (∀ b o, b ≠ env.locals → s.heap.get? b = some o → h'.get? b = some o) → s.heap.get? D = none → Q .next { s with heap := h', toks := tk }) :
    wpAny (model prog w) A (pyIter xv) (CGo prog w A E env scope cl (.ListComp elt [⟨target, iter, ifs, 0⟩] scope pos) (fun acc C => compPost (model prog w) A E (some (assign (.Name y py) env)) (fun _ s' => Q .next s') acc C)) E s := by
  refine comp_mid P src hcell hkind p₀ hpl hn turn ?_
  intro C D ys nn u h' tk cC cD hP F N
  have hLs : ∃ o, s.heap.get? env.locals = some o := let ⟨o, _, _, ho, _⟩ := F₀.ns; ⟨o, ho⟩
  have hLC : env.locals ≠ C := by intro e; obtain ⟨o, ho⟩ := hLs; rw [e, cC] at ho; cases ho
  have hLD : D ≠ env.locals := by intro e; obtain ⟨o, ho⟩ := hLs; rw [← e, cD] at ho; cases ho
  refine fin_assign F N hl hp (F₀.ns.keeps F.keep) hLC ?_
  intro h5 tk5 hn5 hk5 hw5
  have hDn : h₀.get? D = none := by
    cases q : h₀.get? D with
    | none => rfl
    | some o => have := F₀.keep _ _ q; rw [cD] at this; cases this
  refine fin D ys nn h5 tk5 hP ⟨hn5, fun b o e => hk5 b o (Nat.ne_of_lt (Nat.lt_of_lt_of_le (Heap.lt_size e) F₀.above)) (F₀.keep b o e), F₀.above⟩ ?_ hk5 cD
  intro p hp
  rcases List.mem_cons.mp hp with rfl | hp
  · exact ⟨(hw5 _ (.head _) hLD).1, hLD, hDn⟩
  · exact ⟨hk5 _ _ (N₀ p hp).2.1 (N₀ p hp).1, (N₀ p hp).2⟩
end

end
example : True := by
  k_with_none
  (k_with "ktr_rel" => with_reducible (first | show wpAny _ _ (pyIter _) _ _ _ | show wpAny _ _ (call (Value.builtin "list.append") _) _ _ _ | show wpAny _ _ (setItem _ _ _) _ _ _))
  (k_with "ktr_unf" => repeat' (first | (k_unfold; (try dsimp only)) | ((fail_if_success ktr_rel); (first | walk1 | (dsimp only; walk1) | (leave1; (try dsimp only))))))
  (k_with "execs cons Assign cons" => with_reducible refine wpAny_execs_cons ?_)
  (k_with "kun_tup" => exact IsTup.keeps (by assumption) (Fr.keep (by k_asm)))
  (k_with "k_inst" => exact InstAt.keepsH (by assumption) (Fr.keep (by k_asm)))
  (k_with "call builtin:len" => (k_here; (with_reducible show wpAny _ _ (call (Value.builtin "len") [Value.ref _]) _ _ _); k_dflt (refine' PyProof.Rows.len_tuple ?k1 ?k2 ?_; (case k1 => kun_tup); (case k2 => first | assumption | decide); k_whole)))
  (k_with "call builtin:len" => (k_here; (with_reducible show wpAny _ _ (call (Value.builtin "len") [Value.ref _]) _ _ _); k_dflt (refine' PyProof.Rows.len_list ?k1 ?k2 ?_; (case k1 => exact stays_list (Fr.keep (by k_asm)) (by assumption)); (case k2 => first | assumption | decide); k_whole)))
  (k_with "subscriptTail" => (k_here; (with_reducible show wpAny _ _ (subscriptTail _ _ (Value.ref _) (Value.int _ _)) _ _ _); k_dflt (refine' item_tuple_ints ?t ?i ?a ?b ?c ?_; (case t => kun_tup); (case i => assumption); (case a => omega); (case b => omega); (case c => omega); k_whole); intro t9))
  (k_with "call ref" => (k_here; (show wpAny _ _ (call (Value.ref 79) [Value.ref _]) _ _ _); k_dflt (refine' longest ?hA ?hu ?G ?W ?_; (case hA => ktr_room); (case hu => ktr_units); (case G => exact Gd.up (by assumption) (Fr.keep (by k_asm))); (case W => exact WS.up (by assumption) (Fr.keep (by k_asm))); k_whole); intro t9 h9 tk9 hk9; (with_reducible rename Fr _ _ _ _ => F8); (with_reducible rename News _ _ _ _ => N8); (have F9 := frUp F8 hk9); (have N9 := newsUp N8 hk9); (try dsimp only)))
  (k_with "call ref" => (k_here; (show wpAny _ _ (call (Value.ref 86) [Value.ref _, Value.int _ _]) _ _ _); k_dflt (refine' indent ?hA ?hu ?G ?W ?h1 ?h2 ?_; (case hA => ktr_room); (case hu => ktr_units); (case G => exact Gd.up (by assumption) (Fr.keep (by k_asm))); (case W => exact WS.up (by assumption) (Fr.keep (by k_asm))); (case h1 => omega); (case h2 => omega); k_whole); intro t9 h9 tk9 hk9; (with_reducible rename Fr _ _ _ _ => F8); (with_reducible rename News _ _ _ _ => N8); (have F9 := frUp F8 hk9); (have N9 := newsUp N8 hk9); (try dsimp only)))
  (k_with "ktr_rel" => with_reducible (first | show wpAny _ _ (eval (Expr.ListComp _ _ _ _) _) _ _ _ | show wpAny _ _ (exec (Stmt.Assign [_] (Expr.ListComp _ _ _ _) _) _) _ _ _ | show wpAny _ _ (call (Value.builtin "str.join") _) _ _ _))
  (k_with "eval Name" => (k_here; (with_reducible show wpAny _ _ (eval (Expr.Name _ _) (compEnvC _ _ _ _)) _ _ _); k_dflt (first
  | (refine' cn_loc ?k1 ?k2 ?_ ?k3 ?k4 ?k5; (case k3 => rfl); (case k4 => rfl); (case k5 => decide); (case k1 => k_asm); (case k2 => exact rfl); k_whole)
  | (refine' cn_cell ?k1 ?k2 ?k3 ?_ ?k4 ?k5 ?k6; (case k4 => rfl); (case k5 => rfl); (case k6 => decide); (case k1 => k_asm); (case k2 => rfl); (case k3 => assumption); k_whole)
  | (refine' cn_glob ?k1 ?k2 ?k3 ?k4 ?_ ?k5 ?k6 ?k7 ?k8; (case k5 => rfl); (case k6 => rfl); (case k7 => rfl); (case k8 => decide); (case k1 => k_asm); (case k2 => k_asm); (case k3 => k_asm); (case k4 => k_is); k_whole)
  | (refine' cn_bi ?k1 ?k2 ?k3 ?k4 ?k5 ?k6 ?_ ?k7 ?k8 ?k9 ?k10 ?k11; (case k7 => rfl); (case k8 => rfl); (case k9 => rfl); (case k10 => rfl); (case k11 => decide); (case k1 => k_asm); (case k2 => k_asm); (case k3 => k_asm); (case k4 => k_is); (case k5 => boot_by_name); (case k6 => decide); k_whole))))
  (k_with "storeName" => (k_here; (with_reducible show wpAny _ _ (storeName (compEnvC _ _ _ _) _ _) _ _ _); k_dflt (refine' cn_store ?k1 ?k2 ?_ ?k3 ?k4; (case k3 => rfl); (case k4 => rfl); (case k1 => k_asm); (case k2 => k_asm); k_whole); intro h' F' N'; (try dsimp only)))
  (k_with "binaryOp Mult str int" => (k_here; (with_reducible show wpAny _ _ (binaryOp Operator.Mult (Value.str (Str.ofString " ") _) (Value.int _ _)) _ _ _); k_dflt (refine' mul_sp ?k1 ?k2 ?_; (case k1 => omega); (case k2 => omega); k_whole); intro t9 k9; (try dsimp only)))
  trivial
section
-- .. nor past an addition of texts
example : True := by
  (k_with "ktr_rel" => with_reducible (first | show wpAny _ _ (binaryOp Operator.Add (Value.str _ _) (Value.str _ _)) _ _ _))
  trivial
theorem termC {w : World} {dp un : Nat} {fr : Option (List Env)} {gd : Option (List Code)} {s : Shared} {mg mb : Str → Option Value} {Q : Value → Shared → Prop} {E : Value → Shared → Prop} {k : Int} {tk : Tok}
    (hA : dp + 40 < recursionLimit) (hu : un + 200 < cLine) (G : Gd w mg mb s.heap) (hQ : ∀ h' tk, Up s.heap h' → Q (.bool (decide (k < 256))) { s with heap := h', toks := tk }) :
    wpAny (model PG w) (Aof dp un fr gd) (call (.ref 138) [.int k tk]) Q E s := by
  have X := G.k
  have T := G.t
  refine wpAny_call ?_
  refine' enter (binds := [(Str.ofString "x", .int k tk)]) X T ?k6 ?k7 ?k8 ?k9 ?kB ?_ ?c5 ?c2 ?c3 ?c4
  case k6 => k_is
  case k7 => k_is
  case k8 => (show dp < _; omega)
  case k9 => exact BindsTo.of_eq rfl
  case kB => exact locs rfl
  case c5 => decide
  case c2 => exact rfl
  case c3 => exact rfl
  case c4 => exact rfl
  intro L h₁ F N
  (try dsimp only)
  (try k_fold)
  ktr_unf
  exact hQ _ _ F.keep

noncomputable def leadS (rs : List Int) (la : Int) : Str := Txt.join (Str.ofString "") (rs.map fun z => sp z ++ Str.ofString "\t") ++ sp la
theorem lead_sum : ∀ (rs : List Int), (∀ z ∈ rs, 0 ≤ z ∧ z ≤ 100) → ((rs.map fun z => sp z ++ Str.ofString "\t").map (·.length)).sum ≤ 101 * rs.length
  | [], _ => by simp
  | z :: rs, h => by
    have h1 := lead_sum rs fun k hk => h k (List.mem_cons_of_mem _ hk)
    have h2 := h z (List.mem_cons_self ..)
    have h3 : (Str.ofString "\t").length = 1 := by decide +kernel
    simp only [List.map_cons, List.sum_cons, List.length_cons, Str.length_append, sp_len, h3]
    omega
theorem leadC {w : World} {dp un : Nat} {fr : Option (List Env)} {gd : Option (List Code)} {s : Shared} {mg mb : Str → Option Value} {Q : Value → Shared → Prop} {E : Value → Shared → Prop} {r : Addr} {vs : List Value} {rs : List Int} {la : Int} {tl : Tok}
    (hA : dp + 40 < recursionLimit) (hu : un + 200 < cLine) (G : Gd w mg mb s.heap) (hl : s.heap.IsList r vs.toArray) (hv : IntsAre vs rs) (hn : rs.length ≤ 20) (hr : ∀ z ∈ rs, 0 ≤ z ∧ z ≤ 100) (h1 : 0 ≤ la) (h2 : la ≤ 100)
    (hQ : ∀ t h' tk, Up s.heap h' → Q (.str (leadS rs la) t) { s with heap := h', toks := tk }) :
    wpAny (model PG w) (Aof dp un fr gd) (call (.ref 167) [.ref r, .int la tl]) Q E s := by
  have X := G.k
  have T := G.t
  refine wpAny_call ?_
  refine' enter (binds := [(Str.ofString "runs", .ref r), (Str.ofString "last", .int la tl)]) X T ?k6 ?k7 ?k8 ?k9 ?kB ?_ ?c5 ?c2 ?c3 ?c4
  case k6 => k_is
  case k7 => k_is
  case k8 => (show dp < _; omega)
  case k9 => exact BindsTo.of_eq rfl
  case kB => exact locs rfl
  case c5 => decide
  case c2 => exact rfl
  case c3 => exact rfl
  case c4 => exact rfl
  intro L h₁ F N
  (try dsimp only)
  (try k_fold)
  ktr_unf
  refine comp_eval (cl := []) (closureFor_none (by decide)) rfl (by decide) ?_
  ktr_unf
  have hl1 := stays_list F.keep hl
  refine comp_front (B := h₁) (fun _ : Unit => []) (fun i _ ys => ys.length = i ∧ StrsAre ys ((rs.take i).map fun z => sp z ++ Str.ofString "\t")) (fun s' => s'.gens = s.gens ∧ s'.drawn = s.drawn ∧ s'.os = s.os) () (src_list rfl hl1 (fun _ _ e => e)) (by decide) rfl (fun _ _ e => e) (Nat.le_refl _) (by intro p hp; cases hp) (fun _ _ _ z => z) ⟨rfl, rfl, rfl⟩ ⟨rfl, StrsAre.nil⟩ (fun i c ys h => Nat.le_of_eq h.1) ?_ ?_ ?_
  · have := hv.length
    rw [List.size_toArray]
    omega
  · intro C D I c i v ys u oI nn s₃ E' cC cD cI hi hv' hP hz hap F₃ N₃
    have X₃ := X.keeps F.keep
    have T₃ := T.keeps F.keep
    clear F N X T
    obtain ⟨h3, g3, d3, tk3, os3⟩ := s₃
    dsimp only at F₃ N₃
    obtain ⟨z, tz, rfl, hzi⟩ := intsGet hv (by simpa using hv')
    obtain ⟨hz0, hz1⟩ := hr z (List.mem_of_getElem? hzi)
    ktr_unf
    have h3 : (Str.ofString "\t").length = 1 := by decide +kernel
    refine PyProof.Rows.add_str (fun t9 tk9 => ?_) (hsz := ?hs1)
    case hs1 => (rw [sp_len, h3]; simp [sizeLine]; omega)
    (with_reducible rename Fr _ _ _ _ => F9)
    (with_reducible rename News _ _ _ _ => N9)
    refine ⟨(), _, F9, N9, (fun p hp => nomatch hp), hz, ?_⟩
    refine ⟨by rw [List.length_append, hP.1]; rfl, ?_⟩
    rw [takeSnoc hzi, List.map_append]
    exact strsSnoc hP.2
  · intro C D c ys nn u s' cC cD hP hz F₄ N₄ hap
    refine fin_eval F₄ N₄ ?_
    intro h5 hk5 hn5
    obtain ⟨h4, g4, d4, tk4, os4⟩ := s'
    obtain ⟨z1, z2, z3⟩ := hz
    dsimp only at z1 z2 z3 F₄ N₄ ⊢
    subst z1 z2 z3
    have hD := (hn5 _ (.head _)).1
    have F5 := frUp F hk5
    have N5 : News s.heap L h5 [(D, listOf ys.toArray nn)] := by
      intro p hp
      rw [List.mem_singleton.mp hp]
      refine ⟨hD, ?_, ?_⟩
      · rintro rfl
        obtain ⟨o, _, _, ho, _⟩ := F.ns
        rw [cD] at ho; cases ho
      · cases q : s.heap.get? D with
        | none => rfl
        | some o => have := F.keep _ _ q; rw [cD] at this; cases this
    have hSum : ys.length ≤ 20 ∧ StrsAre ys (rs.map fun z => sp z ++ Str.ofString "\t") := by
      obtain ⟨q1, q2⟩ := hP
      rw [List.size_toArray, hv.length] at q1 q2
      rw [List.take_of_length_le (Nat.le_refl _)] at q2
      exact ⟨by omega, q2⟩
    clear F N F₄ N₄
    ktr_unf
    have hj := lead_sum rs hr
    have hj2 := StrLaws.join_length_le (Str.ofString "") (rs.map fun z => sp z ++ Str.ofString "\t")
    have hj3 : (Str.ofString "").length = 0 := by decide +kernel
    rw [hj3] at hj2
    refine join_list (ys := rs.map fun z => sp z ++ Str.ofString "\t") ⟨_, hD, rfl, nn, rfl⟩ (by simpa using hSum.2) (by rw [hj3]; omega) ?_
    intro t9 k9
    (try dsimp only)
    ktr_unf
    refine PyProof.Rows.add_str (fun t9 tk9 => ?_) (hsz := ?hs2)
    case hs2 =>
      rw [sp_len, show Txt.join (Str.ofString "") (rs.map fun z => sp z ++ Str.ofString "\t") = Str.join (Str.ofString "") (rs.map fun z => sp z ++ Str.ofString "\t") from StrLaws.glued_eq_join _ _]
      simp only [sizeLine]
      omega
    (try dsimp only)
    exact hQ _ _ _ F5.keep

end
example : True := by
  k_with_none
  (k_with "ktr_rel" => with_reducible (first | show wpAny _ _ (pyIter _) _ _ _ | show wpAny _ _ (call (Value.builtin "list.append") _) _ _ _ | show wpAny _ _ (setItem _ _ _) _ _ _))
  (k_with "ktr_unf" => repeat' (first | (k_unfold; (try dsimp only)) | ((fail_if_success ktr_rel); (first | walk1 | (dsimp only; walk1) | (leave1; (try dsimp only))))))
  (k_with "execs cons Assign cons" => with_reducible refine wpAny_execs_cons ?_)
  (k_with "kun_tup" => exact IsTup.keeps (by assumption) (Fr.keep (by k_asm)))
  (k_with "k_inst" => exact InstAt.keepsH (by assumption) (Fr.keep (by k_asm)))
  (k_with "call builtin:len" => (k_here; (with_reducible show wpAny _ _ (call (Value.builtin "len") [Value.ref _]) _ _ _); k_dflt (refine' PyProof.Rows.len_tuple ?k1 ?k2 ?_; (case k1 => kun_tup); (case k2 => first | assumption | decide); k_whole)))
  (k_with "call builtin:len" => (k_here; (with_reducible show wpAny _ _ (call (Value.builtin "len") [Value.ref _]) _ _ _); k_dflt (refine' PyProof.Rows.len_list ?k1 ?k2 ?_; (case k1 => exact stays_list (Fr.keep (by k_asm)) (by assumption)); (case k2 => first | assumption | decide); k_whole)))
  (k_with "subscriptTail" => (k_here; (with_reducible show wpAny _ _ (subscriptTail _ _ (Value.ref _) (Value.int _ _)) _ _ _); k_dflt (refine' item_tuple_ints ?t ?i ?a ?b ?c ?_; (case t => kun_tup); (case i => assumption); (case a => omega); (case b => omega); (case c => omega); k_whole); intro t9))
  (k_with "call ref" => (k_here; (show wpAny _ _ (call (Value.ref 79) [Value.ref _]) _ _ _); k_dflt (refine' longest ?hA ?hu ?G ?W ?_; (case hA => ktr_room); (case hu => ktr_units); (case G => exact Gd.up (by assumption) (Fr.keep (by k_asm))); (case W => exact WS.up (by assumption) (Fr.keep (by k_asm))); k_whole); intro t9 h9 tk9 hk9; (with_reducible rename Fr _ _ _ _ => F8); (with_reducible rename News _ _ _ _ => N8); (have F9 := frUp F8 hk9); (have N9 := newsUp N8 hk9); (try dsimp only)))
  (k_with "call ref" => (k_here; (show wpAny _ _ (call (Value.ref 86) [Value.ref _, Value.int _ _]) _ _ _); k_dflt (refine' indent ?hA ?hu ?G ?W ?h1 ?h2 ?_; (case hA => ktr_room); (case hu => ktr_units); (case G => exact Gd.up (by assumption) (Fr.keep (by k_asm))); (case W => exact WS.up (by assumption) (Fr.keep (by k_asm))); (case h1 => omega); (case h2 => omega); k_whole); intro t9 h9 tk9 hk9; (with_reducible rename Fr _ _ _ _ => F8); (with_reducible rename News _ _ _ _ => N8); (have F9 := frUp F8 hk9); (have N9 := newsUp N8 hk9); (try dsimp only)))
  (k_with "ktr_rel" => with_reducible (first | show wpAny _ _ (eval (Expr.ListComp _ _ _ _) _) _ _ _ | show wpAny _ _ (exec (Stmt.Assign [_] (Expr.ListComp _ _ _ _) _) _) _ _ _ | show wpAny _ _ (call (Value.builtin "str.join") _) _ _ _))
  (k_with "eval Name" => (k_here; (with_reducible show wpAny _ _ (eval (Expr.Name _ _) (compEnvC _ _ _ _)) _ _ _); k_dflt (first
  | (refine' cn_loc ?k1 ?k2 ?_ ?k3 ?k4 ?k5; (case k3 => rfl); (case k4 => rfl); (case k5 => decide); (case k1 => k_asm); (case k2 => exact rfl); k_whole)
  | (refine' cn_cell ?k1 ?k2 ?k3 ?_ ?k4 ?k5 ?k6; (case k4 => rfl); (case k5 => rfl); (case k6 => decide); (case k1 => k_asm); (case k2 => rfl); (case k3 => assumption); k_whole)
  | (refine' cn_glob ?k1 ?k2 ?k3 ?k4 ?_ ?k5 ?k6 ?k7 ?k8; (case k5 => rfl); (case k6 => rfl); (case k7 => rfl); (case k8 => decide); (case k1 => k_asm); (case k2 => k_asm); (case k3 => k_asm); (case k4 => k_is); k_whole)
  | (refine' cn_bi ?k1 ?k2 ?k3 ?k4 ?k5 ?k6 ?_ ?k7 ?k8 ?k9 ?k10 ?k11; (case k7 => rfl); (case k8 => rfl); (case k9 => rfl); (case k10 => rfl); (case k11 => decide); (case k1 => k_asm); (case k2 => k_asm); (case k3 => k_asm); (case k4 => k_is); (case k5 => boot_by_name); (case k6 => decide); k_whole))))
  (k_with "storeName" => (k_here; (with_reducible show wpAny _ _ (storeName (compEnvC _ _ _ _) _ _) _ _ _); k_dflt (refine' cn_store ?k1 ?k2 ?_ ?k3 ?k4; (case k3 => rfl); (case k4 => rfl); (case k1 => k_asm); (case k2 => k_asm); k_whole); intro h' F' N'; (try dsimp only)))
  (k_with "binaryOp Mult str int" => (k_here; (with_reducible show wpAny _ _ (binaryOp Operator.Mult (Value.str (Str.ofString " ") _) (Value.int _ _)) _ _ _); k_dflt (refine' mul_sp ?k1 ?k2 ?_; (case k1 => omega); (case k2 => omega); k_whole); intro t9 k9; (try dsimp only)))
  trivial
section
theorem dueC {w : World} {dp un : Nat} {fr : Option (List Env)} {gd : Option (List Code)} {s : Shared} {mg mb : Str → Option Value} {Q : Value → Shared → Prop} {E : Value → Shared → Prop} {r : Addr} {vs : List Value} {rs : List Int} {pl : Int} {tp tl : Tok} {ln : Str}
    (hA : dp + 40 < recursionLimit) (hu : un + 200 < cLine) (G : Gd w mg mb s.heap) (hl : s.heap.IsList r vs.toArray) (hv : IntsAre vs rs) (hn : rs.length ≤ 200) (hr : ∀ z ∈ rs, 0 ≤ z ∧ z ≤ 1000)
    (hQ : ∀ a zs t2 h' tk, Up s.heap h' → h'.get? a = some (tupObj zs) → s.heap.get? a = none → zs = (if rs = [] then [] else [.int pl tp, .str (fmtS rs) t2, .str ln tl]) → Q (.ref a) { s with heap := h', toks := tk }) :
    wpAny (model PG w) (Aof dp un fr gd) (call (.ref 172) [.ref r, .int pl tp, .str ln tl]) Q E s := by
  have X := G.k
  have T := G.t
  refine wpAny_call ?_
  refine' enter (binds := [(Str.ofString "sizes", .ref r), (Str.ofString "place", .int pl tp), (Str.ofString "line", .str ln tl)]) X T ?k6 ?k7 ?k8 ?k9 ?kB ?_ ?c5 ?c2 ?c3 ?c4
  case k6 => k_is
  case k7 => k_is
  case k8 => (show dp < _; omega)
  case k9 => exact BindsTo.of_eq rfl
  case kB => exact locs rfl
  case c5 => decide
  case c2 => exact rfl
  case c3 => exact rfl
  case c4 => exact rfl
  intro L h₁ F N
  (try dsimp only)
  (try k_fold)
  ktr_unf
  · (with_reducible rename Fr _ _ _ _ => Fz)
    (with_reducible rename News _ _ _ _ => Nz)
    have nD := Nz _ (.head _)
    refine hQ _ [] tp _ _ Fz.keep nD.1 nD.2.2 ?_
    rw [if_pos (of_decide_eq_true (by assumption))]
  all_goals (
    (with_reducible rename Fr _ _ _ _ => Fz)
    (with_reducible rename News _ _ _ _ => Nz)
    (with_reducible rename decide (rs = []) = false => hne)
    have hne' : rs ≠ [] := of_decide_eq_false hne
    refine comp_eval (cl := []) (closureFor_none (by decide)) rfl (by decide) ?_
    ktr_unf
    have X₃ := X.keeps Fz.keep
    have T₃ := T.keeps Fz.keep
    refine comp_simple (fun i ys => ys.length = i ∧ StrsAre ys ((rs.take i).map txt)) (src_list rfl (stays_list Fz.keep hl) (fun _ _ e => e)) (by decide) rfl ⟨rfl, .nil⟩ (fun i ys h => Nat.le_of_eq h.1) ?_ ?_ ?_
    · have := hv.length
      rw [List.size_toArray]
      omega
    · intro C D I i v ys u oI nn h₃ tk₃ E' hi hv' hP F₃ N₃
      clear Fz Nz X T
      obtain ⟨z, tz, rfl, hzi⟩ := intsGet hv (by simpa using hv')
      obtain ⟨hz0, hz1⟩ := hr z (List.mem_of_getElem? hzi)
      ktr_unf
      (with_reducible rename Fr _ _ _ _ => F9)
      (with_reducible rename News _ _ _ _ => N9)
      refine ce_end (by exact F9) (by exact N9) ⟨by rw [List.length_append, hP.1]; rfl, ?_⟩
      rw [takeSnoc hzi, List.map_append]
      exact strsSnoc hP.2
    · intro D ys nn h5 tk5 hP hk5 hD hDn
      have F5 := frUp Fz hk5
      have N5 := newsAdd Fz Nz hk5 hD hDn
      obtain ⟨q1, q2⟩ := hP
      rw [List.size_toArray, hv.length] at q1 q2
      rw [List.take_of_length_le (Nat.le_refl _)] at q2
      clear Fz Nz
      (try dsimp only)
      ktr_unf
      have hj := txts_sum rs hr
      have hj3 : (Str.ofString ", ").length = 2 := by decide +kernel
      have hj4 := join_len hr hn
      refine join_list (ys := rs.map txt) ⟨_, hD, rfl, nn, rfl⟩ (by simpa using q2) (by rw [hj3, List.length_map]; omega) ?_
      intro t9 k9
      (try dsimp only)
      ktr_unf
      (with_reducible rename Fr _ _ _ _ => F7)
      (with_reducible rename News _ _ _ _ => N7)
      have nD := N7 _ (.head _)
      have fin : ∀ (v : Str) a t2 h' tk, fmtS rs = v → Up s.heap h' → h'.get? a = some (tupObj [.int pl tp, .str v t2, .str ln tl]) → s.heap.get? a = none → Q (.ref a) { s with heap := h', toks := tk } := by
        intro v a t2 h' tk e h1 h2 h3
        refine hQ a _ t2 h' tk h1 h2 h3 ?_
        rw [if_neg hne', e]
      refine fin _ _ _ _ _ ?_ F7.keep nD.1 nD.2.2
      unfold fmtS
      first
        | (rw [if_pos (by omega), show Str.ofString "at tab sizes" ++ Str.ofString " " = Str.ofString "at tab sizes " from by decide +kernel])
        | (rw [if_neg (by omega), show Str.ofString "at tab size" ++ Str.ofString " " = Str.ofString "at tab size " from by decide +kernel]))

end
section
/-- a text's signs, one of them turned into several -/
noncomputable def repl (c : Nat) (z : List Nat) : List Nat → List Nat
  | [] => []
  | k :: r => if k = c then z ++ repl c z r else k :: repl c z r
theorem repl_append (c : Nat) (z : List Nat) : ∀ a b : List Nat, repl c z (a ++ b) = repl c z a ++ repl c z b
  | [], _ => rfl
  | k :: r, b => by
    have ih := repl_append c z r b
    by_cases h : k = c
    · simp [repl, h, ih]
    · simp [repl, h, ih]
theorem repl_free (c : Nat) (z : List Nat) : ∀ l : List Nat, c ∉ l → repl c z l = l
  | [], _ => rfl
  | k :: r, h => by
    have h1 : ¬ k = c := fun e => h (e ▸ List.mem_cons_self ..)
    have h2 : c ∉ r := fun m => h (List.mem_cons_of_mem _ m)
    unfold repl
    rw [if_neg h1, repl_free c z r h2]
theorem repl_join (c : Nat) (z : Str) : ∀ parts : List Str, (∀ p ∈ parts, c ∉ p.cps.toList) → repl c z.cps.toList (Str.join ⟨#[c]⟩ parts).cps.toList = (Str.join z parts).cps.toList
  | [], _ => rfl
  | [p], h => repl_free c _ _ (h p (List.mem_singleton.mpr rfl))
  | p :: q :: r, h => by
    have ih := repl_join c z (q :: r) fun a ha => h a (List.mem_cons_of_mem _ ha)
    show repl c z.cps.toList (p ++ ⟨#[c]⟩ ++ Str.join ⟨#[c]⟩ (q :: r)).cps.toList = (p ++ z ++ Str.join z (q :: r)).cps.toList
    simp only [Str.cps_append, Array.toList_append]
    rw [repl_append, repl_append, ih, repl_free c _ _ (h p (List.mem_cons_self ..))]
    show p.cps.toList ++ repl c z.cps.toList [c] ++ _ = _
    simp [repl]
theorem replace_repl (x z : Str) (c : Nat) : (Txt.replace x ⟨#[c]⟩ z).cps.toList = repl c z.cps.toList x.cps.toList := by
  rw [StrLaws.replace_one, ← repl_join c z _ (StrLaws.split_free x c), StrLaws.join_split]

/-- the words of a text, sign by sign -/
noncomputable def wgo : Option (List Nat) → List Nat → List (List Nat)
  | none, [] => []
  | some w, [] => [w]
  | none, c :: r => if Unicode.isSpace c then wgo none r else wgo (some [c]) r
  | some w, c :: r => if Unicode.isSpace c then w :: wgo none r else wgo (some (w ++ [c])) r
open Builtin Builtin.Str in
theorem sw_wgo (x : Str) : ∀ (m i : Nat) (ws : Array (Nat × Nat)) (b : Option Nat), i + m = x.cps.size → ws.size ≤ i → (∀ b', b = some b' → b' < i) →
    (StrLaws.swEnd x (forIn (List.range' i m) ((none, ws, b) : StrLaws.SwSt) (StrLaws.swBody x (x.length + 1))).run).map (fun p : Nat × Nat => (strSub x p.1 p.2).cps.toList)
      = ws.toList.map (fun p : Nat × Nat => (strSub x p.1 p.2).cps.toList) ++ wgo (b.map fun b' => (x.cps.toList.take i).drop b') (x.cps.toList.drop i)
  | 0, i, ws, b, hi, hw, hb => by
    have hi' : i = x.cps.size := by omega
    subst hi'
    rw [List.drop_of_length_le (by simp)]
    cases b with
    | none =>
      show List.map _ ws.toList = List.map _ ws.toList ++ []
      rw [List.append_nil]
    | some b' =>
      simp only [StrLaws.swEnd, List.range'_zero, List.forIn_nil, Id.run, pure, Option.map_some, wgo, Array.toList_push, List.map_append, List.map_cons, List.map_nil]
      congr 2
      simp [strSub, Str.length, List.take_of_length_le]
  | m + 1, i, ws, b, hi, hw, hb => by
    have hlt : i < x.cps.size := by omega
    have hlt' : i < x.cps.toList.length := by simpa using hlt
    have hsz : (ws.size == x.length + 1) = false := by
      have : x.length = x.cps.size := rfl
      exact beq_false_of_ne (by omega)
    have hd : x.cps.toList.drop i = x.cps[i] :: x.cps.toList.drop (i + 1) := by rw [List.drop_eq_getElem_cons hlt']; simp
    have hg : x.cps.getD i 0 = x.cps[i] := by simp [Array.getD, hlt]
    have ht : x.cps.toList.take (i + 1) = x.cps.toList.take i ++ [x.cps[i]] := by rw [List.take_add_one, List.getElem?_eq_getElem hlt']; simp
    rw [List.range'_succ, List.forIn_cons]
    unfold StrLaws.swBody
    dsimp only
    rw [hsz, if_neg Bool.false_ne_true, hg, hd]
    cases b with
    | none =>
      cases hs : Unicode.isSpace x.cps[i] with
      | true =>
        have ih := sw_wgo x m (i + 1) ws none (by omega) (by omega) (by intro b' e; cases e)
        simp only [Option.map_none, wgo, hs, if_true]
        exact ih
      | false =>
        have ih := sw_wgo x m (i + 1) ws (some i) (by omega) (by omega) (by intro b' e; cases e; omega)
        simp only [Option.map_none, wgo, hs, Bool.false_eq_true, if_false]
        rw [Option.map_some, ht, List.drop_append_of_le_length (by simp; omega), List.drop_of_length_le (by simp; omega), List.nil_append] at ih
        exact ih
    | some b' =>
      have hb' := hb b' rfl
      cases hs : Unicode.isSpace x.cps[i] with
      | true =>
        have ih := sw_wgo x m (i + 1) (ws.push (b', i)) none (by omega) (by simp; omega) (by intro b' e; cases e)
        simp only [Option.map_some, wgo, hs, if_true]
        rw [Array.toList_push, List.map_append, List.append_assoc] at ih
        refine ih.trans ?_
        congr 1
        simp [strSub, List.drop_take]
      | false =>
        have ih := sw_wgo x m (i + 1) ws (some b') (by omega) (by omega) (by intro b'' e; cases e; omega)
        simp only [Option.map_some, wgo, hs, Bool.false_eq_true, if_false]
        rw [Option.map_some, ht, List.drop_append_of_le_length (by simp; omega)] at ih
        exact ih
open Builtin Builtin.Str in
theorem words_wgo (x : Str) : (Txt.words x).map (fun y => y.cps.toList) = wgo none x.cps.toList := by
  have h := sw_wgo x x.cps.size 0 #[] none (by omega) (by simp) (by intro b e; cases e)
  have e2 : (PySem.wordsOf x).map (fun y => y.cps.toList) = wgo none x.cps.toList := by
    unfold PySem.wordsOf
    rw [List.map_map, StrLaws.sw_eq]
    simp only [List.map_nil, List.nil_append, Option.map_none, List.drop_zero] at h
    exact h
  unfold Txt.words
  split
  · rename_i hc
    rw [← e2]
    unfold PySem.wordsOf
    rw [beq_iff_eq.mp hc]
    simp [StrLaws.sub_whole]
  · exact e2
theorem words_is {x : Str} {ps : List Str} (h : wgo none x.cps.toList = ps.map fun y => y.cps.toList) : Txt.words x = ps := by
  have h2 := (words_wgo x).trans h
  have inj : ∀ a b : Str, a.cps.toList = b.cps.toList → a = b := by
    intro a b e
    cases a; cases b
    congr
    exact Array.toList_inj.mp e
  exact List.map_inj_right inj |>.mp h2
theorem repl_len (c : Nat) (z : List Nat) (hz : 1 ≤ z.length) : ∀ l : List Nat, (repl c z l).length ≤ z.length * l.length
  | [] => by simp [repl]
  | k :: r => by
    have ih := repl_len c z hz r
    unfold repl
    split
    · rw [List.length_append, List.length_cons, Nat.mul_succ]; omega
    · rw [List.length_cons, List.length_cons, Nat.mul_succ]; omega
theorem replace_len (x : Str) : (Txt.replace x (Str.ofString ",") (Str.ofString " , ")).length ≤ 3 * x.length := by
  have e1 : Str.ofString "," = ⟨#[44]⟩ := by decide +kernel
  have e2 : (Str.ofString " , ").cps.toList.length = 3 := by decide +kernel
  have h := repl_len 44 (Str.ofString " , ").cps.toList (by omega) x.cps.toList
  rw [← replace_repl, e2, ← e1] at h
  simpa [Str.length] using h
theorem strsAt : ∀ {l : List (Str × Tok)} {i : Nat} {v : Value}, (strValues l)[i]? = some v → ∃ p t, v = .str p t ∧ l[i]? = some (p, t) := by
  intro l i v h
  unfold strValues at h
  rw [List.getElem?_map] at h
  obtain ⟨q, h1, h2⟩ := Option.map_eq_some_iff.mp h
  exact ⟨q.1, q.2, h2.symm, h1⟩

end
example : True := by
  k_with_none
  (k_with "ktr_rel" => with_reducible (first | show wpAny _ _ (pyIter _) _ _ _ | show wpAny _ _ (call (Value.builtin "list.append") _) _ _ _ | show wpAny _ _ (setItem _ _ _) _ _ _))
  (k_with "ktr_unf" => repeat' (first | (k_unfold; (try dsimp only)) | ((fail_if_success ktr_rel); (first | walk1 | (dsimp only; walk1) | (leave1; (try dsimp only))))))
  (k_with "execs cons Assign cons" => with_reducible refine wpAny_execs_cons ?_)
  (k_with "kun_tup" => exact IsTup.keeps (by assumption) (Fr.keep (by k_asm)))
  (k_with "k_inst" => exact InstAt.keepsH (by assumption) (Fr.keep (by k_asm)))
  (k_with "call builtin:len" => (k_here; (with_reducible show wpAny _ _ (call (Value.builtin "len") [Value.ref _]) _ _ _); k_dflt (refine' PyProof.Rows.len_tuple ?k1 ?k2 ?_; (case k1 => kun_tup); (case k2 => first | assumption | decide); k_whole)))
  (k_with "call builtin:len" => (k_here; (with_reducible show wpAny _ _ (call (Value.builtin "len") [Value.ref _]) _ _ _); k_dflt (refine' PyProof.Rows.len_list ?k1 ?k2 ?_; (case k1 => exact stays_list (Fr.keep (by k_asm)) (by assumption)); (case k2 => first | assumption | decide); k_whole)))
  (k_with "subscriptTail" => (k_here; (with_reducible show wpAny _ _ (subscriptTail _ _ (Value.ref _) (Value.int _ _)) _ _ _); k_dflt (refine' item_tuple_ints ?t ?i ?a ?b ?c ?_; (case t => kun_tup); (case i => assumption); (case a => omega); (case b => omega); (case c => omega); k_whole); intro t9))
  (k_with "call ref" => (k_here; (show wpAny _ _ (call (Value.ref 79) [Value.ref _]) _ _ _); k_dflt (refine' longest ?hA ?hu ?G ?W ?_; (case hA => ktr_room); (case hu => ktr_units); (case G => exact Gd.up (by assumption) (Fr.keep (by k_asm))); (case W => exact WS.up (by assumption) (Fr.keep (by k_asm))); k_whole); intro t9 h9 tk9 hk9; (with_reducible rename Fr _ _ _ _ => F8); (with_reducible rename News _ _ _ _ => N8); (have F9 := frUp F8 hk9); (have N9 := newsUp N8 hk9); (try dsimp only)))
  (k_with "call ref" => (k_here; (show wpAny _ _ (call (Value.ref 86) [Value.ref _, Value.int _ _]) _ _ _); k_dflt (refine' indent ?hA ?hu ?G ?W ?h1 ?h2 ?_; (case hA => ktr_room); (case hu => ktr_units); (case G => exact Gd.up (by assumption) (Fr.keep (by k_asm))); (case W => exact WS.up (by assumption) (Fr.keep (by k_asm))); (case h1 => omega); (case h2 => omega); k_whole); intro t9 h9 tk9 hk9; (with_reducible rename Fr _ _ _ _ => F8); (with_reducible rename News _ _ _ _ => N8); (have F9 := frUp F8 hk9); (have N9 := newsUp N8 hk9); (try dsimp only)))
  trivial
section
noncomputable def upto (n : Nat) : List Int := (List.range n).map fun i : Nat => (1 : Int) + i
/-- all the lists of sizes that are ever named -/
noncomputable def allL : List (List Int) := [[1, 3], [1, 2, 4], [1, 2, 4, 5]] ++ (List.range 24).map fun n => upto (n + 1)
noncomputable def piecesT : List Int → List (Int × Str)
  | [] => []
  | n :: r => (12, Str.ofString ",") :: (2, txt n) :: piecesT r
/-- the tokens of a nag's words: each with its kind -/
noncomputable def pieces (l : List Int) : List (Int × Str) := [(1, Str.ofString "at"), (1, Str.ofString "tab"), (1, if 1 < l.length then Str.ofString "sizes" else Str.ofString "size")] ++ (piecesT l).tail
/-- the same, sign by sign -/
noncomputable def txtL (n : Int) : List Nat := if n < 10 then [48 + n.toNat] else [48 + n.toNat / 10, 48 + n.toNat % 10]
theorem txt_all : ((List.range 24).all fun i => decide ((txt (1 + (i : Int))).cps.toList = txtL (1 + i))) = true := by decide +kernel
theorem txt_list {n : Int} (h0 : 1 ≤ n) (h1 : n ≤ 24) : (txt n).cps.toList = txtL n := by
  have h := of_decide_eq_true (List.all_eq_true.mp txt_all (n - 1).toNat (List.mem_range.mpr (by omega)))
  rw [show (1 : Int) + ((n - 1).toNat : Int) = n by omega] at h
  exact h
noncomputable def interL (s : List Nat) : List (List Nat) → List Nat
  | [] => []
  | [x] => x
  | x :: y :: r => x ++ s ++ interL s (y :: r)
theorem join_list_cps (sep : Str) : ∀ ps : List Str, (Str.join sep ps).cps.toList = interL sep.cps.toList (ps.map fun p => p.cps.toList)
  | [] => rfl
  | [p] => rfl
  | p :: q :: r => by
    have ih := join_list_cps sep (q :: r)
    show (p ++ sep ++ Str.join sep (q :: r)).cps.toList = _
    simp only [Str.cps_append, Array.toList_append]
    rw [ih]
    rfl
noncomputable def headL (m : Bool) : List Nat := bif m then [97, 116, 32, 116, 97, 98, 32, 115, 105, 122, 101, 115, 32] else [97, 116, 32, 116, 97, 98, 32, 115, 105, 122, 101, 32]
noncomputable def fmtL (l : List Int) : List Nat := headL (decide (1 < l.length)) ++ interL [44, 32] (l.map txtL)
theorem fmtS_list {l : List Int} (h : ∀ n ∈ l, 1 ≤ n ∧ n ≤ 24) : (fmtS l).cps.toList = fmtL l := by
  have e1 : (Str.ofString "at tab sizes" ++ Str.ofString " ").cps.toList = headL true := by decide +kernel
  have e2 : (Str.ofString "at tab size" ++ Str.ofString " ").cps.toList = headL false := by decide +kernel
  have e3 : (Str.ofString ", ").cps.toList = [44, 32] := by decide +kernel
  have e4 : (l.map txt).map (fun p => p.cps.toList) = l.map txtL := by
    rw [List.map_map]
    exact List.map_congr_left fun n hn => txt_list (h n hn).1 (h n hn).2
  unfold fmtS fmtL
  rw [show Txt.join (Str.ofString ", ") (l.map txt) = Str.join (Str.ofString ", ") (l.map txt) from StrLaws.glued_eq_join _ _, Str.cps_append, Array.toList_append, join_list_cps, e3, e4]
  congr 1
  split
  · next hl => rw [e1, decide_eq_true hl]
  · next hl => rw [e2, decide_eq_false hl]
noncomputable def piecesTL : List Int → List (List Nat)
  | [] => []
  | n :: r => [44] :: txtL n :: piecesTL r
noncomputable def piecesL (l : List Int) : List (List Nat) := [[97, 116], [116, 97, 98], if 1 < l.length then [115, 105, 122, 101, 115] else [115, 105, 122, 101]] ++ (piecesTL l).tail
theorem piecesTL_is : ∀ {l : List Int}, (∀ n ∈ l, 1 ≤ n ∧ n ≤ 24) → (piecesT l).map (fun y => y.2.cps.toList) = piecesTL l
  | [], _ => rfl
  | n :: r, h => by
    have e : (Str.ofString ",").cps.toList = [44] := by decide +kernel
    rw [piecesT, List.map_cons, List.map_cons, piecesTL_is fun m hm => h m (.tail _ hm), piecesTL, e, txt_list (h n (.head _)).1 (h n (.head _)).2]
theorem piecesL_is {l : List Int} (h : ∀ n ∈ l, 1 ≤ n ∧ n ≤ 24) : (pieces l).map (fun y => y.2.cps.toList) = piecesL l := by
  have e1 : (Str.ofString "at").cps.toList = [97, 116] := by decide +kernel
  have e2 : (Str.ofString "tab").cps.toList = [116, 97, 98] := by decide +kernel
  have e3 : (Str.ofString "sizes").cps.toList = [115, 105, 122, 101, 115] := by decide +kernel
  have e4 : (Str.ofString "size").cps.toList = [115, 105, 122, 101] := by decide +kernel
  have e5 : (if 1 < l.length then Str.ofString "sizes" else Str.ofString "size").cps.toList = if 1 < l.length then [115, 105, 122, 101, 115] else [115, 105, 122, 101] := by
    split
    · exact e3
    · exact e4
  unfold pieces piecesL
  rw [List.map_append, List.map_tail, piecesTL_is h]
  simp only [List.map_cons, List.map_nil, e1, e2, e5]
theorem words_all : allL.all (fun l => decide (wgo none (repl 44 [32, 44, 32] (fmtL l)) = piecesL l) && (fmtL l).all fun c => Nat.ble c 127) = true := by decide +kernel
theorem allL_bd : allL.all (fun l => decide (l.length ≤ 24) && l.all fun n => decide (1 ≤ n) && decide (n ≤ 24)) = true := by decide +kernel
theorem allL_ints {l : List Int} (h : l ∈ allL) : ∀ n ∈ l, 1 ≤ n ∧ n ≤ 24 := by
  have z := List.all_eq_true.mp allL_bd l h
  rw [Bool.and_eq_true] at z
  intro n hn
  have y := List.all_eq_true.mp z.2 n hn
  rw [Bool.and_eq_true] at y
  exact ⟨of_decide_eq_true y.1, of_decide_eq_true y.2⟩
theorem words_of {l : List Int} (h : l ∈ allL) : Txt.words (Txt.replace (fmtS l) (Str.ofString ",") (Str.ofString " , ")) = (pieces l).map (·.2) := by
  have h0 := List.all_eq_true.mp words_all l h
  rw [Bool.and_eq_true] at h0
  have h1 := of_decide_eq_true h0.1
  have e1 : Str.ofString "," = ⟨#[44]⟩ := by decide +kernel
  have e2 : (Str.ofString " , ").cps.toList = [32, 44, 32] := by decide +kernel
  refine words_is ?_
  rw [e1, replace_repl, e2, fmtS_list (allL_ints h), h1, List.map_map]
  exact (piecesL_is (allL_ints h)).symm
theorem fmtS_ok {l : List Int} (h : l ∈ allL) : PyData.strOk (fmtS l) = true := by
  have h0 := List.all_eq_true.mp words_all l h
  rw [Bool.and_eq_true] at h0
  unfold PyData.strOk
  rw [Array.all_eq_true_iff_forall_mem]
  intro c hc
  have hc' : c ∈ fmtL l := by rw [← fmtS_list (allL_ints h)]; simpa using hc
  have := Nat.le_of_ble_eq_true (List.all_eq_true.mp h0.2 c hc')
  exact decide_eq_true (by omega)

end
section
section
variable {prog : Program} {w : World} {A : Around} {E : Value → Shared → Prop} {s : Shared} {env : Env} {h₀ : Heap} {x : Str} {body : List Stmt} {Q : Flow → Shared → Prop}
theorem lp_list {σ : Type} {a : Addr} {items : Array Value} {m₀ : Str → Option Value}
    (Led : σ → List (Addr × Obj)) (ps : σ → List (Str × Value)) (stored : List Str) (P : Nat → σ → Prop) (c₀ : σ)
    (hh : A.handled = none) (hl : s.heap.IsList a items) (hla : a ≠ env.locals)
    (F : Fr h₀ env.locals s.heap m₀) (N : News h₀ env.locals s.heap (Led c₀)) (hcl : ∀ p ∈ Led c₀, p.2.cls ≠ .type "list_iterator") (hk : ∀ p ∈ ps c₀, m₀ p.1 = some p.2) (hp : P 0 c₀)
    (turn : ∀ (c : σ) (i : Nat) v (u : Str → Option Value) h tk own, i < items.size → items[i]? = some v → P i c → (∀ p ∈ own, p.2.cls = .type "list_iterator" ∨ p.1 = a) →
      Fr h₀ env.locals h (fun y => if y = x then some v else kstB (fun z => if stored.contains z then u z else m₀ z) (ps c) y) → News h₀ env.locals h (own ++ Led c) →
      wpAny (model prog w) A (execs body env) (LpPost h₀ env.locals (.type "list_iterator") Led ps x stored m₀ (P (i + 1)) own { s with heap := h, toks := tk } Q) E { s with heap := h, toks := tk })
    (done : ∀ (c : σ) (u : Str → Option Value) h tk, P items.size c → Fr h₀ env.locals h (fun y => if y = x then u y else kstB (fun z => if stored.contains z then u z else m₀ z) (ps c) y) → News h₀ env.locals h (Led c) → Q .next { s with heap := h, toks := tk }) :
    wpAny (model prog w) A (pyIter (.ref a)) (fun it s₂ => LoopAtV prog w A h₀ env x body Q E it s₂) E s := by
  refine wpAny_pyIter_list hl ?_
  have hlt : a < s.heap.objs.size := let ⟨o, ho, _⟩ := hl; Heap.lt_size ho
  have W := Walks.list (prog := prog) (w := w) hh s.heap.objs.size a (Nat.ne_of_lt hlt) items
  refine lp_walk (.type "list_iterator") Led ps stored P c₀ W (fun i h st => let ⟨⟨o, ho, hc, _⟩, _⟩ := st; ⟨o, ho, hc⟩) ?_ (next_is_new F) ⟨⟨_, Heap.get?_push_size _ rfl, rfl, rfl⟩, hl.push _⟩ (F.push _) (fun p hp => ⟨Heap.get?_push_of_some _ (N p hp).1, (N p hp).2⟩) hcl hk hp ?_ done
  · intro hm
    rcases List.mem_cons.mp hm with e | e
    · exact absurd F.ns.lt (e ▸ Nat.lt_irrefl _)
    · exact hla (List.mem_singleton.mp e).symm
  · rintro c i v u h tk own hi hv hpc hown hst₁ F₁ N₁
    refine turn c i v u h tk own hi hv hpc (fun p hp => ?_) F₁ N₁
    rcases List.mem_cons.mp (hown p hp) with e | e
    · have z := (N₁ p (List.mem_append_left _ hp)).1
      obtain ⟨⟨o, ho, hc, _⟩, _⟩ := hst₁
      rw [e, ho] at z
      rw [← Option.some.inj z]
      exact .inl hc
    · exact .inr (List.mem_singleton.mp e)
end
/-- append to a list of the ledger; all the other entries lie elsewhere -/
theorem app_rule2 {prog : Program} {w : World} {A : Around} {E : Value → Shared → Prop} {s : Shared} {h₀ : Heap} {L a : Addr} {m : Str → Option Value} {rest : List (Addr × Obj)} {items : List Value} {n : Nat} {v : Value} {Q : Value → Shared → Prop}
    (F : Fr h₀ L s.heap m) (N : News h₀ L s.heap ((a, listOf items.toArray n) :: rest)) (hne : ∀ p ∈ rest, p.1 ≠ a) (hsz : items.length ≤ 100000)
    (h : ∀ h' n', Fr h₀ L h' m → News h₀ L h' ((a, listOf (items ++ [v]).toArray n') :: rest) → Q .none { s with heap := h' }) :
    wpAny (model prog w) A (call (.builtin "list.append") [.ref a, v]) Q E s := by
  have ha := N _ (List.mem_cons_self ..)
  refine wpAny_list_append_plain (items := items.toArray) ⟨n, ha.1⟩ (fun h' ⟨n', hp'⟩ hs => ?_) (by simp [sizeLine]; omega)
  refine h h' n' (F.change hs ha.2.1 ha.2.2) (fun p hp => ?_)
  rcases List.mem_cons.mp hp with rfl | hp
  · refine ⟨?_, ha.2⟩
    rw [hp']; simp
  · have z := N p (List.mem_cons_of_mem _ hp)
    exact ⟨(hs.2 _ (hne p hp)).trans z.1, z.2⟩
/-- one token as it lies: the tuple's place, its kind and its text -/
structure Tk where
  at_ : Addr
  kind : Int
  piece : Str
  t1 : Tok
  t2 : Tok
noncomputable def Tk.obj (q : Tk) : Obj := tupObj [.int q.kind q.t1, .str q.piece q.t2]
noncomputable def Tk.ent (q : Tk) : Addr × Obj := (q.at_, q.obj)
noncomputable def Tk.ref (q : Tk) : Value := .ref q.at_
noncomputable def Tk.pr (q : Tk) : Int × Str := (q.kind, q.piece)
noncomputable def LedT (a : Addr) (c : List Tk × Nat) : List (Addr × Obj) := (a, listOf (c.1.map Tk.ref).toArray c.2) :: c.1.map Tk.ent
theorem ledT_cls {a : Addr} {c : List Tk × Nat} : ∀ p ∈ LedT a c, p.2.cls ≠ .type "list_iterator" := by
  intro p hp
  rcases List.mem_cons.mp hp with rfl | hp
  · show Value.type "list" ≠ _
    decide
  · obtain ⟨q, _, rfl⟩ := List.mem_map.mp hp
    show Value.type "tuple" ≠ _
    decide
theorem ledT_front {h₀ h : Heap} {L a : Addr} {own : List (Addr × Obj)} {qs : List Tk} {n : Nat} (N : News h₀ L h (own ++ LedT a (qs, n))) : News h₀ L h ((a, listOf (qs.map Tk.ref).toArray n) :: (own ++ qs.map Tk.ent)) := newsSub N (by
  intro p hp
  simp only [LedT, List.mem_append, List.mem_cons] at hp ⊢
  rcases hp with h | h | h <;> simp [h])
theorem ledT_snoc {h₀ h : Heap} {L a D : Addr} {own : List (Addr × Obj)} {qs : List Tk} {n : Nat} {k : Int} {pc : Str} {t1 t2 : Tok}
    (N : News h₀ L h ((a, listOf (qs.map Tk.ref ++ [Value.ref D]).toArray n) :: (D, tupObj [.int k t1, .str pc t2]) :: (own ++ qs.map Tk.ent))) : News h₀ L h (own ++ LedT a (qs ++ [⟨D, k, pc, t1, t2⟩], n)) := newsSub N (by
  intro p hp
  simp only [LedT, List.mem_append, List.mem_cons, List.map_append, List.map_cons, List.map_nil, List.not_mem_nil, or_false] at hp ⊢
  rcases hp with h | h | h | h
  · simp [h]
  · left; rw [h]; rfl
  · simp [h]
  · right; left; rw [h]; rfl)

end
example : True := by
  (k_with "ktr_rel" => with_reducible (first | show wpAny _ _ (eval (Expr.ListComp _ _ _ _) _) _ _ _ | show wpAny _ _ (exec (Stmt.Assign [_] (Expr.ListComp _ _ _ _) _) _) _ _ _ | show wpAny _ _ (call (Value.builtin "str.join") _) _ _ _))
  (k_with "eval Name" => (k_here; (with_reducible show wpAny _ _ (eval (Expr.Name _ _) (compEnvC _ _ _ _)) _ _ _); k_dflt (first
  | (refine' cn_loc ?k1 ?k2 ?_ ?k3 ?k4 ?k5; (case k3 => rfl); (case k4 => rfl); (case k5 => decide); (case k1 => k_asm); (case k2 => exact rfl); k_whole)
  | (refine' cn_cell ?k1 ?k2 ?k3 ?_ ?k4 ?k5 ?k6; (case k4 => rfl); (case k5 => rfl); (case k6 => decide); (case k1 => k_asm); (case k2 => rfl); (case k3 => assumption); k_whole)
  | (refine' cn_glob ?k1 ?k2 ?k3 ?k4 ?_ ?k5 ?k6 ?k7 ?k8; (case k5 => rfl); (case k6 => rfl); (case k7 => rfl); (case k8 => decide); (case k1 => k_asm); (case k2 => k_asm); (case k3 => k_asm); (case k4 => k_is); k_whole)
  | (refine' cn_bi ?k1 ?k2 ?k3 ?k4 ?k5 ?k6 ?_ ?k7 ?k8 ?k9 ?k10 ?k11; (case k7 => rfl); (case k8 => rfl); (case k9 => rfl); (case k10 => rfl); (case k11 => decide); (case k1 => k_asm); (case k2 => k_asm); (case k3 => k_asm); (case k4 => k_is); (case k5 => boot_by_name); (case k6 => decide); k_whole))))
  (k_with "storeName" => (k_here; (with_reducible show wpAny _ _ (storeName (compEnvC _ _ _ _) _ _) _ _ _); k_dflt (refine' cn_store ?k1 ?k2 ?_ ?k3 ?k4; (case k3 => rfl); (case k4 => rfl); (case k1 => k_asm); (case k2 => k_asm); k_whole); intro h' F' N'; (try dsimp only)))
  (k_with "binaryOp Mult str int" => (k_here; (with_reducible show wpAny _ _ (binaryOp Operator.Mult (Value.str (Str.ofString " ") _) (Value.int _ _)) _ _ _); k_dflt (refine' mul_sp ?k1 ?k2 ?_; (case k1 => omega); (case k2 => omega); k_whole); intro t9 k9; (try dsimp only)))
  trivial
section
-- no token is made general ahead of a for
example : True := by
  (k_with "execs cons" => (k_here; (with_reducible show wpAny _ _ (execs (Stmt.For _ _ _ _ _ :: _) _) _ _ _); with_reducible refine wpAny_execs_cons ?_))
  trivial
/-- a piece and its kind, as the table and the figures tell it -/
noncomputable def KindOk (P : Params) (q : Int × Str) : Prop :=
  (q.1 = 12 ∧ q.2 = Str.ofString ",") ∨
  (nsIn (Mine.hd0.heap_1 P) 129 q.2 = some none ∧ 1 ≤ q.2.length ∧ q.1 = if (Builtin.Str.occurrences (Str.ofString "0123456789") (Txt.item q.2 0) 0 (Str.ofString "0123456789").length 1).isEmpty = true then 1 else 2)
theorem tkApart {h₀ h : Heap} {L a D D' : Addr} {items : Array Value} {n : Nat} {own : List (Addr × Obj)} {qs : List Tk} {es : List Value} (N : News h₀ L h ((a, listOf items n) :: (D', tupObj es) :: (own ++ qs.map Tk.ent)))
    (hown : ∀ p ∈ own, p.2.cls = .type "list_iterator" ∨ p.1 = D) (hD : a ≠ D) : ∀ p ∈ (D', tupObj es) :: (own ++ qs.map Tk.ent), p.1 ≠ a := by
  intro p hp e
  have z := N p (.tail _ hp)
  have y := N _ (.head _)
  rw [e, y.1] at z
  have z1 : listOf items n = p.2 := Option.some.inj z.1
  have z2 : p.2.cls = .type "list" := by rw [← z1]
  simp only [List.mem_cons, List.mem_append] at hp
  rcases hp with h | h | h
  · rw [h] at z2; exact absurd (show Value.type "tuple" = Value.type "list" from z2) (by decide)
  · rcases hown p h with q | q
    · rw [q] at z2; exact absurd z2 (by decide)
    · exact hD (e ▸ q)
  · obtain ⟨q, _, rfl⟩ := List.mem_map.mp h
    exact absurd (show Value.type "tuple" = Value.type "list" from z2) (by decide)
-- a piece asked of the table
example : True := by
  (k_with "compareOp In str ref" => (k_here; (with_reducible show wpAny _ _ (compareOp CmpOp.In (Value.str _ _) (Value.ref _)) _ _ _); k_dflt (refine' topIn_K ?kF ?kX ?kl ?kk ?ke ?ko ?_; (case ke => assumption); (case kF => k_asm); (case kX => k_asm); (case kl => k_is); (case kk => k_keys); (case ko => decide); k_whole)))
  trivial
theorem tokensC {w : World} {dp un : Nat} {fr : Option (List Env)} {gd : Option (List Code)} {s : Shared} {mg mb : Str → Option Value} {Q : Value → Shared → Prop} {E : Value → Shared → Prop} {x : Str} {tx : Tok} {pcs : List (Int × Str)}
    (hA : dp + 40 < recursionLimit) (hu : un + 200 < cLine) (G : Gd w mg mb s.heap) (hw : Txt.words (Txt.replace x (Str.ofString ",") (Str.ofString " , ")) = pcs.map (·.2)) (hk : ∀ q ∈ pcs, KindOk w.params q) (hn : pcs.length ≤ 200) (hx : x.length ≤ 2000)
    (hQ : ∀ a n (qs : List Tk) h' tk, Up s.heap h' → h'.get? a = some (listOf (qs.map Tk.ref).toArray n) → (∀ q ∈ qs, h'.get? q.at_ = some q.obj) → qs.map Tk.pr = pcs → Q (.ref a) { s with heap := h', toks := tk }) :
    wpAny (model PG w) (Aof dp un fr gd) (call (.ref 152) [.str x tx]) Q E s := by
  have X := G.k
  have T := G.t
  refine wpAny_call ?_
  refine' enter (binds := [(Str.ofString "words", .str x tx)]) X T ?k6 ?k7 ?k8 ?k9 ?kB ?_ ?c5 ?c2 ?c3 ?c4
  case k6 => k_is
  case k7 => k_is
  case k8 => (show dp < _; omega)
  case k9 => exact BindsTo.of_eq rfl
  case kB => exact locs rfl
  case c5 => decide
  case c2 => exact rfl
  case c3 => exact rfl
  case c4 => exact rfl
  intro L h₁ F N
  (try dsimp only)
  (try k_fold)
  ktr_unf
  (with_reducible rename Fr _ _ _ _ => F6)
  (with_reducible rename News _ _ _ _ => N6)
  refine splitN0 (by exact F6) (by exact N6) ?_ (by have := replace_len x; simp [sizeLine]; omega)
  intro l h7 k7 hl F7 N7
  (try dsimp only)
  have hl' : l.map (·.1) = pcs.map (·.2) := hl.trans hw
  have hll : l.length = pcs.length := by have := congrArg List.length hl'; simpa using this
  dsimp only at F7 N7
  have hTD := Nat.ne_of_lt (Heap.lt_size (N6 _ (.head _)).1)
  dsimp only at hTD
  generalize Array.size _ = D at F7 N7 hTD ⊢
  have nD := N7 _ (.head _)
  have N8 : News s.heap L h7 [_] := fun p hp => N7 p (.tail _ hp)
  refine' lp_list (LedT ?adr9) (fun _ => []) [] (fun i c => c.1.map Tk.pr = pcs.take i) ([], 0) rfl (News.isList N7 (.head _)) nD.2.1 (by exact F7) ?N ledT_cls (by intro p hp; cases hp) rfl ?_ ?_
  case N => exact N8
  · rintro ⟨qs, n⟩ i v u h tk own hi hv hP hown Fb Nb
    clear F6 N6 F7 N7 N8
    have Nc := ledT_front Nb
    obtain ⟨p, tp, rfl, hpi⟩ := strsAt (by simpa using hv)
    have hqi : (pcs[i]?).map (·.2) = some p := by rw [← List.getElem?_map, ← hl', List.getElem?_map, hpi]; rfl
    obtain ⟨q, hq1, rfl⟩ := Option.map_eq_some_iff.mp hqi
    have hq := hk q (List.mem_of_getElem? hq1)
    clear Nb
    (try dsimp only)
    (try k_fold)
    obtain ⟨qk', qp⟩ := q
    unfold KindOk at hq
    dsimp only at hP
    dsimp only at hq Fb
    rcases hq with ⟨e1, e2⟩ | ⟨e1, e2, e3⟩
    · subst e1 e2
      ktr_unf
      (with_reducible rename Fr _ _ _ _ => F8)
      (with_reducible rename News _ _ _ _ => N8)
      refine app_rule2 (items := qs.map Tk.ref) F8 (newsSwap N8) ?_ ?_ ?_
      · exact tkApart (newsSwap N8) hown hTD
      · have e1 := congrArg List.length hP
        rw [List.length_map, List.length_take] at e1
        rw [List.length_map]
        omega
      · intro h9 n9 F9 N9
        (try dsimp only)
        ktr_unf
        refine' lp_end (qs ++ [?q9], n9) (by exact F9) (ledT_snoc (by exact N9)) ledT_cls (by intro p hp; cases hp) ?hr ?hp
        case hr =>
          intro z hz hp _
          (try dsimp only)
          simp [hz, kstB]
        case hp =>
          (try dsimp only)
          rw [takeSnoc hq1, List.map_append, hP]
          rfl
    · ktr_unf
      all_goals (
        (with_reducible rename Fr _ _ _ _ => F8)
        (with_reducible rename News _ _ _ _ => N8)
        refine app_rule2 (items := qs.map Tk.ref) F8 (newsSwap N8) ?_ ?_ ?_
        · exact tkApart (newsSwap N8) hown hTD
        · have e1 := congrArg List.length hP
          rw [List.length_map, List.length_take] at e1
          rw [List.length_map]
          omega
        · intro h9 n9 F9 N9
          (try dsimp only)
          ktr_unf
          refine lp_end (qs ++ [_], n9) (by exact F9) (ledT_snoc (by exact N9)) ledT_cls (by intro p hp; cases hp) ?_ ?_
          ·
            intro z hz hp _
            (try dsimp only)
            simp [hz, kstB]
          ·
            (try dsimp only)
            rw [takeSnoc hq1, List.map_append, hP, e3]
            (first | rw [if_pos (by assumption)] | rw [if_neg (ne_true_of_eq_false (by assumption))])
            rfl)
  · rintro ⟨qs, n⟩ u h tk hP Fb Nb
    rw [List.size_toArray, strValues, List.length_map, hll, List.take_of_length_le (Nat.le_refl _)] at hP
    (try dsimp only)
    (try k_fold)
    ktr_unf
    (with_reducible rename Fr _ _ _ _ => F8)
    exact hQ _ n qs _ _ F8.keep (Nb _ (List.mem_cons_self ..)).1 (fun q hq => (Nb _ (List.mem_cons_of_mem _ (List.mem_map_of_mem hq))).1) hP

end
example : True := by
  k_with_none
  (k_with "ktr_rel" => with_reducible (first | show wpAny _ _ (pyIter _) _ _ _ | show wpAny _ _ (call (Value.builtin "list.append") _) _ _ _ | show wpAny _ _ (setItem _ _ _) _ _ _))
  (k_with "ktr_unf" => repeat' (first | (k_unfold; (try dsimp only)) | ((fail_if_success ktr_rel); (first | walk1 | (dsimp only; walk1) | (leave1; (try dsimp only))))))
  (k_with "execs cons Assign cons" => with_reducible refine wpAny_execs_cons ?_)
  (k_with "kun_tup" => exact IsTup.keeps (by assumption) (Fr.keep (by k_asm)))
  (k_with "k_inst" => exact InstAt.keepsH (by assumption) (Fr.keep (by k_asm)))
  (k_with "call builtin:len" => (k_here; (with_reducible show wpAny _ _ (call (Value.builtin "len") [Value.ref _]) _ _ _); k_dflt (refine' PyProof.Rows.len_tuple ?k1 ?k2 ?_; (case k1 => kun_tup); (case k2 => first | assumption | decide); k_whole)))
  (k_with "call builtin:len" => (k_here; (with_reducible show wpAny _ _ (call (Value.builtin "len") [Value.ref _]) _ _ _); k_dflt (refine' PyProof.Rows.len_list ?k1 ?k2 ?_; (case k1 => exact stays_list (Fr.keep (by k_asm)) (by assumption)); (case k2 => first | assumption | decide); k_whole)))
  (k_with "subscriptTail" => (k_here; (with_reducible show wpAny _ _ (subscriptTail _ _ (Value.ref _) (Value.int _ _)) _ _ _); k_dflt (refine' item_tuple_ints ?t ?i ?a ?b ?c ?_; (case t => kun_tup); (case i => assumption); (case a => omega); (case b => omega); (case c => omega); k_whole); intro t9))
  (k_with "call ref" => (k_here; (show wpAny _ _ (call (Value.ref 79) [Value.ref _]) _ _ _); k_dflt (refine' longest ?hA ?hu ?G ?W ?_; (case hA => ktr_room); (case hu => ktr_units); (case G => exact Gd.up (by assumption) (Fr.keep (by k_asm))); (case W => exact WS.up (by assumption) (Fr.keep (by k_asm))); k_whole); intro t9 h9 tk9 hk9; (with_reducible rename Fr _ _ _ _ => F8); (with_reducible rename News _ _ _ _ => N8); (have F9 := frUp F8 hk9); (have N9 := newsUp N8 hk9); (try dsimp only)))
  (k_with "call ref" => (k_here; (show wpAny _ _ (call (Value.ref 86) [Value.ref _, Value.int _ _]) _ _ _); k_dflt (refine' indent ?hA ?hu ?G ?W ?h1 ?h2 ?_; (case hA => ktr_room); (case hu => ktr_units); (case G => exact Gd.up (by assumption) (Fr.keep (by k_asm))); (case W => exact WS.up (by assumption) (Fr.keep (by k_asm))); (case h1 => omega); (case h2 => omega); k_whole); intro t9 h9 tk9 hk9; (with_reducible rename Fr _ _ _ _ => F8); (with_reducible rename News _ _ _ _ => N8); (have F9 := frUp F8 hk9); (have N9 := newsUp N8 hk9); (try dsimp only)))
  trivial
section
noncomputable def isNN (P : Params) (x : Str) : Bool := match nsIn (Mine.hd0.heap_1 P) 129 x with | some none => true | _ => false
theorem isNN_is {P : Params} {x : Str} (h : isNN P x = true) : nsIn (Mine.hd0.heap_1 P) 129 x = some none := by
  unfold isNN at h
  split at h
  · assumption
  · cases h
noncomputable def figK (x : Str) : Int := if (Builtin.Str.occurrences (Str.ofString "0123456789") (Txt.item x 0) 0 (Str.ofString "0123456789").length 1).isEmpty = true then 1 else 2
noncomputable def namesP : List Str := [Str.ofString "at", Str.ofString "tab", Str.ofString "size", Str.ofString "sizes"]
theorem nn_names (P : Params) : (namesP.all fun x => isNN P x) = true := by rfl
theorem nn_figs (P : Params) : ((upto 24).all fun n => isNN P (txt n)) = true := by rfl
theorem fig_names : (namesP.all fun x => decide (figK x = 1) && decide (1 ≤ x.length)) = true := by decide +kernel
theorem fig_figs : ((upto 24).all fun n => decide (figK (txt n) = 2) && decide (1 ≤ (txt n).length)) = true := by decide +kernel
theorem kind_name {P : Params} {x : Str} (h : x ∈ namesP) : KindOk P (1, x) := by
  have h1 := isNN_is (List.all_eq_true.mp (nn_names P) x h)
  have h2 := List.all_eq_true.mp fig_names x h
  rw [Bool.and_eq_true] at h2
  exact .inr ⟨h1, of_decide_eq_true h2.2, (of_decide_eq_true h2.1).symm⟩
theorem mem_upto {n : Int} {m : Nat} (h1 : 1 ≤ n) (h2 : n ≤ m) : n ∈ upto m := List.mem_map.mpr ⟨(n - 1).toNat, List.mem_range.mpr (by omega), by omega⟩
theorem kind_fig {P : Params} {n : Int} (h0 : 1 ≤ n) (h1 : n ≤ 24) : KindOk P (2, txt n) := by
  have hm := mem_upto (m := 24) h0 h1
  have h1 := isNN_is (List.all_eq_true.mp (nn_figs P) n hm)
  have h2 := List.all_eq_true.mp fig_figs n hm
  rw [Bool.and_eq_true] at h2
  exact .inr ⟨h1, of_decide_eq_true h2.2, (of_decide_eq_true h2.1).symm⟩
theorem kind_T {P : Params} : ∀ {l : List Int}, (∀ n ∈ l, 1 ≤ n ∧ n ≤ 24) → ∀ q ∈ piecesT l, KindOk P q
  | [], _, q, hq => nomatch hq
  | n :: r, h, q, hq => by
    rcases List.mem_cons.mp hq with rfl | hq
    · exact .inl ⟨rfl, rfl⟩
    · rcases List.mem_cons.mp hq with rfl | hq
      · exact kind_fig (h n (.head _)).1 (h n (.head _)).2
      · exact kind_T (fun m hm => h m (.tail _ hm)) q hq
theorem allL_len {l : List Int} (h : l ∈ allL) : l.length ≤ 24 ∧ ∀ n ∈ l, 1 ≤ n ∧ n ≤ 24 := by
  have z := List.all_eq_true.mp allL_bd l h
  rw [Bool.and_eq_true] at z
  refine ⟨of_decide_eq_true z.1, fun n hn => ?_⟩
  have y := List.all_eq_true.mp z.2 n hn
  rw [Bool.and_eq_true] at y
  exact ⟨of_decide_eq_true y.1, of_decide_eq_true y.2⟩
theorem kind_all {P : Params} {l : List Int} (h : l ∈ allL) : ∀ q ∈ pieces l, KindOk P q := by
  intro q hq
  unfold pieces at hq
  rcases List.mem_append.mp hq with hq | hq
  · simp only [List.mem_cons, List.not_mem_nil, or_false] at hq
    rcases hq with rfl | rfl | rfl
    · exact kind_name (by simp [namesP])
    · exact kind_name (by simp [namesP])
    · split
      · exact kind_name (by simp [namesP])
      · exact kind_name (by simp [namesP])
  · exact kind_T (allL_len h).2 q (List.mem_of_mem_tail hq)
theorem piecesT_len : ∀ l : List Int, (piecesT l).length = 2 * l.length
  | [] => rfl
  | n :: r => by rw [piecesT, List.length_cons, List.length_cons, piecesT_len r, List.length_cons]; omega
theorem pieces_len {l : List Int} (h : l ∈ allL) : (pieces l).length ≤ 60 := by
  have := piecesT_len l
  have := (allL_len h).1
  unfold pieces
  rw [List.length_append, List.length_tail]
  simp only [List.length_cons, List.length_nil]
  omega
theorem fmtS_len {l : List Int} (h : l ∈ allL) : (fmtS l).length ≤ 2000 := by
  have z := allL_len h
  have h1 := txts_sum l (fun n hn => ⟨by have := (z.2 n hn).1; omega, by have := (z.2 n hn).2; omega⟩)
  have h2 := StrLaws.join_length_le (Str.ofString ", ") (l.map txt)
  have h3 : (Str.ofString ", ").length = 2 := by decide +kernel
  have e1 : (Str.ofString "at tab sizes").length = 12 := by decide +kernel
  have e2 : (Str.ofString "at tab size").length = 11 := by decide +kernel
  have e3 : (Str.ofString " ").length = 1 := by decide +kernel
  unfold fmtS
  rw [show Txt.join (Str.ofString ", ") (l.map txt) = Str.join (Str.ofString ", ") (l.map txt) from StrLaws.glued_eq_join _ _]
  rw [h3] at h2
  simp only [List.length_map] at h2
  rw [Str.length_append, Str.length_append, e3]
  split
  · rw [e1]; omega
  · rw [e2]; omega
/-- the numbers among the tokens -/
theorem pieces_two {l : List Int} : ((pieces l).filter fun q => q.1 == 2).map (·.2) = l.map txt := by
  have key : ∀ l : List Int, ((piecesT l).filter fun q => q.1 == 2).map (·.2) = l.map txt := by
    intro l
    induction l with
    | nil => rfl
    | cons n r ih => simp [piecesT, ih]
  have e : ∀ l : List Int, ((piecesT l).tail.filter fun q => q.1 == 2) = ((piecesT l).filter fun q => q.1 == 2) := by
    intro l
    cases l with
    | nil => rfl
    | cons n r => simp [piecesT]
  unfold pieces
  rw [List.filter_append, List.map_append, e, key]
  simp
theorem pieces_kinds : ∀ {l : List Int}, l ≠ [] → (pieces l).map (·.1) = [1, 1, 1, 2] ++ (List.replicate (l.length - 1) [12, 2]).flatten := by
  have key : ∀ l : List Int, (piecesT l).map (·.1) = (List.replicate l.length [(12 : Int), 2]).flatten := by
    intro l
    induction l with
    | nil => rfl
    | cons n r ih => simp [piecesT, ih, List.replicate_succ]
  intro l h
  cases l with
  | nil => exact absurd rfl h
  | cons n r =>
    unfold pieces
    rw [List.map_append]
    simp [piecesT, key]
theorem pieces_num {l : List Int} : ∀ p ∈ pieces l, p.1 = 2 → ∃ n ∈ l, p.2 = txt n := by
  have key : ∀ l : List Int, ∀ p ∈ piecesT l, p.1 = 2 → ∃ n ∈ l, p.2 = txt n := by
    intro l
    induction l with
    | nil => intro p hp; cases hp
    | cons n r ih =>
      intro p hp h2
      rcases List.mem_cons.mp hp with rfl | hp
      · exact absurd h2 (by decide)
      · rcases List.mem_cons.mp hp with rfl | hp
        · exact ⟨n, .head _, rfl⟩
        · obtain ⟨m, hm, e⟩ := ih p hp h2
          exact ⟨m, .tail _ hm, e⟩
  intro p hp h2
  unfold pieces at hp
  rcases List.mem_append.mp hp with hp | hp
  · simp only [List.mem_cons, List.not_mem_nil, or_false] at hp
    rcases hp with rfl | rfl | rfl <;> exact absurd (show (1 : Int) = 2 from h2) (by decide)
  · exact key l p (List.mem_of_mem_tail hp) h2

end
example : True := by
  (k_with "ktr_rel" => with_reducible (first | show wpAny _ _ (eval (Expr.ListComp _ _ _ _) _) _ _ _ | show wpAny _ _ (exec (Stmt.Assign [_] (Expr.ListComp _ _ _ _) _) _) _ _ _ | show wpAny _ _ (call (Value.builtin "str.join") _) _ _ _))
  (k_with "eval Name" => (k_here; (with_reducible show wpAny _ _ (eval (Expr.Name _ _) (compEnvC _ _ _ _)) _ _ _); k_dflt (first
  | (refine' cn_loc ?k1 ?k2 ?_ ?k3 ?k4 ?k5; (case k3 => rfl); (case k4 => rfl); (case k5 => decide); (case k1 => k_asm); (case k2 => exact rfl); k_whole)
  | (refine' cn_cell ?k1 ?k2 ?k3 ?_ ?k4 ?k5 ?k6; (case k4 => rfl); (case k5 => rfl); (case k6 => decide); (case k1 => k_asm); (case k2 => rfl); (case k3 => assumption); k_whole)
  | (refine' cn_glob ?k1 ?k2 ?k3 ?k4 ?_ ?k5 ?k6 ?k7 ?k8; (case k5 => rfl); (case k6 => rfl); (case k7 => rfl); (case k8 => decide); (case k1 => k_asm); (case k2 => k_asm); (case k3 => k_asm); (case k4 => k_is); k_whole)
  | (refine' cn_bi ?k1 ?k2 ?k3 ?k4 ?k5 ?k6 ?_ ?k7 ?k8 ?k9 ?k10 ?k11; (case k7 => rfl); (case k8 => rfl); (case k9 => rfl); (case k10 => rfl); (case k11 => decide); (case k1 => k_asm); (case k2 => k_asm); (case k3 => k_asm); (case k4 => k_is); (case k5 => boot_by_name); (case k6 => decide); k_whole))))
  (k_with "storeName" => (k_here; (with_reducible show wpAny _ _ (storeName (compEnvC _ _ _ _) _ _) _ _ _); k_dflt (refine' cn_store ?k1 ?k2 ?_ ?k3 ?k4; (case k3 => rfl); (case k4 => rfl); (case k1 => k_asm); (case k2 => k_asm); k_whole); intro h' F' N'; (try dsimp only)))
  (k_with "binaryOp Mult str int" => (k_here; (with_reducible show wpAny _ _ (binaryOp Operator.Mult (Value.str (Str.ofString " ") _) (Value.int _ _)) _ _ _); k_dflt (refine' mul_sp ?k1 ?k2 ?_; (case k1 => omega); (case k2 => omega); k_whole); intro t9 k9; (try dsimp only)))
  (k_with "ktr_rel" => with_reducible (first | show wpAny _ _ (call (Value.ref _) _) _ _ _))
  (k_with "subscriptTail" => (k_here; (with_reducible show wpAny _ _ (subscriptTail _ _ (Value.ref _) (Value.int _ _)) _ _ _); k_dflt (refine' item_tupleT ?t8 ?lo8 ?hi8 ?j8 ?x8 ?_; (case t8 => exact IsTup.keeps (by assumption) (Fr.keep (by k_asm))); (case lo8 => decide); (case hi8 => decide); (case j8 => exact rfl); (case x8 => exact rfl); k_whole)))
  trivial
section
/-- a nag as it lies: none, or the place, the words of its sizes, the line -/
noncomputable def NagIs (h : Heap) (a : Addr) (pl : Int) (l : List Int) (ln : Str) : Prop := ∃ vs t1 t2 t3, h.get? a = some (tupObj vs) ∧ vs = if l = [] then [] else [.int pl t1, .str (fmtS l) t2, .str ln t3]
theorem NagIs.up {h h' : Heap} {a : Addr} {pl : Int} {l : List Int} {ln : Str} (W : NagIs h a pl l ln) (k : Up h h') : NagIs h' a pl l ln := let ⟨vs, t1, t2, t3, h1, h2⟩ := W; ⟨vs, t1, t2, t3, k _ _ h1, h2⟩
noncomputable def nagD (pl : Int) (l : List Int) (ln : Str) : PyData := .tuple (if l = [] then [] else [.int pl, .str (fmtS l), .str ln])
theorem NagIs.reads {h : Heap} {a : Addr} {pl : Int} {l : List Int} {ln : Str} (W : NagIs h a pl l ln) : Reads h (.ref a) (nagD pl l ln) [] := by
  obtain ⟨vs, t1, t2, t3, h1, h2⟩ := W
  subst h2
  unfold nagD
  split
  · next e => rw [if_pos e] at h1; exact .tuple h1 rfl rfl .nil
  · next e => rw [if_neg e] at h1; exact .tuple h1 rfl rfl (.cons (.int _ _) (.cons (.str _ _) (.cons (.str _ _) .nil)))
noncomputable def OkL (l : List Int) : Prop := l = [] ∨ l ∈ allL
theorem nagD_shaped {pl : Int} {l : List Int} {ln : Str} (hl : OkL l) (hs : PyData.strOk ln = true) : SeqAt.shaped (nagD pl l ln) = true := by
  unfold nagD SeqAt.shaped
  split
  · rfl
  · next e =>
    have h1 := fmtS_ok (hl.resolve_left e)
    simp [PyData.canLay0, PyData.canLayAll0, h1, hs, PyData.depth, PyData.depthAll]
theorem tup0_shaped : SeqAt.shaped (.tuple []) = true := rfl
theorem nagD_none {pl : Int} {l : List Int} {ln : Str} : PyData.eqv (nagD pl l ln) (.tuple []) = decide (l = []) := by
  unfold nagD
  split
  · next e => rw [decide_eq_true e]; rfl
  · next e => rw [decide_eq_false e]; rfl
theorem sizesC {w : World} {dp un : Nat} {fr : Option (List Env)} {gd : Option (List Code)} {s : Shared} {mg mb : Str → Option Value} {Q : Value → Shared → Prop} {E : Value → Shared → Prop} {a : Addr} {pl : Int} {l : List Int} {ln : Str}
    (hA : dp + 60 < recursionLimit) (hu : un + 400 < cLine) (G : Gd w mg mb s.heap) (hN : NagIs s.heap a pl l ln) (hl : OkL l) (hs : PyData.strOk ln = true)
    (hQ : ∀ D vs n h' tk, Up s.heap h' → h'.get? D = some (listOf vs.toArray n) → IntsAre vs l → s.heap.get? D = none → Q (.ref D) { s with heap := h', toks := tk }) :
    wpAny (model PG w) (Aof dp un fr gd) (call (.ref 157) [.ref a]) Q E s := by
  have X := G.k
  have T := G.t
  refine wpAny_call ?_
  refine' enter (binds := [(Str.ofString "nag", .ref a)]) X T ?k6 ?k7 ?k8 ?k9 ?kB ?_ ?c5 ?c2 ?c3 ?c4
  case k6 => k_is
  case k7 => k_is
  case k8 => (show dp < _; omega)
  case k9 => exact BindsTo.of_eq rfl
  case kB => exact locs rfl
  case c5 => decide
  case c2 => exact rfl
  case c3 => exact rfl
  case c4 => exact rfl
  intro L h₁ F N
  (try dsimp only)
  (try k_fold)
  ktr_unf
  (with_reducible rename Fr _ _ _ _ => F6)
  (with_reducible rename News _ _ _ _ => N6)
  refine SeqAt.compareEq_shaped (PyProof.Rows.Reads.keeps F6.keep hN.reads) (.tuple (N6 _ (.head _)).1 rfl rfl .nil) (nagD_shaped hl hs) tup0_shaped ?_ ?_
  · have := cLine_is
    simp only [units_in1, units_deeper]
    omega
  rw [nagD_none]
  by_cases e : l = []
  · rw [decide_eq_true e]
    (try dsimp only)
    ktr_unf
    (with_reducible rename Fr _ _ _ _ => F7)
    (with_reducible rename News _ _ _ _ => N7)
    exact hQ _ [] 0 _ _ F7.keep (N7 _ (.head _)).1 (e ▸ .nil) (N7 _ (.head _)).2.2
  · rw [decide_eq_false e]
    have hm := hl.resolve_left e
    obtain ⟨vs, t1, t2, t3, hN1, hN2⟩ := hN
    rw [if_neg e] at hN2
    subst hN2
    have IA : IsTup s.heap a #[.int pl t1, .str (fmtS l) t2, .str ln t3] := ⟨_, hN1, rfl, _, rfl⟩
    (try dsimp only)
    ktr_unf
    refine comp_eval (cl := []) (closureFor_none (by decide)) rfl (by decide) ?_
    ktr_unf
    (with_reducible rename Fr _ _ _ _ => F7)
    (with_reducible rename News _ _ _ _ => N7)

    refine tokensC (pcs := pieces l) (show dp + 1 + 40 < recursionLimit by omega) (by have := cLine_is; simp only [units_in1, units_deeper]; omega) (G.up F7.keep) (words_of hm) (kind_all hm) (by have := pieces_len hm; omega) (fmtS_len hm) ?_
    intro at8 n8 qs8 h8 tk8 hk8 hl8 hq8 he8
    have F8 := frUp F7 hk8
    have N8 := newsUp N7 hk8
    have X₃ := X.keeps F8.keep
    have T₃ := T.keeps F8.keep
    (try dsimp only)
    have hq9 : ∀ q ∈ qs8, q.kind = 2 → ∃ n, 1 ≤ n ∧ n ≤ 24 ∧ q.piece = txt n := by
      intro q hq h2
      obtain ⟨n, hn, e⟩ := pieces_num (l := l) q.pr (he8 ▸ List.mem_map_of_mem hq) h2
      have := (allL_len hm).2 n hn
      exact ⟨n, this.1, this.2, e⟩
    refine comp_simple (fun i ys => ys.length ≤ i ∧ ∃ zs, IntsAre ys zs ∧ zs.map some = ((qs8.take i).filter fun q => q.kind == 2).map fun q => PySem.intText? q.piece) (src_list rfl ⟨_, hl8, rfl, n8, rfl⟩ (fun _ _ e => e)) (by decide) rfl ⟨Nat.le_refl _, [], .nil, rfl⟩ (fun i ys h => h.1) ?_ ?_ ?_
    · have := congrArg List.length he8
      have := pieces_len hm
      rw [List.length_map] at *
      rw [List.size_toArray, List.length_map]
      omega
    · intro C D I i v ys u oI nn h₃ tk₃ E' hi hv' hP F₃ N₃
      clear F7 N7 F8 N8 X T IA
      have hv2 : (qs8[i]?).map Tk.ref = some v := by rw [← List.getElem?_map]; simpa using hv'
      obtain ⟨q, hqi, rfl⟩ := Option.map_eq_some_iff.mp hv2
      have hqm := List.mem_of_getElem? hqi
      have hq0 := hq8 q hqm
      have IQ : IsTup h8 q.at_ #[.int q.kind q.t1, .str q.piece q.t2] := ⟨_, hq0, rfl, _, rfl⟩
      obtain ⟨zs, hz1, hz2⟩ := hP.2
      by_cases h2 : q.kind = 2
      · obtain ⟨n, hn1, hn2, hn3⟩ := hq9 q hqm h2
        rw [h2, hn3] at IQ
        unfold Tk.ref
        ktr_unf
        refine KIN.call_num (n := n) (by omega) (by omega) ?_
        (with_reducible rename Fr _ _ _ _ => F9)
        (with_reducible rename News _ _ _ _ => N9)
        refine ce_end (by exact F9) (by exact N9) ⟨by rw [List.length_append]; exact Nat.succ_le_succ hP.1, zs ++ [n], intsSnoc hz1, ?_⟩
        have h3 : PySem.intText? q.piece = some n := by rw [hn3]; exact KIN.num_reads (by omega) (by omega)
        rw [takeSnoc hqi, List.map_append, hz2]
        simp [List.filter_append, h2, h3]
      · unfold Tk.ref
        ktr_unf
        · exact absurd (by assumption) h2
        · (with_reducible rename Fr _ _ _ _ => F9)
          (with_reducible rename News _ _ _ _ => N9)
          refine ce_end (by exact F9) (by exact N9) ⟨Nat.le_succ_of_le hP.1, zs, hz1, ?_⟩
          rw [takeSnoc hqi, hz2]
          simp [List.filter_append, h2]
    · intro D ys nn h5 tk5 hP hk5 hD hDn
      have F5 := frUp F8 hk5
      (try dsimp only)
      ktr_unf
      obtain ⟨zs, hz1, hz2⟩ := hP.2
      refine hQ _ ys nn _ _ F5.keep hD ?_ ?_
      · have e1 : zs.map some = l.map some := by
          rw [hz2, List.take_of_length_le (by simp)]
          have e2 : (qs8.filter fun q => q.kind == 2).map Tk.piece = l.map txt := by
            rw [← pieces_two (l := l), ← he8, List.filter_map, List.map_map]
            rfl
          have e3 : ((qs8.filter fun q => q.kind == 2).map fun q => PySem.intText? q.piece) = ((qs8.filter fun q => q.kind == 2).map Tk.piece).map PySem.intText? := by rw [List.map_map]; rfl
          rw [e3, e2, List.map_map]
          refine List.map_congr_left fun n hn => ?_
          have := (allL_len hm).2 n hn
          exact KIN.num_reads (by omega) (by omega)
        have e4 : zs = l := (List.map_inj_right (fun a b e => Option.some.inj e)).mp e1
        exact e4 ▸ hz1
      · cases q : s.heap.get? D with
        | none => rfl
        | some o => have := F8.keep _ _ q; rw [hDn] at this; cases this

end
section
theorem grownI {M : Model} {A : Around} {E : Value → Shared → Prop} {s : Shared} {n : Int} {Q : Value → Shared → Prop} (h0 : -2000 ≤ n) (h1 : n ≤ 2000) (h : Q (.int n s.toks) { s with toks := s.toks + 1 }) : wpAny M A (mkIntGrown n) Q E s := by
  unfold mkIntGrown
  have hl : ¬ n.natAbs.log2 ≥ bitsLine := by
    have h2 : n.natAbs < 2 ^ 11 := by omega
    have h3 : n.natAbs.log2 < 11 := by
      by_cases e : n.natAbs = 0
      · rw [e]; decide
      · exact (Nat.log2_lt e).mpr h2
    have h4 : 11 ≤ bitsLine := by decide
    omega
  rw [if_neg hl]
  exact wpAny_mkInt h
open Builtin Builtin.Range in
theorem range_rev_adj (T : Int) (hT : 1 ≤ T) : Slice.sliceAdjust none none ((some (-1)).getD 1) (rangeSize 1 T 1) = (T - 2, -1) := by
  have e : rangeSize 1 T 1 = T - 1 := by
    unfold rangeSize
    simp only [show ((1 : Int) > 0) by decide, if_true]
    split <;> omega
  rw [e]
  unfold Slice.sliceAdjust
  simp
  omega
open Builtin Builtin.Range in
theorem meets_range_rev (r a : Addr) (T : Int) (t u v k : Tok) (hT : 1 ≤ T) (hT2 : T ≤ 1000) : Meets («range.__getitem__» ⟨[.ref r, .ref a], []⟩) fun A R s => IsRange s.heap r 1 T 1 t u v ∧ s.heap.IsSliceOf a .none .none (.int (-1) k) ∧
    (∀ t1 t2 t3 tk, R (.ok (.ret (.ref s.heap.objs.size))) { s with heap := s.heap.push { cls := .type "range", data := .fields #[.int (T - 1) t1, .int 0 t2, .int (-1) t3] }, toks := tk }) := by
  rintro prog w A R s ⟨hr, ⟨o, ho, hc, hd⟩, h⟩
  obtain ⟨oc, od, dat, sl⟩ := o
  dsimp only at hc hd
  subst hc hd
  unfold «range.__getitem__»
  repeat (any_goals (first | assumption | ((fail_if_success (with_reducible show wpAny _ _ (Slice.slicePartIndex _) _ _ _)); (fail_if_success (with_reducible show wpAny _ _ (roomForPylong _ _) _ _ _)); (fail_if_success (with_reducible show wpAny _ _ (mkIntGrown _) _ _ _)); wp_step)))
  refine slicePart_int (i := -1) (u := k) ?_
  dsimp only [Option.getD_some]
  rw [if_neg (by decide)]
  refine wpAny_bind (slicePart_none ?_)
  refine wpAny_bind (slicePart_none ?_)
  rw [show ((-1 : Int)) = (some (-1)).getD 1 from rfl, range_rev_adj T hT]
  dsimp only [Option.getD_some]
  refine wpAny_bind (wpAny_roomForPylong (.inl ?_) ?_)
  · unfold divisionGoesByPylong
    exact Bool.and_eq_false_iff.mpr (.inl (by decide))
  rw [show 1 + (T - 2) * 1 = T - 1 by omega, show (1 : Int) + -1 * 1 = 0 from rfl, show (1 : Int) * -1 = -1 from rfl]
  refine wpAny_bind (grownI (by omega) (by omega) ?_)
  refine wpAny_bind (grownI (by omega) (by omega) ?_)
  refine wpAny_bind (grownI (by omega) (by omega) ?_)
  refine wpAny_bind (wpAny_newObj_type ?_)
  exact wpAny_pure (h _ _ _ _)
/-- a range turned round by a slice -/
theorem range_rev {prog : Program} {w : World} {A : Around} {E : Value → Shared → Prop} {s : Shared} {h₀ : Heap} {L : Addr} {m : Str → Option Value} {news : List (Addr × Obj)} {value slice : Expr} {r : Addr} {T : Int} {t u v k : Tok} {Q : Value → Shared → Prop}
    (F : Fr h₀ L s.heap m) (N : News h₀ L s.heap news) (hr : IsRange s.heap r 1 T 1 t u v) (hT : 1 ≤ T) (hT2 : T ≤ 1000)
    (h : ∀ h' R t1 t2 t3 tk, Fr h₀ L h' m → News h₀ L h' news → IsRange h' R (T - 1) 0 (-1) t1 t2 t3 → Q (.ref R) { s with heap := h', toks := tk })
    (hs : subscripted slice false (.ref r) (.ref s.heap.objs.size) = operate [.ref r, .ref s.heap.objs.size] (getItem (.ref r) (.ref s.heap.objs.size)) := by with_unfolding_all rfl)
    (ht : ∀ R, letTemporaryGo value (.ref r) R = pure () := by intro _; with_unfolding_all rfl) :
    wpAny (model prog w) A (subscriptTail value slice (.ref r) (.ref s.heap.objs.size)) Q E { s with heap := s.heap.push { cls := .type "slice", data := .fields #[.none, .none, .int (-1) k] } } := by
  have hr' : IsRange (s.heap.push { cls := .type "slice", data := .fields #[.none, .none, .int (-1) k] }) r 1 T 1 t u v := Heap.get?_push_of_some _ hr
  generalize hs1 : ({ s with heap := s.heap.push { cls := .type "slice", data := .fields #[.none, .none, .int (-1) k] } } : Shared) = s1
  have hT1 : s1.TypeIs (.ref r) "range" := by subst hs1; exact ⟨_, hr', rfl⟩
  have hr1 : IsRange s1.heap r 1 T 1 t u v := by subst hs1; exact hr'
  have hsl : s1.heap.IsSliceOf s.heap.objs.size .none .none (.int (-1) k) := by subst hs1; exact Heap.IsSliceOf.new ..
  refine subscriptTail_ops (T := "range") (id := "range.__getitem__") hT1 PySem.F.slot_range_getitem.lookup ?_ hs ht
  unfold getItem
  try with_reducible refine wpAny_holding ?_
  first | refine wpAny_bind (wpAny_pure ?_) | skip
  refine wpAny_bind (wpAny_sequenceKey hT1 (by decide) ?_)
  refine wpAny_bind (wpAny_callSpecial?_slot (name := Str.ofString "__getitem__") hT1 PySem.F.slot_range_getitem ?_)
  refine wpAny_call (codeAny_call_builtin PySem.F.slot_range_getitem.plain PySem.F.entry_range_getitem (PySem.F.slot_range_getitem.check _ _ _ _ _ _ _ _ hT1 (PySem.F.args_range_getitem_2 _ _) (meets_range_rev r s.heap.objs.size T t u v k hT hT2 prog w A (wants (fun v s' => wpAny (model prog w) A (pure v) Q E s') E) s1 ⟨hr1, hsl, ?_⟩)))
  intro t1 t2 t3 tk
  subst hs1
  refine wpAny_pure (h _ _ t1 t2 t3 tk ((F.push _).push _) ?_ (Heap.get?_push_size _ rfl))
  exact (N.grown fun _ _ e => Heap.get?_push_of_some _ e).grown fun _ _ e => Heap.get?_push_of_some _ e

end
section
theorem kst_frN {h₀ : Heap} {L : Addr} {h : Heap} {ps : List (Str × Value)} {stored : List Str} {m₀ m₁ : Str → Option Value} (h1 : ∀ p ∈ ps, m₁ p.1 = some p.2) (h2 : ∀ z, (∀ p ∈ ps, z ≠ p.1) → stored.contains z = false → m₁ z = m₀ z)
    (F : Fr h₀ L h m₁) : Fr h₀ L h (fun y => kstB (fun z => if stored.contains z then m₁ z else m₀ z) ps y) := by
  have em : (fun y => kstB (fun z => if stored.contains z then m₁ z else m₀ z) ps y) = m₁ := by
    funext y
    refine kstB_eq h1 fun hy => ?_
    cases e : stored.contains y with
    | true => rfl
    | false => exact (h2 y hy e).symm
  rw [em]
  exact F

/-- the end of one turn of a for -/
noncomputable def FEnd {σ : Type} (s : Shared) (B : Heap) (L I : Addr) (oI : Obj) (Led : σ → List (Addr × Obj)) (ps : σ → List (Str × Value)) (stored : List Str) (m₀ : Str → Option Value) (P : σ → Prop) (s' : Shared) : Prop :=
  ∃ c m h tk, s' = { s with heap := h, toks := tk } ∧ Fr B L h m ∧ News B L h ((I, oI) :: Led c) ∧ (∀ p ∈ Led c, p.1 ≠ I) ∧ (∀ p ∈ ps c, m p.1 = some p.2) ∧ (∀ z, (∀ p ∈ ps c, z ≠ p.1) → stored.contains z = false → m z = m₀ z) ∧ P c
theorem f_end {σ : Type} {s : Shared} {B : Heap} {L I : Addr} {oI : Obj} {Led : σ → List (Addr × Obj)} {ps : σ → List (Str × Value)} {stored : List Str} {m₀ m : Str → Option Value} {P : σ → Prop} {h : Heap} {tk : Nat} (c : σ)
    (F : Fr B L h m) (N : News B L h ((I, oI) :: Led c)) (hap : ∀ p ∈ Led c, p.1 ≠ I) (hk : ∀ p ∈ ps c, m p.1 = some p.2) (hr : ∀ z, (∀ p ∈ ps c, z ≠ p.1) → stored.contains z = false → m z = m₀ z) (hp : P c) :
    FEnd s B L I oI Led ps stored m₀ P { s with heap := h, toks := tk } := ⟨c, m, h, tk, rfl, F, N, hap, hk, hr, hp⟩
noncomputable def FPost {σ : Type} (s : Shared) (B : Heap) (L I : Addr) (oI : Obj) (Led : σ → List (Addr × Obj)) (ps : σ → List (Str × Value)) (stored : List Str) (m₀ : Str → Option Value) (P : σ → Prop) (Q : Flow → Shared → Prop) (f : Flow) (s' : Shared) : Prop :=
  match f with
  | .ret v => Q (.ret v) s'
  | .brk => Q .next s'
  | _ => FEnd s B L I oI Led ps stored m₀ P s'

section
variable {prog : Program} {w : World} {A : Around} {E : Value → Shared → Prop} {env : Env}
theorem for_loop {σ : Type} {s : Shared} {target : Expr} {body : List Stmt} {B : Heap} {I : Addr} {fp : List Addr} {n : Nat} {Pv : Nat → Value → Prop} {St : Nat → Heap → Prop} {m₀ : Str → Option Value} {o₀ : Obj} {Q : Flow → Shared → Prop} {R : Result → Shared → Prop} (hR : ∀ f s', Q f s' → R (.ok f) s')
    (Led : σ → List (Addr × Obj)) (ps : σ → List (Str × Value)) (stored : List Str) (P : Nat → σ → Prop) (c₀ : σ)
    (W : Walks prog w A I fp [I] n Pv St) (hgo : ∀ v (s : Shared) (Q : Unit → Shared → Prop) (E : Value → Shared → Prop) i, St i s.heap → Q () s → wpAny (model prog w) A (letOwnedTupleGo target (.ref I) v) Q E s)
    (hst : St 0 s.heap) (hfp : ∀ b ∈ fp, b = I ∨ ∃ o, ∀ h u c, Fr B env.locals h u → News B env.locals h (Led c) → h.get? b = some o) (hit : ∀ i h, St i h → ∃ o, h.get? I = some o)
    (F : Fr B env.locals s.heap m₀) (N : News B env.locals s.heap ((I, o₀) :: Led c₀)) (hap : ∀ p ∈ Led c₀, p.1 ≠ I) (hk : ∀ p ∈ ps c₀, m₀ p.1 = some p.2) (p₀ : P 0 c₀)
    (turn : ∀ c i v (u : Str → Option Value) oI h tk (E' : Value → Shared → Prop), i < n → Pv i v → P i c → (∀ p ∈ Led c, p.1 ≠ I) → Fr B env.locals h (fun y => kstB (fun z => if stored.contains z then u z else m₀ z) (ps c) y) → News B env.locals h ((I, oI) :: Led c) → St (i + 1) h →
      wpAny (model prog w) A (assign target env v) (fun _ s₄ => wpAny (model prog w) A (execs body env) (FPost s B env.locals I oI Led ps stored m₀ (P (i + 1)) Q) E' s₄) E' { s with heap := h, toks := tk })
    (fin : ∀ c (u : Str → Option Value) h tk, P n c → Fr B env.locals h (fun y => kstB (fun z => if stored.contains z then u z else m₀ z) (ps c) y) → News B env.locals h (Led c) → Q .next { s with heap := h, toks := tk }) :
    codeAny (model prog w) A (.forLoop target (.ref I) body [] env) R s := by
  refine codeAny_forLoop_any (fun k s' => ∃ i c, ∃ u : Str → Option Value, ∃ oI h tk, s' = { s with heap := h, toks := tk } ∧ i ≤ n ∧ k = n + 1 - i ∧ P i c ∧ St i h ∧ Fr B env.locals h (fun y => kstB (fun z => if stored.contains z then u z else m₀ z) (ps c) y) ∧ News B env.locals h ((I, oI) :: Led c) ∧ (∀ p ∈ Led c, p.1 ≠ I)) ?_ (n + 1)
    ⟨0, c₀, m₀, o₀, s.heap, s.toks, rfl, Nat.zero_le _, rfl, p₀, hst, kst_frN hk (fun _ _ _ => rfl) F, N, hap⟩
  rintro k s' ⟨i, c, u, oI, h, tk, rfl, hin, rfl, hP, hSt, Fi, Ni, hapi⟩
  have hIn := Ni _ (.head _)
  have keepI : ∀ (h' : Heap), (∀ b o, b ∉ [I] → h.get? b = some o → h'.get? b = some o) → Fr B env.locals h' (fun y => kstB (fun z => if stored.contains z then u z else m₀ z) (ps c) y) ∧ (∀ p ∈ Led c, h'.get? p.1 = some p.2 ∧ p.1 ≠ env.locals ∧ B.get? p.1 = none) := by
    intro h' hk
    refine ⟨⟨Fi.ns.at' (fun o e => hk _ o (fun hm => hIn.2.1 (List.mem_singleton.mp hm).symm) e), fun b o e => hk b o (fun hm => ?_) (Fi.keep b o e), Fi.above⟩, fun p hp' => ?_⟩
    · rw [List.mem_singleton.mp hm, hIn.2.2] at e
      cases e
    · have z := Ni p (.tail _ hp')
      exact ⟨hk _ _ (fun hm => hapi p hp' (List.mem_singleton.mp hm)) z.1, z.2⟩
  by_cases hlt : i < n
  · refine W.item i _ _ _ hlt hSt fun v h₁ tk₁ hPv hst₁ hk₁ => ?_
    obtain ⟨F₁, N₁⟩ := keepI h₁ hk₁
    obtain ⟨oI', ho'⟩ := hit _ _ hst₁
    refine hgo v _ _ _ (i + 1) hst₁ ?_
    have N₁' : News B env.locals h₁ ((I, oI') :: Led c) := by
      intro p hp
      rcases List.mem_cons.mp hp with rfl | hp
      · exact ⟨ho', hIn.2⟩
      · exact N₁ p hp
    have stay : ∀ h' u' c', Fr B env.locals h' u' → News B env.locals h' (Led c') → h'.get? I = some oI' → St (i + 1) h' := by
      intro h' u' c' F' N' hI'
      refine W.frame _ _ _ hst₁ fun b hb o e => ?_
      rcases hfp b hb with rfl | ⟨ob, hob⟩
      · rw [ho'] at e
        rw [hI', ← e]
      · have := hob _ _ _ F₁ N₁
        rw [this] at e
        rw [hob _ _ _ F' N', ← e]
    refine wpAny_mono (turn c i v u oI' h₁ tk₁ _ hlt hPv hP hapi F₁ N₁' hst₁) (fun _ s₄ h₄ => wpAny_mono h₄ (fun f s₅ h₅ => ?_) fun _ _ e => e) fun _ _ e => e
    have key : FEnd s B env.locals I oI' Led ps stored m₀ (P (i + 1)) s₅ → ∃ m, m < n + 1 - i ∧ ∃ i c, ∃ u : Str → Option Value, ∃ oI h tk, s₅ = { s with heap := h, toks := tk } ∧ i ≤ n ∧ m = n + 1 - i ∧ P i c ∧ St i h ∧ Fr B env.locals h (fun y => kstB (fun z => if stored.contains z then u z else m₀ z) (ps c) y) ∧ News B env.locals h ((I, oI) :: Led c) ∧ (∀ p ∈ Led c, p.1 ≠ I) := by
      rintro ⟨c', m', h', tk', rfl, F', N', hap', hk', hr', hP'⟩
      exact ⟨n + 1 - (i + 1), by omega, i + 1, c', m', oI', h', tk', rfl, hlt, rfl, hP', stay _ _ _ F' (fun p hp => N' p (.tail _ hp)) (N' _ (.head _)).1, kst_frN hk' hr' F', N', hap'⟩
    cases f with
    | ret v => exact hR _ _ h₅
    | brk => exact hR _ _ h₅
    | next => exact key h₅
    | cont => exact key h₅
  · have e : i = n := Nat.le_antisymm hin (Nat.not_lt.mp hlt)
    subst e
    refine W.done _ _ _ hSt fun h₁ tk₁ hk₁ => wpAny_execs_nil ?_
    obtain ⟨F₁, N₁⟩ := keepI h₁ hk₁
    exact hR _ _ (fin c u h₁ tk₁ hP F₁ N₁)

theorem no_new (h : Heap) (a : Addr) (ha : h.objs.size ≤ a) : h.get? a = none := by
  cases e : h.get? a with
  | none => rfl
  | some o' => exact absurd (Heap.lt_size e) (Nat.not_lt.mpr ha)
/-- a for over a range -/
theorem for_range {σ : Type} {s : Shared} {x : Str} {px : Pos} {body : List Stmt} {B : Heap} {Q : Flow → Shared → Prop} {R : Result → Shared → Prop} {a₀ b₀ d₀ : Int} {n : Nat} {r : Addr} {t₀ u₀ v₀ : Tok} {m₀ : Str → Option Value}
    (Led : σ → List (Addr × Obj)) (ps : σ → List (Str × Value)) (stored : List Str) (P : Nat → σ → Prop) (c₀ : σ) (hR : ∀ f s', Q f s' → R (.ok f) s') (hh : A.handled = none)
    (hr : IsRange s.heap r a₀ b₀ d₀ t₀ u₀ v₀) (hsm : Builtin.Range.small a₀ b₀ d₀ = true) (hn : Builtin.Range.rangeSize a₀ b₀ d₀ = (n : Int))
    (F : Fr B env.locals s.heap m₀) (N : News B env.locals s.heap (Led c₀)) (hk : ∀ p ∈ ps c₀, m₀ p.1 = some p.2) (hp : P 0 c₀)
    (turn : ∀ I c i t (u : Str → Option Value) oI h tk (E' : Value → Shared → Prop), i < n → P i c → (∀ p ∈ Led c, p.1 ≠ I) → Fr B env.locals h (fun y => kstB (fun z => if stored.contains z then u z else m₀ z) (ps c) y) → News B env.locals h ((I, oI) :: Led c) → (∀ v, oI.data ≠ .cell v) →
      wpAny (model prog w) A (assign (.Name x px) env (.int (a₀ + i * d₀) t)) (fun _ s₄ => wpAny (model prog w) A (execs body env) (FPost s B env.locals I oI Led ps stored m₀ (P (i + 1)) Q) E' s₄) E' { s with heap := h, toks := tk })
    (fin : ∀ c (u : Str → Option Value) h tk, P n c → Fr B env.locals h (fun y => kstB (fun z => if stored.contains z then u z else m₀ z) (ps c) y) → News B env.locals h (Led c) → Q .next { s with heap := h, toks := tk }) :
    wpAny (model prog w) A (pyIter (.ref r)) (fun it s₂ => codeAny (model prog w) A (.forLoop (.Name x px) it body [] env) R s₂) E s := by
  refine wpAny_pyIter_range hr hsm ?_
  have W := Walks.range (prog := prog) (w := w) hh s.heap.objs.size a₀ d₀ n
  refine for_loop hR (I := s.heap.objs.size) (m₀ := m₀) (o₀ := { cls := .type "range_iterator", data := .fields #[rawInt a₀, rawInt (Builtin.Range.rangeSize a₀ b₀ d₀), rawInt d₀] }) Led ps stored P c₀ W (fun v s Q E i _ hq => wpAny_pure hq) ?_ ?_ ?_ (F.push _) ?_ ?_ hk hp ?_ ?_
  · show IsRangeIter _ _ _ _ _
    rw [hn]; simpa using Heap.get?_push_size _ rfl
  · intro b hb
    exact .inl (List.mem_singleton.mp hb)
  · intro i h st
    exact ⟨_, st⟩
  · intro p hp
    rcases List.mem_cons.mp hp with rfl | hp
    · exact ⟨Heap.get?_push_size _ rfl, Nat.ne_of_gt F.ns.lt, next_is_new F⟩
    · exact ⟨Heap.get?_push_of_some _ (N p hp).1, (N p hp).2⟩
  · intro p hp
    exact Nat.ne_of_lt (Heap.lt_size (N p hp).1)
  · rintro c i v u oI h tk E' hi ⟨t, rfl⟩ hP hap F₁ N₁ st
    refine turn s.heap.objs.size c i t u oI h tk E' hi hP hap F₁ N₁ ?_
    have z := (N₁ _ (.head _)).1
    rw [show h.get? s.heap.objs.size = some _ from st] at z
    have z2 : _ = oI := Option.some.inj z
    rw [← z2]
    intro v e
    cases e
  · intro c u h tk hP F₁ N₁
    exact fin c u h tk hP F₁ N₁
/-- a for over a list of the ledger -/
theorem for_list {σ : Type} {s : Shared} {x : Str} {px : Pos} {body : List Stmt} {B : Heap} {Q : Flow → Shared → Prop} {R : Result → Shared → Prop} {r : Addr} {items : Array Value} {oL : Obj} {m₀ : Str → Option Value}
    (Led : σ → List (Addr × Obj)) (ps : σ → List (Str × Value)) (stored : List Str) (P : Nat → σ → Prop) (c₀ : σ) (hR : ∀ f s', Q f s' → R (.ok f) s') (hh : A.handled = none)
    (hl : s.heap.IsList r items) (ho : s.heap.get? r = some oL) (hin : ∀ c, (r, oL) ∈ Led c)
    (F : Fr B env.locals s.heap m₀) (N : News B env.locals s.heap (Led c₀)) (hk : ∀ p ∈ ps c₀, m₀ p.1 = some p.2) (hp : P 0 c₀)
    (turn : ∀ I c i v (u : Str → Option Value) oI h tk (E' : Value → Shared → Prop), i < items.size → items[i]? = some v → P i c → (∀ p ∈ Led c, p.1 ≠ I) → Fr B env.locals h (fun y => kstB (fun z => if stored.contains z then u z else m₀ z) (ps c) y) → News B env.locals h ((I, oI) :: Led c) → (∀ v, oI.data ≠ .cell v) →
      wpAny (model prog w) A (assign (.Name x px) env v) (fun _ s₄ => wpAny (model prog w) A (execs body env) (FPost s B env.locals I oI Led ps stored m₀ (P (i + 1)) Q) E' s₄) E' { s with heap := h, toks := tk })
    (fin : ∀ c (u : Str → Option Value) h tk, P items.size c → Fr B env.locals h (fun y => kstB (fun z => if stored.contains z then u z else m₀ z) (ps c) y) → News B env.locals h (Led c) → Q .next { s with heap := h, toks := tk }) :
    wpAny (model prog w) A (pyIter (.ref r)) (fun it s₂ => codeAny (model prog w) A (.forLoop (.Name x px) it body [] env) R s₂) E s := by
  refine wpAny_pyIter_list hl ?_
  have hlt : r < s.heap.objs.size := Heap.lt_size ho
  have W := Walks.list (prog := prog) (w := w) hh s.heap.objs.size r (Nat.ne_of_lt hlt) items
  refine for_loop hR (I := s.heap.objs.size) (m₀ := m₀) (o₀ := { cls := .type "list_iterator", data := .fields #[.ref r, .int 0 0] }) Led ps stored P c₀ W (fun v s Q E i _ hq => wpAny_pure hq) ⟨⟨_, Heap.get?_push_size _ rfl, rfl, rfl⟩, hl.push _⟩ ?_ ?_ (F.push _) ?_ ?_ hk hp ?_ ?_
  · intro b hb
    rcases List.mem_cons.mp hb with rfl | hb
    · exact .inl rfl
    · rw [List.mem_singleton.mp hb]
      exact .inr ⟨oL, fun h u c _ N' => (N' _ (hin c)).1⟩
  · intro i h st
    obtain ⟨⟨o, ho, _⟩, _⟩ := st
    exact ⟨o, ho⟩
  · intro p hp
    rcases List.mem_cons.mp hp with rfl | hp
    · exact ⟨Heap.get?_push_size _ rfl, Nat.ne_of_gt F.ns.lt, next_is_new F⟩
    · exact ⟨Heap.get?_push_of_some _ (N p hp).1, (N p hp).2⟩
  · intro p hp
    exact Nat.ne_of_lt (Heap.lt_size (N p hp).1)
  · rintro c i v u oI h tk E' hi hv hP hap F₁ N₁ st
    refine turn s.heap.objs.size c i v u oI h tk E' hi hv hP hap F₁ N₁ ?_
    have z := (N₁ _ (.head _)).1
    obtain ⟨⟨o, ho, _, hd⟩, _⟩ := st
    rw [ho] at z
    have z2 : o = oI := Option.some.inj z
    rw [← z2, hd]
    intro v e
    cases e
  · intro c u h tk hP F₁ N₁
    exact fin c u h tk hP F₁ N₁
end

end
section
/-- entry of a def with cells, the whole heap as its base -/
theorem enterC {prog : Program} {w : World} {A : Around} {s : Shared} {K : Frag} {p : Program} {ls : List Str} {mg mb : Str → Option Value}
    {R : Result → Shared → Prop} {name qual : Str} {params : Arguments} {body : List Stmt} {scope : Scope} {dV kV doc pm cdv ct oc : Value} {an od : Option Addr} {osl : Array (Option Value)} {f : Addr} {args : Args} {binds : List (Str × Value)}
    (X : K.In s.heap) (T : TopRead p ls mg mb s.heap)
    (ho : K.lookup f = some ⟨oc, od, .func (fnOf name qual params body scope dV kV doc pm an cdv ct), osl⟩) (hcd : codeIn K cdv qual = true) (hroom : A.depth < recursionLimit)
    (hbind : BindsTo s (fnOf name qual params body scope dV kV doc pm an cdv ct) args binds) (hkind : (binds.all fun y => scope.names.lookup y.1 == some .local || scope.names.lookup y.1 == some .cell) = true)
    (hnd : ((cellsFrom 0 scope.names []).map (·.1)).Nodup)
    (h : ∀ L h₁ tk cells, Fr s.heap L h₁ (bindL (envOfC qual scope L f cdv).kindOf binds fun _ => none) → News s.heap L h₁ cells →
      CellsAre (bindC (envOfC qual scope L f cdv).kindOf binds fun _ => none) (cellsFrom (L + 1) scope.names []) cells →
      wpAny (model prog w) (A.deeper (envOfC qual scope L f cdv)) (execs body (envOfC qual scope L f cdv))
        (fun fl s' => R (.ok (.ret (match fl with | .ret v => v | _ => .none))) s') (fun _ _ => False) { s with heap := h₁, toks := tk })
    (hco : scope.isCoroutine = false := by rfl) (hgen : scope.isGenerator = false := by rfl) (hk : scope.kind = .function := by rfl) : codeAny (model prog w) A (.call (.ref f) args) R s := by
  refine codeAny_call_function hroom (X _ _ ho) rfl hco hgen rfl (codeRec_of X hcd) (hbind _ _ _ _ ?_)
  refine wpAny_newFunctionEnv_cells hk (kindsX hkind _) fun env' he s' x => ?_
  subst he
  refine ⟨T.nolimit.keeps x.toInCall.keep, codeAny_func ?_⟩
  obtain ⟨h₁, tk, rfl, _⟩ := x.done
  obtain ⟨cells, NC, Y⟩ := Cl.news (h₀ := s.heap) (Nat.le_refl _) fun n c hm => ⟨x.cell n c (lookup_of_mem_nodup (cellsFrom_names scope.names 0 (s.heap.objs.size + 1) [] [] rfl ▸ hnd) hm), x.above n c hm⟩
  exact wpAny_mono (h s.heap.objs.size h₁ tk cells ⟨x.toInCall.ns, x.toInCall.keep, Nat.le_refl _⟩ NC Y) (fun _ _ x => x) (fun _ _ x => x.elim)

end
example : True := by
  (k_with "k_updF" => first | exact UpdF.head (by k_all) | exact UpdF.tail (by k_ne) (by k_updF))
  (k_with "storeName" => (k_here; (with_reducible show wpAny _ _ (storeName (envOfC _ _ _ _ _) _ _) _ _ _); k_dflt (refine' storeX_C ?sc1 ?sc2 ?sc3 ?sc4 ?sc5 ?_ ?sc6 ?sc7; (case sc6 => rfl); (case sc7 => rfl); (case sc1 => k_asm); (case sc2 => k_asm); (case sc3 => rfl); (case sc4 => k_updF); (case sc5 => assumption); k_whole); intro h' o' F' N' d'; (try dsimp only at N')))
  (k_with "eval Name" => (k_here; (with_reducible show wpAny _ _ (eval (Expr.Name _ _) (envOfC _ _ _ _ _)) _ _ _); k_dflt (refine' nameX_C ?nc1 ?nc2 ?nc3 ?nc4 ?_ ?nc5 ?nc6 ?nc7; (case nc5 => rfl); (case nc6 => rfl); (case nc7 => decide); (case nc1 => k_asm); (case nc2 => rfl); (case nc3 => k_mem); (case nc4 => assumption); k_whole)))
  trivial
section
-- walks on until an iterator, a for, a list comprehension, a call of the text's own, or an end
example : True := by
  (k_with "ktr_rel" => with_reducible (first | show wpAny _ _ (exec (Stmt.For _ _ _ _ _) _) _ _ _ | show wpAny _ _ (subscriptTail _ _ (Value.ref _) (Value.ref _)) _ _ _))
  trivial
noncomputable def foundStep (cols : List Int) (tabs last : Int) (runs : List Int) (size : Int) : List Int :=
  runs ++ List.replicate (Int.fdiv (cols.getD (size - 1).toNat 0 - last) size - tabs - (runs.map fun r => Int.fdiv r size).sum).toNat size
noncomputable def foundRuns (cols : List Int) (tabs last : Int) : Nat → List Int
  | 0 => []
  | i + 1 => foundStep cols tabs last (foundRuns cols tabs last i) ((cols.length : Int) - 1 - i)
/-- the runs and the last run, as _law_found reckons them -/
noncomputable def foundR (cols : List Int) : List Int :=
  let z := cols.getD (cols.length - 1) 0
  let rs := foundRuns cols (z.fdiv cols.length) (z.fmod cols.length) (cols.length - 1)
  rs ++ List.replicate (z.fdiv cols.length - rs.length).toNat 0
noncomputable def foundL (cols : List Int) : Int := (cols.getD (cols.length - 1) 0).fmod cols.length
theorem fdiv_sum {size : Int} (hs : 1 ≤ size) : ∀ l : List Int, (∀ r ∈ l, 0 ≤ r ∧ r ≤ 10) → 0 ≤ (l.map fun r => Int.fdiv r size).sum ∧ (l.map fun r => Int.fdiv r size).sum ≤ 10 * l.length
  | [], _ => by simp
  | r :: l, h => by
    have h0 := h r (.head _)
    have h1 : 0 ≤ Int.fdiv r size := Int.fdiv_nonneg h0.1 (by omega)
    have h2 : Int.fdiv r size ≤ 10 := by
      rw [Int.fdiv_eq_ediv_of_nonneg _ (by omega)]
      have : r / size ≤ r := Int.ediv_le_self _ h0.1
      omega
    have h3 := fdiv_sum hs l fun q hq => h q (.tail _ hq)
    simp only [List.map_cons, List.sum_cons, List.length_cons]
    omega
structure FS where
  ca : Addr
  vs : List Value
  ep : Nat
  rs : List Int
  oc : Obj
  cv : Option Value
noncomputable def LedF (L : Addr) (c : FS) : List (Addr × Obj) := [(c.ca, listOf c.vs.toArray c.ep), (L + 1, c.oc)]
noncomputable def psF (c : FS) : List (Str × Value) := [(Str.ofString "runs", .ref c.ca)]
structure InvF (L : Addr) (cols : List Int) (tabs last : Int) (i : Nat) (c : FS) : Prop where
  rs : c.rs = foundRuns cols tabs last i
  hints : IntsAre c.vs c.rs
  cell : c.oc.data = .cell c.cv
  len : c.rs.length ≤ 200 * i
  bd : ∀ r ∈ c.rs, 0 ≤ r ∧ r ≤ 10
  lt : L + 1 < c.ca
theorem foundC {w : World} {dp un : Nat} {fr : Option (List Env)} {gd : Option (List Code)} {s : Shared} {mg mb : Str → Option Value} {Q : Value → Shared → Prop} {E : Value → Shared → Prop} {a : Addr} {vs : List Value} {cols : List Int}
    (hA : dp + 60 < recursionLimit) (hu : un + 400 < cLine) (G : Gd w mg mb s.heap) (hl : s.heap.IsList a vs.toArray) (hv : IntsAre vs cols) (hn : 1 ≤ cols.length) (hn2 : cols.length ≤ 10) (hc : ∀ c ∈ cols, 0 ≤ c ∧ c ≤ 100)
    (hQ : ∀ b D ws n t h' tk, Up s.heap h' → h'.get? b = some (tupObj [.ref D, .int (foundL cols) t]) → h'.get? D = some (listOf ws.toArray n) → IntsAre ws (foundR cols) → s.heap.get? b = none → s.heap.get? D = none → Q (.ref b) { s with heap := h', toks := tk }) :
    wpAny (model PG w) (Aof dp un fr gd) (call (.ref 162) [.ref a]) Q E s := by
  have X := G.k
  have T := G.t
  refine wpAny_call ?_
  refine' enterC (binds := [(Str.ofString "columns", .ref a)]) X T ?k6 ?k7 ?k8 ?k9 ?kB ?kD ?_ ?c2 ?c3 ?c4
  case k6 => k_is
  case k7 => k_is
  case k8 => (show dp < _; omega)
  case k9 => exact BindsTo.of_eq rfl
  case kB => exact rfl
  case kD => decide +kernel
  case c2 => exact rfl
  case c3 => exact rfl
  case c4 => exact rfl
  intro L h₁ tk cells F N Y
  k_cells Y
  (try simp only [List.cons_append, List.nil_append] at N)
  (try dsimp only)
  (try k_fold)
  ktr_unf
  (with_reducible rename Fr _ _ _ _ => F6)
  (with_reducible rename News _ _ _ _ => N6)
  refine wpAny_For ?_
  ktr_unf
  (with_reducible rename Fr _ _ _ _ => F7)
  (with_reducible rename News _ _ _ _ => N7)
  (with_reducible rename IsRange _ _ _ _ _ _ _ _ => R7)
  refine kba_turn (value' := .Name (Str.ofString "x") default) (fun _ => rfl) ?_
  refine range_rev (by exact F7) (by exact N7) (by exact R7) (by omega) (by omega) ?_
  intro h8 r8 t1 t2 t3 tk8 F8 N8 R8
  clear F7 N7 R7
  (try dsimp only)
  (with_reducible rename Obj => oc)
  rename oc.data = _ => dc
  have dc : oc.data = .cell none := dc
  have hlast : cols.getD (-1 + (cols.length : Int)).toNat 0 ∈ cols := by
    have : (-1 + (cols.length : Int)).toNat < cols.length := by omega
    rw [List.getD_eq_getElem?_getD, List.getElem?_eq_getElem this]
    exact List.getElem_mem _
  have hlb := hc _ hlast
  generalize hz : cols.getD (-1 + (cols.length : Int)).toNat 0 = z at *
  have hta0 : 0 ≤ z.fdiv cols.length := Int.fdiv_nonneg (by omega) (by omega)
  have hta1 : z.fdiv cols.length ≤ 100 := by
    rw [Int.fdiv_eq_ediv_of_nonneg _ (by omega)]
    have : z / (cols.length : Int) ≤ z := Int.ediv_le_self _ (by omega)
    omega
  have hla0 : 0 ≤ z.fmod cols.length := Int.fmod_nonneg_of_pos _ (by omega)
  have hla1 : z.fmod cols.length < cols.length := Int.fmod_lt_of_pos _ (by omega)
  refine' for_range (n := cols.length - 1) (LedF L) psF [Str.ofString "more"] (InvF L cols (z.fdiv cols.length) (z.fmod cols.length)) ⟨?ca, [], 0, [], oc, none⟩ (fun _ _ x => x) rfl (by exact R8) (small_down (by omega) (by omega) (by omega) (by omega)) ?hn (by exact F8) ?N ?hk ?p0 ?_ ?_
  case N => exact N8
  case hk => intro p hp; rw [List.mem_singleton.mp hp]; exact rfl
  case p0 => exact ⟨rfl, .nil, dc, Nat.zero_le _, (fun r hr => nomatch hr), by assumption⟩
  case hn => rw [rangeSize_downNat]; omega
  · rintro I ⟨ca, vs', ep, rs, oc', cv⟩ i t u oI h tk E' hi hP hap Fb Nb hoI
    have hI1 := neN (hap _ (.head _))
    have hI2 := neN (hap _ (.tail _ (.head _)))
    have dcell := hP.cell
    have hlt := ltN hP.lt
    have hints := hP.hints
    have hlen := hP.len
    unfold LedF at Nb
    dsimp only at dcell hlt hints hlen Nb hI1 hI2
    rw [show (cols.length : Int) - 1 + (i : Int) * -1 = cols.length - 1 - i by omega]
    clear N8 F8 R8
    replace Fb : Fr s.heap L h _ := Fb
    replace Nb : News s.heap L h _ := Nb
    ktr_unf
    (with_reducible rename Fr _ _ _ _ => F9)
    (with_reducible rename News _ _ _ _ => N9)
    refine comp_eval (cl := [(Str.ofString "size", L + 1)]) rfl rfl (by decide) ?_
    ktr_unf
    have hlr := News.isList N9 (.tail _ (.head _))
    have X₃ := X.keeps F9.keep
    have T₃ := T.keeps F9.keep
    have hcl := News.cellAt (v := some (.int ((cols.length : Int) - 1 - i) t)) N9 (.tail _ (.tail _ (.head _))) (by assumption) (fun e => e)
    have hbd := hP.bd
    dsimp only at hbd
    generalize hsz : (cols.length : Int) - 1 - i = size at *
    have hs1 : 1 ≤ size := by omega
    have hs2 : size ≤ 10 := by omega
    refine comp_simple (fun j ys => ys.length = j ∧ IntsAre ys ((rs.take j).map fun r => Int.fdiv r size)) (src_list rfl hlr (fun _ _ e => e)) (by decide) rfl ⟨rfl, .nil⟩ (fun i ys h => Nat.le_of_eq h.1) ?_ ?_ ?_
    · have := hints.length
      rw [List.size_toArray]
      omega
    · intro C D I' j v ys u' oI' nn h₃ tk₃ E'' hj hv' hPc F₃ N₃
      clear F9 N9 X T
      obtain ⟨r, tr, rfl, hri⟩ := intsGet hints (by simpa using hv')
      obtain ⟨hr0, hr1⟩ := hbd r (List.mem_of_getElem? hri)
      ktr_unf
      (with_reducible rename Fr _ _ _ _ => F10)
      (with_reducible rename News _ _ _ _ => N10)
      refine ce_end (by exact F10) (by exact N10) ⟨by rw [List.length_append, hPc.1]; rfl, ?_⟩
      rw [takeSnoc hri, List.map_append]
      exact intsSnoc hPc.2
    · intro D ys nn h5 tk5 hP5 hk5 hD hDn
      have F5 := frUp F9 hk5
      have N5 := newsAdd F9 N9 hk5 hD hDn
      obtain ⟨q1, q2⟩ := hP5
      rw [List.size_toArray, hints.length] at q1 q2
      rw [List.take_of_length_le (Nat.le_refl _)] at q2
      clear F9 N9
      have hsum := fdiv_sum hs1 rs hbd
      have hcm : cols.getD (size - 1).toNat 0 ∈ cols := by
        have : (size - 1).toNat < cols.length := by omega
        rw [List.getD_eq_getElem?_getD, List.getElem?_eq_getElem this]
        exact List.getElem_mem _
      have hcb := hc _ hcm
      have hq1' : (cols.getD (size - 1).toNat 0 - z.fmod cols.length).fdiv size ≤ 100 := by
        rw [Int.fdiv_eq_ediv_of_nonneg _ (by omega)]
        exact Int.ediv_le_of_le_mul (by omega) (by omega)
      have hq2' : -10 ≤ (cols.getD (size - 1).toNat 0 - z.fmod cols.length).fdiv size := by
        rw [Int.fdiv_eq_ediv_of_nonneg _ (by omega)]
        exact Int.le_ediv_of_mul_le (by omega) (by omega)
      (try dsimp only)
      ktr_unf
      (with_reducible rename Fr _ _ _ _ => F7)
      (with_reducible rename News _ _ _ _ => N7)
      (with_reducible rename IntsAre _ _ => hI7)
      unfold FPost
      dsimp only
      have hst : foundStep cols (z.fdiv cols.length) (z.fmod cols.length) rs size = rs ++ (List.replicate ((cols.getD (size - 1).toNat 0 - z.fmod cols.length).fdiv size - z.fdiv cols.length - (rs.map fun r => Int.fdiv r size).sum).toNat [size]).flatten := by
        rw [List.flatten_replicate_singleton]
        rfl
      refine' f_end (⟨?D9, ?ws9, 0, foundStep cols (z.fdiv cols.length) (z.fmod cols.length) rs size, ?oc9, some (.int size t)⟩ : FS) (by exact F7) ?N9 ?hap9 ?hk9 ?hr9 ?hp9
      case hk9 => intro p hp; rw [List.mem_singleton.mp hp]; exact rfl
      case hp9 =>
        refine ⟨?_, by (have hI8 := hI7; rw [← hst] at hI8; exact hI8), by assumption, ?_, ?_, ltN (by dsimp only; omega)⟩
        · show _ = foundStep cols (z.fdiv cols.length) (z.fmod cols.length) (foundRuns cols (z.fdiv cols.length) (z.fmod cols.length) i) ((cols.length : Int) - 1 - i)
          rw [hsz, ← hP.rs]
        · dsimp only
          unfold foundStep
          rw [List.length_append, List.length_replicate]
          omega
        · intro r hr
          dsimp only at hr
          unfold foundStep at hr
          rcases List.mem_append.mp hr with hr | hr
          · exact hbd r hr
          · have := List.eq_of_mem_replicate hr
            omega
      case N9 =>
        refine newsSub N7 ?_
        intro p hp
        simp only [LedF, List.mem_cons, List.not_mem_nil, or_false] at hp
        rcases hp with h | h | h <;> (rw [h]; k_mem)
      case hap9 =>
        intro p hp
        simp only [LedF, List.mem_cons, List.not_mem_nil, or_false] at hp
        rcases hp with h | h <;> (rw [h]; refine neN ?_; dsimp only; omega)
      case hr9 =>
        intro zz hp hst
        have h9 := hp _ (List.mem_singleton.mpr rfl)
        have h8 : zz ≠ Str.ofString "more" := by
          rintro rfl
          revert hst
          decide
        dsimp only at h9 ⊢
        simp [h9, h8, kstB, psF]
  · rintro ⟨ca, vs', ep, rs, oc', cv⟩ u h tk hP Fb Nb
    have dcell := hP.cell
    have hlt := ltN hP.lt
    have hints := hP.hints
    have hlen := hP.len
    unfold LedF at Nb
    dsimp only at dcell hlt hints hlen Nb
    clear N8 F8 R8
    replace Fb : Fr s.heap L h _ := Fb
    replace Nb : News s.heap L h _ := Nb
    ktr_unf
    (with_reducible rename Fr _ _ _ _ => F7)
    (with_reducible rename News _ _ _ _ => N7)
    (with_reducible rename IntsAre _ _ => hI7)
    have n1 := N7 _ (.head _)
    have n2 := N7 _ (.tail _ (.head _))
    have ez : cols.getD (cols.length - 1) 0 = z := by rw [← hz]; congr 1; omega
    have e1 : foundL cols = z.fmod cols.length := by unfold foundL; rw [ez]
    have e2 : foundR cols = rs ++ (List.replicate (z.fdiv cols.length - rs.length).toNat [(0 : Int)]).flatten := by
      have e3 : rs = foundRuns cols (z.fdiv cols.length) (z.fmod cols.length) (cols.length - 1) := hP.rs
      unfold foundR
      rw [List.flatten_replicate_singleton, ez]
      dsimp only
      rw [← e3]
    exact hQ _ _ _ _ _ _ _ F7.keep (e1 ▸ n1.1) n2.1 (e2 ▸ hI7) n1.2.2 n2.2.2

end
example : True := by
  k_with_none
  (k_with "ktr_rel" => with_reducible (first | show wpAny _ _ (pyIter _) _ _ _ | show wpAny _ _ (call (Value.builtin "list.append") _) _ _ _ | show wpAny _ _ (setItem _ _ _) _ _ _))
  (k_with "ktr_unf" => repeat' (first | (k_unfold; (try dsimp only)) | ((fail_if_success ktr_rel); (first | walk1 | (dsimp only; walk1) | (leave1; (try dsimp only))))))
  (k_with "execs cons Assign cons" => with_reducible refine wpAny_execs_cons ?_)
  (k_with "kun_tup" => exact IsTup.keeps (by assumption) (Fr.keep (by k_asm)))
  (k_with "k_inst" => exact InstAt.keepsH (by assumption) (Fr.keep (by k_asm)))
  (k_with "call builtin:len" => (k_here; (with_reducible show wpAny _ _ (call (Value.builtin "len") [Value.ref _]) _ _ _); k_dflt (refine' PyProof.Rows.len_tuple ?k1 ?k2 ?_; (case k1 => kun_tup); (case k2 => first | assumption | decide); k_whole)))
  (k_with "call builtin:len" => (k_here; (with_reducible show wpAny _ _ (call (Value.builtin "len") [Value.ref _]) _ _ _); k_dflt (refine' PyProof.Rows.len_list ?k1 ?k2 ?_; (case k1 => exact stays_list (Fr.keep (by k_asm)) (by assumption)); (case k2 => first | assumption | decide); k_whole)))
  (k_with "subscriptTail" => (k_here; (with_reducible show wpAny _ _ (subscriptTail _ _ (Value.ref _) (Value.int _ _)) _ _ _); k_dflt (refine' item_tuple_ints ?t ?i ?a ?b ?c ?_; (case t => kun_tup); (case i => assumption); (case a => omega); (case b => omega); (case c => omega); k_whole); intro t9))
  (k_with "call ref" => (k_here; (show wpAny _ _ (call (Value.ref 79) [Value.ref _]) _ _ _); k_dflt (refine' longest ?hA ?hu ?G ?W ?_; (case hA => ktr_room); (case hu => ktr_units); (case G => exact Gd.up (by assumption) (Fr.keep (by k_asm))); (case W => exact WS.up (by assumption) (Fr.keep (by k_asm))); k_whole); intro t9 h9 tk9 hk9; (with_reducible rename Fr _ _ _ _ => F8); (with_reducible rename News _ _ _ _ => N8); (have F9 := frUp F8 hk9); (have N9 := newsUp N8 hk9); (try dsimp only)))
  (k_with "call ref" => (k_here; (show wpAny _ _ (call (Value.ref 86) [Value.ref _, Value.int _ _]) _ _ _); k_dflt (refine' indent ?hA ?hu ?G ?W ?h1 ?h2 ?_; (case hA => ktr_room); (case hu => ktr_units); (case G => exact Gd.up (by assumption) (Fr.keep (by k_asm))); (case W => exact WS.up (by assumption) (Fr.keep (by k_asm))); (case h1 => omega); (case h2 => omega); k_whole); intro t9 h9 tk9 hk9; (with_reducible rename Fr _ _ _ _ => F8); (with_reducible rename News _ _ _ _ => N8); (have F9 := frUp F8 hk9); (have N9 := newsUp N8 hk9); (try dsimp only)))
  (k_with "ktr_rel" => with_reducible (first | show wpAny _ _ (eval (Expr.ListComp _ _ _ _) _) _ _ _ | show wpAny _ _ (exec (Stmt.Assign [_] (Expr.ListComp _ _ _ _) _) _) _ _ _ | show wpAny _ _ (call (Value.builtin "str.join") _) _ _ _))
  (k_with "eval Name" => (k_here; (with_reducible show wpAny _ _ (eval (Expr.Name _ _) (compEnvC _ _ _ _)) _ _ _); k_dflt (first
  | (refine' cn_loc ?k1 ?k2 ?_ ?k3 ?k4 ?k5; (case k3 => rfl); (case k4 => rfl); (case k5 => decide); (case k1 => k_asm); (case k2 => exact rfl); k_whole)
  | (refine' cn_cell ?k1 ?k2 ?k3 ?_ ?k4 ?k5 ?k6; (case k4 => rfl); (case k5 => rfl); (case k6 => decide); (case k1 => k_asm); (case k2 => rfl); (case k3 => assumption); k_whole)
  | (refine' cn_glob ?k1 ?k2 ?k3 ?k4 ?_ ?k5 ?k6 ?k7 ?k8; (case k5 => rfl); (case k6 => rfl); (case k7 => rfl); (case k8 => decide); (case k1 => k_asm); (case k2 => k_asm); (case k3 => k_asm); (case k4 => k_is); k_whole)
  | (refine' cn_bi ?k1 ?k2 ?k3 ?k4 ?k5 ?k6 ?_ ?k7 ?k8 ?k9 ?k10 ?k11; (case k7 => rfl); (case k8 => rfl); (case k9 => rfl); (case k10 => rfl); (case k11 => decide); (case k1 => k_asm); (case k2 => k_asm); (case k3 => k_asm); (case k4 => k_is); (case k5 => boot_by_name); (case k6 => decide); k_whole))))
  (k_with "storeName" => (k_here; (with_reducible show wpAny _ _ (storeName (compEnvC _ _ _ _) _ _) _ _ _); k_dflt (refine' cn_store ?k1 ?k2 ?_ ?k3 ?k4; (case k3 => rfl); (case k4 => rfl); (case k1 => k_asm); (case k2 => k_asm); k_whole); intro h' F' N'; (try dsimp only)))
  (k_with "binaryOp Mult str int" => (k_here; (with_reducible show wpAny _ _ (binaryOp Operator.Mult (Value.str (Str.ofString " ") _) (Value.int _ _)) _ _ _); k_dflt (refine' mul_sp ?k1 ?k2 ?_; (case k1 => omega); (case k2 => omega); k_whole); intro t9 k9; (try dsimp only)))
  (k_with "ktr_rel" => with_reducible (first | show wpAny _ _ (call (Value.ref _) _) _ _ _))
  (k_with "subscriptTail" => (k_here; (with_reducible show wpAny _ _ (subscriptTail _ _ (Value.ref _) (Value.int _ _)) _ _ _); k_dflt (refine' item_tupleT ?t8 ?lo8 ?hi8 ?j8 ?x8 ?_; (case t8 => exact IsTup.keeps (by assumption) (Fr.keep (by k_asm))); (case lo8 => decide); (case hi8 => decide); (case j8 => exact rfl); (case x8 => exact rfl); k_whole)))
  (k_with "k_updF" => first | exact UpdF.head (by k_all) | exact UpdF.tail (by k_ne) (by k_updF))
  (k_with "storeName" => (k_here; (with_reducible show wpAny _ _ (storeName (envOfC _ _ _ _ _) _ _) _ _ _); k_dflt (refine' storeX_C ?sc1 ?sc2 ?sc3 ?sc4 ?sc5 ?_ ?sc6 ?sc7; (case sc6 => rfl); (case sc7 => rfl); (case sc1 => k_asm); (case sc2 => k_asm); (case sc3 => rfl); (case sc4 => k_updF); (case sc5 => assumption); k_whole); intro h' o' F' N' d'; (try dsimp only at N')))
  (k_with "eval Name" => (k_here; (with_reducible show wpAny _ _ (eval (Expr.Name _ _) (envOfC _ _ _ _ _)) _ _ _); k_dflt (refine' nameX_C ?nc1 ?nc2 ?nc3 ?nc4 ?_ ?nc5 ?nc6 ?nc7; (case nc5 => rfl); (case nc6 => rfl); (case nc7 => decide); (case nc1 => k_asm); (case nc2 => rfl); (case nc3 => k_mem); (case nc4 => assumption); k_whole)))
  trivial
section
/-- the law's own def: the last statement of the text -/
noncomputable def lawRec : DefRec := (PySem.Challenge.pw_mj0217_01.main.body.getLast?.bind DefRec.ofStmt?).get rfl
noncomputable abbrev lawEnv (L fa : Addr) (cd : Value) : Env := envOfC lawRec.name lawRec.scope L fa cd
noncomputable def lawB (k : Nat) : List Stmt := lawRec.body.drop k
theorem law_step {M : Model} {A : Around} {Q : Flow → Shared → Prop} {E : Value → Shared → Prop} {s : Shared} {env : Env} {k : Nat} {st : Stmt} (hb : lawB k = st :: lawB (k + 1))
    (h : wpAny M A (exec st env) (fun f s' => match f with | .next => wpAny M A (execs (lawB (k + 1)) env) Q E s' | f => Q f s') E s) : wpAny M A (execs (lawB k) env) Q E s := by
  rw [hb]
  refine wpAny_execs_cons (wpAny_mono h (fun f s' h' => ?_) fun _ _ e => e)
  cases f <;> exact h'
/-- as UpdF, where the others are elsewhere or no cells -/
inductive UpdA (c : Addr) (o : Obj) : List (Addr × Obj) → (Obj → List (Addr × Obj)) → Prop
  | head {r} : ApartOr c r → UpdA c o ((c, o) :: r) (fun o' => (c, o') :: r)
  | tail {p r g} : (p.1 ≠ c ∨ ∀ v, p.2.data ≠ .cell v) → UpdA c o r g → UpdA c o (p :: r) (fun o' => p :: g o')
theorem UpdA.split {c : Addr} {o : Obj} : ∀ {l : List (Addr × Obj)} {g : Obj → List (Addr × Obj)}, UpdA c o l g → ∃ pre post, l = pre ++ (c, o) :: post ∧ (∀ o', g o' = pre ++ (c, o') :: post) ∧ (∀ p ∈ pre, p.1 ≠ c ∨ ∀ v, p.2.data ≠ .cell v) ∧ ∀ p ∈ post, p.1 ≠ c ∨ ∀ v, p.2.data ≠ .cell v
  | _, _, .head h => ⟨[], _, rfl, fun _ => rfl, (fun _ hp => nomatch hp), h.all⟩
  | _, _, .tail (p := p) h u => by
    obtain ⟨pre, post, rfl, hg, h1, h2⟩ := u.split
    refine ⟨p :: pre, post, rfl, fun o' => (congrArg (p :: ·) (hg o')), fun q hq => ?_, h2⟩
    rcases List.mem_cons.mp hq with rfl | hq
    · exact h
    · exact h1 q hq
theorem apartT {c : Addr} : ∀ {T : List (Addr × Obj)}, (∀ p ∈ T, ∀ v, p.2.data ≠ .cell v) → ApartOr c T
  | [], _ => trivial
  | p :: r, h => ⟨.inr (h p (.head _)), apartT fun q hq => h q (.tail _ hq)⟩
theorem storeA {M : Model} {A : Around} {E : Value → Shared → Prop} {s : Shared} {h₀ : Heap} {L a : Addr} {m : Str → Option Value} {cn : Str} {cs : Scope} {ccd : Value} {cl : List (Str × Addr)}
    {x : Str} {v : Value} {Q : Unit → Shared → Prop} {news : List (Addr × Obj)} {g : Obj → List (Addr × Obj)} {c : Addr} {o : Obj} {v₀ : Option Value} (F : Fr h₀ L s.heap m) (N : News h₀ L s.heap news) (hc : cl.lookup x = some c) (U : UpdA c o news g) (hd : o.data = .cell v₀)
    (h : ∀ h' o', Fr h₀ L h' m → News h₀ L h' (g o') → o'.data = .cell (some v) → Q () { s with heap := h' })
    (hk : cs.kind = .function := by rfl) (hx : (envX cn cs L a ccd cl).kindOf x = some .cell := by rfl) : wpAny M A (storeName (envX cn cs L a ccd cl) x v) Q E s := by
  obtain ⟨pre, post, rfl, hg, h1, h2⟩ := U.split
  have hmem := N (c, o) (List.mem_append_right _ (.head _))
  have key : ∀ p ∈ pre ++ (c, o) :: post, (p.1 ≠ c ∨ ∀ v, p.2.data ≠ .cell v) → p.1 ≠ c := fun p hp hor e => by
    rcases hor with h3 | h3
    · exact h3 e
    · have h4 := (N p hp).1
      rw [e, hmem.1] at h4
      have e2 : o = p.2 := Option.some.inj h4
      exact h3 v₀ (by rw [← e2]; exact hd)
  refine wpAny_storeName_cell hk hx hc ⟨o, hmem.1, hd⟩ fun h' hv hs => ?_
  obtain ⟨o', ho', hd'⟩ := hv
  refine h h' o' ⟨F.ns.sameBut hs (Ne.symm hmem.2.1), fun b ob e => (hs.2 b (fun q => ?_)).trans (F.keep b ob e), F.above⟩ (hg o' ▸ N.setAt (fun p hp => key p (List.mem_append_left _ hp) (h1 p hp)) (fun p hp => key p (List.mem_append_right _ (.tail _ hp)) (h2 p hp)) hs ho') hd'
  rw [q, hmem.2.2] at e; cases e

end
section
noncomputable def leadL (b : List Int) (e : Int) : List Nat := (b.flatMap fun z => List.replicate z.toNat 32 ++ [9]) ++ List.replicate e.toNat 32
theorem join_nil_list : ∀ ps : List Str, (Str.join (Str.ofString "") ps).cps.toList = ps.flatMap (fun p => p.cps.toList)
  | [] => rfl
  | [p] => by show p.cps.toList = _; simp
  | p :: q :: r => by
    have ih := join_nil_list (q :: r)
    have e0 : (Str.ofString "").cps.toList = [] := by decide +kernel
    show (p ++ Str.ofString "" ++ Str.join (Str.ofString "") (q :: r)).cps.toList = _
    simp only [Str.cps_append, Array.toList_append]
    rw [ih, e0, List.append_nil]
    rfl
theorem leadS_list (b : List Int) (e : Int) : (leadS b e).cps.toList = leadL b e := by
  unfold leadS leadL
  rw [Str.cps_append, Array.toList_append, show Txt.join (Str.ofString "") (b.map fun z => sp z ++ Str.ofString "\t") = Str.join (Str.ofString "") (b.map fun z => sp z ++ Str.ofString "\t") from StrLaws.glued_eq_join _ _, join_nil_list]
  congr 1
  induction b with
  | nil => rfl
  | cons z r ih =>
    rw [List.map_cons, List.flatMap_cons, ih, List.flatMap_cons]
    congr 1
    rw [Str.cps_append, Array.toList_append, tab_is]
    rfl
theorem flat_len : ∀ b : List Int, (∀ z ∈ b, 0 ≤ z ∧ z ≤ 3) → (b.flatMap fun z => List.replicate z.toNat 32 ++ [9]).length ≤ 4 * b.length
  | [], _ => by simp
  | z :: r, h => by
    have h1 := flat_len r fun q hq => h q (.tail _ hq)
    have h2 := h z (.head _)
    rw [List.flatMap_cons, List.length_append, List.length_append, List.length_replicate, List.length_cons]
    simp only [List.length_cons, List.length_nil]
    omega
theorem leadS_len {b : List Int} {e : Int} (hb : ∀ z ∈ b, 0 ≤ z ∧ z ≤ 3) (he : e ≤ 3) : (leadS b e).length ≤ 4 * b.length + 3 := by
  have h : (leadS b e).length = (leadL b e).length := by rw [← leadS_list]; simp [Str.length]
  have h1 := flat_len b hb
  rw [h, leadL, List.length_append, List.length_replicate]
  omega
theorem leadL_mem {b : List Int} {e : Int} : ∀ c ∈ leadL b e, c = 32 ∨ c = 9 := by
  intro c hc
  rcases List.mem_append.mp hc with h | h
  · obtain ⟨z, _, h⟩ := List.mem_flatMap.mp h
    rcases List.mem_append.mp h with h | h
    · exact .inl (List.eq_of_mem_replicate h)
    · exact .inr (List.mem_singleton.mp h)
  · exact .inl (List.eq_of_mem_replicate h)
theorem asc_of {x : Str} (h : ∀ c ∈ x.cps.toList, c < 128) : x.cps.all (· < 128) = true := by
  rw [Array.all_eq_true_iff_forall_mem]
  intro c hc
  exact decide_eq_true (h c (by simpa using hc))

end
section
/-- the end of one turn of a comprehension whose items stand in a ledger -/
noncomputable def CEL {σ : Type} (s : Shared) (C D I : Addr) (ys : List Value) (nn : Nat) (oI : Obj) (Led : σ → List (Addr × Obj)) (P : σ → List Value → Prop) (zs : List Value) (s' : Shared) : Prop :=
  ∃ h' tk m c, s' = { s with heap := h', toks := tk } ∧ Fr s.heap C h' m ∧ News s.heap C h' ((D, listOf ys.toArray nn) :: (I, oI) :: Led c) ∧ (∀ p ∈ Led c, p.1 ≠ D ∧ p.1 ≠ I) ∧ P c zs
theorem cel_end {σ : Type} {s : Shared} {C D I : Addr} {ys zs : List Value} {nn : Nat} {oI : Obj} {Led : σ → List (Addr × Obj)} {P : σ → List Value → Prop} {h' : Heap} {tk : Nat} {m : Str → Option Value} (c : σ) (F : Fr s.heap C h' m)
    (N : News s.heap C h' ((D, listOf ys.toArray nn) :: (I, oI) :: Led c)) (hap : ∀ p ∈ Led c, p.1 ≠ D ∧ p.1 ≠ I) (p : P c zs) : CEL s C D I ys nn oI Led P zs { s with heap := h', toks := tk } := ⟨h', tk, m, c, rfl, F, N, hap, p⟩
section
variable {prog : Program} {w : World} {A : Around} {E : Value → Shared → Prop} {env : Env}
theorem comp_led {σ : Type} {s : Shared} {elt target iter : Expr} {ifs : List Expr} {scope : Scope} {cl : List (Str × Addr)} {pos : Pos} {xv : Value} {n : Nat} {Pv : Nat → Value → Prop} {Q : Value → Shared → Prop}
    (Led : σ → List (Addr × Obj)) (P : Nat → σ → List Value → Prop) (c₀ : σ) (src : Src prog w A s.heap s xv n Pv target)
    (hcell : ∀ y ∈ scope.names, y.2 ≠ .cell) (hkind : scope.kind = .function) (hL0 : Led c₀ = []) (p₀ : P 0 c₀ []) (hpl : ∀ i c ys, P i c ys → ys.length ≤ i) (hn : n ≤ 100000)
    (turn : ∀ C D I c i v ys u oI nn h₃ tk₃ (E' : Value → Shared → Prop), i < n → Pv i v → P i c ys → (∀ p ∈ Led c, p.1 ≠ D ∧ p.1 ≠ I) → Fr s.heap C h₃ u → News s.heap C h₃ ((D, listOf ys.toArray nn) :: (I, oI) :: Led c) →
      wpAny (model prog w) A (assign target (compEnvC scope cl C env) v) (fun _ s₄ => wpAny (model prog w) A (forIn ifs true fun c r => if r = true then do let ok ← isTrue c (compEnvC scope cl C env) (eval c (compEnvC scope cl C env)); pure (ForInStep.yield ok) else pure (ForInStep.yield r)) (fun ok s₅ =>
        if ok = true then wpAny (model prog w) A (eval elt (compEnvC scope cl C env)) (fun y s₆ => CEL s C D I ys nn oI Led (P (i + 1)) (ys ++ [y]) s₆) E' s₅
        else CEL s C D I ys nn oI Led (P (i + 1)) ys s₅) E' s₄) E' { s with heap := h₃, toks := tk₃ })
    (fin : ∀ D c ys nn h' tk, P n c ys → (∀ b o, s.heap.get? b = some o → h'.get? b = some o) → h'.get? D = some (listOf ys.toArray nn) → s.heap.get? D = none → (∀ p ∈ Led c, h'.get? p.1 = some p.2 ∧ s.heap.get? p.1 = none) → Q (.ref D) { s with heap := h', toks := tk }) :
    wpAny (model prog w) A (pyIter xv) (CGo prog w A E env scope cl (.ListComp elt [⟨target, iter, ifs, 0⟩] scope pos) (fun acc C => compPost (model prog w) A E none Q acc C)) E s := by
  have key : ∀ s' : Shared, (s'.gens = s.gens ∧ s'.drawn = s.drawn ∧ s'.os = s.os) → s' = { s with heap := s'.heap, toks := s'.toks } := by
    rintro ⟨h, g, d, t, o⟩ ⟨h1, h2, h3⟩
    dsimp only at h1 h2 h3
    subst h1 h2 h3
    rfl
  refine comp_front (B := s.heap) Led P (fun s' => s'.gens = s.gens ∧ s'.drawn = s.drawn ∧ s'.os = s.os) c₀ src hcell hkind (fun _ _ e => e) (Nat.le_refl _) (by rw [hL0]; intro p hp; cases hp) (fun _ _ _ z => z) ⟨rfl, rfl, rfl⟩ p₀ hpl hn ?_ ?_
  · intro C D I c i v ys u oI nn s₃ E' cC cD cI hi hv' hP hz hap F₃ N₃
    rw [key s₃ hz]
    refine wpAny_mono (turn C D I c i v ys u oI nn s₃.heap s₃.toks E' hi hv' hP hap F₃ N₃) (fun _ s₄ h₄ => wpAny_mono h₄ (fun ok s₅ h₅ => ?_) fun _ _ e => e) fun _ _ e => e
    cases ok with
    | false =>
      obtain ⟨h', tk, m, c', rfl, F, N, ha, p⟩ := h₅
      exact ⟨c', m, F, N, ha, ⟨rfl, rfl, rfl⟩, p⟩
    | true =>
      refine wpAny_mono h₅ (fun y s₆ h₆ => ?_) fun _ _ e => e
      obtain ⟨h', tk, m, c', rfl, F, N, ha, p⟩ := h₆
      exact ⟨c', m, F, N, ha, ⟨rfl, rfl, rfl⟩, p⟩
  · intro C D c ys nn u s' cC cD hP hz F N ha
    rw [key s' hz]
    refine fin_eval F N ?_
    intro h5 hk5 hn5
    exact fin D c ys nn h5 _ hP hk5 (hn5 _ (.head _)).1 cD (fun p hp => hn5 p (.tail _ hp))
end
theorem newsAddL {h₀ h h' : Heap} {L : Addr} {m : Str → Option Value} {news T : List (Addr × Obj)} (F : Fr h₀ L h m) (N : News h₀ L h news) (k : ∀ b o, h.get? b = some o → h'.get? b = some o) (hT : ∀ p ∈ T, h'.get? p.1 = some p.2 ∧ h.get? p.1 = none) : News h₀ L h' (news ++ T) := by
  intro p hp
  rcases List.mem_append.mp hp with hp | hp
  · exact ⟨k _ _ (N p hp).1, (N p hp).2⟩
  · have z := hT p hp
    refine ⟨z.1, fun e => ?_, ?_⟩
    · obtain ⟨o', _, _, ho, _⟩ := F.ns
      rw [← e, z.2] at ho; cases ho
    · cases q : h₀.get? p.1 with
      | none => rfl
      | some o => have := F.keep _ _ q; rw [z.2] at this; cases this

end
example : True := by
  (k_with "k_all" => first | exact trivial | exact apartT (by assumption) | exact And.intro (by k_all) (by k_all) | exact Or.inl (neN (by (try dsimp only); omega)) | exact Or.inr (by intro v e; cases e) | exact Or.inr (by assumption))
  (k_with "k_updF" => first | exact UpdA.head (by k_all) | exact UpdA.tail (by k_all) (by k_updF))
  (k_with "storeName" => (k_here; (with_reducible show wpAny _ _ (storeName (envOfC _ _ _ _ _) _ _) _ _ _); k_dflt (refine' storeA ?sa1 ?sa2 ?sa3 ?sa4 ?sa5 ?_ ?sa6 ?sa7; (case sa6 => rfl); (case sa7 => rfl); (case sa1 => k_asm); (case sa2 => k_asm); (case sa3 => rfl); (case sa4 => k_updF); (case sa5 => assumption); k_whole); intro h' o' F' N' d'; (try dsimp only at N')))
  (k_with "ktr_rel" => with_reducible (first | show wpAny _ _ (binaryOp Operator.Add (Value.str _ _) (Value.str _ _)) _ _ _ | show wpAny _ _ (execs (lawB _) _) _ _ _ | show wpAny _ _ (exec (Stmt.For _ _ _ _ _) _) _ _ _))
  trivial
section
noncomputable def builtZ (ns : List Int) : List Int := [2] ++ List.map (fun x => Int.fmod x 4) (List.take 3 ns)
noncomputable def endZ (ns : List Int) : Int := Int.fmod ((List.take (min 4 ns.length - 3) (List.drop 3 ns) ++ [1]).getD 0 0) 4
theorem stA {w : World} {dp un : Nat} {gd : Option (List Code)} {mg mb : Str → Option Value} {Q : Flow → Shared → Prop} {E : Value → Shared → Prop} {B : Heap} {L fa : Addr} {cd : Value} {s : Shared} {m₀ : Str → Option Value} {sc : Addr} {vs : List Value} {ns : List Int}
    {o1 o2 o3 o4 o5 o6 o7 o8 : Obj} {pt : Array Value}
    (hA : dp + 100 < recursionLimit) (hu : un + 600 < cLine) (Gb : Gd w mg mb B)
    (F : Fr B L s.heap (fun y => kstB m₀ [(Str.ofString "script", .ref sc)] y)) (N : News B L s.heap [(L + 1, o1), (L + 2, o2), (L + 3, o3), (L + 4, o4), (L + 5, o5), (L + 6, o6), (L + 7, o7), (L + 8, o8), (123, tabO pt)])
    (d1 : o1.data = .cell none) (d2 : o2.data = .cell none) (d3 : o3.data = .cell none) (d4 : o4.data = .cell none) (d5 : o5.data = .cell none) (d6 : o6.data = .cell none) (d7 : o7.data = .cell none) (d8 : o8.data = .cell none)
    (hl : B.IsList sc vs.toArray) (hI : IntsAre vs ns) (hn : ns.length ≤ 63)
    (next : ∀ lb bvs ep te h' tk, Fr B L h' (fun y => kstB m₀ [(Str.ofString "ending", .int (endZ ns) te), (Str.ofString "built", .ref lb), (Str.ofString "script", .ref sc)] y) →
      News B L h' [(lb, listOf bvs.toArray ep), (L + 1, o1), (L + 2, o2), (L + 3, o3), (L + 4, o4), (L + 5, o5), (L + 6, o6), (L + 7, o7), (L + 8, o8), (123, tabO pt)] → IntsAre bvs (builtZ ns) →
      wpAny (model PG w) (Aof dp un (some [lawEnv L fa cd]) gd) (execs (lawB 2) (lawEnv L fa cd)) Q E { s with heap := h', toks := tk }) :
    wpAny (model PG w) (Aof dp un (some [lawEnv L fa cd]) gd) (execs (lawB 0) (lawEnv L fa cd)) Q E s := by
  have X := Gb.k
  have T := Gb.t
  refine law_step rfl ?_
  ktr_unf
  refine comp_eval (cl := []) (closureFor_none (by decide)) rfl (by decide) ?_
  ktr_unf
  (with_reducible rename Fr _ _ _ _ => F6)
  (with_reducible rename News _ _ _ _ => N6)
  (with_reducible rename IntsAre _ _ => hI6)
  have hlr := News.isList N6 (.head _)
  have X₃ := X.keeps F6.keep
  have T₃ := T.keeps F6.keep
  have hl6 : (ns.take 3).length ≤ 3 := by rw [List.length_take]; omega
  refine comp_simple (fun j ys => ys.length = j ∧ IntsAre ys (((ns.take 3).take j).map fun x => Int.fmod x 4)) (src_list rfl hlr (fun _ _ e => e)) (by decide) rfl ⟨rfl, .nil⟩ (fun i ys h => Nat.le_of_eq h.1) ?_ ?_ ?_
  · have := hI6.length
    rw [List.size_toArray]
    omega
  · intro C D I' j v ys u' oI' nn h₃ tk₃ E'' hj hv' hPc F₃ N₃
    clear F6 N6 X T
    obtain ⟨r, tr, rfl, hri⟩ := intsGet hI6 (by simpa using hv')
    ktr_unf
    (with_reducible rename Fr _ _ _ _ => F10)
    (with_reducible rename News _ _ _ _ => N10)
    refine ce_end (by exact F10) (by exact N10) ⟨by rw [List.length_append, hPc.1]; rfl, ?_⟩
    rw [takeSnoc hri, List.map_append]
    exact intsSnoc hPc.2
  intro D ys nn h5 tk5 hP5 hk5 hD hDn
  have F5 := frUp F6 hk5
  have N5 := newsAdd F6 N6 hk5 hD hDn
  obtain ⟨q1, q2⟩ := hP5
  rw [List.size_toArray, hI6.length] at q1 q2
  rw [List.take_of_length_le (Nat.le_refl _)] at q2
  clear F6 N6
  (try dsimp only)
  ktr_unf
  (with_reducible rename Fr _ _ _ _ => F7)
  (with_reducible rename News _ _ _ _ => N7)
  (with_reducible rename IntsAre _ _ => hI7)
  refine law_step rfl ?_
  ktr_unf
  (with_reducible rename Fr _ _ _ _ => F8)
  (with_reducible rename News _ _ _ _ => N8)
  refine next _ _ 0 _ _ _ (by exact F8) (newsSub N8 ?_) hI7
  intro p hp
  simp only [List.mem_cons, List.not_mem_nil, or_false] at hp
  rcases hp with h | h | h | h | h | h | h | h | h | h <;> (rw [h]; k_mem)

end
section
noncomputable def lineS (b : List Int) (e : Int) : Str := leadS b e ++ Str.ofString "x \t"
theorem lineS_list (b : List Int) (e : Int) : (lineS b e).cps.toList = leadL b e ++ [120, 32, 9] := by
  unfold lineS
  rw [Str.cps_append, Array.toList_append, leadS_list]
  congr 1
theorem lineS_asc (b : List Int) (e : Int) : (lineS b e).cps.all (· < 128) = true := by
  refine asc_of ?_
  rw [lineS_list]
  intro c hc
  rcases List.mem_append.mp hc with h | h
  · rcases leadL_mem c h with h | h <;> omega
  · simp only [List.mem_cons, List.not_mem_nil, or_false] at h
    omega
theorem lineS_len {b : List Int} {e : Int} (hb : ∀ z ∈ b, 0 ≤ z ∧ z ≤ 3) (hl : b.length ≤ 4) (he : e ≤ 3) : (lineS b e).cps.size ≤ 90 := by
  have h := leadS_len hb he
  have h3x : (Str.ofString "x \t").length = 3 := by decide +kernel
  show (lineS b e).length ≤ 90
  unfold lineS
  rw [Str.length_append, h3x]
  omega
theorem newsApp {h₀ h h' : Heap} {L : Addr} {m : Str → Option Value} {news T : List (Addr × Obj)} (F : Fr h₀ L h m) (N : News h₀ L h news) (k : Up h h') (nT : NewT h h' T) : News h₀ L h' (news ++ T) := by
  intro p hp
  rcases List.mem_append.mp hp with hp | hp
  · exact ⟨k _ _ (N p hp).1, (N p hp).2⟩
  · have z := nT p hp
    refine ⟨z.1, fun e => ?_, ?_⟩
    · obtain ⟨o', _, _, ho, _⟩ := F.ns
      rw [← e, z.2.1] at ho; cases ho
    · cases q : h₀.get? p.1 with
      | none => rfl
      | some o => have := F.keep _ _ q; rw [z.2.1] at this; cases this
theorem stB {w : World} {dp un : Nat} {gd : Option (List Code)} {mg mb : Str → Option Value} {Q : Flow → Shared → Prop} {E : Value → Shared → Prop} {B : Heap} {L fa : Addr} {cd : Value} {s : Shared} {m₀ : Str → Option Value} {sc lb : Addr} {bvs : List Value} {b : List Int} {e : Int} {te : Tok} {ep : Nat}
    {o1 o2 o3 o4 o5 o6 o7 o8 : Obj} {pt : Array Value}
    (hA : dp + 100 < recursionLimit) (hu : un + 600 < cLine) (Gb : Gd w mg mb B)
    (F : Fr B L s.heap (fun y => kstB m₀ [(Str.ofString "ending", .int e te), (Str.ofString "built", .ref lb), (Str.ofString "script", .ref sc)] y))
    (N : News B L s.heap [(lb, listOf bvs.toArray ep), (L + 1, o1), (L + 2, o2), (L + 3, o3), (L + 4, o4), (L + 5, o5), (L + 6, o6), (L + 7, o7), (L + 8, o8), (123, tabO pt)])
    (d1 : o1.data = .cell none) (d2 : o2.data = .cell none) (d3 : o3.data = .cell none) (d4 : o4.data = .cell none) (d5 : o5.data = .cell none) (d6 : o6.data = .cell none) (d7 : o7.data = .cell none) (d8 : o8.data = .cell none)
    (hI : IntsAre bvs b) (hb : b.length ≤ 4) (hb3 : ∀ z ∈ b, 0 ≤ z ∧ z ≤ 3) (he0 : 0 ≤ e) (he3 : e ≤ 3)
    (next : ∀ t1 o1' o2' x T h' tk, Fr B L h' (fun y => kstB m₀ [(Str.ofString "ending", .int e te), (Str.ofString "built", .ref lb), (Str.ofString "script", .ref sc)] y) →
      News B L h' ((lb, listOf bvs.toArray ep) :: (L + 1, o1') :: (L + 2, o2') :: (L + 3, o3) :: (L + 4, o4) :: (L + 5, o5) :: (L + 6, o6) :: (L + 7, o7) :: (L + 8, o8) :: (123, tabO pt) :: T) →
      o1'.data = .cell (some (.str (lineS b e) t1)) → o2'.data = .cell (some (.ref x)) → (∀ p ∈ T, ∀ v, p.2.data ≠ .cell v) → (∀ p ∈ T, p.2.cls ≠ .none) → Bears T (fun h => WS h x (wsOf (lineS b e))) →
      wpAny (model PG w) (Aof dp un (some [lawEnv L fa cd]) gd) (execs (lawB 4) (lawEnv L fa cd)) Q E { s with heap := h', toks := tk }) :
    wpAny (model PG w) (Aof dp un (some [lawEnv L fa cd]) gd) (execs (lawB 2) (lawEnv L fa cd)) Q E s := by
  have X := Gb.k
  have T := Gb.t
  refine law_step rfl ?_
  ktr_unf
  refine leadC (rs := b) (show dp + 40 < recursionLimit by omega) (show un + 200 < cLine by omega) (Gb.up F.keep) (News.isList N (.head _)) hI (by omega) (fun z hz => ⟨(hb3 z hz).1, by have := (hb3 z hz).2; omega⟩) he0 (by omega) ?_
  intro t5 h5 tk5 up5
  have F5 := frUp F up5
  have N5 := newsUp N up5
  clear F N
  (try dsimp only)
  ktr_unf
  have hll := leadS_len (b := b) (e := e) hb3 he3
  have h3x : (Str.ofString "x \t").length = 3 := by decide +kernel
  refine PyProof.Rows.add_str (fun t9 tk9 => ?_) (hsz := ?hs1)
  case hs1 => (rw [h3x]; simp [sizeLine]; omega)
  (try dsimp only)
  ktr_unf
  (with_reducible rename Fr _ _ _ _ => F6)
  (with_reducible rename News _ _ _ _ => N6)
  rename Obj => o1'
  refine law_step rfl ?_
  ktr_unf
  (with_reducible rename Fr _ _ _ _ => F7)
  (with_reducible rename News _ _ _ _ => N7)
  refine wsNewT (st := lineS b e) (lineS_asc b e) ?_ (show dp + 20 < recursionLimit by omega) (show un + 100 < cLine by omega) (Gb.up F7.keep) ?_
  · have := lineS_len hb3 hb he3
    exact this
  intro x h8 tk8 T8 up8 nT8 bT8
  have F8 := frUp F7 up8
  have N8 := newsApp F7 N7 up8 nT8
  have hT8 : ∀ p ∈ T8, ∀ v, p.2.data ≠ .cell v := fun p hp => (nT8 p hp).2.2.1
  simp only [List.cons_append, List.nil_append] at N8
  clear F7 N7
  (try dsimp only)
  ktr_unf
  (with_reducible rename Fr _ _ _ _ => F9)
  (with_reducible rename News _ _ _ _ => N9)
  refine next _ _ _ _ _ _ _ (by exact F9) (by exact N9) (by assumption) (by assumption) hT8 (fun p hp => (nT8 p hp).2.2.2) bT8

end
section
noncomputable def blS (k : Nat) : Str := sp k ++ Str.ofString "x"
theorem blS_list (k : Nat) : (blS k).cps.toList = List.replicate k 32 ++ [120] := by
  unfold blS
  rw [Str.cps_append, Array.toList_append]
  congr 1
theorem blS_asc (k : Nat) : (blS k).cps.all (· < 128) = true := by
  refine asc_of ?_
  rw [blS_list]
  intro c hc
  rcases List.mem_append.mp hc with h | h
  · have := List.eq_of_mem_replicate h; omega
  · have := List.mem_singleton.mp h; omega
theorem blS_len {k : Nat} (h : k < 25) : (blS k).cps.size ≤ 90 := by
  have e : (blS k).cps.size = (List.replicate k 32 ++ [120]).length := by rw [← blS_list]; simp
  rw [e, List.length_append, List.length_replicate]
  simp only [List.length_cons, List.length_nil]
  omega
/-- the blanks so far: their places and their objects -/
structure BlS where
  xs : List Addr
  T : List (Addr × Obj)
structure InvBl (i : Nat) (c : BlS) (ys : List Value) : Prop where
  ys : ys = c.xs.map Value.ref
  len : c.xs.length = i
  cells : ∀ p ∈ c.T, ∀ v, p.2.data ≠ .cell v
  cls : ∀ p ∈ c.T, p.2.cls ≠ .none
  ws : Bears c.T (fun h => ∀ j x, c.xs[j]? = some x → WS h x (wsOf (blS j)))
theorem stC {w : World} {dp un : Nat} {gd : Option (List Code)} {mg mb : Str → Option Value} {Q : Flow → Shared → Prop} {E : Value → Shared → Prop} {B : Heap} {L fa : Addr} {cd : Value} {s : Shared} {m₀ : Str → Option Value}
    {o1 o2 o3 o4 o5 o6 o7 o8 : Obj} {pt : Array Value} {T : List (Addr × Obj)} {ps : List (Str × Value)}
    (hA : dp + 100 < recursionLimit) (hu : un + 600 < cLine) (Gb : Gd w mg mb B)
    (F : Fr B L s.heap (fun y => kstB m₀ ps y))
    (N : News B L s.heap ((L + 1, o1) :: (L + 2, o2) :: (L + 3, o3) :: (L + 4, o4) :: (L + 5, o5) :: (L + 6, o6) :: (L + 7, o7) :: (L + 8, o8) :: (123, tabO pt) :: T))
    (d4 : o4.data = .cell none) (hT1 : ∀ p ∈ T, ∀ v, p.2.data ≠ .cell v)
    (next : ∀ D (xs : List Addr) ep (T2 : List (Addr × Obj)) o4' h' tk, Fr B L h' (fun y => kstB m₀ ps y) →
      News B L h' ((D, listOf (xs.map Value.ref).toArray ep) :: (L + 1, o1) :: (L + 2, o2) :: (L + 3, o3) :: (L + 4, o4') :: (L + 5, o5) :: (L + 6, o6) :: (L + 7, o7) :: (L + 8, o8) :: (123, tabO pt) :: (T ++ T2)) →
      o4'.data = .cell (some (.ref D)) → xs.length = 25 → (∀ p ∈ T2, ∀ v, p.2.data ≠ .cell v) → (∀ p ∈ T2, p.2.cls ≠ .none) → Bears T2 (fun h => ∀ j x, xs[j]? = some x → WS h x (wsOf (blS j))) →
      wpAny (model PG w) (Aof dp un (some [lawEnv L fa cd]) gd) (execs (lawB 5) (lawEnv L fa cd)) Q E { s with heap := h', toks := tk }) :
    wpAny (model PG w) (Aof dp un (some [lawEnv L fa cd]) gd) (execs (lawB 4) (lawEnv L fa cd)) Q E s := by
  have X := Gb.k
  have TT := Gb.t
  refine law_step rfl ?_
  ktr_unf
  walk1
  refine comp_eval (cl := []) (closureFor_none (by decide)) rfl (by decide) ?_
  ktr_unf
  (with_reducible rename Fr _ _ _ _ => F6)
  (with_reducible rename News _ _ _ _ => N6)
  (with_reducible rename IsRange _ _ _ _ _ _ _ _ => R6)
  have X₃ := X.keeps F6.keep
  have T₃ := TT.keeps F6.keep
  have G6 := Gb.up F6.keep
  refine comp_led BlS.T InvBl ⟨[], []⟩ (src_range (n := 25) rfl R6 (by decide) (by decide)) (by decide) rfl rfl ⟨rfl, rfl, (fun p hp => nomatch hp), (fun p hp => nomatch hp), fun h _ j x hx => by simp at hx⟩ (fun i c ys h => by rw [h.ys, List.length_map, h.len]; exact Nat.le_refl _) (by omega) ?_ ?_
  · rintro C D I ⟨xs, T⟩ i v ys u oI nn h₃ tk₃ E' hi ⟨t, rfl⟩ hP hap F₃ N₃
    clear F6 N6 X TT
    rw [Int.zero_add]
    ktr_unf
    have h1x : (Str.ofString "x").length = 1 := by decide +kernel
    refine PyProof.Rows.add_str (fun t9 tk9 => ?_) (hsz := ?hs1)
    case hs1 => (rw [h1x, sp_len]; simp [sizeLine]; omega)
    (try dsimp only)
    ktr_unf
    (with_reducible rename Fr _ _ _ _ => F7)
    (with_reducible rename News _ _ _ _ => N7)
    refine wsNewT (st := blS i) (blS_asc i) (blS_len hi) (show dp + 20 < recursionLimit by omega) (show un + 100 < cLine by omega) (G6.up F7.keep) ?_
    intro x h8 tk8 T8 up8 nT8 bT8
    have F8 := frUp F7 up8
    have N8 := newsApp F7 N7 up8 nT8
    simp only [List.cons_append, List.nil_append] at N8
    refine cel_end (⟨xs ++ [x], T ++ T8⟩ : BlS) (by exact F8) (by exact N8) ?_ ?_
    · intro p hp
      rcases List.mem_append.mp hp with hp | hp
      · exact hap p hp
      · have z := (nT8 p hp).2.1
        refine ⟨fun e => ?_, fun e => ?_⟩
        · rw [e, (N7 _ (.head _)).1] at z; cases z
        · rw [e, (N7 _ (.tail _ (.head _))).1] at z; cases z
    · refine ⟨?_, ?_, ?_, ?_, ?_⟩
      · rw [hP.ys, List.map_append]; rfl
      · rw [List.length_append, hP.len]; rfl
      · intro p hp
        rcases List.mem_append.mp hp with hp | hp
        · exact hP.cells p hp
        · exact (nT8 p hp).2.2.1
      · intro p hp
        rcases List.mem_append.mp hp with hp | hp
        · exact hP.cls p hp
        · exact (nT8 p hp).2.2.2
      · intro h9 h9T j y hy
        by_cases hj : j < xs.length
        · rw [List.getElem?_append_left hj] at hy
          exact hP.ws h9 (fun p hp => h9T p (List.mem_append_left _ hp)) j y hy
        · have hj2 : j = xs.length := by
            have := (List.getElem?_eq_some_iff.mp hy).1
            rw [List.length_append] at this
            simp only [List.length_cons, List.length_nil] at this
            omega
          subst hj2
          rw [List.getElem?_append_right (Nat.le_refl _), Nat.sub_self] at hy
          have e1 : x = y := by simpa using hy
          have e2 : xs.length = i := hP.len
          rw [e2, ← e1]
          exact bT8 h9 (fun p hp => h9T p (List.mem_append_right _ hp))
  · rintro D ⟨xs, T2⟩ ys nn h5 tk5 hP5 hk5 hD hDn hT5
    have F5 := frUp F6 hk5
    have N4 := newsAddL F6 N6 hk5 hT5
    have N5 := newsAdd F6 N6 hk5 hD hDn
    have N7 : News B L h5 ((D, listOf ys.toArray nn) :: ((L + 1, o1) :: (L + 2, o2) :: (L + 3, o3) :: (L + 4, o4) :: (L + 5, o5) :: (L + 6, o6) :: (L + 7, o7) :: (L + 8, o8) :: (123, tabO pt) :: T) ++ T2) := by
      intro p hp
      rcases List.mem_cons.mp hp with rfl | hp
      · exact N5 _ (.head _)
      · exact N4 p hp
    simp only [List.cons_append, List.nil_append] at N7
    have hT3 : ∀ p ∈ T ++ T2, ∀ v, p.2.data ≠ .cell v := by
      intro p hp
      rcases List.mem_append.mp hp with hp | hp
      · exact hT1 p hp
      · exact hP5.cells p hp
    have hys := hP5.ys
    dsimp only at hys
    subst hys
    clear N4 N5 F6 N6
    generalize hT4 : T ++ T2 = T4 at *
    ktr_unf
    (with_reducible rename Fr _ _ _ _ => F9)
    (with_reducible rename News _ _ _ _ => N9)
    subst hT4
    exact next D xs nn T2 _ _ _ (by exact F9) (by exact N9) (by assumption) hP5.len hP5.cells hP5.cls hP5.ws

end
section
theorem hid2 {h : Heap} {L b : Addr} {o : Obj} (h1 : b ≠ 123) (h2 : b ≠ L) (e : h.get? b = some o) : ((h.hide 123).hide L).get? b = some o := by rw [Heap.hide_ne _ h2, Heap.hide_ne _ h1]; exact e
/-- an entry of a ledger that is not the table -/
noncomputable def NoTab (p : Addr × Obj) : Prop := p.2.cls ≠ .none ∨ ∃ v, p.2.data = .cell v
theorem noTab {B h : Heap} {L : Addr} {pt : Array Value} {rest : List (Addr × Obj)} (N : News B L h ((123, tabO pt) :: rest)) {p : Addr × Obj} (hp : p ∈ rest) (hn : NoTab p) : p.1 ≠ 123 := by
  intro e
  have z := (N p (.tail _ hp)).1
  rw [e, (N _ (.head _)).1] at z
  have z2 : tabO pt = p.2 := Option.some.inj z
  rcases hn with hn | ⟨v, hv⟩
  · exact hn (by rw [← z2])
  · rw [← z2] at hv; cases hv
theorem base_hid {B h : Heap} {L : Addr} {m : Str → Option Value} {pt : Array Value} {rest : List (Addr × Obj)} (F : Fr B L h m) (N : News B L h ((123, tabO pt) :: rest)) : Up B ((h.hide 123).hide L) := by
  intro b o e
  refine hid2 ?_ ?_ (F.keep b o e)
  · rintro rfl
    rw [(N _ (.head _)).2.2] at e; cases e
  · exact Nat.ne_of_lt (Nat.lt_of_lt_of_le (Heap.lt_size e) F.above)
theorem nagLaw {w : World} {dp un : Nat} {gd : Option (List Code)} {s : Shared} {mg mb : Str → Option Value} {Q : Value → Shared → Prop} {E : Value → Shared → Prop} {B : Heap} {m : Str → Option Value} {pt : Array Value} {x y L fa : Addr} {cd : Value} {d d' : WSd} {pl : Int} {tp tl : Tok} {ln : Str} {rest : List (Addr × Obj)}
    (hA : dp + 60 < recursionLimit) (hu : un + 300 < cLine) (hdp : dp + 60 < 700) (hun : un + 300 < 5000) (Gb : Gd w mg mb B)
    (F : Fr B L s.heap m) (N : News B L s.heap ((123, tabO pt) :: rest)) (hok : TriplesOk pt.toList) (hg : AllBare s.gens) (hnt : ∀ p ∈ rest, NoTab p)
    (hx : Bears rest (fun h => WS h x d)) (hy : Bears rest (fun h => WS h y d'))
    (hQ : ∀ a vs s' pt' t1 t2 t3, Fr B L s'.heap m → News B L s'.heap ((123, tabO pt') :: (a, tupObj vs) :: rest) → TriplesOk pt'.toList → AllBare s'.gens → s'.os = s.os →
      vs = (if lessZ d d' = true then [] else [.int pl t1, .str (fmtS (nlw d d' (topZ d d').toNat)) t2, .str ln t3]) → s.heap.get? a = none → Q (.ref a) s') :
    wpAny (model PG w) (Aof dp un (some [lawEnv L fa cd]) gd) (call (.ref 145) [.ref x, .ref y, .int pl tp, .str ln tl]) Q E s := by
  obtain ⟨oW, es, ep, hoW, hdW, r1, r2⟩ := id F.ns
  have hin : ∀ p ∈ rest, ((s.heap.hide 123).hide L).get? p.1 = some p.2 := fun p hp => hid2 (noTab N hp (hnt p hp)) (N p (.tail _ hp)).2.1 (N p (.tail _ hp)).1
  refine nagC hA hu hdp hun (by show ScopeKind.function ≠ _; decide) rfl hoW ⟨es, ep, hdW⟩ (Gb.up (base_hid F N)) ⟨(N _ (.head _)).1, hok⟩ hg (hx _ hin) (hy _ hin) ?_
  intro a vs s' pt' sl t1 t2 t3 hL hk hT hgr hg' ho' ha han hvs
  have keepB : ∀ b o, B.get? b = some o → s'.heap.get? b = some o := by
    intro b o e
    refine hk b o ?_ ?_ (F.keep b o e)
    · rintro rfl
      rw [(N _ (.head _)).2.2] at e; cases e
    · exact Nat.ne_of_lt (Nat.lt_of_lt_of_le (Heap.lt_size e) F.above)
  refine hQ a vs s' pt' t1 t2 t3 (frSlots F keepB (fun o ho => ?_)) ?_ hT.ok hg' ho' hvs han
  · rw [hoW] at ho
    cases ho
    exact ⟨sl, hL⟩
  · intro p hp
    rcases List.mem_cons.mp hp with rfl | hp
    · exact ⟨hT.at_, (N _ (.head _)).2⟩
    · rcases List.mem_cons.mp hp with rfl | hp
      · refine ⟨ha, ?_, ?_⟩
        · intro e
          dsimp only at e
          rw [e, hoW] at han; cases han
        · cases q : B.get? a with
          | none => rfl
          | some o => have := F.keep _ _ q; rw [han] at this; cases this
      · have z := N p (.tail _ hp)
        exact ⟨hk _ _ (noTab N hp (hnt p hp)) z.2.1 z.1, z.2⟩

end
example : True := by
  (k_with "k_all" => first | assumption | exact trivial | exact apartT (by assumption) | exact And.intro (by k_all) (by k_all) | exact Or.inl (neN (by (try dsimp only); omega)) | exact Or.inr (by intro v e; cases e) | exact Or.inr (by assumption))
  (k_with "ktr_rel" => with_reducible (first | show wpAny _ _ (subscriptTail _ _ (Value.ref _) (Value.int _ _)) _ _ _))
  trivial
section
/-- the values of a nag's tuple -/
noncomputable def NagV (vs : List Value) (pl : Int) (l : List Int) (ln : Str) : Prop := ∃ t1 t2 t3, vs = if l = [] then [] else [.int pl t1, .str (fmtS l) t2, .str ln t3]
/-- the sizes that a nag about these two names -/
noncomputable def NagOk (d d' : WSd) (l : List Int) : Prop := (lessZ d d' = true ∧ l = []) ∨ (lessZ d d' = false ∧ nlw d d' (topZ d d').toNat = l ∧ l ≠ [])
theorem NagOk.value {d d' : WSd} {l : List Int} {pl : Int} {ln : Str} {vs : List Value} {t1 t2 t3 : Tok} (h : NagOk d d' l) (e : vs = (if lessZ d d' = true then [] else [.int pl t1, .str (fmtS (nlw d d' (topZ d d').toNat)) t2, .str ln t3])) : NagV vs pl l ln := by
  rcases h with ⟨h1, h2⟩ | ⟨h1, h2, h3⟩
  · exact ⟨t1, t2, t3, by rw [e, if_pos h1, if_pos h2]⟩
  · refine ⟨t1, t2, t3, ?_⟩
    rw [e, if_neg (by rw [h1]; decide), if_neg h3, h2]
theorem stD {w : World} {dp un : Nat} {gd : Option (List Code)} {mg mb : Str → Option Value} {Q : Flow → Shared → Prop} {E : Value → Shared → Prop} {B : Heap} {L fa : Addr} {cd : Value} {s : Shared} {m₀ : Str → Option Value}
    {o1 o2 o3 o4 o5 o6 o7 o8 : Obj} {pt : Array Value} {T : List (Addr × Obj)} {ps : List (Str × Value)} {ln : Str} {t1 : Tok} {x D : Addr} {xs : List Addr} {ep : Nat} {d : WSd} {l1 : List Int}
    (hA : dp + 100 < recursionLimit) (hu : un + 600 < cLine) (hdp : dp + 60 < 700) (hun : un + 300 < 5000) (Gb : Gd w mg mb B)
    (F : Fr B L s.heap (fun y => kstB m₀ ps y))
    (N : News B L s.heap ((D, listOf (xs.map Value.ref).toArray ep) :: (L + 1, o1) :: (L + 2, o2) :: (L + 3, o3) :: (L + 4, o4) :: (L + 5, o5) :: (L + 6, o6) :: (L + 7, o7) :: (L + 8, o8) :: (123, tabO pt) :: T))
    (d1 : o1.data = .cell (some (.str ln t1))) (d2 : o2.data = .cell (some (.ref x))) (d3 : o3.data = .cell none) (d4 : o4.data = .cell (some (.ref D))) (d5 : o5.data = .cell none) (d6 : o6.data = .cell none) (d7 : o7.data = .cell none) (d8 : o8.data = .cell none)
    (hT1 : ∀ p ∈ T, ∀ v, p.2.data ≠ .cell v) (hT2 : ∀ p ∈ T, p.2.cls ≠ .none) (hxs : xs.length = 25) (hW : Bears T (fun h => WS h x d)) (hB : Bears T (fun h => ∀ j x, xs[j]? = some x → WS h x (wsOf (blS j)))) (hok : TriplesOk pt.toList) (hg : AllBare s.gens) (hn1 : NagOk d (wsOf (blS 0)) l1)
    (next : ∀ a vs pt' s', Fr B L s'.heap (fun y => kstB m₀ ((Str.ofString "first", .ref a) :: ps) y) →
      News B L s'.heap ((123, tabO pt') :: (a, tupObj vs) :: (D, listOf (xs.map Value.ref).toArray ep) :: (L + 1, o1) :: (L + 2, o2) :: (L + 3, o3) :: (L + 4, o4) :: (L + 5, o5) :: (L + 6, o6) :: (L + 7, o7) :: (L + 8, o8) :: T) →
      TriplesOk pt'.toList → AllBare s'.gens → s'.os = s.os → NagV vs 0 l1 ln →
      wpAny (model PG w) (Aof dp un (some [lawEnv L fa cd]) gd) (execs (lawB 6) (lawEnv L fa cd)) Q E s') :
    wpAny (model PG w) (Aof dp un (some [lawEnv L fa cd]) gd) (execs (lawB 5) (lawEnv L fa cd)) Q E s := by
  have X := Gb.k
  have TT := Gb.t
  obtain ⟨x0, hx0⟩ : ∃ x0, xs[0]? = some x0 := ⟨xs[0]'(by omega), List.getElem?_eq_getElem _⟩
  refine law_step rfl ?_
  ktr_unf
  refine PyProof.Rows.item_list (x := .ref x0) (News.isList N (.head _)) (by decide) (by decide) (by simpa using hx0) ?_
  ktr_unf
  have N' : News B L s.heap ((123, tabO pt) :: (D, listOf (xs.map Value.ref).toArray ep) :: (L + 1, o1) :: (L + 2, o2) :: (L + 3, o3) :: (L + 4, o4) :: (L + 5, o5) :: (L + 6, o6) :: (L + 7, o7) :: (L + 8, o8) :: T) := newsSub N (by
    intro p hp
    simp only [List.mem_cons] at hp ⊢
    rcases hp with h | h | h | h | h | h | h | h | h | h | h <;> simp [h])
  have inT : ∀ p ∈ T, p ∈ (D, listOf (xs.map Value.ref).toArray ep) :: (L + 1, o1) :: (L + 2, o2) :: (L + 3, o3) :: (L + 4, o4) :: (L + 5, o5) :: (L + 6, o6) :: (L + 7, o7) :: (L + 8, o8) :: T := fun p hp => by
    simp only [List.mem_cons]
    exact .inr (.inr (.inr (.inr (.inr (.inr (.inr (.inr (.inr hp))))))))
  refine nagLaw (d := d) (d' := wsOf (blS 0)) (by omega) (by omega) hdp hun Gb (by exact F) N' hok hg ?_ (fun h hh => hW h fun p hp => hh p (inT p hp)) (fun h hh => hB h (fun p hp => hh p (inT p hp)) 0 x0 hx0) ?_
  · intro p hp
    simp only [List.mem_cons] at hp
    rcases hp with h | h | h | h | h | h | h | h | h | h
    · rw [h]; exact .inl (by show Value.type "list" ≠ _; decide)
    · rw [h]; exact .inr ⟨_, d1⟩
    · rw [h]; exact .inr ⟨_, d2⟩
    · rw [h]; exact .inr ⟨_, d3⟩
    · rw [h]; exact .inr ⟨_, d4⟩
    · rw [h]; exact .inr ⟨_, d5⟩
    · rw [h]; exact .inr ⟨_, d6⟩
    · rw [h]; exact .inr ⟨_, d7⟩
    · rw [h]; exact .inr ⟨_, d8⟩
    · exact .inl (hT2 p h)
  intro a vs s' pt' u1 u2 u3 F5 N5 hok5 hg5 ho5 hvs han
  clear F N N'
  have hv := hn1.value (pl := 0) (ln := ln) hvs
  obtain ⟨hp5, g5, dr5, tk5, os5⟩ := s'
  dsimp only at F5 N5 hg5 ho5
  ktr_unf
  (with_reducible rename Fr _ _ _ _ => F6)
  (with_reducible rename News _ _ _ _ => N6)
  exact next a vs pt' _ (by exact F6) (by exact N6) hok5 hg5 ho5 hv

end
section
/-- the nags so far -/
structure NgS where
  pt : Array Value
  oL : Obj
  as : List Addr
  vss : List (List Value)
noncomputable def NgS.T (c : NgS) : List (Addr × Obj) := List.zipWith (fun a vs => (a, tupObj vs)) c.as c.vss
noncomputable def NgS.led (L : Addr) (c : NgS) : List (Addr × Obj) := (123, tabO c.pt) :: (L, c.oL) :: c.T
structure InvNg (L : Addr) (oL0 : Obj) (ln : Str) (lk : Nat → List Int) (i : Nat) (c : NgS) (ys : List Value) : Prop where
  ys : ys = c.as.map Value.ref
  len : c.as.length = i
  lenv : c.vss.length = i
  ok : TriplesOk c.pt.toList
  nag : ∀ (j : Nat) vs, c.vss[j]? = some vs → NagV vs j (lk j) ln
  oL : ∃ sl, c.oL = { oL0 with slots := sl }
  apart : ∀ p ∈ c.T, p.1 ≠ 123 ∧ p.1 ≠ L
theorem zip_snoc {α β γ : Type} (f : α → β → γ) : ∀ (as : List α) (bs : List β) (a : α) (b : β), as.length = bs.length → List.zipWith f (as ++ [a]) (bs ++ [b]) = List.zipWith f as bs ++ [f a b]
  | [], [], a, b, _ => rfl
  | x :: as, y :: bs, a, b, h => by
    have := zip_snoc f as bs a b (by simpa using h)
    simp [this]
  | [], y :: bs, a, b, h => by simp at h
  | x :: as, [], a, b, h => by simp at h
theorem stE {w : World} {dp un : Nat} {gd : Option (List Code)} {mg mb : Str → Option Value} {Q : Flow → Shared → Prop} {E : Value → Shared → Prop} {B : Heap} {L fa : Addr} {cd : Value} {s : Shared} {m₀ : Str → Option Value}
    {o1 o2 o3 o4 o5 o6 o7 o8 : Obj} {pt : Array Value} {T : List (Addr × Obj)} {ps : List (Str × Value)} {ln : Str} {t1 : Tok} {x D : Addr} {xs : List Addr} {ep : Nat} {d : WSd} {lk : Nat → List Int}
    (hA : dp + 100 < recursionLimit) (hu : un + 600 < cLine) (hdp : dp + 60 < 700) (hun : un + 300 < 5000) (Gb : Gd w mg mb B)
    (F : Fr B L s.heap (fun y => kstB m₀ ps y))
    (N : News B L s.heap ((123, tabO pt) :: (D, listOf (xs.map Value.ref).toArray ep) :: (L + 1, o1) :: (L + 2, o2) :: (L + 3, o3) :: (L + 4, o4) :: (L + 5, o5) :: (L + 6, o6) :: (L + 7, o7) :: (L + 8, o8) :: T))
    (d1 : o1.data = .cell (some (.str ln t1))) (d2 : o2.data = .cell (some (.ref x))) (d3 : o3.data = .cell none) (d4 : o4.data = .cell (some (.ref D))) (d5 : o5.data = .cell none) (d6 : o6.data = .cell none) (d7 : o7.data = .cell none) (d8 : o8.data = .cell none)
    (hT1 : ∀ p ∈ T, ∀ v, p.2.data ≠ .cell v) (hT2 : ∀ p ∈ T, p.2.cls ≠ .none) (hxs : xs.length = 25) (hW : Bears T (fun h => WS h x d)) (hB : Bears T (fun h => ∀ j x, xs[j]? = some x → WS h x (wsOf (blS j)))) (hok : TriplesOk pt.toList) (hg : AllBare s.gens)
    (hnk : ∀ k, k < 25 → NagOk (wsOf (blS k)) d (lk k))
    (next : ∀ D' (as : List Addr) (vss : List (List Value)) nn pt' s', Fr B L s'.heap (fun y => kstB m₀ ((Str.ofString "nags", .ref D') :: ps) y) →
      News B L s'.heap ((123, tabO pt') :: (D', listOf (as.map Value.ref).toArray nn) :: (D, listOf (xs.map Value.ref).toArray ep) :: (L + 1, o1) :: (L + 2, o2) :: (L + 3, o3) :: (L + 4, o4) :: (L + 5, o5) :: (L + 6, o6) :: (L + 7, o7) :: (L + 8, o8) :: (T ++ List.zipWith (fun a vs => (a, tupObj vs)) as vss)) →
      TriplesOk pt'.toList → AllBare s'.gens → s'.os = s.os → as.length = 25 → vss.length = 25 → (∀ (j : Nat) vs, vss[j]? = some vs → NagV vs j (lk j) ln) →
      wpAny (model PG w) (Aof dp un (some [lawEnv L fa cd]) gd) (execs (lawB 7) (lawEnv L fa cd)) Q E s') :
    wpAny (model PG w) (Aof dp un (some [lawEnv L fa cd]) gd) (execs (lawB 6) (lawEnv L fa cd)) Q E s := by
  have X := Gb.k
  have TT := Gb.t
  refine law_step rfl ?_
  ktr_unf
  refine comp_assign (cl := [(Str.ofString "line", L + 1), (Str.ofString "lead", L + 2), (Str.ofString "blanks", L + 4)]) rfl rfl rfl (by decide) ?_
  ktr_unf
  (with_reducible rename Fr _ _ _ _ => F6)
  (with_reducible rename News _ _ _ _ => N6)
  (with_reducible rename IsRange _ _ _ _ _ _ _ _ => R6)
  (try dsimp only at R6 ⊢)
  generalize hs6 : ({ heap := _, gens := _, drawn := _, toks := _, os := _ } : Shared) = s6
  have e6g : s6.gens = s.gens := by rw [← hs6]
  have e6o : s6.os = s.os := by rw [← hs6]
  have e6h := congrArg Shared.heap hs6
  dsimp only at e6h
  rw [e6h] at F6 N6 R6
  obtain ⟨oL0, es, epL, hoL, hdL, r1, r2⟩ := id F6.ns
  have upB : Up B ((s6.heap.hide 123).hide L) := base_hid F6 N6
  have h123 : s6.heap.get? 123 = some (tabO pt) := (N6 _ (.head _)).1
  have hW3 : L ≠ 123 := Ne.symm (N6 _ (.head _)).2.1
  have hnt : ∀ p ∈ (D, listOf (xs.map Value.ref).toArray ep) :: (L + 1, o1) :: (L + 2, o2) :: (L + 3, o3) :: (L + 4, o4) :: (L + 5, o5) :: (L + 6, o6) :: (L + 7, o7) :: (L + 8, o8) :: T, NoTab p := by
    intro p hp
    simp only [List.mem_cons] at hp
    rcases hp with h | h | h | h | h | h | h | h | h | h
    · rw [h]; exact .inl (by show Value.type "list" ≠ _; decide)
    · rw [h]; exact .inr ⟨_, d1⟩
    · rw [h]; exact .inr ⟨_, d2⟩
    · rw [h]; exact .inr ⟨_, d3⟩
    · rw [h]; exact .inr ⟨_, d4⟩
    · rw [h]; exact .inr ⟨_, d5⟩
    · rw [h]; exact .inr ⟨_, d6⟩
    · rw [h]; exact .inr ⟨_, d7⟩
    · rw [h]; exact .inr ⟨_, d8⟩
    · exact .inl (hT2 p h)
  have hid : ∀ p ∈ (D, listOf (xs.map Value.ref).toArray ep) :: (L + 1, o1) :: (L + 2, o2) :: (L + 3, o3) :: (L + 4, o4) :: (L + 5, o5) :: (L + 6, o6) :: (L + 7, o7) :: (L + 8, o8) :: T, ((s6.heap.hide 123).hide L).get? p.1 = some p.2 :=
    fun p hp => hid2 (noTab N6 hp (hnt p hp)) (N6 p (.tail _ hp)).2.1 (N6 p (.tail _ hp)).1
  have inT : ∀ p ∈ T, p ∈ (D, listOf (xs.map Value.ref).toArray ep) :: (L + 1, o1) :: (L + 2, o2) :: (L + 3, o3) :: (L + 4, o4) :: (L + 5, o5) :: (L + 6, o6) :: (L + 7, o7) :: (L + 8, o8) :: T := fun p hp => by
    simp only [List.mem_cons]
    exact .inr (.inr (.inr (.inr (.inr (.inr (.inr (.inr (.inr hp))))))))
  have kBc : ∀ b o, ((s6.heap.hide 123).hide L).get? b = some o → s6.heap.get? b = some o := fun b o e => Heap.of_hide (Heap.of_hide e)
  have b123 : ((s6.heap.hide 123).hide L).get? 123 = none := by rw [Heap.hide_ne _ (Ne.symm hW3)]; exact Heap.hide_self _ _
  have bL : ((s6.heap.hide 123).hide L).get? L = none := Heap.hide_self _ _
  have szc : ((s6.heap.hide 123).hide L).objs.size = s6.heap.objs.size := by rw [Heap.hide_size, Heap.hide_size]
  have WX := hW _ (fun p hp => hid p (inT p hp))
  have WB := hB _ (fun p hp => hid p (inT p hp))
  have IL : ((s6.heap.hide 123).hide L).IsList D (xs.map Value.ref).toArray := ⟨_, hid _ (.head _), rfl, _, rfl⟩
  have C1 : ((s6.heap.hide 123).hide L).IsCell (L + 1) (some (.str ln t1)) := ⟨_, hid _ (.tail _ (.head _)), d1⟩
  have C2 : ((s6.heap.hide 123).hide L).IsCell (L + 2) (some (.ref x)) := ⟨_, hid _ (.tail _ (.tail _ (.head _))), d2⟩
  have C4 : ((s6.heap.hide 123).hide L).IsCell (L + 4) (some (.ref D)) := ⟨_, hid _ (.tail _ (.tail _ (.tail _ (.tail _ (.head _))))), d4⟩
  have GB := Gb.up upB
  generalize hBc : (s6.heap.hide 123).hide L = Bc at *
  have X₃ := GB.k
  have T₃ := GB.t
  clear X TT
  refine comp_front (B := Bc) (NgS.led L) (InvNg L oL0 ln lk) (fun s' => AllBare s'.gens ∧ s'.os = s.os) ⟨pt, oL0, [], []⟩ (src_range (n := 25) rfl R6 (by decide) (by decide)) (by decide) rfl kBc (Nat.le_of_eq szc) ?_ (fun _ _ _ z => z) ⟨e6g ▸ hg, e6o⟩
    ⟨rfl, rfl, rfl, hok, (fun j vs h => by simp at h), ⟨oL0.slots, rfl⟩, (fun p hp => nomatch hp)⟩ (fun i c ys h => by rw [h.ys, List.length_map, h.len]; exact Nat.le_refl _) (by omega) ?_ ?_
  · intro p hp
    rcases List.mem_cons.mp hp with rfl | hp
    · exact ⟨h123, b123⟩
    · rcases List.mem_cons.mp hp with rfl | hp
      · exact ⟨hoL, bL⟩
      · cases hp
  · rintro C D' I ⟨pt3, oL3, as, vss⟩ i v ys u oI nn s₃ E' cC cD cI hi ⟨t, rfl⟩ hP hz hap F₃ N₃
    obtain ⟨xk, hxk⟩ : ∃ xk, xs[i]? = some xk := ⟨xs[i]'(by omega), List.getElem?_eq_getElem _⟩
    rw [Int.zero_add]
    unfold NgS.led at N₃
    dsimp only at N₃
    obtain ⟨h3, g3, dr3, tk3, os3⟩ := s₃
    dsimp only at F₃ N₃ hz
    clear F6 N6
    ktr_unf
    (with_reducible rename Fr _ _ _ _ => F7)
    (with_reducible rename News _ _ _ _ => N7)
    refine PyProof.Rows.item_list (x := .ref xk) (stays_list F7.keep IL) (by omega) (by omega) (by simpa using hxk) ?_
    ktr_unf
    (with_reducible rename Fr _ _ _ _ => F8)
    (with_reducible rename News _ _ _ _ => N8)
    have n123 := N8 _ (.tail _ (.tail _ (.head _)))
    have nL := N8 _ (.tail _ (.tail _ (.tail _ (.head _))))
    dsimp only at n123 nL
    obtain ⟨sl0, hsl0⟩ := hP.oL
    dsimp only at hsl0
    have hC1 : C ≠ 123 := Ne.symm n123.2.1
    have hC2 : C ≠ L := Ne.symm nL.2.1
    have outB : ∀ b o, Bc.get? b = some o → b ≠ 123 ∧ b ≠ L := fun b o e => ⟨(by rintro rfl; rw [b123] at e; cases e), (by rintro rfl; rw [bL] at e; cases e)⟩
    have upC : Up Bc ((_ : Heap).hide 123 |>.hide L) := fun b o e => hid2 (outB b o e).1 (outB b o e).2 (F8.keep b o e)
    refine nagC (d := wsOf (blS i)) (d' := d) (by omega) (by omega) hdp hun (by show ScopeKind.function ≠ _; decide) rfl nL.1 ⟨es, epL, by rw [hsl0]; exact hdL⟩ (GB.up upC) ⟨n123.1, hP.ok⟩ hz.1 ((WB i xk hxk).up upC) (WX.up upC) ?_
    intro a vs s' pt' sl u1 u2 u3 hL' hk' hT' hgr' hg' ho' ha' han' hvs'
    have keepC : ∀ b o, b ≠ 123 → b ≠ L → _ → s'.heap.get? b = some o := hk'
    have F9 : Fr Bc C s'.heap _ := ⟨F8.ns.at' (fun o e => hk' _ o hC1 hC2 e), fun b o e => hk' b o (outB b o e).1 (outB b o e).2 (F8.keep b o e), F8.above⟩
    have hDne : ∀ b, s6.heap.get? b = none → b ≠ 123 ∧ b ≠ L := fun b e => ⟨(by rintro rfl; rw [h123] at e; cases e), (by rintro rfl; rw [hoL] at e; cases e)⟩
    refine ⟨⟨pt', { oL0 with slots := sl }, as ++ [a], vss ++ [vs]⟩, _, F9, ?_, ?_, ⟨hg', ho'.trans hz.2⟩, ?_⟩
    · have hlz : as.length = vss.length := hP.len.trans hP.lenv.symm
      intro p hp
      unfold NgS.led NgS.T at hp
      dsimp only at hp
      rw [zip_snoc _ _ _ _ _ hlz] at hp
      rcases List.mem_cons.mp hp with rfl | hp
      · have z := N8 _ (.head _)
        exact ⟨hk' _ _ (hDne _ cD).1 (hDne _ cD).2 z.1, z.2⟩
      rcases List.mem_cons.mp hp with rfl | hp
      · have z := N8 _ (.tail _ (.head _))
        exact ⟨hk' _ _ (hDne _ cI).1 (hDne _ cI).2 z.1, z.2⟩
      rcases List.mem_cons.mp hp with rfl | hp
      · exact ⟨hT'.at_, n123.2⟩
      rcases List.mem_cons.mp hp with rfl | hp
      · have e9 : ({ oL3 with slots := sl } : Obj) = { oL0 with slots := sl } := by rw [hsl0]
        exact ⟨e9 ▸ hL', nL.2⟩
      rcases List.mem_append.mp hp with hp | hp
      · have z := N8 p (.tail _ (.tail _ (.tail _ (.tail _ hp))))
        exact ⟨hk' _ _ (hP.apart p hp).1 (hP.apart p hp).2 z.1, z.2⟩
      · rw [List.mem_singleton.mp hp]
        refine ⟨ha', ?_, ?_⟩
        · intro e
          dsimp only at e
          obtain ⟨oc, _, _, hoc, _⟩ := F8.ns
          rw [e] at han'
          rw [hoc] at han'; cases han'
        · cases q : Bc.get? a with
          | none => rfl
          | some o => have := F8.keep _ _ q; rw [han'] at this; cases this
    · have hlz : as.length = vss.length := hP.len.trans hP.lenv.symm
      intro p hp
      unfold NgS.led NgS.T at hp
      dsimp only at hp
      rw [zip_snoc _ _ _ _ _ hlz] at hp
      rcases List.mem_cons.mp hp with rfl | hp
      · exact ⟨Ne.symm (hDne _ cD).1, Ne.symm (hDne _ cI).1⟩
      rcases List.mem_cons.mp hp with rfl | hp
      · exact ⟨Ne.symm (hDne _ cD).2, Ne.symm (hDne _ cI).2⟩
      rcases List.mem_append.mp hp with hp | hp
      · exact hap p (.tail _ (.tail _ hp))
      · rw [List.mem_singleton.mp hp]
        refine ⟨fun e => ?_, fun e => ?_⟩
        · dsimp only at e
          rw [e, (N8 _ (.head _)).1] at han'; cases han'
        · dsimp only at e
          rw [e, (N8 _ (.tail _ (.head _))).1] at han'; cases han'
    · have hlz : as.length = vss.length := hP.len.trans hP.lenv.symm
      refine ⟨?_, ?_, ?_, hT'.ok, ?_, ⟨sl, rfl⟩, ?_⟩
      · rw [hP.ys, List.map_append]; rfl
      · rw [List.length_append, hP.len]; rfl
      · rw [List.length_append, hP.lenv]; rfl
      · intro j vs' hj
        by_cases hjl : j < vss.length
        · rw [List.getElem?_append_left hjl] at hj
          exact hP.nag j vs' hj
        · have hj2 : j = vss.length := by
            have := (List.getElem?_eq_some_iff.mp hj).1
            rw [List.length_append] at this
            simp only [List.length_cons, List.length_nil] at this
            omega
          subst hj2
          rw [List.getElem?_append_right (Nat.le_refl _), Nat.sub_self] at hj
          have e1 : vs = vs' := by simpa using hj
          have e2 : vss.length = i := hP.lenv
          rw [e2, ← e1]
          exact (hnk i hi).value hvs'
      · intro p hp
        unfold NgS.T at hp
        dsimp only at hp
        rw [zip_snoc _ _ _ _ _ hlz] at hp
        rcases List.mem_append.mp hp with hp | hp
        · exact hP.apart p hp
        · rw [List.mem_singleton.mp hp]
          refine ⟨fun e => ?_, fun e => ?_⟩
          · dsimp only at e
            rw [e, n123.1] at han'; cases han'
          · dsimp only at e
            rw [e, nL.1] at han'; cases han'
  · rintro C D' ⟨pt3, oL3, as, vss⟩ ys nn u s' cC cD hP hz F₄ N₄ hap
    have n123 := N₄ _ (.tail _ (.head _))
    have nL := N₄ _ (.tail _ (.tail _ (.head _)))
    dsimp only at n123 nL
    obtain ⟨sl0, hsl0⟩ := hP.oL
    dsimp only at hsl0
    have hns : s'.heap.Ns L (fun y => kstB m₀ ps y) := ⟨oL3, es, epL, nL.1, by rw [hsl0]; exact hdL, r1, r2⟩
    refine fin_assign (Q := fun _ s9 => wpAny (model PG w) (Aof dp un (some [lawEnv L fa cd]) gd) (execs (lawB 7) (lawEnv L fa cd)) Q E s9) (y := Str.ofString "nags") (env := lawEnv L fa cd) F₄ N₄ rfl rfl hns nL.2.1 ?_
    intro h5 tk5 hns5 hk5 hn5
    have hDL : D' ≠ L := by rintro rfl; rw [hoL] at cD; cases cD
    have F5 : Fr B L h5 (fun y => kstB m₀ ((Str.ofString "nags", .ref D') :: ps) y) := ⟨hns5, fun b o e => hk5 b o (Nat.ne_of_lt (Nat.lt_of_lt_of_le (Heap.lt_size e) F6.above)) (upB b o e), F6.above⟩
    have bn : ∀ a, Bc.get? a = none → B.get? a = none := fun a e => by
      cases q : B.get? a with
      | none => rfl
      | some o => have := upB _ _ q; rw [e] at this; cases this
    have hys := hP.ys
    dsimp only at hys
    subst hys
    refine next D' as vss nn pt3 _ F5 ?_ hP.ok hz.1 hz.2 hP.len hP.lenv hP.nag
    intro p hp
    rcases List.mem_cons.mp hp with rfl | hp
    · exact ⟨(hn5 _ (.tail _ (.head _)) (Ne.symm hW3)).1, Ne.symm hW3, bn _ b123⟩
    rcases List.mem_cons.mp hp with rfl | hp
    · have z := hn5 _ (.head _) hDL
      exact ⟨z.1, hDL, bn _ z.2⟩
    have hp' : p ∈ ((D, listOf (xs.map Value.ref).toArray ep) :: (L + 1, o1) :: (L + 2, o2) :: (L + 3, o3) :: (L + 4, o4) :: (L + 5, o5) :: (L + 6, o6) :: (L + 7, o7) :: (L + 8, o8) :: T) ++ List.zipWith (fun a vs => (a, tupObj vs)) as vss := by
      simpa using hp
    rcases List.mem_append.mp hp' with hp | hp
    · have z := N6 p (.tail _ hp)
      exact ⟨hk5 _ _ z.2.1 (hid p hp), z.2⟩
    · have z := hn5 p (.tail _ (.tail _ (.tail _ hp))) (hP.apart p hp).2
      exact ⟨z.1, (hP.apart p hp).2, bn _ z.2⟩

end
section
theorem NagV.at {h : Heap} {a : Addr} {vs : List Value} {pl : Int} {l : List Int} {ln : Str} (h1 : NagV vs pl l ln) (h2 : h.get? a = some (tupObj vs)) : NagIs h a pl l ln := let ⟨t1, t2, t3, e⟩ := h1; ⟨vs, t1, t2, t3, h2, e⟩
theorem stF {w : World} {dp un : Nat} {gd : Option (List Code)} {mg mb : Str → Option Value} {Q : Flow → Shared → Prop} {E : Value → Shared → Prop} {B : Heap} {L fa : Addr} {cd : Value} {s : Shared} {m₀ : Str → Option Value}
    {T : List (Addr × Obj)} {ps : List (Str × Value)} {ln : Str} {a1 D' : Addr} {l1 : List Int} {R : List (Addr × Obj)}
    (hA : dp + 100 < recursionLimit) (hu : un + 600 < cLine) (Gb : Gd w mg mb B)
    (F : Fr B L s.heap (fun y => kstB m₀ ((Str.ofString "nags", .ref D') :: (Str.ofString "first", .ref a1) :: ps) y))
    (N : News B L s.heap R) (hN1 : Bears R (fun h => NagIs h a1 0 l1 ln)) (hl1 : OkL l1) (hs : PyData.strOk ln = true)
    (next : ∀ tt h' tk, Fr B L h' (fun y => kstB m₀ ((Str.ofString "top", .int l1.length tt) :: (Str.ofString "nags", .ref D') :: (Str.ofString "first", .ref a1) :: ps) y) → News B L h' R →
      wpAny (model PG w) (Aof dp un (some [lawEnv L fa cd]) gd) (execs (lawB 8) (lawEnv L fa cd)) Q E { s with heap := h', toks := tk }) :
    wpAny (model PG w) (Aof dp un (some [lawEnv L fa cd]) gd) (execs (lawB 7) (lawEnv L fa cd)) Q E s := by
  have X := Gb.k
  have TT := Gb.t
  refine law_step rfl ?_
  ktr_unf
  refine sizesC (by omega) (by omega) (Gb.up F.keep) (hN1 _ fun p hp => (N p hp).1) hl1 hs ?_
  intro D5 vs5 n5 h5 tk5 up5 hD5 hI5 hn5
  have F5 := frUp F up5
  have N5 := newsAdd F N up5 hD5 hn5
  have hle := hI5.length
  have hl24 : l1.length ≤ 24 := by
    rcases hl1 with h | h
    · rw [h]; exact Nat.zero_le _
    · exact (allL_len h).1
  clear F N
  (try dsimp only)
  ktr_unf
  (with_reducible rename Fr _ _ _ _ => F6)
  (with_reducible rename News _ _ _ _ => N6)
  exact next _ _ _ (by exact F6) (fun p hp => N6 p (.tail _ hp))

end
section
/-- lists of ints so far: place, items, stamp -/
noncomputable abbrev LiS := List (Addr × List Value × Nat)
noncomputable def LiS.T (c : LiS) : List (Addr × Obj) := c.map fun q => (q.1, listOf q.2.1.toArray q.2.2)
structure InvLi (lk : Nat → List Int) (i : Nat) (c : LiS) (ys : List Value) : Prop where
  ys : ys = c.map fun q => Value.ref q.1
  len : c.length = i
  hin : ∀ (j : Nat) q, c[j]? = some q → IntsAre q.2.1 (lk j)
theorem stG {w : World} {dp un : Nat} {gd : Option (List Code)} {mg mb : Str → Option Value} {Q : Flow → Shared → Prop} {E : Value → Shared → Prop} {B : Heap} {L fa : Addr} {cd : Value} {s : Shared} {m₀ : Str → Option Value}
    {ps : List (Str × Value)} {ln : Str} {D' : Addr} {R : List (Addr × Obj)} {o5 : Obj} {as : List Addr} {lk : Nat → List Int} {tv : Value}
    (hA : dp + 100 < recursionLimit) (hu : un + 600 < cLine) (Gb : Gd w mg mb B)
    (F : Fr B L s.heap (fun y => kstB m₀ ((Str.ofString "top", tv) :: (Str.ofString "nags", .ref D') :: ps) y))
    (N : News B L s.heap ((L + 5, o5) :: R)) (d5 : o5.data = .cell none) (hap : ApartOr (L + 5) R) (hlen : as.length = 25) (hlk : ∀ k, k < 25 → OkL (lk k)) (hs : PyData.strOk ln = true)
    (hNg : Bears R (fun h => h.IsList D' (as.map Value.ref).toArray ∧ ∀ (j : Nat) a, as[j]? = some a → NagIs h a j (lk j) ln))
    (next : ∀ o5' Dn (ds : List Addr) T2 h' tk, Fr B L h' (fun y => kstB m₀ ((Str.ofString "top", tv) :: (Str.ofString "nags", .ref D') :: ps) y) → News B L h' ((L + 5, o5') :: (R ++ T2)) → o5'.data = .cell (some (.ref Dn)) →
      (∀ p ∈ T2, ∀ v, p.2.data ≠ .cell v) → (∀ p ∈ T2, p.2.cls ≠ .none) → ds.length = 25 →
      Bears T2 (fun h => h.IsList Dn (ds.map Value.ref).toArray ∧ ∀ (j : Nat) a, ds[j]? = some a → ∃ vs n, h.get? a = some (listOf vs.toArray n) ∧ IntsAre vs (lk j)) →
      wpAny (model PG w) (Aof dp un (some [lawEnv L fa cd]) gd) (execs (lawB 9) (lawEnv L fa cd)) Q E { s with heap := h', toks := tk }) :
    wpAny (model PG w) (Aof dp un (some [lawEnv L fa cd]) gd) (execs (lawB 8) (lawEnv L fa cd)) Q E s := by
  have X := Gb.k
  have TT := Gb.t
  refine law_step rfl ?_
  ktr_unf
  walk1
  refine comp_eval (cl := []) (closureFor_none (by decide)) rfl (by decide) ?_
  ktr_unf
  (with_reducible rename Fr _ _ _ _ => F6)
  (with_reducible rename News _ _ _ _ => N6)
  obtain ⟨hIL, hIN⟩ := hNg _ (fun p hp => (N6 p (.tail _ hp)).1)
  have X₃ := X.keeps F6.keep
  have T₃ := TT.keeps F6.keep
  have G6 := Gb.up F6.keep
  refine comp_led LiS.T (InvLi lk) [] (src_list rfl hIL (fun _ _ e => e)) (by decide) rfl rfl ⟨rfl, rfl, (fun j q h => by simp at h)⟩ (fun i c ys h => by rw [h.ys, List.length_map, h.len]; exact Nat.le_refl _) ?_ ?_ ?_
  · simp [hlen]
  · intro C D I c i v ys u oI nn h₃ tk₃ E' hi hv hP hapc F₃ N₃
    clear F6 N6 X TT
    have hi' : i < 25 := by simpa [hlen] using hi
    have hv2 : (as[i]?).map Value.ref = some v := by rw [← List.getElem?_map]; simpa using hv
    obtain ⟨a, hai, rfl⟩ := Option.map_eq_some_iff.mp hv2
    have hna := hIN i a hai
    ktr_unf
    (with_reducible rename Fr _ _ _ _ => F7)
    (with_reducible rename News _ _ _ _ => N7)
    refine sizesC (by omega) (by omega) (G6.up F7.keep) (hna.up F7.keep) (hlk i hi') hs ?_
    intro D5 vs5 n5 h5 tk5 up5 hD5 hI5 hn5
    have F5 := frUp F7 up5
    have N5 := newsAdd F7 N7 up5 hD5 hn5
    refine cel_end (c ++ [(D5, vs5, n5)] : LiS) (by exact F5) ?_ ?_ ?_
    · refine newsSub N5 ?_
      intro p hp
      simp only [LiS.T, List.map_append, List.map_cons, List.map_nil, List.mem_cons, List.mem_append, List.not_mem_nil, or_false] at hp ⊢
      rcases hp with h | h | h | h <;> simp [h]
    · intro p hp
      unfold LiS.T at hp
      rw [List.map_append] at hp
      rcases List.mem_append.mp hp with hp | hp
      · exact hapc p hp
      · rw [List.mem_singleton.mp hp]
        refine ⟨fun e => ?_, fun e => ?_⟩
        · dsimp only at e
          rw [e, (N7 _ (.head _)).1] at hn5; cases hn5
        · dsimp only at e
          rw [e, (N7 _ (.tail _ (.head _))).1] at hn5; cases hn5
    · refine ⟨?_, ?_, ?_⟩
      · rw [hP.ys, List.map_append]; rfl
      · rw [List.length_append, hP.len]; rfl
      · intro j q hq
        by_cases hj : j < c.length
        · rw [List.getElem?_append_left hj] at hq
          exact hP.hin j q hq
        · have hj2 : j = c.length := by
            have := (List.getElem?_eq_some_iff.mp hq).1
            rw [List.length_append] at this
            simp only [List.length_cons, List.length_nil] at this
            omega
          subst hj2
          rw [List.getElem?_append_right (Nat.le_refl _), Nat.sub_self] at hq
          have e1 : (D5, vs5, n5) = q := by simpa using hq
          rw [hP.len, ← e1]
          exact hI5
  · intro D c ys nn h5 tk5 hP5 hk5 hD hDn hT5
    have hys := hP5.ys
    subst hys
    have hTn : ∀ p ∈ (D, listOf (c.map fun q => Value.ref q.1).toArray nn) :: LiS.T c, h5.get? p.1 = some p.2 ∧ s.heap.get? p.1 = none := fun p hp => by
      rcases List.mem_cons.mp hp with rfl | hp
      · exact ⟨hD, hDn⟩
      · exact hT5 p hp
    have F5 := frUp F6 hk5
    have N5 := newsAddL F6 N6 hk5 hTn
    have hT3 : ∀ p ∈ (D, listOf (c.map fun q => Value.ref q.1).toArray nn) :: LiS.T c, ∀ v, p.2.data ≠ .cell v := by
      intro p hp
      rcases List.mem_cons.mp hp with rfl | hp
      · nofun
      · obtain ⟨q, _, rfl⟩ := List.mem_map.mp hp
        nofun
    have hT4 : ∀ p ∈ (D, listOf (c.map fun q => Value.ref q.1).toArray nn) :: LiS.T c, p.2.cls ≠ .none := by
      intro p hp
      rcases List.mem_cons.mp hp with rfl | hp
      · nofun
      · obtain ⟨q, _, rfl⟩ := List.mem_map.mp hp
        nofun
    have hap5 : ApartOr (L + 5) (R ++ ((D, listOf (c.map fun q => Value.ref q.1).toArray nn) :: LiS.T c)) := by
      have key : ∀ {l l' : List (Addr × Obj)}, ApartOr (L + 5) l → ApartOr (L + 5) l' → ApartOr (L + 5) (l ++ l') := by
        intro l
        induction l with
        | nil => intro l' _ h; exact h
        | cons p r ih => intro l' h h'; exact ⟨h.1, ih h.2 h'⟩
      exact key hap (apartT hT3)
    simp only [List.cons_append, List.nil_append] at N5
    generalize hR5 : R ++ ((D, listOf (c.map fun q => Value.ref q.1).toArray nn) :: LiS.T c) = R5 at *
    clear F6 N6
    ktr_unf
    (with_reducible rename Fr _ _ _ _ => F9)
    (with_reducible rename News _ _ _ _ => N9)
    subst hR5
    refine next _ D (c.map fun q => q.1) _ _ _ (by exact F9) (by exact N9) (by assumption) hT3 hT4 ?_ ?_
    · rw [List.length_map, hP5.len]; simp [hlen]
    · intro h9 h9T
      refine ⟨⟨_, h9T _ (.head _), rfl, _, by rw [List.map_map]; rfl⟩, ?_⟩
      intro j a hj
      rw [List.getElem?_map] at hj
      obtain ⟨q, hq, rfl⟩ := Option.map_eq_some_iff.mp hj
      exact ⟨q.2.1, q.2.2, h9T _ (.tail _ (List.mem_map_of_mem (List.mem_of_getElem? hq))), hP5.hin j q hq⟩

end
section
section
variable {M : Model} {A : Around} {E : Value → Shared → Prop} {s : Shared}
/-- the block of a comprehension with one cell of its own -/
theorem newEnv_cell {scope : Scope} {globals : Addr} {cl : List (Str × Addr)} {qual : Str} {env : Env} {x : Str} {Q : Env → Shared → Prop}
    (h1 : ∀ n, cellsFrom n scope.names cl = (x, n) :: cl) (h2 : ∀ h, pushCells h scope.names = h.push { cls := .type "cell", data := .cell none })
    (hQ : Q { scope := scope, locals := s.heap.objs.size, globals := globals, cells := (x, s.heap.objs.size + 1) :: cl, qual := qual, func := none, code := env.code, frame := env.frame, builtins := env.builtins }
      { s with heap := (s.heap.push { cls := .type "dict", data := .dict #[] }).push { cls := .type "cell", data := .cell none } }) :
    wpAny M A (newFunctionEnv scope globals cl [] qual none .none (some env)) Q E s := by
  simp only [newFunctionEnv, Option.isSome_some, if_true]
  refine wpAny_bind (wpAny_alloc ?_)
  refine wpAny_bind (wpAny_layCells _ (fun name kind cells => by cases hkc : kind == NameKind.cell <;> simp [hkc]) _ _ _ _ ?_)
  rw [h1, h2, List.forIn_nil]
  refine wpAny_bind (wpAny_pure (wpAny_pure ?_))
  rw [show ({ s with heap := s.heap.push { cls := .type "dict", data := .dict #[] } } : Shared).heap.objs.size = s.heap.objs.size + 1 from Heap.size_push ..]
  exact hQ
end
/-- the end of one turn of a comprehension with a cell of its own -/
noncomputable def CEc (s : Shared) (C D I : Addr) (ys : List Value) (nn : Nat) (oI : Obj) (P : List Value → Prop) (zs : List Value) (s' : Shared) : Prop :=
  ∃ h' tk m oc cv, s' = { s with heap := h', toks := tk } ∧ Fr s.heap C h' m ∧ News s.heap C h' [(D, listOf ys.toArray nn), (I, oI), (C + 1, oc)] ∧ oc.data = .cell cv ∧ P zs
section
variable {prog : Program} {w : World} {A : Around} {E : Value → Shared → Prop} {env : Env}
theorem comp_cell {s : Shared} {elt target iter : Expr} {ifs : List Expr} {scope : Scope} {cl : List (Str × Addr)} {pos : Pos} {xv : Value} {n : Nat} {Pv : Nat → Value → Prop} {RR : Value → Addr → Result → Shared → Prop} {x : Str}
    (P : Nat → List Value → Prop) (src : Src prog w A s.heap s xv n Pv target)
    (h1 : ∀ n, cellsFrom n scope.names cl = (x, n) :: cl) (h2 : ∀ h, pushCells h scope.names = h.push { cls := .type "cell", data := .cell none }) (p₀ : P 0 []) (hpl : ∀ i ys, P i ys → ys.length ≤ i) (hn : n ≤ 100000)
    (turn : ∀ C D I i v ys u oI nn h₃ tk₃ oc cv (E' : Value → Shared → Prop), i < n → Pv i v → P i ys → oc.data = .cell cv → C + 1 ≠ D → C + 1 ≠ I → s.heap.get? C = none → Fr s.heap C h₃ u → News s.heap C h₃ [(D, listOf ys.toArray nn), (I, oI), (C + 1, oc)] →
      wpAny (model prog w) A (assign target (compEnvC scope ((x, C + 1) :: cl) C env) v) (fun _ s₄ => wpAny (model prog w) A (forIn ifs true fun c r => if r = true then do let ok ← isTrue c (compEnvC scope ((x, C + 1) :: cl) C env) (eval c (compEnvC scope ((x, C + 1) :: cl) C env)); pure (ForInStep.yield ok) else pure (ForInStep.yield r)) (fun ok s₅ =>
        if ok = true then wpAny (model prog w) A (eval elt (compEnvC scope ((x, C + 1) :: cl) C env)) (fun y s₆ => CEc s C D I ys nn oI (P (i + 1)) (ys ++ [y]) s₆) E' s₅
        else CEc s C D I ys nn oI (P (i + 1)) ys s₅) E' s₄) E' { s with heap := h₃, toks := tk₃ })
    (fin : ∀ C D ys nn u h' tk, s.heap.get? C = none → s.heap.get? D = none → P n ys → Fr s.heap C h' u → News s.heap C h' [(D, listOf ys.toArray nn)] → RR (.ref D) C (.ok .next) { s with heap := h', toks := tk }) :
    wpAny (model prog w) A (pyIter xv) (CGo prog w A E env scope cl (.ListComp elt [⟨target, iter, ifs, 0⟩] scope pos) RR) E s := by
  have key : ∀ s' : Shared, (s'.gens = s.gens ∧ s'.drawn = s.drawn ∧ s'.os = s.os) → s' = { s with heap := s'.heap, toks := s'.toks } := by
    rintro ⟨h, g, d, t, o⟩ ⟨h1, h2, h3⟩
    dsimp only at h1 h2 h3
    subst h1 h2 h3
    rfl
  refine src _ _ fun o hof hsrc => ?_
  obtain ⟨fp, St, W, hst, hI, hfp, hit, hgo⟩ := hsrc
  unfold CGo
  refine wpAny_newObj_type (newEnv_cell h1 h2 ?_)
  dsimp only at hst ⊢
  generalize hH2 : (s.heap.push o).push { cls := .type "list", dict := none, data := .seq ([] : List Value).toArray } = H2
  have hC : H2.objs.size = s.heap.objs.size + 2 := by rw [← hH2, Heap.size_push, Heap.size_push]
  have hD : (s.heap.push o).objs.size = s.heap.objs.size + 1 := by rw [Heap.size_push]
  have hC3 : (H2.push { cls := .type "dict", data := .dict #[] }).objs.size = H2.objs.size + 1 := by rw [Heap.size_push]
  have old : ∀ b o', (s.heap.push o).get? b = some o' → ((H2.push { cls := .type "dict", data := .dict #[] }).push { cls := .type "cell", data := .cell none }).get? b = some o' := fun b o' e =>
    Heap.get?_push_of_some _ (Heap.get?_push_of_some _ (hH2 ▸ Heap.get?_push_of_some _ e))
  have old0 : ∀ b o', s.heap.get? b = some o' → ((H2.push { cls := .type "dict", data := .dict #[] }).push { cls := .type "cell", data := .cell none }).get? b = some o' := fun b o' e => old b o' (Heap.get?_push_of_some _ e)
  have fresh : ∀ a, s.heap.objs.size ≤ a → s.heap.get? a = none := fun a ha => no_new _ _ ha
  have hacc : ((H2.push { cls := .type "dict", data := .dict #[] }).push { cls := .type "cell", data := .cell none }).get? (s.heap.push o).objs.size = some { cls := .type "list", dict := none, data := .seq ([] : List Value).toArray } :=
    Heap.get?_push_of_some _ (Heap.get?_push_of_some _ (hH2 ▸ Heap.get?_push_size _ rfl))
  have hIo : ((H2.push { cls := .type "dict", data := .dict #[] }).push { cls := .type "cell", data := .cell none }).get? s.heap.objs.size = some o := old _ _ (Heap.get?_push_size _ hof)
  have hCe : ((H2.push { cls := .type "dict", data := .dict #[] }).push { cls := .type "cell", data := .cell none }).get? (H2.objs.size + 1) = some { cls := .type "cell", data := .cell none } := by
    rw [← hC3]; exact Heap.get?_push_size _ rfl
  have hns₁ : ((H2.push { cls := .type "dict", data := .dict #[] }).push { cls := .type "cell", data := .cell none }).Ns H2.objs.size (fun _ => none) := (Heap.Ns.new H2 (.type "dict")).keeps (fun b o' e => Heap.get?_push_of_some _ e)
  generalize hH4 : (H2.push { cls := .type "dict", data := .dict #[] }).push { cls := .type "cell", data := .cell none } = H4 at *
  have F₁ : Fr s.heap H2.objs.size H4 (fun _ => none) := ⟨hns₁, fun b o' e => old0 _ _ e, by rw [hC]; exact Nat.le_add_right _ _⟩
  have cD := fresh (s.heap.push o).objs.size (by rw [hD]; exact Nat.le_add_right _ _)
  have cC := fresh H2.objs.size (by rw [hC]; exact Nat.le_add_right _ _)
  have cI := fresh s.heap.objs.size (Nat.le_refl _)
  have cE := fresh (H2.objs.size + 1) (by rw [hC]; exact Nat.le_trans (Nat.le_add_right _ 2) (Nat.le_succ _))
  have nCD : H2.objs.size + 1 ≠ (s.heap.push o).objs.size := by rw [hC, hD]; exact Nat.ne_of_gt (Nat.lt_succ_of_lt (Nat.lt_succ_self _))
  have nCI : H2.objs.size + 1 ≠ s.heap.objs.size := by rw [hC]; exact Nat.ne_of_gt (Nat.lt_succ_of_lt (Nat.lt_add_of_pos_right (Nat.succ_pos _)))
  refine comp_loop (σ := Obj) (D := (s.heap.push o).objs.size) (I := s.heap.objs.size) (cenv := compEnvC scope ((x, H2.objs.size + 1) :: cl) H2.objs.size env) (n₀ := 0) (o₀ := o) (fun oc => [(H2.objs.size + 1, oc)]) (fun i oc ys => (∃ cv, oc.data = .cell cv) ∧ P i ys) (fun s' => s'.gens = s.gens ∧ s'.drawn = s.drawn ∧ s'.os = s.os) { cls := .type "cell", data := .cell none }
    W hgo (W.frame _ _ _ hst fun b _ o' e => old b o' e) hI hfp hit F₁ ?_ ?_ (by rw [hD]; exact Nat.succ_ne_self _) (fun _ _ _ z => z) ⟨rfl, rfl, rfl⟩ ⟨⟨_, rfl⟩, p₀⟩ (fun i c ys h => hpl i ys h.2) hn ?_ ?_
  · intro p hp
    rcases List.mem_cons.mp hp with rfl | hp
    · refine ⟨hacc, ?_, cD⟩
      show (s.heap.push o).objs.size ≠ H2.objs.size
      rw [hC, hD]; exact Nat.ne_of_lt (Nat.lt_succ_self _)
    · rcases List.mem_cons.mp hp with rfl | hp
      · refine ⟨hIo, ?_, cI⟩
        show s.heap.objs.size ≠ H2.objs.size
        rw [hC]; exact Nat.ne_of_lt (Nat.lt_add_of_pos_right (Nat.succ_pos _))
      · rw [List.mem_singleton.mp hp]
        exact ⟨hCe, Nat.succ_ne_self _, cE⟩
  · intro p hp
    rw [List.mem_singleton.mp hp]
    exact ⟨nCD, nCI⟩
  · rintro oc i v ys u oI nn s₃ E' hi hv ⟨⟨cv, hcv⟩, hP⟩ hz hap F N
    rw [key s₃ hz]
    refine wpAny_mono (turn _ _ _ i v ys u oI nn s₃.heap s₃.toks oc cv E' hi hv hP hcv nCD nCI cC F N) (fun _ s₄ h₄ => wpAny_mono h₄ (fun ok s₅ h₅ => ?_) fun _ _ e => e) fun _ _ e => e
    cases ok with
    | false =>
      obtain ⟨h', tk, m, oc', cv', rfl, F', N', hd', p⟩ := h₅
      refine ⟨oc', m, F', N', fun p hp => ?_, ⟨rfl, rfl, rfl⟩, ⟨cv', hd'⟩, p⟩
      rw [List.mem_singleton.mp hp]
      exact ⟨nCD, nCI⟩
    | true =>
      refine wpAny_mono h₅ (fun y s₆ h₆ => ?_) fun _ _ e => e
      obtain ⟨h', tk, m, oc', cv', rfl, F', N', hd', p⟩ := h₆
      refine ⟨oc', m, F', N', fun p hp => ?_, ⟨rfl, rfl, rfl⟩, ⟨cv', hd'⟩, p⟩
      rw [List.mem_singleton.mp hp]
      exact ⟨nCD, nCI⟩
  · rintro oc ys nn u s' ⟨_, hP⟩ hz F N hap
    rw [key s' hz]
    exact fin _ _ ys nn u _ _ cC cD hP F (fun p hp => N p (by rw [List.mem_singleton.mp hp]; exact .head _))
end

end
section
-- walks on until an iterator, a for, a list comprehension, an item, a call of the text's own, or an end
example : True := by
  (k_with "ktr_rel" => with_reducible (first | show wpAny _ _ (compareOp CmpOp.NotIn (Value.int _ _) (Value.ref _)) _ _ _))
  trivial
theorem eqv_ii (a b : Int) : PyData.eqv (.int a) (.int b) = (a == b) := by
  simp [PyData.eqv]
noncomputable def colZ (lk : Nat → List Int) (n : Nat) (z : Int) : Int := ((((List.range n).map lk).filter fun l => !(l.any fun y => y == z)).length : Int)
noncomputable def colsZ (lk : Nat → List Int) (top : Nat) : List Int := (List.range top).map fun j : Nat => colZ lk 25 (1 + j)
theorem colZ_succ (lk : Nat → List Int) (n : Nat) (z : Int) : colZ lk (n + 1) z = colZ lk n z + if ((lk n).any fun y => y == z) = true then 0 else 1 := by
  unfold colZ
  rw [List.range_succ, List.map_append, List.filter_append, List.length_append]
  simp only [List.map_cons, List.map_nil, List.filter_cons, List.filter_nil]
  cases h : (lk n).any fun y => y == z <;> simp
theorem rangeSnoc (n : Nat) {α : Type} (f : Nat → α) : (List.range (n + 1)).map f = (List.range n).map f ++ [f n] := by rw [List.range_succ, List.map_append]; rfl
theorem stH {w : World} {dp un : Nat} {gd : Option (List Code)} {mg mb : Str → Option Value} {Q : Flow → Shared → Prop} {E : Value → Shared → Prop} {B : Heap} {L fa : Addr} {cd : Value} {s : Shared} {m₀ : Str → Option Value}
    {ps : List (Str × Value)} {Dn : Addr} {R : List (Addr × Obj)} {o5 : Obj} {ds : List Addr} {lk : Nat → List Int} {top : Nat} {tt : Tok}
    (hA : dp + 100 < recursionLimit) (hu : un + 600 < cLine) (Gb : Gd w mg mb B)
    (F : Fr B L s.heap (fun y => kstB m₀ ((Str.ofString "top", .int top tt) :: ps) y))
    (N : News B L s.heap ((L + 5, o5) :: R)) (d5 : o5.data = .cell (some (.ref Dn))) (hlen : ds.length = 25) (hlk : ∀ k, k < 25 → OkL (lk k)) (htop : top ≤ 24)
    (hNm : Bears R (fun h => h.IsList Dn (ds.map Value.ref).toArray ∧ ∀ (j : Nat) a, ds[j]? = some a → ∃ vs n, h.get? a = some (listOf vs.toArray n) ∧ IntsAre vs (lk j)))
    (next : ∀ Dc cvs nn h' tk, Fr B L h' (fun y => kstB m₀ ((Str.ofString "columns", .ref Dc) :: (Str.ofString "top", .int top tt) :: ps) y) → News B L h' ((Dc, listOf cvs.toArray nn) :: (L + 5, o5) :: R) → IntsAre cvs (colsZ lk top) →
      wpAny (model PG w) (Aof dp un (some [lawEnv L fa cd]) gd) (execs (lawB 10) (lawEnv L fa cd)) Q E { s with heap := h', toks := tk }) :
    wpAny (model PG w) (Aof dp un (some [lawEnv L fa cd]) gd) (execs (lawB 9) (lawEnv L fa cd)) Q E s := by
  have X := Gb.k
  have TT := Gb.t
  refine law_step rfl ?_
  ktr_unf
  refine comp_assign (cl := [(Str.ofString "named", L + 5)]) rfl rfl rfl (by decide) ?_
  ktr_unf
  (with_reducible rename Fr _ _ _ _ => F6)
  (with_reducible rename News _ _ _ _ => N6)
  (with_reducible rename IsRange _ _ _ _ _ _ _ _ => R6)
  obtain ⟨hIL, hIN⟩ := hNm _ (fun p hp => (N6 p (.tail _ hp)).1)
  have X₃ := X.keeps F6.keep
  have T₃ := TT.keeps F6.keep
  have hC5 := News.cellAt N6 (.head _) d5 (fun e => e)
  (try dsimp only at R6 ⊢)
  generalize hs6 : ({ heap := _, gens := _, drawn := _, toks := _, os := _ } : Shared) = s5
  have e6h := congrArg Shared.heap hs6
  dsimp only at e6h
  rw [e6h] at F6 N6 R6 X₃ T₃ hC5 hIL hIN
  refine comp_cell (x := Str.ofString "size") (n := top) (fun i ys => ys.length = i ∧ IntsAre ys ((List.range i).map fun j : Nat => colZ lk 25 (1 + j))) (src_range rfl R6 ?_ ?_) (fun _ => rfl) (fun _ => rfl) ⟨rfl, .nil⟩ (fun i ys h => Nat.le_of_eq h.1) (by omega) ?_ ?_
  · exact small_one (by omega) (by omega) (by omega) (by omega)
  · unfold Builtin.Range.rangeSize
    split
    · split <;> omega
    · omega
  · rintro C D I i v ys u oI nn h₃ tk₃ oc cv E' hi ⟨t, rfl⟩ hP hcv nCD nCI cC F₃ N₃
    clear F6 N6 X TT
    refine wpAny_assign_Name (wpAny_storeName_cell rfl rfl rfl ⟨oc, (N₃ _ (.tail _ (.tail _ (.head _)))).1, hcv⟩ fun h4 hv4 hs4 => ?_)
    obtain ⟨oc4, hoc4, hdc4⟩ := hv4
    have nC : C ≠ C + 1 := Nat.ne_of_lt (Nat.lt_succ_self _)
    have cE : s5.heap.get? (C + 1) = none := by
      have := (N₃ _ (.tail _ (.tail _ (.head _)))).2.2
      exact this
    have F4 : Fr s5.heap C h4 u := ⟨F₃.ns.sameBut hs4 nC, fun b o e => (hs4.2 b (by rintro rfl; rw [cE] at e; cases e)).trans (F₃.keep b o e), F₃.above⟩
    have N4 : News s5.heap C h4 [(D, listOf ys.toArray nn), (I, oI), (C + 1, oc4)] := by
      intro p hp
      rcases List.mem_cons.mp hp with rfl | hp
      · have z := N₃ _ (.head _)
        exact ⟨(hs4.2 _ (Ne.symm nCD)).trans z.1, z.2⟩
      rcases List.mem_cons.mp hp with rfl | hp
      · have z := N₃ _ (.tail _ (.head _))
        exact ⟨(hs4.2 _ (Ne.symm nCI)).trans z.1, z.2⟩
      · rw [List.mem_singleton.mp hp]
        exact ⟨hoc4, (N₃ _ (.tail _ (.tail _ (.head _)))).2⟩
    clear F₃ N₃ hs4
    (try dsimp only)
    ktr_unf
    refine comp_eval (cl := [(Str.ofString "size", C + 1)]) rfl rfl (by decide) ?_
    ktr_unf
    (with_reducible rename Fr _ _ _ _ => F7)
    (with_reducible rename News _ _ _ _ => N7)
    have X₇ := X₃.keeps F7.keep
    have T₇ := T₃.keeps F7.keep
    have hcl7 := News.cellAt N7 (.tail _ (.tail _ (.head _))) hdc4 (fun e => e)
    refine comp_simple (fun j zs => (zs.length : Int) = colZ lk j (1 + (i : Int)) ∧ zs.length ≤ j) (src_list rfl (stays_list F7.keep hIL) (fun _ _ e => e)) (by decide) rfl ⟨rfl, Nat.le_refl _⟩ (fun i ys h => h.2) ?_ ?_ ?_
    · simp [hlen]
    · intro C2 D2 I2 j v zs u2 oI2 nn2 h5 tk5 E2 hj hv hP2 F5 N5
      have hj' : j < 25 := by simpa [hlen] using hj
      have hv2 : (ds[j]?).map Value.ref = some v := by rw [← List.getElem?_map]; simpa using hv
      obtain ⟨a, haj, rfl⟩ := Option.map_eq_some_iff.mp hv2
      obtain ⟨vs, n, hga, hIa⟩ := hIN j a haj
      have hga7 := F7.keep _ _ hga
      clear F7 N7 X₃ T₃
      ktr_unf
      (with_reducible rename Fr _ _ _ _ => F9)
      (with_reducible rename News _ _ _ _ => N9)
      have hdp1 : PyData.depth (.int (1 + (i : Int))) ≤ 1 := by simp [PyData.depth]
      have hmn := Nat.min_le_right (PyData.depthAll ((lk j).map .int)) (PyData.depth (.int (1 + (i : Int))))
      refine SeqAt.notIn_list_reads (xs := (lk j).map .int) (d := .int (1 + (i : Int))) (.list (F9.keep _ _ hga7) rfl rfl (rdAll_ints hIa)) (.int _ _) (ke_canLayAll0 _) rfl ?_ ?_
      · show un + 1 + _ < cLine
        omega
      have hb : (((lk j).map PyData.int).any fun y => PyData.eqv y (.int (1 + (i : Int)))) = (lk j).any fun y => y == 1 + (i : Int) := by
        rw [List.any_map]
        exact congrArg (fun f => (lk j).any f) (funext fun y => eqv_ii _ _)
      rw [hb]
      have hs := colZ_succ lk j (1 + (i : Int))
      cases hq : (lk j).any fun y => y == 1 + (i : Int) with
      | true =>
        rw [hq, if_pos rfl] at hs
        rw [Bool.not_true]
        ktr_unf
        exact ce_end (by exact F9) (by exact N9) ⟨by rw [hs, hP2.1]; omega, Nat.le_succ_of_le hP2.2⟩
      | false =>
        rw [hq, if_neg (by decide)] at hs
        rw [Bool.not_false]
        ktr_unf
        refine ce_end (by exact F9) (by exact N9) ⟨?_, ?_⟩
        · rw [List.length_append, hs, ← hP2.1]; simp
        · rw [List.length_append]; have := hP2.2; simp; omega
    · intro D2 zs nn2 h5 tk5 hP2 hk2 hD2 hDn2
      have F5 := frUp F7 hk2
      have N5 := newsAdd F7 N7 hk2 hD2 hDn2
      have hsz : (ds.map Value.ref).toArray.size = 25 := by simp [hlen]
      rw [hsz] at hP2
      clear F7 N7
      (try dsimp only)
      have hz24 : zs.length ≤ 25 := hP2.2
      have hzl : (zs.toArray.size : Int) = colZ lk 25 (1 + (i : Int)) := by rw [List.size_toArray]; exact hP2.1
      ktr_unf
      rw [hzl]
      refine ⟨_, _, _, oc4, _, rfl, by exact F5, newsSub N5 (fun p hp => .tail _ hp), hdc4, ?_, ?_⟩
      · rw [List.length_append, hP.1]; rfl
      · rw [rangeSnoc]
        exact intsSnoc hP.2
  · intro C D ys nn u h' tk cC cD hP F₄ N₄
    have hLC : L ≠ C := by
      rintro rfl
      obtain ⟨o, _, _, ho, _⟩ := F6.ns
      rw [cC] at ho; cases ho
    have hDL : D ≠ L := by
      rintro rfl
      obtain ⟨o, _, _, ho, _⟩ := F6.ns
      rw [cD] at ho; cases ho
    refine fin_assign (Q := fun _ s9 => wpAny (model PG w) (Aof dp un (some [lawEnv L fa cd]) gd) (execs (lawB 10) (lawEnv L fa cd)) Q E s9) (y := Str.ofString "columns") (env := lawEnv L fa cd) F₄ N₄ rfl rfl (F6.ns.keeps F₄.keep) hLC ?_
    intro h5 tk5 hns5 hk5 hn5
    have F5 : Fr B L h5 (fun y => kstB m₀ ((Str.ofString "columns", .ref D) :: (Str.ofString "top", .int top tt) :: ps) y) := ⟨hns5, fun b o e => hk5 b o (Nat.ne_of_lt (Nat.lt_of_lt_of_le (Heap.lt_size e) F6.above)) (F6.keep b o e), F6.above⟩
    have hs9 : ∀ h tk, ({ s5 with heap := h, toks := tk } : Shared) = { s with heap := h, toks := tk } := by
      intro h tk
      rw [← hs6]
    have := next D ys nn h5 tk5 F5 ?_ hP.2
    · rw [← hs9] at this
      exact this
    · intro p hp
      rcases List.mem_cons.mp hp with rfl | hp
      · have z := hn5 _ (.head _) hDL
        refine ⟨z.1, hDL, ?_⟩
        cases q : B.get? D with
        | none => rfl
        | some o => have := F6.keep _ _ q; rw [cD] at this; cases this
      · have z := N6 p hp
        exact ⟨hk5 _ _ z.2.1 z.1, z.2⟩

end
example : True := by
  k_with_none
  (k_with "ktr_rel" => with_reducible (first | show wpAny _ _ (pyIter _) _ _ _ | show wpAny _ _ (call (Value.builtin "list.append") _) _ _ _ | show wpAny _ _ (setItem _ _ _) _ _ _))
  (k_with "ktr_unf" => repeat' (first | (k_unfold; (try dsimp only)) | ((fail_if_success ktr_rel); (first | walk1 | (dsimp only; walk1) | (leave1; (try dsimp only))))))
  (k_with "execs cons Assign cons" => with_reducible refine wpAny_execs_cons ?_)
  (k_with "kun_tup" => exact IsTup.keeps (by assumption) (Fr.keep (by k_asm)))
  (k_with "k_inst" => exact InstAt.keepsH (by assumption) (Fr.keep (by k_asm)))
  (k_with "call builtin:len" => (k_here; (with_reducible show wpAny _ _ (call (Value.builtin "len") [Value.ref _]) _ _ _); k_dflt (refine' PyProof.Rows.len_tuple ?k1 ?k2 ?_; (case k1 => kun_tup); (case k2 => first | assumption | decide); k_whole)))
  (k_with "call builtin:len" => (k_here; (with_reducible show wpAny _ _ (call (Value.builtin "len") [Value.ref _]) _ _ _); k_dflt (refine' PyProof.Rows.len_list ?k1 ?k2 ?_; (case k1 => exact stays_list (Fr.keep (by k_asm)) (by assumption)); (case k2 => first | assumption | decide); k_whole)))
  (k_with "subscriptTail" => (k_here; (with_reducible show wpAny _ _ (subscriptTail _ _ (Value.ref _) (Value.int _ _)) _ _ _); k_dflt (refine' item_tuple_ints ?t ?i ?a ?b ?c ?_; (case t => kun_tup); (case i => assumption); (case a => omega); (case b => omega); (case c => omega); k_whole); intro t9))
  (k_with "call ref" => (k_here; (show wpAny _ _ (call (Value.ref 79) [Value.ref _]) _ _ _); k_dflt (refine' longest ?hA ?hu ?G ?W ?_; (case hA => ktr_room); (case hu => ktr_units); (case G => exact Gd.up (by assumption) (Fr.keep (by k_asm))); (case W => exact WS.up (by assumption) (Fr.keep (by k_asm))); k_whole); intro t9 h9 tk9 hk9; (with_reducible rename Fr _ _ _ _ => F8); (with_reducible rename News _ _ _ _ => N8); (have F9 := frUp F8 hk9); (have N9 := newsUp N8 hk9); (try dsimp only)))
  (k_with "call ref" => (k_here; (show wpAny _ _ (call (Value.ref 86) [Value.ref _, Value.int _ _]) _ _ _); k_dflt (refine' indent ?hA ?hu ?G ?W ?h1 ?h2 ?_; (case hA => ktr_room); (case hu => ktr_units); (case G => exact Gd.up (by assumption) (Fr.keep (by k_asm))); (case W => exact WS.up (by assumption) (Fr.keep (by k_asm))); (case h1 => omega); (case h2 => omega); k_whole); intro t9 h9 tk9 hk9; (with_reducible rename Fr _ _ _ _ => F8); (with_reducible rename News _ _ _ _ => N8); (have F9 := frUp F8 hk9); (have N9 := newsUp N8 hk9); (try dsimp only)))
  (k_with "ktr_rel" => with_reducible (first | show wpAny _ _ (eval (Expr.ListComp _ _ _ _) _) _ _ _ | show wpAny _ _ (exec (Stmt.Assign [_] (Expr.ListComp _ _ _ _) _) _) _ _ _ | show wpAny _ _ (call (Value.builtin "str.join") _) _ _ _))
  (k_with "eval Name" => (k_here; (with_reducible show wpAny _ _ (eval (Expr.Name _ _) (compEnvC _ _ _ _)) _ _ _); k_dflt (first
  | (refine' cn_loc ?k1 ?k2 ?_ ?k3 ?k4 ?k5; (case k3 => rfl); (case k4 => rfl); (case k5 => decide); (case k1 => k_asm); (case k2 => exact rfl); k_whole)
  | (refine' cn_cell ?k1 ?k2 ?k3 ?_ ?k4 ?k5 ?k6; (case k4 => rfl); (case k5 => rfl); (case k6 => decide); (case k1 => k_asm); (case k2 => rfl); (case k3 => assumption); k_whole)
  | (refine' cn_glob ?k1 ?k2 ?k3 ?k4 ?_ ?k5 ?k6 ?k7 ?k8; (case k5 => rfl); (case k6 => rfl); (case k7 => rfl); (case k8 => decide); (case k1 => k_asm); (case k2 => k_asm); (case k3 => k_asm); (case k4 => k_is); k_whole)
  | (refine' cn_bi ?k1 ?k2 ?k3 ?k4 ?k5 ?k6 ?_ ?k7 ?k8 ?k9 ?k10 ?k11; (case k7 => rfl); (case k8 => rfl); (case k9 => rfl); (case k10 => rfl); (case k11 => decide); (case k1 => k_asm); (case k2 => k_asm); (case k3 => k_asm); (case k4 => k_is); (case k5 => boot_by_name); (case k6 => decide); k_whole))))
  (k_with "storeName" => (k_here; (with_reducible show wpAny _ _ (storeName (compEnvC _ _ _ _) _ _) _ _ _); k_dflt (refine' cn_store ?k1 ?k2 ?_ ?k3 ?k4; (case k3 => rfl); (case k4 => rfl); (case k1 => k_asm); (case k2 => k_asm); k_whole); intro h' F' N'; (try dsimp only)))
  (k_with "binaryOp Mult str int" => (k_here; (with_reducible show wpAny _ _ (binaryOp Operator.Mult (Value.str (Str.ofString " ") _) (Value.int _ _)) _ _ _); k_dflt (refine' mul_sp ?k1 ?k2 ?_; (case k1 => omega); (case k2 => omega); k_whole); intro t9 k9; (try dsimp only)))
  (k_with "ktr_rel" => with_reducible (first | show wpAny _ _ (call (Value.ref _) _) _ _ _))
  (k_with "subscriptTail" => (k_here; (with_reducible show wpAny _ _ (subscriptTail _ _ (Value.ref _) (Value.int _ _)) _ _ _); k_dflt (refine' item_tupleT ?t8 ?lo8 ?hi8 ?j8 ?x8 ?_; (case t8 => exact IsTup.keeps (by assumption) (Fr.keep (by k_asm))); (case lo8 => decide); (case hi8 => decide); (case j8 => exact rfl); (case x8 => exact rfl); k_whole)))
  (k_with "k_updF" => first | exact UpdF.head (by k_all) | exact UpdF.tail (by k_ne) (by k_updF))
  (k_with "storeName" => (k_here; (with_reducible show wpAny _ _ (storeName (envOfC _ _ _ _ _) _ _) _ _ _); k_dflt (refine' storeX_C ?sc1 ?sc2 ?sc3 ?sc4 ?sc5 ?_ ?sc6 ?sc7; (case sc6 => rfl); (case sc7 => rfl); (case sc1 => k_asm); (case sc2 => k_asm); (case sc3 => rfl); (case sc4 => k_updF); (case sc5 => assumption); k_whole); intro h' o' F' N' d'; (try dsimp only at N')))
  (k_with "eval Name" => (k_here; (with_reducible show wpAny _ _ (eval (Expr.Name _ _) (envOfC _ _ _ _ _)) _ _ _); k_dflt (refine' nameX_C ?nc1 ?nc2 ?nc3 ?nc4 ?_ ?nc5 ?nc6 ?nc7; (case nc5 => rfl); (case nc6 => rfl); (case nc7 => decide); (case nc1 => k_asm); (case nc2 => rfl); (case nc3 => k_mem); (case nc4 => assumption); k_whole)))
  (k_with "k_all" => first | exact trivial | exact apartT (by assumption) | exact And.intro (by k_all) (by k_all) | exact Or.inl (neN (by (try dsimp only); omega)) | exact Or.inr (by intro v e; cases e) | exact Or.inr (by assumption))
  (k_with "k_updF" => first | exact UpdA.head (by k_all) | exact UpdA.tail (by k_all) (by k_updF))
  (k_with "storeName" => (k_here; (with_reducible show wpAny _ _ (storeName (envOfC _ _ _ _ _) _ _) _ _ _); k_dflt (refine' storeA ?sa1 ?sa2 ?sa3 ?sa4 ?sa5 ?_ ?sa6 ?sa7; (case sa6 => rfl); (case sa7 => rfl); (case sa1 => k_asm); (case sa2 => k_asm); (case sa3 => rfl); (case sa4 => k_updF); (case sa5 => assumption); k_whole); intro h' o' F' N' d'; (try dsimp only at N')))
  (k_with "ktr_rel" => with_reducible (first | show wpAny _ _ (binaryOp Operator.Add (Value.str _ _) (Value.str _ _)) _ _ _ | show wpAny _ _ (execs (lawB _) _) _ _ _ | show wpAny _ _ (exec (Stmt.For _ _ _ _ _) _) _ _ _))
  (k_with "k_all" => first | assumption | exact trivial | exact apartT (by assumption) | exact And.intro (by k_all) (by k_all) | exact Or.inl (neN (by (try dsimp only); omega)) | exact Or.inr (by intro v e; cases e) | exact Or.inr (by assumption))
  (k_with "ktr_rel" => with_reducible (first | show wpAny _ _ (subscriptTail _ _ (Value.ref _) (Value.int _ _)) _ _ _))
  trivial
section
theorem stI {w : World} {dp un : Nat} {gd : Option (List Code)} {mg mb : Str → Option Value} {Q : Flow → Shared → Prop} {E : Value → Shared → Prop} {B : Heap} {L fa : Addr} {cd : Value} {s : Shared} {m₀ : Str → Option Value}
    {ps : List (Str × Value)} {Dc : Addr} {R : List (Addr × Obj)} {o6 o7 : Obj} {cvs : List Value} {cols : List Int} {nn : Nat}
    (hA : dp + 100 < recursionLimit) (hu : un + 600 < cLine) (Gb : Gd w mg mb B)
    (F : Fr B L s.heap (fun y => kstB m₀ ((Str.ofString "columns", .ref Dc) :: ps) y))
    (N : News B L s.heap ((Dc, listOf cvs.toArray nn) :: (L + 6, o6) :: (L + 7, o7) :: R)) (d6 : o6.data = .cell none) (d7 : o7.data = .cell none) (hap6 : ApartOr (L + 6) R) (hap7 : ApartOr (L + 7) R)
    (hI : IntsAre cvs cols) (hn1 : 1 ≤ cols.length) (hn2 : cols.length ≤ 10) (hc : ∀ c ∈ cols, 0 ≤ c ∧ c ≤ 100)
    (next : ∀ Dr rvs n6 t7 o6' o7' h' tk, Fr B L h' (fun y => kstB m₀ ((Str.ofString "columns", .ref Dc) :: ps) y) → News B L h' ((Dr, listOf rvs.toArray n6) :: (Dc, listOf cvs.toArray nn) :: (L + 6, o6') :: (L + 7, o7') :: R) →
      o6'.data = .cell (some (.ref Dr)) → o7'.data = .cell (some (.int (foundL cols) t7)) → IntsAre rvs (foundR cols) →
      wpAny (model PG w) (Aof dp un (some [lawEnv L fa cd]) gd) (execs (lawB 11) (lawEnv L fa cd)) Q E { s with heap := h', toks := tk }) :
    wpAny (model PG w) (Aof dp un (some [lawEnv L fa cd]) gd) (execs (lawB 10) (lawEnv L fa cd)) Q E s := by
  have X := Gb.k
  have TT := Gb.t
  refine law_step rfl ?_
  ktr_unf
  refine foundC (by omega) (by omega) (Gb.up F.keep) (News.isList N (.head _)) hI hn1 hn2 hc ?_
  intro b D ws n t h5 tk5 up5 hb5 hD5 hI5 hbn hDn
  have F5 := frUp F up5
  have N5 := newsAddL F N up5 (T := [(D, listOf ws.toArray n), (b, tupObj [.ref D, .int (foundL cols) t])]) (by
    intro p hp
    rcases List.mem_cons.mp hp with rfl | hp
    · exact ⟨hD5, hDn⟩
    · rw [List.mem_singleton.mp hp]
      exact ⟨hb5, hbn⟩)
  have N6 : News B L h5 ((b, tupObj [.ref D, .int (foundL cols) t]) :: (D, listOf ws.toArray n) :: (Dc, listOf cvs.toArray nn) :: (L + 6, o6) :: (L + 7, o7) :: R) := newsSub N5 (by
    intro p hp
    simp only [List.mem_cons, List.mem_append, List.not_mem_nil, or_false] at hp ⊢
    rcases hp with h | h | h | h | h | h <;> simp [h])
  clear F N N5
  (try dsimp only)
  ktr_unf
  (with_reducible rename Fr _ _ _ _ => F7)
  (with_reducible rename News _ _ _ _ => N7)
  exact next D ws n t _ _ _ _ (by exact F7) (fun p hp => N7 p (.tail _ hp)) (by assumption) (by assumption) hI5

end
example : True := by
  (k_with "ktr_rel" => with_reducible (first | show wpAny _ _ (call (Value.builtin "sorted") _) _ _ _ | show wpAny _ _ (call (Value.type "list") _) _ _ _ | show wpAny _ _ (compareOp CmpOp.NotEq (Value.ref _) (Value.ref _)) _ _ _ | show wpAny _ _ (subscriptTail _ _ (Value.ref _) (Value.ref _)) _ _ _))
  trivial
section
theorem ints_reads {h : Heap} {a : Addr} {vs : List Value} {ns : List Int} {n : Nat} (ha : h.get? a = some (listOf vs.toArray n)) (hI : IntsAre vs ns) : Reads h (.ref a) (.list (ns.map .int)) [a] := .list ha rfl rfl (rdAll_ints hI)
theorem ints_layAll : ∀ ns : List Int, PyData.canLayAll0 (ns.map .int) = true
  | [] => rfl
  | n :: r => by simp [PyData.canLayAll0, PyData.canLay0, ints_layAll r]
theorem ints_depth : ∀ ns : List Int, PyData.depthAll (ns.map .int) ≤ 1
  | [] => by simp [PyData.depthAll]
  | n :: r => by have := ints_depth r; simp [PyData.depthAll, PyData.depth]; omega
theorem ints_shaped (ns : List Int) : SeqAt.shaped (.list (ns.map .int)) = true := by
  have h1 := ints_layAll ns
  have h2 := ints_depth ns
  unfold SeqAt.shaped
  rw [Bool.and_eq_true, PyData.canLay0, PyData.depth]
  exact ⟨h1, decide_eq_true (by omega)⟩
theorem ints_ne (ns : List Int) : (!PyData.eqv (.list (ns.map .int)) (.list (ns.map .int))) = false := by
  rw [SeqAt.eqv_refl _ (SeqAt.canLay_of_shaped (ints_shaped ns))]
  rfl
theorem stJ {w : World} {dp un : Nat} {gd : Option (List Code)} {mg mb : Str → Option Value} {Q : Flow → Shared → Prop} {E : Value → Shared → Prop} {B : Heap} {L fa : Addr} {cd : Value} {s : Shared} {m₀ : Str → Option Value}
    {ps : List (Str × Value)} {Dr lb : Addr} {R : List (Addr × Obj)} {o6 o7 : Obj} {rvs bvs : List Value} {rs b : List Int} {n1 n2 : Nat} {e : Int} {te t7 : Tok} {v1 v2 v3 v4 : Value}
    (hA : dp + 100 < recursionLimit) (hu : un + 600 < cLine) (Gb : Gd w mg mb B)
    (F : Fr B L s.heap (fun y => kstB m₀ ((Str.ofString "columns", v1) :: (Str.ofString "top", v2) :: (Str.ofString "nags", v3) :: (Str.ofString "first", v4) :: (Str.ofString "ending", .int e te) :: (Str.ofString "built", .ref lb) :: ps) y))
    (N : News B L s.heap ((L + 6, o6) :: (L + 7, o7) :: R)) (d6 : o6.data = .cell (some (.ref Dr))) (d7 : o7.data = .cell (some (.int e t7)))
    (hR : Bears R (fun h => h.get? lb = some (listOf bvs.toArray n2) ∧ h.get? Dr = some (listOf rvs.toArray n1)))
    (hI : IntsAre bvs b) (hI2 : IntsAre rvs rs) (hb4 : b.length ≤ 4) (hrs : ∀ z : List Int, z.Perm b → z.Pairwise (· ≤ ·) → z.reverse = rs)
    (next : ∀ h' tk, Fr B L h' (fun y => kstB m₀ ((Str.ofString "columns", v1) :: (Str.ofString "top", v2) :: (Str.ofString "nags", v3) :: (Str.ofString "first", v4) :: (Str.ofString "ending", .int e te) :: (Str.ofString "built", .ref lb) :: ps) y) → News B L h' ((L + 6, o6) :: (L + 7, o7) :: R) →
      wpAny (model PG w) (Aof dp un (some [lawEnv L fa cd]) gd) (execs (lawB 12) (lawEnv L fa cd)) Q E { s with heap := h', toks := tk }) :
    wpAny (model PG w) (Aof dp un (some [lawEnv L fa cd]) gd) (execs (lawB 11) (lawEnv L fa cd)) Q E s := by
  have X := Gb.k
  have TT := Gb.t
  refine law_step rfl ?_
  ktr_unf
  refine kso_sorted (by exact F) (by exact N) ⟨_, (hR _ fun p hp => (N p (.tail _ (.tail _ hp))).1).1, rfl, n2, rfl⟩ hI (by omega) ?_
  intro D5 vs5 ns5 c5 h5 F5 N5 l5 hI5 hl5 hp5 ho5 hx5
  clear hx5 F N
  (try dsimp only)
  ktr_unf
  (with_reducible rename Fr _ _ _ _ => F6)
  (with_reducible rename News _ _ _ _ => N6)
  refine kba_turn (value' := .Name (Str.ofString "x") default) (fun _ => rfl) ?_
  refine krv_ints (by exact F6) (by exact N6) (News.isList N6 (.head _)) (IsPart.int _ _) hI5 ?_ (by with_unfolding_all rfl) (fun _ => rfl) ?_
  · intro D6 ws6 h6 F7 N7 l7 hI6 hl6
    clear F6 N6
    have hD := hR _ fun p hp => (N7 p (.tail _ (.tail _ (.tail _ (.tail _ hp))))).1
    have hrev := hrs ns5 hp5 ho5
    rw [hrev] at hI6
    (try dsimp only)
    ktr_unf
    refine SeqAt.compareNe_shaped (ints_reads hD.2 hI2) (ints_reads (N7 _ (.head _)).1 hI6) (ints_shaped _) (ints_shaped _) (by show un + 64 < cLine; omega) ?_
    rw [ints_ne]
    (try dsimp only)
    ktr_unf
    · exact absurd rfl (by assumption)
    · exact next _ _ (by exact F7) (newsSub N7 (fun p hp => .tail _ (.tail _ hp)))
  · have := hI5.length
    rw [List.size_toArray]
    simp only [sizeLine]
    omega

end
section
theorem rsz_top {a b : Int} {n : Nat} (h : a + n = b) : Builtin.Range.rangeSize a b 1 = (n : Int) := by
  unfold Builtin.Range.rangeSize
  simp only [show ((1 : Int) > 0) by decide, if_true]
  split <;> omega
theorem nag_ne {l : List Int} {pl : Int} {ln : Str} (hl : OkL l) (hs : PyData.strOk ln = true) : (!PyData.eqv (nagD pl l ln) (nagD pl l ln)) = false := by
  rw [SeqAt.eqv_refl _ (SeqAt.canLay_of_shaped (nagD_shaped hl hs))]
  rfl
theorem stK {w : World} {dp un : Nat} {gd : Option (List Code)} {mg mb : Str → Option Value} {Q : Flow → Shared → Prop} {E : Value → Shared → Prop} {B : Heap} {L fa : Addr} {cd : Value} {s : Shared} {m₀ : Str → Option Value}
    {ps : List (Str × Value)} {a1 : Addr} {R : List (Addr × Obj)} {o1 : Obj} {top : Nat} {tt t1 : Tok} {ln : Str} {v1 v3 : Value}
    (hA : dp + 100 < recursionLimit) (hu : un + 600 < cLine) (Gb : Gd w mg mb B)
    (F : Fr B L s.heap (fun y => kstB m₀ ((Str.ofString "columns", v1) :: (Str.ofString "top", .int top tt) :: (Str.ofString "nags", v3) :: (Str.ofString "first", .ref a1) :: ps) y))
    (N : News B L s.heap ((L + 1, o1) :: R)) (d1 : o1.data = .cell (some (.str ln t1)))
    (hR : Bears R (fun h => NagIs h a1 0 (upto top) ln)) (hl : OkL (upto top)) (hs : PyData.strOk ln = true) (htop : top ≤ 24)
    (next : ∀ h' tk, Fr B L h' (fun y => kstB m₀ ((Str.ofString "columns", v1) :: (Str.ofString "top", .int top tt) :: (Str.ofString "nags", v3) :: (Str.ofString "first", .ref a1) :: ps) y) → News B L h' ((L + 1, o1) :: R) →
      wpAny (model PG w) (Aof dp un (some [lawEnv L fa cd]) gd) (execs (lawB 13) (lawEnv L fa cd)) Q E { s with heap := h', toks := tk }) :
    wpAny (model PG w) (Aof dp un (some [lawEnv L fa cd]) gd) (execs (lawB 12) (lawEnv L fa cd)) Q E s := by
  have X := Gb.k
  have TT := Gb.t
  refine law_step rfl ?_
  ktr_unf
  (with_reducible rename Fr _ _ _ _ => F6)
  (with_reducible rename News _ _ _ _ => N6)
  (with_reducible rename IsRange _ _ _ _ _ _ _ _ => R6)
  refine kll_range (n := top) rfl (by exact F6) (by exact N6) (by exact R6) ?_ ?_ (by omega) ?_
  · exact small_one (by omega) (by omega) (by omega) (by omega)
  · exact rsz_top (by omega)
  intro D vs c h7 tk7 F7 N7 l7 hI7
  clear F6 N6 R6
  (try dsimp only)
  ktr_unf
  have hup : ∀ z ∈ upto top, 0 ≤ z ∧ z ≤ 1000 := by
    intro z hz
    obtain ⟨i, hi, rfl⟩ := List.mem_map.mp hz
    have := List.mem_range.mp hi
    omega
  refine dueC (rs := upto top) (by omega) (by omega) (Gb.up F7.keep) (News.isList N7 (.head _)) hI7 (by simp [upto]; omega) hup ?_
  intro a zs t2 h8 tk8 up8 ha hn hz
  have F8 := frUp F7 up8
  have N8 := newsUp N7 up8
  clear F7 N7
  have hN := hR _ (fun p hp => (N8 p (.tail _ (.tail _ hp))).1)
  have hM : NagIs h8 a 0 (upto top) ln := ⟨zs, _, t2, _, ha, hz⟩
  (try dsimp only)
  ktr_unf
  (with_reducible rename Fr _ _ _ _ => F9)
  (with_reducible rename News _ _ _ _ => N9)
  refine SeqAt.compareNe_shaped (NagIs.reads (h := h8) hN) (NagIs.reads (h := h8) hM) (nagD_shaped hl hs) (nagD_shaped hl hs) (by show un + 64 < cLine; omega) ?_
  rw [nag_ne hl hs]
  (try dsimp only)
  ktr_unf
  exact next _ _ (by exact F9) (newsSub N9 (fun p hp => .tail _ hp))

end
section
/-- the sizes that a nag about k blanks names, out of the columns -/
noncomputable def dueZ (wide : List Int) (k : Int) (i : Nat) : List Int := ((List.range i).filter fun n => decide (wide.getD n 0 ≤ k)).map fun n : Nat => (n : Int) + 1
noncomputable def wideZ (cols : List Int) (m e : Int) (k : Nat) : List Int := cols ++ (List.range (k + 1 - cols.length)).map fun j : Nat => ((cols.length : Int) + 1 + j) * m + e
theorem dueZ_succ (wd : List Int) (k : Int) (j : Nat) : dueZ wd k (j + 1) = dueZ wd k j ++ if wd.getD j 0 ≤ k then [(j : Int) + 1] else [] := by
  unfold dueZ
  rw [List.range_succ, List.filter_append, List.map_append]
  congr 1
  simp only [List.filter_cons, List.filter_nil]
  by_cases h : wd.getD j 0 ≤ k
  · rw [if_pos h, if_pos (decide_eq_true h)]; rfl
  · rw [if_neg h, if_neg (by rw [decide_eq_false h]; decide)]; rfl
theorem okL_len {l : List Int} (h : OkL l) : l.length ≤ 200 := by
  rcases h with h | h
  · rw [h]; exact Nat.zero_le _
  · have := (allL_len h).1; omega
theorem okL_bd {l : List Int} (h : OkL l) : ∀ z ∈ l, 0 ≤ z ∧ z ≤ 1000 := by
  rcases h with h | h
  · intro z hz; rw [h] at hz; cases hz
  · intro z hz
    have := (allL_len h).2 z hz
    omega
theorem stL {w : World} {dp un : Nat} {gd : Option (List Code)} {mg mb : Str → Option Value} {Q : Flow → Shared → Prop} {E : Value → Shared → Prop} {B : Heap} {L fa : Addr} {cd : Value} {s : Shared} {m₀ : Str → Option Value}
    {ps : List (Str × Value)} {Dc D' Dr : Addr} {R : List (Addr × Obj)} {o1 o3 o6 o7 o8 : Obj} {tt t1 t7 : Tok} {ln : Str} {as : List Addr} {lk : Nat → List Int} {cvs rvs : List Value} {cols rs : List Int} {nn nr : Nat} {e : Int} {vc : Value}
    (hA : dp + 100 < recursionLimit) (hu : un + 600 < cLine) (Gb : Gd w mg mb B)
    (F : Fr B L s.heap (fun y => kstB m₀ ((Str.ofString "columns", .ref Dc) :: (Str.ofString "top", .int cols.length tt) :: (Str.ofString "nags", .ref D') :: ps) y))
    (N : News B L s.heap ((L + 3, o3) :: (L + 8, o8) :: (Dc, listOf cvs.toArray nn) :: (Dr, listOf rvs.toArray nr) :: (L + 1, o1) :: (L + 6, o6) :: (L + 7, o7) :: R))
    (d1 : o1.data = .cell (some (.str ln t1))) (d3 : o3.data = .cell none) (d6 : o6.data = .cell (some (.ref Dr))) (d7 : o7.data = .cell (some (.int e t7))) (d8 : o8.data = .cell none)
    (hap3 : ApartOr (L + 3) R) (hap8 : ApartOr (L + 8) R)
    (hR : Bears R (fun h => h.IsList D' (as.map Value.ref).toArray ∧ ∀ (j : Nat) a, as[j]? = some a → NagIs h a j (lk j) ln))
    (hlen : as.length = 25) (hlk : ∀ k, k < 25 → OkL (lk k)) (hs : PyData.strOk ln = true) (hI : IntsAre cvs cols) (hI2 : IntsAre rvs rs) (htop : cols.length ≤ 10) (hrs : rs.length ≤ 10) (he0 : 0 ≤ e) (he1 : e ≤ 10) (hc : ∀ c ∈ cols, 0 ≤ c ∧ c ≤ 100)
    (hdue : ∀ k, k < 25 → lk k = dueZ (wideZ cols rs.length e k) k (wideZ cols rs.length e k).length)
    (next : ∀ h' tk, Fr B L h' (fun y => kstB m₀ ((Str.ofString "columns", .ref Dc) :: (Str.ofString "top", .int cols.length tt) :: (Str.ofString "nags", .ref D') :: ps) y) → News B L h' ((Dc, listOf cvs.toArray nn) :: (Dr, listOf rvs.toArray nr) :: (L + 1, o1) :: (L + 6, o6) :: (L + 7, o7) :: R) →
      wpAny (model PG w) (Aof dp un (some [lawEnv L fa cd]) gd) (execs (lawB 14) (lawEnv L fa cd)) Q E { s with heap := h', toks := tk }) :
    wpAny (model PG w) (Aof dp un (some [lawEnv L fa cd]) gd) (execs (lawB 13) (lawEnv L fa cd)) Q E s := by
  have X := Gb.k
  have TT := Gb.t
  refine law_step rfl ?_
  refine wpAny_For ?_
  ktr_unf
  (with_reducible rename Fr _ _ _ _ => F6)
  (with_reducible rename News _ _ _ _ => N6)
  (with_reducible rename IsRange _ _ _ _ _ _ _ _ => R6)
  refine for_range (n := 25) (σ := Obj × Obj) (fun c => (L + 3, c.1) :: (L + 8, c.2) :: (Dc, listOf cvs.toArray nn) :: (Dr, listOf rvs.toArray nr) :: (L + 1, o1) :: (L + 6, o6) :: (L + 7, o7) :: R) (fun _ => []) [] (fun _ c => (∃ v, c.1.data = .cell v) ∧ ∃ v, c.2.data = .cell v) (o3, o8) (fun _ _ x => x) rfl (by exact R6) (by decide) (by decide) (by exact F6) (by exact N6) (fun p hp => nomatch hp) ⟨⟨_, d3⟩, _, d8⟩ ?_ ?_
  · rintro I ⟨oc3, oc8⟩ i t u oI h tk E' hi ⟨⟨v3, h3⟩, v8, h8⟩ hap Fb Nb hoI
    clear F6 N6 R6
    dsimp only at h3 h8 Nb hap
    rw [show (0 : Int) + (i : Int) * 1 = i by omega]
    replace Fb : Fr B L h _ := Fb
    replace Nb : News B L h _ := Nb
    ktr_unf
    (with_reducible rename Fr _ _ _ _ => F9)
    (with_reducible rename News _ _ _ _ => N9)
    rename Obj => ok3
    clear Fb Nb
    replace N9 : News B L _ ((I, oI) :: (L + 3, ok3) :: (L + 8, oc8) :: (Dc, listOf cvs.toArray nn) :: (Dr, listOf rvs.toArray nr) :: (L + 1, o1) :: (L + 6, o6) :: (L + 7, o7) :: R) := N9
    have dk3 : ok3.data = .cell (some (.int i t)) := by assumption
    refine comp_eval (cl := [(Str.ofString "runs", L + 6), (Str.ofString "last", L + 7)]) rfl rfl (by decide) ?_
    ktr_unf
    (with_reducible rename Fr _ _ _ _ => F10)
    (with_reducible rename News _ _ _ _ => N10)
    (with_reducible rename IsRange _ _ _ _ _ _ _ _ => R10)
    have X₃ := X.keeps F10.keep
    have T₃ := TT.keeps F10.keep
    have hc6 := News.cellAt N10 (.tail _ (.tail _ (.tail _ (.tail _ (.tail _ (.tail _ (.head _))))))) d6 (fun e => e)
    have hc7 := News.cellAt N10 (.tail _ (.tail _ (.tail _ (.tail _ (.tail _ (.tail _ (.tail _ (.head _)))))))) d7 (fun e => e)
    have hlr := News.isList N10 (.tail _ (.tail _ (.tail _ (.tail _ (.head _)))))
    refine comp_simple (n := i + 1 - cols.length) (fun j ys => ys.length = j ∧ IntsAre ys ((List.range j).map fun j : Nat => ((cols.length : Int) + 1 + j) * rs.length + e)) (src_range rfl (by exact R10) ?_ ?_) (by decide) rfl ⟨rfl, .nil⟩ (fun i ys h => Nat.le_of_eq h.1) (by omega) ?_ ?_
    · exact small_one (by omega) (by omega) (by omega) (by omega)
    · unfold Builtin.Range.rangeSize
      simp only [show ((1 : Int) > 0) by decide, if_true]
      split <;> omega
    · rintro C D I' j v ys u' oI' nn' h₃ tk₃ E'' hj ⟨t', rfl⟩ hPc F₃ N₃
      clear F10 N10 R10 X TT
      have hrl := hI2.length
      ktr_unf
      (with_reducible rename Fr _ _ _ _ => F12)
      (with_reducible rename News _ _ _ _ => N12)
      refine ce_end (by exact F12) (by exact N12) ⟨by rw [List.length_append, hPc.1]; rfl, ?_⟩
      rw [rangeSnoc]
      exact intsSnoc hPc.2
    · intro D ys n5 h5 tk5 hP5 hk5 hD hDn
      have F5 := frUp F10 hk5
      have N5 := newsAdd F10 N10 hk5 hD hDn
      obtain ⟨q1, q2⟩ := hP5
      have hcl := hI.length
      clear F10 N10 R10
      (try dsimp only)
      ktr_unf
      (with_reducible rename Fr _ _ _ _ => F11)
      (with_reducible rename News _ _ _ _ => N11)
      (with_reducible rename IntsAre _ _ => hI11)
      rename Obj => ok8
      have hwv : IntsAre (cvs ++ ys) (wideZ cols rs.length e i) := hI.append hI11
      have hdue' := hdue i hi
      have hwl : (wideZ cols rs.length e i).length = cols.length + (i + 1 - cols.length) := by simp [wideZ]
      generalize hwd : wideZ cols rs.length e i = wd at hwv hdue' hwl
      have dk8 : ok8.data = .cell (some (.ref h5.objs.size)) := by assumption
      generalize h5.objs.size = W at N11 dk8
      replace N11 : News B L _ ((W, listOf (cvs ++ ys).toArray 0) :: (D, listOf ys.toArray n5) :: (I, oI) :: (L + 3, ok3) :: (L + 8, ok8) :: (Dc, listOf cvs.toArray nn) :: (Dr, listOf rvs.toArray nr) :: (L + 1, o1) :: (L + 6, o6) :: (L + 7, o7) :: R) := N11
      clear F5 N5 hI11
      have hWl := hwv.length
      obtain ⟨ak, hak⟩ : ∃ a, as[i]? = some a := ⟨as[i]'(by omega), List.getElem?_eq_getElem _⟩
      have hRr := hR _ fun p hp => (N11 p (.tail _ (.tail _ (.tail _ (.tail _ (.tail _ (.tail _ (.tail _ (.tail _ (.tail _ (.tail _ hp))))))))))).1
      refine PyProof.Rows.item_list (x := .ref ak) hRr.1 (by omega) (by omega) (by simpa using hak) ?_
      ktr_unf
      refine comp_eval (cl := [(Str.ofString "wide", L + 8), (Str.ofString "k", L + 3)]) rfl rfl (by decide) ?_
      ktr_unf
      (with_reducible rename Fr _ _ _ _ => F13)
      (with_reducible rename News _ _ _ _ => N13)
      (with_reducible rename IsRange _ _ _ _ _ _ _ _ => R13)
      have X₅ := X.keeps F13.keep
      have T₅ := TT.keeps F13.keep
      have hc3 := News.cellAt N13 (.tail _ (.tail _ (.tail _ (.head _)))) dk3 (fun e => e)
      have hc8 := News.cellAt N13 (.tail _ (.tail _ (.tail _ (.tail _ (.head _))))) dk8 (fun e => e)
      have hlw := News.isList N13 (.head _)
      refine comp_simple (n := wd.length) (fun j zs => zs.length ≤ j ∧ IntsAre zs (dueZ wd i j)) (src_range rfl (by exact R13) ?_ ?_) (by decide) rfl ⟨Nat.le_refl _, .nil⟩ (fun i ys h => h.1) (by omega) ?_ ?_
      · exact small_one (by omega) (by simp) (by omega) (by simp; omega)
      · exact rsz_top (by simp)
      · rintro C D I' j v zs u' oI' nn' h₃ tk₃ E'' hj ⟨t', rfl⟩ hPc F₃ N₃
        clear F13 N13 R13 X TT X₃ T₃ hc6 hc7 hlr
        rw [Int.zero_add]
        ktr_unf
        refine item_anyK (ns := wd) (stays_list (Fr.keep (by assumption)) hlw) hwv (by omega) (by omega) (by omega) (fun t9 => ?_)
        rw [Int.toNat_natCast]
        ktr_unf
        · (with_reducible rename Fr _ _ _ _ => F15)
          (with_reducible rename News _ _ _ _ => N15)
          refine ce_end (by exact F15) (by exact N15) ⟨?_, ?_⟩
          · rw [List.length_append]; exact Nat.succ_le_succ hPc.1
          · rw [dueZ_succ, if_pos (by assumption)]
            exact intsSnoc hPc.2
        · (with_reducible rename Fr _ _ _ _ => F15)
          (with_reducible rename News _ _ _ _ => N15)
          refine ce_end (by exact F15) (by exact N15) ⟨Nat.le_succ_of_le hPc.1, ?_⟩
          rw [dueZ_succ, if_neg (by omega), List.append_nil]
          exact hPc.2
      · intro D2 zs n6 h6 tk6 hP6 hk6 hD2 hDn2
        have F14 := frUp F13 hk6
        have N14 := newsAdd F13 N13 hk6 hD2 hDn2
        clear F13 N13 R13
        (try dsimp only)
        ktr_unf
        have hD6 := hP6.2
        rw [← hdue'] at hD6
        have hok := hlk i hi
        refine dueC (rs := lk i) (by omega) (by omega) (Gb.up F14.keep) ⟨_, (N14 _ (.head _)).1, rfl, _, rfl⟩ hD6 (okL_len hok) (okL_bd hok) ?_
        intro a zs2 t2 h8 tk8 up8 ha hn hz
        have F8 := frUp F14 up8
        have N8 := newsUp N14 up8
        clear F14 N14
        have hN := (hR _ (fun p hp => (N8 p (.tail _ (.tail _ (.tail _ (.tail _ (.tail _ (.tail _ (.tail _ (.tail _ (.tail _ (.tail _ (.tail _ hp)))))))))))).1)).2 i ak hak
        have hM : NagIs h8 a i (lk i) ln := ⟨zs2, _, t2, _, ha, hz⟩
        (try dsimp only)
        ktr_unf
        (with_reducible rename Fr _ _ _ _ => F9)
        (with_reducible rename News _ _ _ _ => N9)
        refine SeqAt.compareNe_shaped (NagIs.reads (h := h8) hN) (NagIs.reads (h := h8) hM) (nagD_shaped hok hs) (nagD_shaped hok hs) (by show un + 64 < cLine; omega) ?_
        rw [nag_ne hok hs]
        (try dsimp only)
        ktr_unf
        refine f_end (σ := Obj × Obj) (ok3, ok8) (by exact F9) (newsSub N9 (fun p hp => .tail _ (.tail _ (.tail _ hp)))) ?_ (fun p hp => nomatch hp) ?_ ⟨⟨_, dk3⟩, _, dk8⟩
        · intro p hp
          simp only [List.mem_cons] at hp
          rcases hp with h | h | h
          · rw [h]; exact hap (L + 3, oc3) (.head _)
          · rw [h]; exact hap (L + 8, oc8) (.tail _ (.head _))
          · exact hap p (by simp only [List.mem_cons]; exact .inr (.inr h))
        · intro zz _ _
          rfl
  · rintro ⟨oc3, oc8⟩ u h tk ⟨⟨v3, h3⟩, v8, h8⟩ Fb Nb
    exact next _ _ (by exact Fb) (newsSub Nb (fun p hp => .tail _ (.tail _ hp)))

end
example : True := by
  (k_with "ktr_rel" => with_reducible (first | show wpAny _ _ (getMethod (Value.ref _) _ _) _ _ _ | show wpAny _ _ (binaryOp Operator.Add (Value.ref _) (Value.ref _)) _ _ _ | show wpAny _ _ (compareOp CmpOp.Eq (Value.ref _) (Value.ref _)) _ _ _))
  trivial
section
section
variable {prog : Program} {w : World} {A : Around} {E : Value → Shared → Prop} {env : Env}
/-- a list comprehension whose items need no ledger, stored into a local name -/
theorem comp_simpleB {s : Shared} {elt target iter : Expr} {ifs : List Expr} {scope : Scope} {cl : List (Str × Addr)} {pos py : Pos} {xv : Value} {n : Nat} {Pv : Nat → Value → Prop} {Qn : Shared → Prop} {y : Str} {h₀ : Heap} {m : Str → Option Value} {news : List (Addr × Obj)}
    (P : Nat → List Value → Prop) (src : Src prog w A s.heap s xv n Pv target)
    (hcell : ∀ y ∈ scope.names, y.2 ≠ .cell) (hkind : scope.kind = .function) (p₀ : P 0 []) (hpl : ∀ i ys, P i ys → ys.length ≤ i) (hn : n ≤ 100000)
    (hl : env.kindOf y = some .local) (hp : (env.scope.kind == .class || (env.scope.kind == .module && env.locals != env.globals)) = false) (F₀ : Fr h₀ env.locals s.heap m) (N₀ : News h₀ env.locals s.heap news)
    (turn : ∀ C D I i v ys u oI nn h₃ tk₃ (E' : Value → Shared → Prop), i < n → Pv i v → P i ys → Fr s.heap C h₃ u → News s.heap C h₃ [(D, listOf ys.toArray nn), (I, oI)] →
      wpAny (model prog w) A (assign target (compEnvC scope cl C env) v) (fun _ s₄ => wpAny (model prog w) A (forIn ifs true fun c r => if r = true then do let ok ← isTrue c (compEnvC scope cl C env) (eval c (compEnvC scope cl C env)); pure (ForInStep.yield ok) else pure (ForInStep.yield r)) (fun ok s₅ =>
        if ok = true then wpAny (model prog w) A (eval elt (compEnvC scope cl C env)) (fun y s₆ => CE s C D I ys nn oI (P (i + 1)) (ys ++ [y]) s₆) E' s₅
        else CE s C D I ys nn oI (P (i + 1)) ys s₅) E' s₄) E' { s with heap := h₃, toks := tk₃ })
    (fin : ∀ D ys nn h' tk, P n ys → Fr h₀ env.locals h' (fun z => if z = y then some (.ref D) else m z) → News h₀ env.locals h' ((D, listOf ys.toArray nn) :: news) → (∀ b o, b ≠ env.locals → s.heap.get? b = some o → h'.get? b = some o) → s.heap.get? D = none → Qn { s with heap := h', toks := tk }) :
    wpAny (model prog w) A (pyIter xv) (CGo prog w A E env scope cl (.ListComp elt [⟨target, iter, ifs, 0⟩] scope pos) (fun acc C => compPost (model prog w) A E (some (assign (.Name y py) env)) (fun _ s' => Qn s') acc C)) E s := by
  refine comp_mid P src hcell hkind p₀ hpl hn turn ?_
  intro C D ys nn u h' tk cC cD hP F N
  have hLs : ∃ o, s.heap.get? env.locals = some o := let ⟨o, _, _, ho, _⟩ := F₀.ns; ⟨o, ho⟩
  have hLC : env.locals ≠ C := by intro e; obtain ⟨o, ho⟩ := hLs; rw [e, cC] at ho; cases ho
  have hLD : D ≠ env.locals := by intro e; obtain ⟨o, ho⟩ := hLs; rw [← e, cD] at ho; cases ho
  refine fin_assign (Q := fun _ s' => Qn s') F N hl hp (F₀.ns.keeps F.keep) hLC ?_
  intro h5 tk5 hn5 hk5 hw5
  have hDn : h₀.get? D = none := by
    cases q : h₀.get? D with
    | none => rfl
    | some o => have := F₀.keep _ _ q; rw [cD] at this; cases this
  refine fin D ys nn h5 tk5 hP ⟨hn5, fun b o e => hk5 b o (Nat.ne_of_lt (Nat.lt_of_lt_of_le (Heap.lt_size e) F₀.above)) (F₀.keep b o e), F₀.above⟩ ?_ hk5 cD
  intro p hp
  rcases List.mem_cons.mp hp with rfl | hp
  · exact ⟨(hw5 _ (.head _) hLD).1, hLD, hDn⟩
  · exact ⟨hk5 _ _ (N₀ p hp).2.1 (N₀ p hp).1, (N₀ p hp).2⟩
end
/-- the nags that name a size -/
noncomputable def kept (as : List Addr) (lk : Nat → List Int) (j : Nat) : List Value := ((List.range j).filter fun i => !decide (lk i = [])).map fun i => Value.ref (as.getD i 0)
theorem kept_succ (as : List Addr) (lk : Nat → List Int) (j : Nat) : kept as lk (j + 1) = kept as lk j ++ if lk j = [] then [] else [Value.ref (as.getD j 0)] := by
  unfold kept
  rw [List.range_succ, List.filter_append, List.map_append]
  congr 1
  simp only [List.filter_cons, List.filter_nil]
  by_cases h : lk j = []
  · rw [if_pos h, decide_eq_true h]; rfl
  · rw [if_neg h, decide_eq_false h]; rfl
theorem kept_len (as : List Addr) (lk : Nat → List Int) (j : Nat) : (kept as lk j).length ≤ j := by
  unfold kept
  rw [List.length_map]
  refine Nat.le_trans (List.length_filter_le ..) ?_
  simp
theorem kept_mem {as : List Addr} {lk : Nat → List Int} {j : Nat} {v : Value} (h : v ∈ kept as lk j) : ∃ i, i < j ∧ lk i ≠ [] ∧ v = .ref (as.getD i 0) := by
  obtain ⟨i, hi, rfl⟩ := List.mem_map.mp h
  obtain ⟨h1, h2⟩ := List.mem_filter.mp hi
  exact ⟨i, List.mem_range.mp h1, by simpa using h2, rfl⟩
theorem kinds_lt {l : List Int} (h : l ≠ []) : ∀ z ∈ (pieces l).map (·.1), z < 256 := by
  rw [pieces_kinds h]
  intro z hz
  rcases List.mem_append.mp hz with hz | hz
  · simp only [List.mem_cons, List.not_mem_nil, or_false] at hz
    omega
  · obtain ⟨y, hy, hz⟩ := List.mem_flatten.mp hz
    have e := List.eq_of_mem_replicate hy
    rw [e] at hz
    simp only [List.mem_cons, List.not_mem_nil, or_false] at hz
    omega
theorem stM {w : World} {dp un : Nat} {gd : Option (List Code)} {mg mb : Str → Option Value} {Q : Flow → Shared → Prop} {E : Value → Shared → Prop} {B : Heap} {L fa : Addr} {cd : Value} {s : Shared} {m₀ : Str → Option Value}
    {ps : List (Str × Value)} {a1 D' : Addr} {R : List (Addr × Obj)} {ln : Str} {as : List Addr} {lk : Nat → List Int} {l1 : List Int} {v1 v2 : Value}
    (hA : dp + 100 < recursionLimit) (hu : un + 600 < cLine) (Gb : Gd w mg mb B)
    (F : Fr B L s.heap (fun y => kstB m₀ ((Str.ofString "columns", v1) :: (Str.ofString "top", v2) :: (Str.ofString "nags", .ref D') :: (Str.ofString "first", .ref a1) :: ps) y))
    (N : News B L s.heap R)
    (hR : Bears R (fun h => NagIs h a1 0 l1 ln ∧ h.IsList D' (as.map Value.ref).toArray ∧ ∀ (j : Nat) a, as[j]? = some a → NagIs h a j (lk j) ln))
    (hlen : as.length = 25) (hl1 : l1 ∈ allL) (hlk : ∀ k, k < 25 → OkL (lk k)) (hs : PyData.strOk ln = true)
    (next : ∀ h' tk m', Fr B L h' m' → News B L h' R → wpAny (model PG w) (Aof dp un (some [lawEnv L fa cd]) gd) (execs (lawB 15) (lawEnv L fa cd)) Q E { s with heap := h', toks := tk }) :
    wpAny (model PG w) (Aof dp un (some [lawEnv L fa cd]) gd) (execs (lawB 14) (lawEnv L fa cd)) Q E s := by
  have X := Gb.k
  have TT := Gb.t
  refine law_step rfl ?_
  refine wpAny_For ?_
  ktr_unf
  (with_reducible rename Fr _ _ _ _ => F6)
  (with_reducible rename News _ _ _ _ => N6)
  refine comp_eval (cl := []) (closureFor_none (by decide)) rfl (by decide) ?_
  ktr_unf
  have hR6 := hR _ fun p hp => (N6 p (.tail _ hp)).1
  have X₃ := X.keeps F6.keep
  have T₃ := TT.keeps F6.keep
  refine comp_simple (fun j ys => ys = kept as lk j) (src_list rfl hR6.2.1 (fun _ _ e => e)) (by decide) rfl rfl (fun i ys h => h ▸ kept_len as lk i) (by simp [hlen]) ?_ ?_
  · intro C D I j v ys u oI nn h₃ tk₃ E'' hj hv hPc F₃ N₃
    clear N6 X TT
    have hj' : j < 25 := by simpa [hlen] using hj
    have hv2 : (as[j]?).map Value.ref = some v := by rw [← List.getElem?_map]; simpa using hv
    obtain ⟨a, haj, rfl⟩ := Option.map_eq_some_iff.mp hv2
    have hN := hR6.2.2 j a haj
    clear F6
    ktr_unf
    (with_reducible rename Fr _ _ _ _ => F7)
    (with_reducible rename News _ _ _ _ => N7)
    have hdj : as.getD j 0 = a := by rw [List.getD_eq_getElem?_getD, haj]; rfl
    refine SeqAt.compareNe_shaped (NagIs.reads (hN.up F7.keep)) (.tuple (N7 _ (.head _)).1 rfl rfl .nil) (nagD_shaped (hlk j hj') hs) tup0_shaped (by show un + 64 < cLine; omega) ?_
    rw [nagD_none]
    by_cases e : lk j = []
    · rw [decide_eq_true e]
      (try dsimp only)
      ktr_unf
      exact ce_end (by exact F7) (newsSub N7 fun p hp => .tail _ hp) (by rw [hPc, kept_succ, if_pos e, List.append_nil])
    · rw [decide_eq_false e]
      (try dsimp only)
      ktr_unf
      exact ce_end (by exact F7) (newsSub N7 fun p hp => .tail _ hp) (by rw [hPc, kept_succ, if_neg e, hdj])
  · intro D ys n5 h5 tk5 hP5 hk5 hD hDn
    have F5 := frUp F6 hk5
    have N5 := newsAdd F6 N6 hk5 hD hDn
    clear F6 N6 X₃ T₃
    (try dsimp only)
    have hyl : ys.length ≤ 25 := by
      have := kept_len as lk (as.map Value.ref).toArray.size
      rw [← hP5] at this
      simpa [hlen] using this
    have hit : ∀ (i : Nat) v, (Value.ref a1 :: ys).toArray[i]? = some v → ∃ a pl l, v = .ref a ∧ l ∈ allL ∧ Bears R (fun h => NagIs h a pl l ln) := by
      intro i v hv
      have hm : v ∈ Value.ref a1 :: ys := List.mem_of_getElem? (by simpa using hv)
      rcases List.mem_cons.mp hm with rfl | hm
      · exact ⟨a1, 0, l1, rfl, hl1, fun h hh => (hR h hh).1⟩
      · rw [hP5] at hm
        obtain ⟨j, hj, hne, rfl⟩ := kept_mem hm
        have hj' : j < 25 := by simpa [hlen] using hj
        refine ⟨_, j, lk j, rfl, (hlk j hj').resolve_left hne, fun h hh => (hR h hh).2.2 j _ ?_⟩
        rw [List.getD_eq_getElem?_getD, List.getElem?_eq_getElem (by omega)]
        rfl
    refine add_arrays (by exact F5) (by exact N5) (News.isList N5 (.tail _ (.head _))) (News.isList N5 (.head _)) ?_ (by simp [sizeLine]; omega)
    intro h6 F6 N6
    clear F5 N5
    (try dsimp only at N6 ⊢)
    generalize h5.objs.size = W at N6 ⊢
    replace N6 : News B L h6 ((W, listOf (Value.ref a1 :: ys).toArray 0) :: (D, _) :: _ :: R) := N6
    refine for_list (σ := Unit) (fun _ => (W, listOf (Value.ref a1 :: ys).toArray 0) :: R) (fun _ => []) [Str.ofString "nag", Str.ofString "kinds"] (fun _ _ => True) () (fun _ _ x => x) rfl (News.isList N6 (.head _)) (N6 _ (.head _)).1 (fun _ => .head _) (by exact F6) ?_ (fun p hp => nomatch hp) trivial ?_ ?_
    · refine newsSub N6 fun p hp => ?_
      rcases List.mem_cons.mp hp with rfl | hp
      · exact .head _
      · exact .tail _ (.tail _ (.tail _ hp))
    · rintro I ⟨⟩ i v u oI h tk E' hi hv _ hap Fb Nb hoI
      obtain ⟨a, pl, l, rfl, hl, hB⟩ := hit i v hv
      clear F6 N6
      have hlne : l ≠ [] := by
        rintro rfl
        revert hl
        decide
      replace Fb : Fr B L h _ := Fb
      replace Nb : News B L h _ := Nb
      ktr_unf
      refine comp_assign (cl := []) rfl (closureFor_none (by decide)) rfl (by decide) ?_
      ktr_unf
      (with_reducible rename Fr _ _ _ _ => F9)
      (with_reducible rename News _ _ _ _ => N9)
      have hNg := hB _ (fun p hp => (N9 p (.tail _ (.tail _ hp))).1)
      obtain ⟨vs, t1, t2, t3, hg, hvs⟩ := id hNg
      rw [if_neg hlne] at hvs
      subst hvs
      have IA : IsTup _ a #[.int pl t1, .str (fmtS l) t2, .str ln t3] := ⟨_, hg, rfl, _, rfl⟩
      refine item_tupleT (j := 1) (x := .str (fmtS l) t2) IA (by decide) (by decide) rfl rfl ?_
      (try dsimp only)
      ktr_unf
      refine tokensC (pcs := pieces l) (by omega) (by omega) (Gb.up F9.keep) (words_of hl) (kind_all hl) (by have := pieces_len hl; omega) (fmtS_len hl) ?_
      intro at8 n8 qs8 h8 tk8 hk8 hl8 hq8 he8
      have F8 := frUp F9 hk8
      have N8 := newsUp N9 hk8
      clear IA hg hNg F9 N9
      have X₃ := X.keeps F8.keep
      have T₃ := TT.keeps F8.keep
      (try dsimp only)
      have hlq : qs8.length ≤ 60 := by
        have h1 := congrArg List.length he8
        have h2 := pieces_len hl
        rw [List.length_map] at h1
        omega
      refine comp_simpleB (fun j ys => ys.length = j ∧ IntsAre ys ((qs8.take j).map Tk.kind)) (src_list rfl ⟨_, hl8, rfl, n8, rfl⟩ (fun _ _ e => e)) (by decide) rfl ⟨rfl, .nil⟩ (fun i ys h => Nat.le_of_eq h.1) (by simp; omega) rfl rfl (by exact F8) (by exact N8) ?_ ?_
      · intro C D I j v zs u oI nn h₃ tk₃ E'' hj hv hPc F₃ N₃
        clear F8 N8 X TT
        have hv2 : (qs8[j]?).map Tk.ref = some v := by rw [← List.getElem?_map]; simpa using hv
        obtain ⟨q, hqi, rfl⟩ := Option.map_eq_some_iff.mp hv2
        have hq0 := hq8 q (List.mem_of_getElem? hqi)
        have IQ : IsTup h8 q.at_ #[.int q.kind q.t1, .str q.piece q.t2] := ⟨_, hq0, rfl, _, rfl⟩
        unfold Tk.ref
        ktr_unf
        (with_reducible rename Fr _ _ _ _ => F12)
        (with_reducible rename News _ _ _ _ => N12)
        refine ce_end (by exact F12) (by exact N12) ⟨by rw [List.length_append, hPc.1]; rfl, ?_⟩
        rw [takeSnoc hqi, List.map_append]
        exact intsSnoc hPc.2
      · intro D2 zs n2 h9 tk9 hP9 F9 N9 hk9 hDn2
        clear F8 N8 X₃ T₃
        (try dsimp only)
        ktr_unf
        (with_reducible rename Fr _ _ _ _ => F10)
        (with_reducible rename News _ _ _ _ => N10)
        replace F10 : Fr B L _ _ := F10
        replace N10 : News B L _ _ := N10
        have hzk : IntsAre zs ((pieces l).map (·.1)) := by
          have h1 := hP9.2
          rw [List.take_of_length_le (by simp)] at h1
          have h2 : qs8.map Tk.kind = (pieces l).map (·.1) := by rw [← he8, List.map_map]; rfl
          rw [← h2]
          exact h1
        have hNg := hB _ (fun p hp => (N10 p (.tail _ (.tail _ (.tail _ (.tail _ (.tail _ hp)))))).1)
        refine sizesC (by omega) (by omega) (Gb.up F10.keep) hNg (.inr hl) hs ?_
        intro D5 vs5 n6 h10 tk10 up10 hD5 hI5 hn5
        have F11 := frUp F10 up10
        have N11 := newsAdd F10 N10 up10 hD5 hn5
        have hle := hI5.length
        have hl24 := (allL_len hl).1
        clear F10 N10
        (try dsimp only)
        ktr_unf
        (with_reducible rename Fr _ _ _ _ => F12)
        (with_reducible rename News _ _ _ _ => N12)
        (with_reducible rename IntsAre _ _ => hI12)
        have hl0 : l.length ≠ 0 := fun e => hlne (List.eq_nil_of_length_eq_zero e)
        have hrl : (List.replicate (l.length - 1) [(12 : Int), 2]).flatten.length ≤ 60 := by
          rw [List.length_flatten, List.map_replicate, List.sum_replicate_nat]
          simp only [List.length_cons, List.length_nil]
          omega
        refine add_arrays_ints (ns := [1, 1, 1, 2]) (ms := (List.replicate (l.length - 1) [(12 : Int), 2]).flatten) (by exact F12) (by exact N12) (News.isList N12 (.tail _ (.tail _ (.tail _ (.head _))))) (News.isList N12 (.head _)) (.cons _ _ (.cons _ _ (.cons _ _ (.cons _ _ .nil)))) (by simpa using hI12) ?_ (by simp only [List.length_cons, List.length_nil, sizeLine]; omega)
        intro h13 F13 N13 hI13
        rw [← pieces_kinds hlne] at hI13
        clear F12 N12 F11 N11 hI12
        (try dsimp only at N13 ⊢)
        refine SeqAt.compareNe_shaped (ints_reads (N13 _ (.tail _ (.tail _ (.tail _ (.tail _ (.tail _ (.head _))))))).1 hzk) (.list (N13 _ (.head _)).1 rfl rfl (rdAll_ints hI13)) (ints_shaped _) (ints_shaped _) (by show un + 64 < cLine; omega) ?_
        rw [ints_ne]
        have N14 := newsSub N13 (l' := (D2, listOf zs.toArray n2) :: (I, oI) :: (W, listOf (Value.ref a1 :: ys).toArray 0) :: R) (fun p hp => .tail _ (.tail _ (.tail _ (.tail _ (.tail _ hp)))))
        clear N13
        (try dsimp only)
        ktr_unf
        refine comp_eval (cl := []) (closureFor_none (by decide)) rfl (by decide) ?_
        ktr_unf
        have X₅ := X.keeps F13.keep
        have T₅ := TT.keeps F13.keep
        have G5 := Gb.up F13.keep
        have hz60 : zs.length ≤ 60 := by
          have := hP9.1
          simp at this
          omega
        refine comp_simple (fun j ys => ys = []) (src_list rfl (News.isList N14 (.head _)) (fun _ _ e => e)) (by decide) rfl rfl (fun i ys h => by rw [h]; exact Nat.zero_le _) (by simp; omega) ?_ ?_
        · intro C D I j v ws u oI nn h₃ tk₃ E'' hj hv hPc F₃ N₃
          obtain ⟨z, tz, rfl, hzi⟩ := intsGet hzk (by simpa using hv)
          have hz := kinds_lt hlne z (List.mem_of_getElem? hzi)
          clear F13 N14 X TT
          ktr_unf
          (with_reducible rename Fr _ _ _ _ => F15)
          (with_reducible rename News _ _ _ _ => N15)
          refine termC (by omega) (by omega) (G5.up F15.keep) ?_
          intro h16 tk16 up16
          have F16 := frUp F15 up16
          have N16 := newsUp N15 up16
          clear F15 N15
          rw [decide_eq_true hz]
          (try dsimp only)
          ktr_unf
          refine ce_end (by exact F16) (by exact N16) hPc
        · intro D3 ws n3 h14 tk14 hP14 hk14 hD3 hDn3
          have F14 := frUp F13 hk14
          have N15 := newsAdd F13 N14 hk14 hD3 hDn3
          subst hP14
          clear F13 N14
          (try dsimp only)
          ktr_unf
          (with_reducible rename Fr _ _ _ _ => F15)
          (with_reducible rename News _ _ _ _ => N16)
          refine SeqAt.compareNe_shaped (ints_reads (N16 _ (.tail _ (.head _))).1 .nil) (.list (N16 _ (.head _)).1 rfl rfl .nil) (ints_shaped []) (ints_shaped []) (by show un + 64 < cLine; omega) ?_
          rw [show (!PyData.eqv (.list (([] : List Int).map .int)) (.list [])) = false from ints_ne []]
          (try dsimp only)
          ktr_unf
          have N17 := newsSub N16 (l' := (I, oI) :: (W, listOf (Value.ref a1 :: ys).toArray 0) :: R) (fun p hp => .tail _ (.tail _ (.tail _ hp)))
          refine f_end (σ := Unit) () (by exact F15) (by exact N17) hap (fun p hp => nomatch hp) ?_ trivial
          intro zz _ hst
          have n1 : zz ≠ Str.ofString "kinds" := by
            rintro rfl
            revert hst
            decide
          have n2 : zz ≠ Str.ofString "nag" := by
            rintro rfl
            revert hst
            decide
          rw [if_neg n1, if_neg n2]
          show (if [Str.ofString "nag", Str.ofString "kinds"].contains zz = true then u zz else _) = _
          rw [hst]
          rfl
    · rintro ⟨⟩ u h tk _ Fb Nb
      exact next _ _ _ (by exact Fb) (newsSub Nb (fun p hp => .tail _ hp))

end
section
noncomputable def againS (rs : List Int) (e : Int) : Str := leadS rs e ++ Str.ofString "y"
theorem againS_list (b : List Int) (e : Int) : (againS b e).cps.toList = leadL b e ++ [121] := by
  unfold againS
  rw [Str.cps_append, Array.toList_append, leadS_list]
  congr 1
theorem againS_asc (b : List Int) (e : Int) : (againS b e).cps.all (· < 128) = true := by
  refine asc_of ?_
  rw [againS_list]
  intro c hc
  rcases List.mem_append.mp hc with h | h
  · rcases leadL_mem c h with h | h <;> omega
  · simp only [List.mem_cons, List.not_mem_nil, or_false] at h
    omega
theorem againS_len {b : List Int} {e : Int} (hb : ∀ z ∈ b, 0 ≤ z ∧ z ≤ 3) (hl : b.length ≤ 4) (he : e ≤ 3) : (againS b e).cps.size ≤ 90 := by
  have h := leadS_len hb he
  have h3x : (Str.ofString "y").length = 1 := by decide +kernel
  show (againS b e).length ≤ 90
  unfold againS
  rw [Str.length_append, h3x]
  omega
theorem ws_inst {h : Heap} {x : Addr} {d : WSd} (W : WS h x d) : ∃ dx es, InstAt h x (instObj 117 dx) 117 (some (dictOf es 5)) ∧ getL (Str.ofString "equal") es = some none ∧ getL (Str.ofString "not_equal_witness") es = some none := by
  obtain ⟨dx, tA, tB, e1, e2, e3, e4, e5, k1, k2, k3, k4, k5, t1, t2, t3, t4, cs, W⟩ := W
  exact ⟨dx, _, ⟨W.inst, rfl, rfl, W.dict⟩, rfl, rfl⟩
theorem stN {w : World} {dp un : Nat} {gd : Option (List Code)} {mg mb : Str → Option Value} {Q : Flow → Shared → Prop} {E : Value → Shared → Prop} {B : Heap} {L fa : Addr} {cd : Value} {s : Shared} {m : Str → Option Value}
    {x Dr : Addr} {R : List (Addr × Obj)} {o2 o6 o7 : Obj} {t7 : Tok} {rvs : List Value} {rs : List Int} {nr : Nat} {e : Int} {d : WSd}
    (hA : dp + 100 < recursionLimit) (hu : un + 600 < cLine) (Gb : Gd w mg mb B)
    (F : Fr B L s.heap m) (N : News B L s.heap ((L + 2, o2) :: (L + 6, o6) :: (L + 7, o7) :: R))
    (d2 : o2.data = .cell (some (.ref x))) (d6 : o6.data = .cell (some (.ref Dr))) (d7 : o7.data = .cell (some (.int e t7)))
    (hR : Bears R (fun h => WS h x d ∧ h.get? Dr = some (listOf rvs.toArray nr))) (hI : IntsAre rvs rs) (hb : rs.length ≤ 4) (hb3 : ∀ z ∈ rs, 0 ≤ z ∧ z ≤ 3) (he0 : 0 ≤ e) (he3 : e ≤ 3)
    (heq : PyData.eqv (normD (wsOf (againS rs e))) (normD d) = true) (hin : ∀ ts, indentZ (wsOf (againS rs e)) ts = indentZ d ts)
    (hQ : ∀ h' tk m', Fr B L h' m' → News B L h' R → Q (.ret (.bool true)) { s with heap := h', toks := tk }) :
    wpAny (model PG w) (Aof dp un (some [lawEnv L fa cd]) gd) (execs (lawB 15) (lawEnv L fa cd)) Q E s := by
  have X := Gb.k
  have TT := Gb.t
  refine law_step rfl ?_
  ktr_unf
  have hR0 := hR _ fun p hp => (N p (.tail _ (.tail _ (.tail _ hp)))).1
  refine leadC (rs := rs) (show dp + 40 < recursionLimit by omega) (show un + 200 < cLine by omega) (Gb.up F.keep) ⟨_, hR0.2, rfl, _, rfl⟩ hI (by omega) (fun z hz => ⟨(hb3 z hz).1, by have := (hb3 z hz).2; omega⟩) he0 (by omega) ?_
  intro t5 h5 tk5 up5
  have F5 := frUp F up5
  have N5 := newsUp N up5
  clear F N hR0
  (try dsimp only)
  ktr_unf
  have hll := leadS_len (b := rs) (e := e) hb3 he3
  have h3x : (Str.ofString "y").length = 1 := by decide +kernel
  refine PyProof.Rows.add_str (fun t9 tk9 => ?_) (hsz := ?hs1)
  case hs1 => (rw [h3x]; simp [sizeLine]; omega)
  (try dsimp only)
  ktr_unf
  refine wsNewT (st := againS rs e) (againS_asc rs e) (againS_len hb3 hb he3) (show dp + 20 < recursionLimit by omega) (show un + 100 < cLine by omega) (Gb.up F5.keep) ?_
  intro y h8 tk8 T8 up8 nT8 bT8
  have F8 := frUp F5 up8
  have N8 := newsApp F5 N5 up8 nT8
  clear F5 N5
  (try dsimp only)
  ktr_unf
  refine law_step rfl ?_
  ktr_unf
  (with_reducible rename Fr _ _ _ _ => F9)
  (with_reducible rename News _ _ _ _ => N9)
  have hR9 := hR _ fun p hp => (N9 p (.tail _ (.tail _ (.tail _ (List.mem_append_left _ hp))))).1
  have W9 := bT8 _ fun p hp => (N9 p (.tail _ (.tail _ (.tail _ (List.mem_append_right _ hp))))).1
  obtain ⟨dy, es, I9, g1, g2⟩ := ws_inst W9
  refine method_inst (f := 93) F9 X I9 (by k_is) (by k_is) (by k_is) g1 ?_
  (try dsimp only)
  ktr_unf
  refine equalC (by omega) (by omega) (Gb.up F9.keep) W9 hR9.1 ?_
  intro h10 tk10 up10
  have F10 := frUp F9 up10
  have N10 := newsUp N9 up10
  have I10 := InstAt.keepsH I9 up10
  have W10 := W9.up up10
  have V10 := hR9.1.up up10
  rw [heq]
  clear F9 N9
  (try dsimp only)
  ktr_unf
  refine method_inst (f := 100) F10 X I10 (by k_is) (by k_is) (by k_is) g2 ?_
  (try dsimp only)
  ktr_unf
  refine notEqualC (by omega) (by omega) (Gb.up F10.keep) W10 V10 hin ?_
  intro a n h11 tk11 up11 ha
  have F11 := frUp F10 up11
  have N11 := newsUp N10 up11
  have ha2 := ha
  clear F10 N10
  (try dsimp only)
  refine wpAny_List ?_
  walk1
  (try dsimp only)
  refine ⟨by simp [sizeLine], ?_⟩
  refine SeqAt.compareEq_shaped (.list (o := listOf #[] n) (vs := #[]) (Heap.get?_push_of_some _ ha) rfl rfl .nil) (.list (Heap.get?_push_size _ rfl) rfl rfl .nil) (ints_shaped []) (ints_shaped []) (by show un + 64 < cLine; omega) ?_
  have e9 : PyData.eqv (.list []) (.list []) = true := SeqAt.eqv_refl _ (SeqAt.canLay_of_shaped (ints_shaped []))
  rw [e9]
  exact hQ _ _ _ (frUp F11 (fun b o e => Heap.get?_push_of_some _ e)) (newsUp (newsSub N11 (fun p hp => .tail _ (.tail _ (.tail _ (List.mem_append_left _ hp))))) (fun b o e => Heap.get?_push_of_some _ e))

end
section
/-- what the plain law says of a lead's runs and its ending -/
structure PL (b : List Int) (e : Int) (top : Nat) (lk : Nat → List Int) (rs : List Int) : Prop where
  blen : b.length ≤ 4
  b3 : ∀ z ∈ b, 0 ≤ z ∧ z ≤ 3
  e0 : 0 ≤ e
  e3 : e ≤ 3
  first : NagOk (wsOf (lineS b e)) (wsOf (blS 0)) (upto top)
  nags : ∀ k, k < 25 → NagOk (wsOf (blS k)) (wsOf (lineS b e)) (lk k)
  ok : ∀ k, k < 25 → OkL (lk k)
  okt : upto top ∈ allL
  top1 : 1 ≤ top
  top2 : top ≤ 10
  cols : ∀ c ∈ colsZ lk top, 0 ≤ c ∧ c ≤ 100
  runs : foundR (colsZ lk top) = rs
  last : foundL (colsZ lk top) = e
  sort : ∀ z : List Int, z.Perm b → z.Pairwise (· ≤ ·) → z.reverse = rs
  rlen : rs.length ≤ 4
  r3 : ∀ z ∈ rs, 0 ≤ z ∧ z ≤ 3
  due : ∀ k, k < 25 → lk k = dueZ (wideZ (colsZ lk top) rs.length e k) k (wideZ (colsZ lk top) rs.length e k).length
  eq_ : PyData.eqv (normD (wsOf (againS rs e))) (normD (wsOf (lineS b e))) = true
  ind : ∀ ts, indentZ (wsOf (againS rs e)) ts = indentZ (wsOf (lineS b e)) ts
theorem scan_blank : ∀ (k : Nat) (n nt : Int) (b : Nat) (c : List Int), wsScan (List.replicate k 32 ++ [120]) n nt b c = (n + k, nt, b + k, c)
  | 0, n, nt, b, c => by simp [wsScan]
  | k + 1, n, nt, b, c => by
    rw [List.replicate_succ, List.cons_append, wsScan, if_pos rfl, scan_blank k]
    refine Prod.ext ?_ (Prod.ext rfl (Prod.ext ?_ rfl))
    · show n + 1 + (k : Int) = n + ((k + 1 : Nat) : Int)
      omega
    · show b + 1 + k = b + (k + 1)
      omega
theorem wsOf_bl (k : Nat) : wsOf (blS k) = ⟨blS k, k, 0, [], k⟩ := by
  unfold wsOf
  rw [blS_list, scan_blank]
  simp
theorem bl_ind (k : Nat) (ts : Int) : indentZ (wsOf (blS k)) ts = k := by
  rw [wsOf_bl]
  simp [indentZ, ilStep]
theorem indentZ_congr {d d' : WSd} (h1 : d.count = d'.count) (h2 : d.nt = d'.nt) (h3 : d.b = d'.b) (ts : Int) : indentZ d ts = indentZ d' ts := by
  unfold indentZ
  rw [h1, h2, h3]
/-- the sizes that k blanks name, out of the columns of all sizes -/
noncomputable def namesOf (cs : List Nat) (k N : Nat) : List Int := ((List.range N).filter fun i => decide (cs.getD i 0 ≤ k)).map fun i : Nat => (1 : Int) + i
theorem nlw_names {d d' : WSd} {cs : List Nat} {k N : Nat} (hk : ∀ ts, indentZ d ts = k) (hcs : ∀ i, i < N → indentZ d' (1 + i) = (cs.getD i 0 : Nat)) : nlw d d' N = namesOf cs k N := by
  unfold nlw namesOf
  rw [List.filter_map]
  congr 1
  refine List.filter_congr fun i hi => ?_
  have := hcs i (List.mem_range.mp hi)
  simp only [Function.comp]
  rw [hk, this]
  exact decide_eq_decide.mpr Int.ofNat_le
/-- the same, reckoned with natural numbers alone -/
noncomputable def fil (k : Nat) : List Nat → Nat → List Nat
  | [], _ => []
  | c :: r, n => bif Nat.ble c k then n :: fil k r (n + 1) else fil k r (n + 1)
theorem fil_append (k : Nat) : ∀ (xs ys : List Nat) (n : Nat), fil k (xs ++ ys) n = fil k xs n ++ fil k ys (n + xs.length)
  | [], ys, n => rfl
  | c :: r, ys, n => by
    rw [List.cons_append, fil, fil, fil_append k r ys (n + 1), List.length_cons, show n + (r.length + 1) = n + 1 + r.length by omega]
    cases Nat.ble c k <;> rfl
theorem fil_names (cs : List Nat) (k : Nat) : ∀ N, N ≤ cs.length → (fil k (cs.take N) 1).map Int.ofNat = namesOf cs k N
  | 0, _ => rfl
  | N + 1, h => by
    have ih := fil_names cs k N (by omega)
    have hN : cs[N]? = some (cs.getD N 0) := by rw [List.getD_eq_getElem?_getD, List.getElem?_eq_getElem (by omega)]; rfl
    rw [takeSnoc hN, fil_append, List.map_append, ih]
    unfold namesOf
    rw [List.range_succ, List.filter_append, List.map_append]
    congr 1
    rw [List.length_take, Nat.min_eq_left (by omega)]
    simp only [fil, List.filter_cons, List.filter_nil]
    by_cases hc : cs.getD N 0 ≤ k
    · rw [Nat.ble_eq_true_of_le hc, decide_eq_true hc]
      simp
    · have : Nat.ble (cs.getD N 0) k = false := by
        cases e : Nat.ble (cs.getD N 0) k with
        | false => rfl
        | true => exact absurd (Nat.le_of_ble_eq_true e) hc
      rw [this, decide_eq_false hc]
      rfl
theorem names_mem {cs : List Nat} {k N j : Nat} (h : j < N) : ((namesOf cs k N).any fun y => y == 1 + (j : Int)) = decide (cs.getD j 0 ≤ k) := by
  unfold namesOf
  rw [List.any_map]
  by_cases hc : cs.getD j 0 ≤ k
  · rw [decide_eq_true hc]
    refine List.any_eq_true.mpr ⟨j, List.mem_filter.mpr ⟨List.mem_range.mpr h, decide_eq_true hc⟩, ?_⟩
    simp
  · rw [decide_eq_false hc]
    refine List.any_eq_false.mpr fun i hi => ?_
    obtain ⟨_, h2⟩ := List.mem_filter.mp hi
    have h3 := of_decide_eq_true h2
    simp only [Function.comp, beq_iff_eq]
    intro e
    have e2 : i = j := by omega
    exact hc (e2 ▸ h3)
theorem names_nil {cs : List Nat} {k N : Nat} : namesOf cs k N = [] ↔ ∀ i, i < N → k < cs.getD i 0 := by
  unfold namesOf
  rw [List.map_eq_nil_iff, List.filter_eq_nil_iff]
  constructor
  · intro h i hi
    have := h i (List.mem_range.mpr hi)
    simpa using this
  · intro h i hi
    have := h i (List.mem_range.mp hi)
    simpa using this
theorem count_below : ∀ c, c < 25 → ((List.range 25).filter fun k => !decide (c ≤ k)).length = c := by decide
theorem colZ_names {cs : List Nat} {lk : Nat → List Int} {Nf : Nat → Nat} {j : Nat} (hlk : ∀ k, k < 25 → lk k = namesOf cs k (Nf k)) (hj : ∀ k, k < 25 → j < Nf k) (hc : cs.getD j 0 < 25) : colZ lk 25 (1 + j) = (cs.getD j 0 : Nat) := by
  unfold colZ
  rw [List.filter_map, List.length_map]
  have e : ((List.range 25).filter ((fun l : List Int => !(l.any fun y => y == 1 + (j : Int))) ∘ lk)) = (List.range 25).filter fun k => !decide (cs.getD j 0 ≤ k) := by
    refine List.filter_congr fun k hk => ?_
    have hk' := List.mem_range.mp hk
    simp only [Function.comp]
    rw [hlk k hk', names_mem (hj k hk')]
  rw [e, count_below _ hc]
noncomputable def colsN (cs : List Nat) (top : Nat) : List Int := (List.range top).map fun j : Nat => ((cs.getD j 0 : Nat) : Int)
theorem lessZ_bl {d : WSd} {cs : List Nat} {n k N : Nat} (hN : (topZ (wsOf (blS k)) d).toNat = N) (hN1 : 1 ≤ N) (hcs : ∀ i, i < N → indentZ d (1 + i) = (cs.getD i 0 : Nat)) (hn : d.n = n) (hn0 : cs.getD 0 0 = n) (hcnt : 2 ≤ d.count.length) :
    lessZ (wsOf (blS k)) d = decide (namesOf cs k N = []) := by
  have hb := bl_ind k
  have e1 : (wsOf (blS k)).n = k := by rw [wsOf_bl]
  unfold lessZ
  have hT : (topZ (wsOf (blS k)) d - 1).toNat = N - 1 := by omega
  rw [e1, hn, hT]
  by_cases h1 : (n : Int) ≤ k
  · rw [if_pos h1]
    refine (decide_eq_false fun h => ?_).symm
    have := names_nil.mp h 0 hN1
    omega
  · rw [if_neg h1, if_neg (by omega)]
    refine decide_eq_decide.mpr ⟨fun h => names_nil.mpr fun i hi => ?_, fun h i hi => ?_⟩
    · cases i with
      | zero => omega
      | succ i =>
        have h2 := h i (by omega)
        rw [hb, show (2 : Int) + (i : Int) = 1 + ((i + 1 : Nat) : Int) by omega, hcs (i + 1) hi] at h2
        omega
    · have h2 := names_nil.mp h (i + 1) (by omega)
      rw [hb, show (2 : Int) + (i : Int) = 1 + ((i + 1 : Nat) : Int) by omega, hcs (i + 1) (by omega)]
      omega
/-- a list in falling order -/
noncomputable def insZ (x : Int) : List Int → List Int
  | [] => [x]
  | y :: r => if x < y then y :: insZ x r else x :: y :: r
noncomputable def srt : List Int → List Int
  | [] => []
  | x :: r => insZ x (srt r)
theorem insZ_perm (x : Int) : ∀ l, (insZ x l).Perm (x :: l)
  | [] => .refl _
  | y :: r => by
    unfold insZ
    split
    · exact ((insZ_perm x r).cons y).trans (.swap x y r)
    · exact .refl _
theorem srt_perm : ∀ l, (srt l).Perm l
  | [] => .refl _
  | x :: r => (insZ_perm x (srt r)).trans ((srt_perm r).cons x)
theorem insZ_sorted (x : Int) : ∀ l : List Int, l.Pairwise (fun a b => b ≤ a) → (insZ x l).Pairwise (fun a b => b ≤ a)
  | [], _ => List.pairwise_singleton _ _
  | y :: r, h => by
    have h1 := List.pairwise_cons.mp h
    unfold insZ
    split
    · next hxy =>
      refine List.pairwise_cons.mpr ⟨fun a ha => ?_, insZ_sorted x r h1.2⟩
      rcases List.mem_cons.mp ((insZ_perm x r).mem_iff.mp ha) with rfl | ha
      · omega
      · exact h1.1 a ha
    · next hxy =>
      refine List.pairwise_cons.mpr ⟨fun a ha => ?_, h⟩
      rcases List.mem_cons.mp ha with rfl | ha
      · omega
      · have := h1.1 a ha; omega
theorem srt_sorted : ∀ l, (srt l).Pairwise (fun a b => b ≤ a)
  | [] => .nil
  | x :: r => insZ_sorted x _ (srt_sorted r)
theorem srt_is {b z : List Int} (hp : z.Perm b) (hs : z.Pairwise (· ≤ ·)) : z.reverse = srt b := by
  have h1 : z.reverse.Pairwise (fun a b => b ≤ a) := List.pairwise_reverse.mpr hs
  have h2 : z.reverse.Perm (srt b) := ((List.reverse_perm z).trans hp).trans (srt_perm b).symm
  exact h2.eq_of_pairwise (fun x y _ _ h3 h4 => Int.le_antisymm h4 h3) h1 (srt_sorted b)

end
section
noncomputable abbrev Row := List Int × Int × List Nat × Nat × Nat
noncomputable def leqb : List Nat → List Nat → Bool
  | [], [] => true
  | x :: r, y :: s => Nat.beq x y && leqb r s
  | _, _ => false
theorem leqb_is : ∀ {x y : List Nat}, leqb x y = true → x = y
  | [], [], _ => rfl
  | x :: r, y :: s, h => by
    rw [leqb, Bool.and_eq_true] at h
    rw [Nat.eq_of_beq_eq_true h.1, leqb_is h.2]
  | [], _ :: _, h => by simp [leqb] at h
  | _ :: _, [], h => by simp [leqb] at h
noncomputable def conseq : List Nat → Nat → Bool
  | [], _ => true
  | x :: r, n => Nat.beq x n && conseq r (n + 1)
theorem conseq_is : ∀ {l : List Nat} {n : Nat}, conseq l n = true → l.map Int.ofNat = (List.range l.length).map fun i : Nat => (n : Int) + i
  | [], _, _ => rfl
  | x :: r, n, h => by
    rw [conseq, Bool.and_eq_true] at h
    have e := Nat.eq_of_beq_eq_true h.1
    subst e
    rw [List.map_cons, conseq_is h.2, List.length_cons, List.range_succ_eq_map, List.map_cons, List.map_map]
    congr 1
    · refine List.map_congr_left fun i _ => ?_
      simp only [Function.comp]
      omega
noncomputable def okB (l : List Nat) : Bool := leqb l [] || (conseq l 1 && Nat.ble l.length 24) || leqb l [1, 3] || leqb l [1, 2, 4] || leqb l [1, 2, 4, 5]
theorem upto_mem {n : Nat} (h1 : 1 ≤ n) (h2 : n ≤ 24) : upto n ∈ allL := by
  unfold allL
  refine List.mem_append_right _ (List.mem_map.mpr ⟨n - 1, List.mem_range.mpr (by omega), ?_⟩)
  rw [Nat.sub_add_cancel h1]
theorem okB_is {l : List Nat} (h : okB l = true) : OkL (l.map Int.ofNat) := by
  unfold okB at h
  simp only [Bool.or_eq_true, Bool.and_eq_true] at h
  rcases h with (((h | h) | h) | h) | h
  · rw [leqb_is h]; exact .inl rfl
  · by_cases e : l = []
    · rw [e]; exact .inl rfl
    · refine .inr ?_
      rw [conseq_is h.1]
      have := List.length_pos_iff.mpr e
      exact upto_mem this (Nat.le_of_ble_eq_true h.2)
  · rw [leqb_is h]; exact .inr (by decide)
  · rw [leqb_is h]; exact .inr (by decide)
  · rw [leqb_is h]; exact .inr (by decide)
noncomputable def ldOf (x : List Nat) : WSd := let r := wsScan x 0 0 0 []; ⟨⟨#[]⟩, r.1, r.2.1, r.2.2.2, r.2.2.1⟩
noncomputable def rowOk (q : Row) : Bool :=
  let d := ldOf (leadL q.1 q.2.1 ++ [120, 32, 9])
  let cs := q.2.2.1
  let lg := q.2.2.2.2
  let m := q.1.length
  let en := q.2.1.toNat
  decide ((List.range 25).map (fun i : Nat => indentZ d (1 + i)) = cs.map Int.ofNat) && decide (d.n = q.2.2.2.1) && decide (longestZ d = lg) && Nat.ble 2 d.count.length && Nat.beq (cs.getD 0 0) q.2.2.2.1 && Nat.ble 2 lg && Nat.ble lg 3 &&
  ((List.range 25).all fun i => Nat.ble i lg || Nat.beq (cs.getD i 0) ((i + 1) * m + en)) && ((List.range (lg + 1)).all fun i => Nat.ble (cs.getD i 0 + 1) 25) && decide (foundR (colsN cs (lg + 1)) = q.1) && decide (foundL (colsN cs (lg + 1)) = q.2.1) &&
  (List.range 25).all fun k => okB (fil k (cs.take (Nat.max k lg + 1)) 1)
structure RowIs (s : List Int) (e : Int) (cs : List Nat) (n lg : Nat) : Prop where
  len : cs.length = 25
  col : ∀ i : Nat, i < 25 → indentZ (ldOf (leadL s e ++ [120, 32, 9])) (1 + i) = (cs.getD i 0 : Nat)
  num : (ldOf (leadL s e ++ [120, 32, 9])).n = n
  lon : longestZ (ldOf (leadL s e ++ [120, 32, 9])) = lg
  cnt : 2 ≤ (ldOf (leadL s e ++ [120, 32, 9])).count.length
  n0 : cs.getD 0 0 = n
  lg2 : 2 ≤ lg
  lg3 : lg ≤ 3
  tail : ∀ i, i < 25 → lg < i → cs.getD i 0 = (i + 1) * s.length + e.toNat
  small : ∀ i, i ≤ lg → cs.getD i 0 < 25
  fR : foundR (colsN cs (lg + 1)) = s
  fL : foundL (colsN cs (lg + 1)) = e
  ok : ∀ k, k < 25 → OkL (namesOf cs k (max k lg + 1))
theorem rowIs {q : Row} (h : rowOk q = true) : RowIs q.1 q.2.1 q.2.2.1 q.2.2.2.1 q.2.2.2.2 := by
  obtain ⟨s, e, cs, n, lg⟩ := q
  unfold rowOk at h
  dsimp only at h ⊢
  simp only [Bool.and_eq_true] at h
  obtain ⟨⟨⟨⟨⟨⟨⟨⟨⟨⟨⟨h1, h2⟩, h3⟩, h4⟩, h5⟩, h6⟩, h7⟩, h8⟩, h9⟩, h10⟩, h11⟩, h12⟩ := h
  have h1' := of_decide_eq_true h1
  have hl : cs.length = 25 := by
    have := congrArg List.length h1'
    simpa using this.symm
  have lg2 := Nat.le_of_ble_eq_true h6
  have lg3 := Nat.le_of_ble_eq_true h7
  refine ⟨hl, fun i hi => ?_, of_decide_eq_true h2, of_decide_eq_true h3, Nat.le_of_ble_eq_true h4, Nat.eq_of_beq_eq_true h5, lg2, lg3, fun i hi hi2 => ?_, fun i hi => ?_, of_decide_eq_true h10, of_decide_eq_true h11, fun k hk => ?_⟩
  · have h := congrArg (fun l : List Int => l[i]?) h1'
    simp only [List.getElem?_map, List.getElem?_range hi, Option.map_some] at h
    rw [List.getElem?_eq_getElem (by omega)] at h
    rw [List.getD_eq_getElem?_getD, List.getElem?_eq_getElem (by omega)]
    exact Option.some.inj h
  · have h := List.all_eq_true.mp h8 i (List.mem_range.mpr hi)
    rw [Bool.or_eq_true] at h
    rcases h with h | h
    · have := Nat.le_of_ble_eq_true h; omega
    · exact Nat.eq_of_beq_eq_true h
  · exact Nat.le_of_ble_eq_true (List.all_eq_true.mp h9 i (List.mem_range.mpr (by omega)))
  · have h := okB_is (List.all_eq_true.mp h12 k (List.mem_range.mpr hk))
    rw [show Nat.max k lg = max k lg from rfl, fil_names cs k _ (by omega)] at h
    exact h
noncomputable def rows0 : List Row := [([2], 1, [4, 5, 4, 5, 6, 7, 8, 9, 10, 11, 12, 13, 14, 15, 16, 17, 18, 19, 20, 21, 22, 23, 24, 25, 26], 4, 2),
  ([3, 2], 1, [8, 9, 10, 9, 11, 13, 15, 17, 19, 21, 23, 25, 27, 29, 31, 33, 35, 37, 39, 41, 43, 45, 47, 49, 51], 8, 3),
  ([2, 2], 1, [7, 9, 7, 9, 11, 13, 15, 17, 19, 21, 23, 25, 27, 29, 31, 33, 35, 37, 39, 41, 43, 45, 47, 49, 51], 7, 2),
  ([2, 1], 1, [6, 7, 7, 9, 11, 13, 15, 17, 19, 21, 23, 25, 27, 29, 31, 33, 35, 37, 39, 41, 43, 45, 47, 49, 51], 6, 2),
  ([2, 0], 1, [5, 7, 7, 9, 11, 13, 15, 17, 19, 21, 23, 25, 27, 29, 31, 33, 35, 37, 39, 41, 43, 45, 47, 49, 51], 5, 2),
  ([3, 3, 2], 1, [12, 13, 16, 13, 16, 19, 22, 25, 28, 31, 34, 37, 40, 43, 46, 49, 52, 55, 58, 61, 64, 67, 70, 73, 76], 12, 3),
  ([3, 2, 2], 1, [11, 13, 13, 13, 16, 19, 22, 25, 28, 31, 34, 37, 40, 43, 46, 49, 52, 55, 58, 61, 64, 67, 70, 73, 76], 11, 3),
  ([3, 2, 1], 1, [10, 11, 13, 13, 16, 19, 22, 25, 28, 31, 34, 37, 40, 43, 46, 49, 52, 55, 58, 61, 64, 67, 70, 73, 76], 10, 3),
  ([3, 2, 0], 1, [9, 11, 13, 13, 16, 19, 22, 25, 28, 31, 34, 37, 40, 43, 46, 49, 52, 55, 58, 61, 64, 67, 70, 73, 76], 9, 3),
  ([2, 2, 2], 1, [10, 13, 10, 13, 16, 19, 22, 25, 28, 31, 34, 37, 40, 43, 46, 49, 52, 55, 58, 61, 64, 67, 70, 73, 76], 10, 2),
  ([2, 2, 1], 1, [9, 11, 10, 13, 16, 19, 22, 25, 28, 31, 34, 37, 40, 43, 46, 49, 52, 55, 58, 61, 64, 67, 70, 73, 76], 9, 2),
  ([2, 2, 0], 1, [8, 11, 10, 13, 16, 19, 22, 25, 28, 31, 34, 37, 40, 43, 46, 49, 52, 55, 58, 61, 64, 67, 70, 73, 76], 8, 2)]
theorem rowsOk0 : rows0.all rowOk = true := by decide +kernel
noncomputable def rows1 : List Row := [([2, 1, 1], 1, [8, 9, 10, 13, 16, 19, 22, 25, 28, 31, 34, 37, 40, 43, 46, 49, 52, 55, 58, 61, 64, 67, 70, 73, 76], 8, 2),
  ([2, 1, 0], 1, [7, 9, 10, 13, 16, 19, 22, 25, 28, 31, 34, 37, 40, 43, 46, 49, 52, 55, 58, 61, 64, 67, 70, 73, 76], 7, 2),
  ([2, 0, 0], 1, [6, 9, 10, 13, 16, 19, 22, 25, 28, 31, 34, 37, 40, 43, 46, 49, 52, 55, 58, 61, 64, 67, 70, 73, 76], 6, 2),
  ([3, 3, 3, 2], 0, [15, 16, 21, 16, 20, 24, 28, 32, 36, 40, 44, 48, 52, 56, 60, 64, 68, 72, 76, 80, 84, 88, 92, 96, 100], 15, 3),
  ([3, 3, 3, 2], 1, [16, 17, 22, 17, 21, 25, 29, 33, 37, 41, 45, 49, 53, 57, 61, 65, 69, 73, 77, 81, 85, 89, 93, 97, 101], 16, 3),
  ([3, 3, 3, 2], 2, [17, 18, 23, 18, 22, 26, 30, 34, 38, 42, 46, 50, 54, 58, 62, 66, 70, 74, 78, 82, 86, 90, 94, 98, 102], 17, 3),
  ([3, 3, 3, 2], 3, [18, 19, 24, 19, 23, 27, 31, 35, 39, 43, 47, 51, 55, 59, 63, 67, 71, 75, 79, 83, 87, 91, 95, 99, 103], 18, 3),
  ([3, 3, 2, 2], 0, [14, 16, 18, 16, 20, 24, 28, 32, 36, 40, 44, 48, 52, 56, 60, 64, 68, 72, 76, 80, 84, 88, 92, 96, 100], 14, 3),
  ([3, 3, 2, 2], 1, [15, 17, 19, 17, 21, 25, 29, 33, 37, 41, 45, 49, 53, 57, 61, 65, 69, 73, 77, 81, 85, 89, 93, 97, 101], 15, 3),
  ([3, 3, 2, 2], 2, [16, 18, 20, 18, 22, 26, 30, 34, 38, 42, 46, 50, 54, 58, 62, 66, 70, 74, 78, 82, 86, 90, 94, 98, 102], 16, 3),
  ([3, 3, 2, 2], 3, [17, 19, 21, 19, 23, 27, 31, 35, 39, 43, 47, 51, 55, 59, 63, 67, 71, 75, 79, 83, 87, 91, 95, 99, 103], 17, 3),
  ([3, 3, 2, 1], 0, [13, 14, 18, 16, 20, 24, 28, 32, 36, 40, 44, 48, 52, 56, 60, 64, 68, 72, 76, 80, 84, 88, 92, 96, 100], 13, 3)]
theorem rowsOk1 : rows1.all rowOk = true := by decide +kernel
noncomputable def rows2 : List Row := [([3, 3, 2, 1], 1, [14, 15, 19, 17, 21, 25, 29, 33, 37, 41, 45, 49, 53, 57, 61, 65, 69, 73, 77, 81, 85, 89, 93, 97, 101], 14, 3),
  ([3, 3, 2, 1], 2, [15, 16, 20, 18, 22, 26, 30, 34, 38, 42, 46, 50, 54, 58, 62, 66, 70, 74, 78, 82, 86, 90, 94, 98, 102], 15, 3),
  ([3, 3, 2, 1], 3, [16, 17, 21, 19, 23, 27, 31, 35, 39, 43, 47, 51, 55, 59, 63, 67, 71, 75, 79, 83, 87, 91, 95, 99, 103], 16, 3),
  ([3, 3, 2, 0], 0, [12, 14, 18, 16, 20, 24, 28, 32, 36, 40, 44, 48, 52, 56, 60, 64, 68, 72, 76, 80, 84, 88, 92, 96, 100], 12, 3),
  ([3, 3, 2, 0], 1, [13, 15, 19, 17, 21, 25, 29, 33, 37, 41, 45, 49, 53, 57, 61, 65, 69, 73, 77, 81, 85, 89, 93, 97, 101], 13, 3),
  ([3, 3, 2, 0], 2, [14, 16, 20, 18, 22, 26, 30, 34, 38, 42, 46, 50, 54, 58, 62, 66, 70, 74, 78, 82, 86, 90, 94, 98, 102], 14, 3),
  ([3, 3, 2, 0], 3, [15, 17, 21, 19, 23, 27, 31, 35, 39, 43, 47, 51, 55, 59, 63, 67, 71, 75, 79, 83, 87, 91, 95, 99, 103], 15, 3),
  ([3, 2, 2, 2], 0, [13, 16, 15, 16, 20, 24, 28, 32, 36, 40, 44, 48, 52, 56, 60, 64, 68, 72, 76, 80, 84, 88, 92, 96, 100], 13, 3),
  ([3, 2, 2, 2], 1, [14, 17, 16, 17, 21, 25, 29, 33, 37, 41, 45, 49, 53, 57, 61, 65, 69, 73, 77, 81, 85, 89, 93, 97, 101], 14, 3),
  ([3, 2, 2, 2], 2, [15, 18, 17, 18, 22, 26, 30, 34, 38, 42, 46, 50, 54, 58, 62, 66, 70, 74, 78, 82, 86, 90, 94, 98, 102], 15, 3),
  ([3, 2, 2, 2], 3, [16, 19, 18, 19, 23, 27, 31, 35, 39, 43, 47, 51, 55, 59, 63, 67, 71, 75, 79, 83, 87, 91, 95, 99, 103], 16, 3),
  ([3, 2, 2, 1], 0, [12, 14, 15, 16, 20, 24, 28, 32, 36, 40, 44, 48, 52, 56, 60, 64, 68, 72, 76, 80, 84, 88, 92, 96, 100], 12, 3)]
theorem rowsOk2 : rows2.all rowOk = true := by decide +kernel
noncomputable def rows3 : List Row := [([3, 2, 2, 1], 1, [13, 15, 16, 17, 21, 25, 29, 33, 37, 41, 45, 49, 53, 57, 61, 65, 69, 73, 77, 81, 85, 89, 93, 97, 101], 13, 3),
  ([3, 2, 2, 1], 2, [14, 16, 17, 18, 22, 26, 30, 34, 38, 42, 46, 50, 54, 58, 62, 66, 70, 74, 78, 82, 86, 90, 94, 98, 102], 14, 3),
  ([3, 2, 2, 1], 3, [15, 17, 18, 19, 23, 27, 31, 35, 39, 43, 47, 51, 55, 59, 63, 67, 71, 75, 79, 83, 87, 91, 95, 99, 103], 15, 3),
  ([3, 2, 2, 0], 0, [11, 14, 15, 16, 20, 24, 28, 32, 36, 40, 44, 48, 52, 56, 60, 64, 68, 72, 76, 80, 84, 88, 92, 96, 100], 11, 3),
  ([3, 2, 2, 0], 1, [12, 15, 16, 17, 21, 25, 29, 33, 37, 41, 45, 49, 53, 57, 61, 65, 69, 73, 77, 81, 85, 89, 93, 97, 101], 12, 3),
  ([3, 2, 2, 0], 2, [13, 16, 17, 18, 22, 26, 30, 34, 38, 42, 46, 50, 54, 58, 62, 66, 70, 74, 78, 82, 86, 90, 94, 98, 102], 13, 3),
  ([3, 2, 2, 0], 3, [14, 17, 18, 19, 23, 27, 31, 35, 39, 43, 47, 51, 55, 59, 63, 67, 71, 75, 79, 83, 87, 91, 95, 99, 103], 14, 3),
  ([3, 2, 1, 1], 0, [11, 12, 15, 16, 20, 24, 28, 32, 36, 40, 44, 48, 52, 56, 60, 64, 68, 72, 76, 80, 84, 88, 92, 96, 100], 11, 3),
  ([3, 2, 1, 1], 1, [12, 13, 16, 17, 21, 25, 29, 33, 37, 41, 45, 49, 53, 57, 61, 65, 69, 73, 77, 81, 85, 89, 93, 97, 101], 12, 3),
  ([3, 2, 1, 1], 2, [13, 14, 17, 18, 22, 26, 30, 34, 38, 42, 46, 50, 54, 58, 62, 66, 70, 74, 78, 82, 86, 90, 94, 98, 102], 13, 3),
  ([3, 2, 1, 1], 3, [14, 15, 18, 19, 23, 27, 31, 35, 39, 43, 47, 51, 55, 59, 63, 67, 71, 75, 79, 83, 87, 91, 95, 99, 103], 14, 3),
  ([3, 2, 1, 0], 0, [10, 12, 15, 16, 20, 24, 28, 32, 36, 40, 44, 48, 52, 56, 60, 64, 68, 72, 76, 80, 84, 88, 92, 96, 100], 10, 3)]
theorem rowsOk3 : rows3.all rowOk = true := by decide +kernel
noncomputable def rows4 : List Row := [([3, 2, 1, 0], 1, [11, 13, 16, 17, 21, 25, 29, 33, 37, 41, 45, 49, 53, 57, 61, 65, 69, 73, 77, 81, 85, 89, 93, 97, 101], 11, 3),
  ([3, 2, 1, 0], 2, [12, 14, 17, 18, 22, 26, 30, 34, 38, 42, 46, 50, 54, 58, 62, 66, 70, 74, 78, 82, 86, 90, 94, 98, 102], 12, 3),
  ([3, 2, 1, 0], 3, [13, 15, 18, 19, 23, 27, 31, 35, 39, 43, 47, 51, 55, 59, 63, 67, 71, 75, 79, 83, 87, 91, 95, 99, 103], 13, 3),
  ([3, 2, 0, 0], 0, [9, 12, 15, 16, 20, 24, 28, 32, 36, 40, 44, 48, 52, 56, 60, 64, 68, 72, 76, 80, 84, 88, 92, 96, 100], 9, 3),
  ([3, 2, 0, 0], 1, [10, 13, 16, 17, 21, 25, 29, 33, 37, 41, 45, 49, 53, 57, 61, 65, 69, 73, 77, 81, 85, 89, 93, 97, 101], 10, 3),
  ([3, 2, 0, 0], 2, [11, 14, 17, 18, 22, 26, 30, 34, 38, 42, 46, 50, 54, 58, 62, 66, 70, 74, 78, 82, 86, 90, 94, 98, 102], 11, 3),
  ([3, 2, 0, 0], 3, [12, 15, 18, 19, 23, 27, 31, 35, 39, 43, 47, 51, 55, 59, 63, 67, 71, 75, 79, 83, 87, 91, 95, 99, 103], 12, 3),
  ([2, 2, 2, 2], 0, [12, 16, 12, 16, 20, 24, 28, 32, 36, 40, 44, 48, 52, 56, 60, 64, 68, 72, 76, 80, 84, 88, 92, 96, 100], 12, 2),
  ([2, 2, 2, 2], 1, [13, 17, 13, 17, 21, 25, 29, 33, 37, 41, 45, 49, 53, 57, 61, 65, 69, 73, 77, 81, 85, 89, 93, 97, 101], 13, 2),
  ([2, 2, 2, 2], 2, [14, 18, 14, 18, 22, 26, 30, 34, 38, 42, 46, 50, 54, 58, 62, 66, 70, 74, 78, 82, 86, 90, 94, 98, 102], 14, 2),
  ([2, 2, 2, 2], 3, [15, 19, 15, 19, 23, 27, 31, 35, 39, 43, 47, 51, 55, 59, 63, 67, 71, 75, 79, 83, 87, 91, 95, 99, 103], 15, 3),
  ([2, 2, 2, 1], 0, [11, 14, 12, 16, 20, 24, 28, 32, 36, 40, 44, 48, 52, 56, 60, 64, 68, 72, 76, 80, 84, 88, 92, 96, 100], 11, 2)]
theorem rowsOk4 : rows4.all rowOk = true := by decide +kernel
noncomputable def rows5 : List Row := [([2, 2, 2, 1], 1, [12, 15, 13, 17, 21, 25, 29, 33, 37, 41, 45, 49, 53, 57, 61, 65, 69, 73, 77, 81, 85, 89, 93, 97, 101], 12, 2),
  ([2, 2, 2, 1], 2, [13, 16, 14, 18, 22, 26, 30, 34, 38, 42, 46, 50, 54, 58, 62, 66, 70, 74, 78, 82, 86, 90, 94, 98, 102], 13, 2),
  ([2, 2, 2, 1], 3, [14, 17, 15, 19, 23, 27, 31, 35, 39, 43, 47, 51, 55, 59, 63, 67, 71, 75, 79, 83, 87, 91, 95, 99, 103], 14, 3),
  ([2, 2, 2, 0], 0, [10, 14, 12, 16, 20, 24, 28, 32, 36, 40, 44, 48, 52, 56, 60, 64, 68, 72, 76, 80, 84, 88, 92, 96, 100], 10, 2),
  ([2, 2, 2, 0], 1, [11, 15, 13, 17, 21, 25, 29, 33, 37, 41, 45, 49, 53, 57, 61, 65, 69, 73, 77, 81, 85, 89, 93, 97, 101], 11, 2),
  ([2, 2, 2, 0], 2, [12, 16, 14, 18, 22, 26, 30, 34, 38, 42, 46, 50, 54, 58, 62, 66, 70, 74, 78, 82, 86, 90, 94, 98, 102], 12, 2),
  ([2, 2, 2, 0], 3, [13, 17, 15, 19, 23, 27, 31, 35, 39, 43, 47, 51, 55, 59, 63, 67, 71, 75, 79, 83, 87, 91, 95, 99, 103], 13, 3),
  ([2, 2, 1, 1], 0, [10, 12, 12, 16, 20, 24, 28, 32, 36, 40, 44, 48, 52, 56, 60, 64, 68, 72, 76, 80, 84, 88, 92, 96, 100], 10, 2),
  ([2, 2, 1, 1], 1, [11, 13, 13, 17, 21, 25, 29, 33, 37, 41, 45, 49, 53, 57, 61, 65, 69, 73, 77, 81, 85, 89, 93, 97, 101], 11, 2),
  ([2, 2, 1, 1], 2, [12, 14, 14, 18, 22, 26, 30, 34, 38, 42, 46, 50, 54, 58, 62, 66, 70, 74, 78, 82, 86, 90, 94, 98, 102], 12, 2),
  ([2, 2, 1, 1], 3, [13, 15, 15, 19, 23, 27, 31, 35, 39, 43, 47, 51, 55, 59, 63, 67, 71, 75, 79, 83, 87, 91, 95, 99, 103], 13, 3),
  ([2, 2, 1, 0], 0, [9, 12, 12, 16, 20, 24, 28, 32, 36, 40, 44, 48, 52, 56, 60, 64, 68, 72, 76, 80, 84, 88, 92, 96, 100], 9, 2)]
theorem rowsOk5 : rows5.all rowOk = true := by decide +kernel
noncomputable def rows6 : List Row := [([2, 2, 1, 0], 1, [10, 13, 13, 17, 21, 25, 29, 33, 37, 41, 45, 49, 53, 57, 61, 65, 69, 73, 77, 81, 85, 89, 93, 97, 101], 10, 2),
  ([2, 2, 1, 0], 2, [11, 14, 14, 18, 22, 26, 30, 34, 38, 42, 46, 50, 54, 58, 62, 66, 70, 74, 78, 82, 86, 90, 94, 98, 102], 11, 2),
  ([2, 2, 1, 0], 3, [12, 15, 15, 19, 23, 27, 31, 35, 39, 43, 47, 51, 55, 59, 63, 67, 71, 75, 79, 83, 87, 91, 95, 99, 103], 12, 3),
  ([2, 2, 0, 0], 0, [8, 12, 12, 16, 20, 24, 28, 32, 36, 40, 44, 48, 52, 56, 60, 64, 68, 72, 76, 80, 84, 88, 92, 96, 100], 8, 2),
  ([2, 2, 0, 0], 1, [9, 13, 13, 17, 21, 25, 29, 33, 37, 41, 45, 49, 53, 57, 61, 65, 69, 73, 77, 81, 85, 89, 93, 97, 101], 9, 2),
  ([2, 2, 0, 0], 2, [10, 14, 14, 18, 22, 26, 30, 34, 38, 42, 46, 50, 54, 58, 62, 66, 70, 74, 78, 82, 86, 90, 94, 98, 102], 10, 2),
  ([2, 2, 0, 0], 3, [11, 15, 15, 19, 23, 27, 31, 35, 39, 43, 47, 51, 55, 59, 63, 67, 71, 75, 79, 83, 87, 91, 95, 99, 103], 11, 3),
  ([2, 1, 1, 1], 0, [9, 10, 12, 16, 20, 24, 28, 32, 36, 40, 44, 48, 52, 56, 60, 64, 68, 72, 76, 80, 84, 88, 92, 96, 100], 9, 2),
  ([2, 1, 1, 1], 1, [10, 11, 13, 17, 21, 25, 29, 33, 37, 41, 45, 49, 53, 57, 61, 65, 69, 73, 77, 81, 85, 89, 93, 97, 101], 10, 2),
  ([2, 1, 1, 1], 2, [11, 12, 14, 18, 22, 26, 30, 34, 38, 42, 46, 50, 54, 58, 62, 66, 70, 74, 78, 82, 86, 90, 94, 98, 102], 11, 2),
  ([2, 1, 1, 1], 3, [12, 13, 15, 19, 23, 27, 31, 35, 39, 43, 47, 51, 55, 59, 63, 67, 71, 75, 79, 83, 87, 91, 95, 99, 103], 12, 3),
  ([2, 1, 1, 0], 0, [8, 10, 12, 16, 20, 24, 28, 32, 36, 40, 44, 48, 52, 56, 60, 64, 68, 72, 76, 80, 84, 88, 92, 96, 100], 8, 2)]
theorem rowsOk6 : rows6.all rowOk = true := by decide +kernel
noncomputable def rows7 : List Row := [([2, 1, 1, 0], 1, [9, 11, 13, 17, 21, 25, 29, 33, 37, 41, 45, 49, 53, 57, 61, 65, 69, 73, 77, 81, 85, 89, 93, 97, 101], 9, 2),
  ([2, 1, 1, 0], 2, [10, 12, 14, 18, 22, 26, 30, 34, 38, 42, 46, 50, 54, 58, 62, 66, 70, 74, 78, 82, 86, 90, 94, 98, 102], 10, 2),
  ([2, 1, 1, 0], 3, [11, 13, 15, 19, 23, 27, 31, 35, 39, 43, 47, 51, 55, 59, 63, 67, 71, 75, 79, 83, 87, 91, 95, 99, 103], 11, 3),
  ([2, 1, 0, 0], 0, [7, 10, 12, 16, 20, 24, 28, 32, 36, 40, 44, 48, 52, 56, 60, 64, 68, 72, 76, 80, 84, 88, 92, 96, 100], 7, 2),
  ([2, 1, 0, 0], 1, [8, 11, 13, 17, 21, 25, 29, 33, 37, 41, 45, 49, 53, 57, 61, 65, 69, 73, 77, 81, 85, 89, 93, 97, 101], 8, 2),
  ([2, 1, 0, 0], 2, [9, 12, 14, 18, 22, 26, 30, 34, 38, 42, 46, 50, 54, 58, 62, 66, 70, 74, 78, 82, 86, 90, 94, 98, 102], 9, 2),
  ([2, 1, 0, 0], 3, [10, 13, 15, 19, 23, 27, 31, 35, 39, 43, 47, 51, 55, 59, 63, 67, 71, 75, 79, 83, 87, 91, 95, 99, 103], 10, 3),
  ([2, 0, 0, 0], 0, [6, 10, 12, 16, 20, 24, 28, 32, 36, 40, 44, 48, 52, 56, 60, 64, 68, 72, 76, 80, 84, 88, 92, 96, 100], 6, 2),
  ([2, 0, 0, 0], 1, [7, 11, 13, 17, 21, 25, 29, 33, 37, 41, 45, 49, 53, 57, 61, 65, 69, 73, 77, 81, 85, 89, 93, 97, 101], 7, 2),
  ([2, 0, 0, 0], 2, [8, 12, 14, 18, 22, 26, 30, 34, 38, 42, 46, 50, 54, 58, 62, 66, 70, 74, 78, 82, 86, 90, 94, 98, 102], 8, 2),
  ([2, 0, 0, 0], 3, [9, 13, 15, 19, 23, 27, 31, 35, 39, 43, 47, 51, 55, 59, 63, 67, 71, 75, 79, 83, 87, 91, 95, 99, 103], 9, 3)]
theorem rowsOk7 : rows7.all rowOk = true := by decide +kernel
noncomputable def rowsAll : List Row := rows0 ++ rows1 ++ rows2 ++ rows3 ++ rows4 ++ rows5 ++ rows6 ++ rows7
theorem rowsAllOk : rowsAll.all rowOk = true := by
  unfold rowsAll
  simp only [List.all_append, rowsOk0, rowsOk1, rowsOk2, rowsOk3, rowsOk4, rowsOk5, rowsOk6, rowsOk7, Bool.and_self]
theorem wsOf_ld {st : Str} {x : List Nat} (h : st.cps.toList = x) : (wsOf st).count = (ldOf x).count ∧ (wsOf st).nt = (ldOf x).nt ∧ (wsOf st).b = (ldOf x).b ∧ (wsOf st).n = (ldOf x).n := by
  subst h
  exact ⟨rfl, rfl, rfl, rfl⟩
theorem ld_eq {x y : List Nat} (h : wsScan x 0 0 0 [] = wsScan y 0 0 0 []) : ldOf x = ldOf y := by
  unfold ldOf
  rw [h]
theorem longest_congr {d d' : WSd} (h1 : d.count = d'.count) (h3 : d.b = d'.b) : longestZ d = longestZ d' := by
  unfold longestZ
  rw [h1, h3]
theorem top_bl {d : WSd} {k lg : Nat} (h : longestZ d = lg) : topZ (wsOf (blS k)) d = ((max k lg + 1 : Nat) : Int) := by
  unfold topZ
  rw [h, wsOf_bl]
  simp only [longestZ, List.length_nil]
  omega
theorem top_bl' {d : WSd} {lg : Nat} (h : longestZ d = lg) : topZ d (wsOf (blS 0)) = ((lg + 1 : Nat) : Int) := by
  unfold topZ
  rw [h, wsOf_bl]
  simp only [longestZ, List.length_nil]
  omega
/-- from a row of the table to the plain law -/
theorem pl_of {b : List Int} {e : Int} {cs : List Nat} {n lg : Nat} (r : RowIs (srt b) e cs n lg) (hb : b.length ≤ 4) (hb3 : ∀ z ∈ b, 0 ≤ z ∧ z ≤ 3) (he0 : 0 ≤ e) (he3 : e ≤ 3)
    (h1 : wsScan (leadL b e ++ [120, 32, 9]) 0 0 0 [] = wsScan (leadL (srt b) e ++ [120, 32, 9]) 0 0 0 []) (h2 : wsScan (leadL (srt b) e ++ [121]) 0 0 0 [] = wsScan (leadL (srt b) e ++ [120, 32, 9]) 0 0 0 []) :
    ∃ lk, PL b e (lg + 1) lk (srt b) := by
  obtain ⟨c1, c2, c3, c4⟩ := wsOf_ld (lineS_list b e)
  rw [ld_eq h1] at c1 c2 c3 c4
  obtain ⟨a1, a2, a3, a4⟩ := wsOf_ld (againS_list (srt b) e)
  rw [ld_eq h2] at a1 a2 a3 a4
  generalize hD : ldOf (leadL (srt b) e ++ [120, 32, 9]) = D at *
  have hcol : ∀ i : Nat, i < 25 → indentZ (wsOf (lineS b e)) (1 + i) = (cs.getD i 0 : Nat) := fun i hi => by
    rw [indentZ_congr c1 c2 c3, ← hD]
    exact r.col i hi
  have hlon : longestZ (wsOf (lineS b e)) = lg := by rw [longest_congr c1 c3, ← hD]; exact r.lon
  have hnum : (wsOf (lineS b e)).n = n := by rw [c4, ← hD]; exact r.num
  have hcnt : 2 ≤ (wsOf (lineS b e)).count.length := by rw [c1, ← hD]; exact r.cnt
  have lg2 := r.lg2
  have lg3 := r.lg3
  have hN : ∀ k, (topZ (wsOf (blS k)) (wsOf (lineS b e))).toNat = max k lg + 1 := fun k => by rw [top_bl hlon, Int.toNat_natCast]
  have hle : ∀ k, k < 25 → lessZ (wsOf (blS k)) (wsOf (lineS b e)) = decide (namesOf cs k (max k lg + 1) = []) := fun k hk => lessZ_bl (hN k) (by omega) (fun i hi => hcol i (by omega)) hnum r.n0 hcnt
  have hnl : ∀ k, k < 25 → nlw (wsOf (blS k)) (wsOf (lineS b e)) (topZ (wsOf (blS k)) (wsOf (lineS b e))).toNat = namesOf cs k (max k lg + 1) := fun k hk => by
    rw [hN k]
    exact nlw_names (bl_ind k) fun i hi => hcol i (by omega)
  have hcols : colsZ (fun k => namesOf cs k (max k lg + 1)) (lg + 1) = colsN cs (lg + 1) := by
    unfold colsZ colsN
    refine List.map_congr_left fun j hj => ?_
    have hj' := List.mem_range.mp hj
    exact colZ_names (Nf := fun k => max k lg + 1) (fun k hk => rfl) (fun k hk => by omega) (r.small j (by omega))
  have hperm := srt_perm b
  refine ⟨fun k => namesOf cs k (max k lg + 1), ⟨hb, hb3, he0, he3, ?_, ?_, ?_, ?_, by omega, by omega, ?_, ?_, ?_, fun z hp hs => srt_is hp hs, ?_, ?_, ?_, ?_, ?_⟩⟩
  · refine .inr ⟨?_, ?_, ?_⟩
    · unfold lessZ
      rw [if_pos]
      rw [wsOf_bl, hnum]
      show ((0 : Nat) : Int) ≤ n
      omega
    · rw [top_bl' hlon, Int.toNat_natCast]
      unfold nlw upto
      rw [List.filter_eq_self]
      intro ts hts
      obtain ⟨i, hi, rfl⟩ := List.mem_map.mp hts
      have hi' := List.mem_range.mp hi
      rw [bl_ind, hcol i (by omega)]
      refine decide_eq_true ?_
      omega
    · intro h
      have := congrArg List.length h
      simp [upto] at this
  · intro k hk
    by_cases e0 : namesOf cs k (max k lg + 1) = []
    · exact .inl ⟨by rw [hle k hk, decide_eq_true e0], e0⟩
    · exact .inr ⟨by rw [hle k hk, decide_eq_false e0], hnl k hk, e0⟩
  · exact r.ok
  · exact upto_mem (by omega) (by omega)
  · rw [hcols]
    intro c hc
    obtain ⟨j, hj, rfl⟩ := List.mem_map.mp hc
    have := r.small j (by have := List.mem_range.mp hj; omega)
    omega
  · rw [hcols]; exact r.fR
  · rw [hcols]; exact r.fL
  · rw [hperm.length_eq]; exact hb
  · intro z hz
    exact hb3 z (hperm.mem_iff.mp hz)
  · intro k hk
    rw [hcols]
    have hcl : (colsN cs (lg + 1)).length = lg + 1 := by simp [colsN]
    have hwl : (wideZ (colsN cs (lg + 1)) (srt b).length e k).length = max k lg + 1 := by
      unfold wideZ
      rw [List.length_append, List.length_map, List.length_range, hcl]
      omega
    rw [hwl]
    show namesOf cs k (max k lg + 1) = _
    unfold namesOf dueZ
    have hfe : ((List.range (max k lg + 1)).filter fun i => decide (cs.getD i 0 ≤ k)) = (List.range (max k lg + 1)).filter fun i => decide ((wideZ (colsN cs (lg + 1)) (srt b).length e k).getD i 0 ≤ (k : Int)) := by
      refine List.filter_congr fun i hi => ?_
      have hi' := List.mem_range.mp hi
      have hw : (wideZ (colsN cs (lg + 1)) (srt b).length e k).getD i 0 = (cs.getD i 0 : Nat) := by
        unfold wideZ
        by_cases h3 : i < lg + 1
        · rw [List.getD_eq_getElem?_getD, List.getElem?_append_left (by rw [hcl]; exact h3)]
          unfold colsN
          rw [List.getElem?_map, List.getElem?_range h3]
          rfl
        · rw [List.getD_eq_getElem?_getD, List.getElem?_append_right (by rw [hcl]; omega), hcl, List.getElem?_map, List.getElem?_range (by omega)]
          rw [r.tail i (by omega) (by omega)]
          simp only [Option.map_some, Option.getD_some]
          rw [show ((lg + 1 : Nat) : Int) + 1 + ((i - (lg + 1) : Nat) : Int) = ((i + 1 : Nat) : Int) by omega]
          have e7 : ((e.toNat : Nat) : Int) = e := Int.toNat_of_nonneg he0
          generalize e.toNat = en at *
          subst e7
          push_cast
          rfl
      rw [hw]
      exact decide_eq_decide.mpr Int.ofNat_le.symm
    rw [hfe]
    refine List.map_congr_left fun i _ => ?_
    omega
  · have : normD (wsOf (againS (srt b) e)) = normD (wsOf (lineS b e)) := by
      unfold normD
      rw [a1, a3, c1, c3]
    rw [this]
    exact SeqAt.eqv_refl _ (SeqAt.canLay_of_shaped (normD_shaped _))
  · intro ts
    rw [indentZ_congr a1 a2 a3, indentZ_congr c1 c2 c3]
noncomputable def q4 : List Int := [0, 1, 2, 3]
noncomputable def pairs : List (List Int × Int) := [([2], 1)] ++ q4.map (fun x => ([2, x], 1)) ++ (q4.flatMap fun x => q4.map fun y => ([2, x, y], 1)) ++ q4.flatMap fun x => q4.flatMap fun y => q4.flatMap fun z => q4.map fun e => ([2, x, y, z], e)
noncomputable def pairOk (p : List Int × Int) : Bool :=
  decide (p.1.length ≤ 4) && p.1.all (fun z => decide (0 ≤ z) && decide (z ≤ 3)) && decide (0 ≤ p.2) && decide (p.2 ≤ 3) &&
  decide (wsScan (leadL p.1 p.2 ++ [120, 32, 9]) 0 0 0 [] = wsScan (leadL (srt p.1) p.2 ++ [120, 32, 9]) 0 0 0 []) && decide (wsScan (leadL (srt p.1) p.2 ++ [121]) 0 0 0 [] = wsScan (leadL (srt p.1) p.2 ++ [120, 32, 9]) 0 0 0 []) &&
  rowsAll.any fun q => decide (q.1 = srt p.1) && decide (q.2.1 = p.2)
theorem pairsOk : pairs.all pairOk = true := by decide +kernel
theorem fmod4 (x : Int) : Int.fmod x 4 ∈ q4 := by
  have h1 := Int.fmod_nonneg_of_pos x (show (0 : Int) < 4 by decide)
  have h2 := Int.fmod_lt_of_pos x (show (0 : Int) < 4 by decide)
  have : Int.fmod x 4 = 0 ∨ Int.fmod x 4 = 1 ∨ Int.fmod x 4 = 2 ∨ Int.fmod x 4 = 3 := by omega
  unfold q4
  rcases this with h | h | h | h <;> rw [h] <;> decide
theorem inPairs : ∀ ns : List Int, (builtZ ns, endZ ns) ∈ pairs
  | [] => List.mem_append_left _ (List.mem_append_left _ (List.mem_append_left _ (.head _)))
  | [a] => List.mem_append_left _ (List.mem_append_left _ (List.mem_append_right _ (List.mem_map.mpr ⟨_, fmod4 a, rfl⟩)))
  | [a, b] => List.mem_append_left _ (List.mem_append_right _ (List.mem_flatMap.mpr ⟨_, fmod4 a, List.mem_map.mpr ⟨_, fmod4 b, rfl⟩⟩))
  | [a, b, c] => List.mem_append_right _ (List.mem_flatMap.mpr ⟨_, fmod4 a, List.mem_flatMap.mpr ⟨_, fmod4 b, List.mem_flatMap.mpr ⟨_, fmod4 c, List.mem_map.mpr ⟨1, by decide, rfl⟩⟩⟩⟩)
  | a :: b :: c :: d :: r => by
    have e1 : builtZ (a :: b :: c :: d :: r) = [2, Int.fmod a 4, Int.fmod b 4, Int.fmod c 4] := rfl
    have e2 : endZ (a :: b :: c :: d :: r) = Int.fmod d 4 := by
      unfold endZ
      have h3 : min 4 (a :: b :: c :: d :: r).length - 3 = 1 := by
        simp only [List.length_cons]
        omega
      rw [h3]
      rfl
    rw [e1, e2]
    exact List.mem_append_right _ (List.mem_flatMap.mpr ⟨_, fmod4 a, List.mem_flatMap.mpr ⟨_, fmod4 b, List.mem_flatMap.mpr ⟨_, fmod4 c, List.mem_map.mpr ⟨_, fmod4 d, rfl⟩⟩⟩⟩)
/-- the plain law, for every script -/
theorem lawPL (ns : List Int) : ∃ top lk, PL (builtZ ns) (endZ ns) top lk (srt (builtZ ns)) := by
  have h := List.all_eq_true.mp pairsOk _ (inPairs ns)
  generalize builtZ ns = b at *
  generalize endZ ns = e at *
  unfold pairOk at h
  dsimp only at h
  simp only [Bool.and_eq_true] at h
  obtain ⟨⟨⟨⟨⟨⟨g1, g2⟩, g3⟩, g4⟩, g5⟩, g6⟩, g7⟩ := h
  obtain ⟨q, hq, hqq⟩ := List.any_eq_true.mp g7
  rw [Bool.and_eq_true] at hqq
  have r := rowIs (List.all_eq_true.mp rowsAllOk q hq)
  rw [of_decide_eq_true hqq.1, of_decide_eq_true hqq.2] at r
  obtain ⟨lk, hlk⟩ := pl_of r (of_decide_eq_true g1) (fun z hz => by
    have := List.all_eq_true.mp g2 z hz
    rw [Bool.and_eq_true] at this
    exact ⟨of_decide_eq_true this.1, of_decide_eq_true this.2⟩) (of_decide_eq_true g3) (of_decide_eq_true g4) (of_decide_eq_true g5) (of_decide_eq_true g6)
  exact ⟨_, lk, hlk⟩

end
section
theorem apartOf {c : Addr} : ∀ {l : List (Addr × Obj)}, (∀ p ∈ l, p.1 ≠ c ∨ ∀ v, p.2.data ≠ .cell v) → ApartOr c l
  | [], _ => trivial
  | p :: r, h => ⟨h p (.head _), apartOf fun q hq => h q (.tail _ hq)⟩
theorem Bears.sub {T T' : List (Addr × Obj)} {P : Heap → Prop} (h : Bears T P) (hs : ∀ p ∈ T, p ∈ T') : Bears T' P := fun hp hh => h hp fun p q => hh p (hs p q)
/-- nags that lie in a ledger -/
theorem nagsBear {as : List Addr} {vss : List (List Value)} {lk : Nat → List Int} {ln : Str} (hl : as.length = vss.length) (hv : ∀ (j : Nat) vs, vss[j]? = some vs → NagV vs j (lk j) ln) :
    Bears (List.zipWith (fun a vs => (a, tupObj vs)) as vss) (fun h => ∀ (j : Nat) a, as[j]? = some a → NagIs h a j (lk j) ln) := by
  intro h hh j a ha
  have hj : j < vss.length := by rw [← hl]; exact (List.getElem?_eq_some_iff.mp ha).1
  have hvs : vss[j]? = some vss[j] := List.getElem?_eq_getElem hj
  refine (hv j _ hvs).at (hh (a, tupObj vss[j]) (List.mem_of_getElem? (i := j) ?_))
  rw [List.getElem?_zipWith, ha, hvs]
theorem zipNoCell {as : List Addr} {vss : List (List Value)} : ∀ p ∈ List.zipWith (fun a vs => (a, tupObj vs)) as vss, ∀ v, p.2.data ≠ .cell v := by
  intro p hp v e
  obtain ⟨i, hi⟩ := List.mem_iff_getElem?.mp hp
  rw [List.getElem?_zipWith] at hi
  split at hi
  · cases hi; cases e
  · cases hi
theorem lineS_ok {b : List Int} {e : Int} : PyData.strOk (lineS b e) = true := by
  have h := lineS_asc b e
  unfold PyData.strOk
  rw [Array.all_eq_true_iff_forall_mem] at h ⊢
  intro c hc
  have h1 := of_decide_eq_true (h c hc)
  first
    | (simp; omega)
    | (simp only [decide_eq_true_eq]; omega)
    | (exact decide_eq_true (by omega))
theorem subR0 {S : List (Addr × Obj)} : ∀ p ∈ S, p ∈ S := fun _ h => h
theorem subC {S T : List (Addr × Obj)} {a : Addr × Obj} (h1 : a ∈ S) (h2 : ∀ p ∈ T, p ∈ S) : ∀ p ∈ a :: T, p ∈ S := fun p h => by
  rcases List.mem_cons.mp h with rfl | h
  · exact h1
  · exact h2 p h
theorem subA {S T U : List (Addr × Obj)} (h1 : ∀ p ∈ T, p ∈ S) (h2 : ∀ p ∈ U, p ∈ S) : ∀ p ∈ T ++ U, p ∈ S := fun p h => (List.mem_append.mp h).elim (h1 p) (h2 p)
theorem subT {S T : List (Addr × Obj)} {a : Addr × Obj} (h : ∀ p ∈ T, p ∈ S) : ∀ p ∈ T, p ∈ a :: S := fun p hp => .tail _ (h p hp)
theorem subL {S T U : List (Addr × Obj)} (h : ∀ p ∈ T, p ∈ S) : ∀ p ∈ T, p ∈ S ++ U := fun p hp => List.mem_append_left _ (h p hp)
theorem subR {S T U : List (Addr × Obj)} (h : ∀ p ∈ T, p ∈ U) : ∀ p ∈ T, p ∈ S ++ U := fun p hp => List.mem_append_right _ (h p hp)
theorem neL {L a b : Nat} (h : Nat.beq a b = false) : L + a ≠ L + b := fun e => Nat.ne_of_beq_eq_false h (Nat.add_left_cancel e)
theorem apC {c a : Addr} {o : Obj} {T : List (Addr × Obj)} (h1 : a ≠ c) (h2 : ∀ p ∈ T, p.1 ≠ c ∨ ∀ v, p.2.data ≠ .cell v) : ∀ p ∈ (a, o) :: T, p.1 ≠ c ∨ ∀ v, p.2.data ≠ .cell v := fun p h => by
  rcases List.mem_cons.mp h with rfl | h
  · exact .inl h1
  · exact h2 p h
theorem lawRun {w : World} {dp un : Nat} {gd : Option (List Code)} {mg mb : Str → Option Value} {Q : Flow → Shared → Prop} {E : Value → Shared → Prop} {B : Heap} {L fa : Addr} {cd : Value} {s : Shared} {m₀ : Str → Option Value} {sc : Addr} {vs : List Value} {ns : List Int}
    {o1 o2 o3 o4 o5 o6 o7 o8 : Obj}
    (hA : dp + 100 < recursionLimit) (hu : un + 600 < cLine) (hdp : dp + 60 < 700) (hun : un + 300 < 5000) (Gb : Gd w mg mb B)
    (F : Fr B L s.heap (fun y => kstB m₀ [(Str.ofString "script", .ref sc)] y)) (N : News B L s.heap [(L + 1, o1), (L + 2, o2), (L + 3, o3), (L + 4, o4), (L + 5, o5), (L + 6, o6), (L + 7, o7), (L + 8, o8), (123, tabO #[])])
    (d1 : o1.data = .cell none) (d2 : o2.data = .cell none) (d3 : o3.data = .cell none) (d4 : o4.data = .cell none) (d5 : o5.data = .cell none) (d6 : o6.data = .cell none) (d7 : o7.data = .cell none) (d8 : o8.data = .cell none)
    (hg : AllBare s.gens) (hl : B.IsList sc vs.toArray) (hI : IntsAre vs ns) (hn : ns.length ≤ 63)
    (hQ : ∀ pt m' s', Fr B L s'.heap m' → s'.heap.get? 123 = some (tabO pt) → AllBare s'.gens → s'.os = s.os → Q (.ret (.bool true)) s') :
    wpAny (model PG w) (Aof dp un (some [lawEnv L fa cd]) gd) (execs (lawB 0) (lawEnv L fa cd)) Q E s := by
  obtain ⟨top, lk, P⟩ := lawPL ns
  generalize hrs : srt (builtZ ns) = rs at P
  refine stA hA hu Gb F N d1 d2 d3 d4 d5 d6 d7 d8 hl hI hn ?_
  intro lb bvs ep te h1 tk1 F1 N1 hI1
  generalize builtZ ns = b at *
  generalize endZ ns = e at *
  clear F N
  refine stB hA hu Gb (by exact F1) (by exact N1) d1 d2 d3 d4 d5 d6 d7 d8 hI1 P.blen P.b3 P.e0 P.e3 ?_
  intro t1 o1' o2' x T h2 tk2 F2 N2 d1' d2' hT1 hT2 bT
  clear F1 N1
  refine stC hA hu Gb (o1 := o1') (o2 := o2') (o3 := o3) (o5 := o5) (o6 := o6) (o7 := o7) (o8 := o8) (pt := #[]) (T := (lb, listOf bvs.toArray ep) :: T) (by exact F2) (newsSub N2 ?_) d4 ?_ ?_
  · repeat' (first | with_reducible exact subR0 | with_reducible exact subL subR0 | with_reducible exact subR subR0 | refine subC (by repeat (first | with_reducible exact List.mem_cons_self | with_reducible refine List.mem_cons_of_mem _ ?_ | with_reducible refine List.mem_append_left _ ?_)) ?_ | with_reducible refine subA ?_ ?_ | with_reducible refine subT ?_ | with_reducible refine subL ?_)
  · intro p hp
    rcases List.mem_cons.mp hp with rfl | hp
    · nofun
    · exact hT1 p hp
  intro D xs ep2 T2 o4' h3 tk3 F3 N3 d4' hxs hT21 hT22 bT2
  clear F2 N2
  have hTA1 : ∀ p ∈ (lb, listOf bvs.toArray ep) :: T ++ T2, ∀ v, p.2.data ≠ .cell v := by
    intro p hp
    rcases List.mem_append.mp hp with hp | hp
    · rcases List.mem_cons.mp hp with rfl | hp
      · nofun
      · exact hT1 p hp
    · exact hT21 p hp
  have hTA2 : ∀ p ∈ (lb, listOf bvs.toArray ep) :: T ++ T2, p.2.cls ≠ .none := by
    intro p hp
    rcases List.mem_append.mp hp with hp | hp
    · rcases List.mem_cons.mp hp with rfl | hp
      · nofun
      · exact hT2 p hp
    · exact hT22 p hp
  have bTA : Bears ((lb, listOf bvs.toArray ep) :: T ++ T2) (fun h => WS h x (wsOf (lineS b e))) := bT.sub fun p hp => List.mem_append_left _ (.tail _ hp)
  have bTB : Bears ((lb, listOf bvs.toArray ep) :: T ++ T2) (fun h => ∀ j x, xs[j]? = some x → WS h x (wsOf (blS j))) := bT2.sub fun p hp => List.mem_append_right _ hp
  have bTC : Bears ((lb, listOf bvs.toArray ep) :: T ++ T2) (fun h => h.get? lb = some (listOf bvs.toArray ep)) := fun h hh => hh _ (List.mem_append_left _ (.head _))
  generalize (lb, listOf bvs.toArray ep) :: T ++ T2 = TA at *
  refine stD hA hu hdp hun Gb (T := TA) (by exact F3) (by exact N3) d1' d2' d3 d4' d5 d6 d7 d8 hTA1 hTA2 hxs bTA bTB (by simp [TriplesOk]) hg P.first ?_
  intro a1 vs1 pt1 s4 F4 N4 hok4 hg4 ho4 hv4
  clear F3 N3
  refine stE hA hu hdp hun Gb (pt := pt1) (ep := ep2) (D := D) (T := (a1, tupObj vs1) :: TA) (by exact F4) (newsSub N4 ?_) d1' d2' d3 d4' d5 d6 d7 d8 ?_ ?_ hxs (bTA.sub fun p hp => .tail _ hp) (bTB.sub fun p hp => .tail _ hp) hok4 hg4 P.nags ?_
  · repeat' (first | with_reducible exact subR0 | with_reducible exact subL subR0 | with_reducible exact subR subR0 | refine subC (by repeat (first | with_reducible exact List.mem_cons_self | with_reducible refine List.mem_cons_of_mem _ ?_ | with_reducible refine List.mem_append_left _ ?_)) ?_ | with_reducible refine subA ?_ ?_ | with_reducible refine subT ?_ | with_reducible refine subL ?_)
  · intro p hp
    rcases List.mem_cons.mp hp with rfl | hp
    · nofun
    · exact hTA1 p hp
  · intro p hp
    rcases List.mem_cons.mp hp with rfl | hp
    · nofun
    · exact hTA2 p hp
  intro D' as vss nn pt2 s5 F5 N5 hok5 hg5 ho5 has hvss hv5
  clear F4 N4
  have bNg := nagsBear (has.trans hvss.symm) hv5
  have hZ1 := zipNoCell (as := as) (vss := vss)
  generalize List.zipWith (fun a vs => (a, tupObj vs)) as vss = TZ at *
  -- what lies still from here on
  obtain ⟨RA, hRA⟩ : ∃ RA, RA = (123, tabO pt2) :: (D', listOf (as.map Value.ref).toArray nn) :: (D, listOf (xs.map Value.ref).toArray ep2) :: (a1, tupObj vs1) :: (TA ++ TZ) := ⟨_, rfl⟩
  have hRA1 : ∀ p ∈ RA, ∀ v, p.2.data ≠ .cell v := by
    subst hRA
    intro p hp
    simp only [List.mem_cons, List.mem_append] at hp
    rcases hp with hp | hp | hp | hp | hp | hp
    · rw [hp]; nofun
    · rw [hp]; nofun
    · rw [hp]; nofun
    · rw [hp]; nofun
    · exact hTA1 p hp
    · exact hZ1 p hp
  have b123 : Bears RA (fun h => h.get? 123 = some (tabO pt2)) := fun h hh => hh _ (by rw [hRA]; exact .head _)
  have bNag : Bears RA (fun h => NagIs h a1 0 (upto top) (lineS b e) ∧ h.IsList D' (as.map Value.ref).toArray ∧ ∀ (j : Nat) a, as[j]? = some a → NagIs h a j (lk j) (lineS b e)) := by
    subst hRA
    intro h hh
    refine ⟨hv4.at (hh _ (.tail _ (.tail _ (.tail _ (.head _))))), ⟨_, hh _ (.tail _ (.head _)), rfl, nn, rfl⟩, bNg h fun p hp => hh p (.tail _ (.tail _ (.tail _ (.tail _ (List.mem_append_right _ hp)))))⟩
  have bWs : Bears RA (fun h => WS h x (wsOf (lineS b e))) := bTA.sub fun p hp => by subst hRA; exact .tail _ (.tail _ (.tail _ (.tail _ (List.mem_append_left _ hp))))
  have bLb : Bears RA (fun h => h.get? lb = some (listOf bvs.toArray ep)) := bTC.sub fun p hp => by subst hRA; exact .tail _ (.tail _ (.tail _ (.tail _ (List.mem_append_left _ hp))))
  have N6 : News B L s5.heap ((L + 1, o1') :: (L + 2, o2') :: (L + 3, o3) :: (L + 4, o4') :: (L + 5, o5) :: (L + 6, o6) :: (L + 7, o7) :: (L + 8, o8) :: RA) := by
    subst hRA
    refine newsSub N5 ?_
    repeat' (first | with_reducible exact subR0 | with_reducible exact subL subR0 | with_reducible exact subR subR0 | refine subC (by repeat (first | with_reducible exact List.mem_cons_self | with_reducible refine List.mem_cons_of_mem _ ?_ | with_reducible refine List.mem_append_left _ ?_)) ?_ | with_reducible refine subA ?_ ?_ | with_reducible refine subT ?_ | with_reducible refine subL ?_)
  clear N5 hRA bTA bTB bTC bNg hTA1 hTA2 hZ1
  have hlT : (upto top).length = top := by simp [upto]
  have hs : PyData.strOk (lineS b e) = true := lineS_ok
  refine stF hA hu Gb (T := []) (R := (L + 1, o1') :: (L + 2, o2') :: (L + 3, o3) :: (L + 4, o4') :: (L + 5, o5) :: (L + 6, o6) :: (L + 7, o7) :: (L + 8, o8) :: RA) (by exact F5) N6 (fun h hh => (bNag h fun p hp => hh p (by repeat (first | exact hp | exact List.mem_append_left _ hp | refine List.mem_cons_of_mem _ ?_))).1) (.inr P.okt) hs ?_
  intro tt h6 tk6 F6 N7
  rw [hlT] at F6
  clear F5 N6
  refine stG hA hu Gb (R := (L + 1, o1') :: (L + 2, o2') :: (L + 3, o3) :: (L + 4, o4') :: (L + 6, o6) :: (L + 7, o7) :: (L + 8, o8) :: RA) (by exact F6) (newsSub N7 ?_) d5 (apartOf ?_) has P.ok hs (fun h hh => (bNag h fun p hp => hh p (by repeat (first | exact hp | exact List.mem_append_left _ hp | refine List.mem_cons_of_mem _ ?_))).2) ?_
  · repeat' (first | with_reducible exact subR0 | with_reducible exact subL subR0 | with_reducible exact subR subR0 | refine subC (by repeat (first | with_reducible exact List.mem_cons_self | with_reducible refine List.mem_cons_of_mem _ ?_ | with_reducible refine List.mem_append_left _ ?_)) ?_ | with_reducible refine subA ?_ ?_ | with_reducible refine subT ?_ | with_reducible refine subL ?_)
  · repeat (first | exact fun p hp => .inr (hRA1 p hp) | refine apC (neL rfl) ?_)
  intro o5' Dn ds T3 h7 tk7 F7 N8 d5' hT31 hT32 hds bDs
  clear F6 N7
  refine stH hA hu Gb (R := (L + 1, o1') :: (L + 2, o2') :: (L + 3, o3) :: (L + 4, o4') :: (L + 6, o6) :: (L + 7, o7) :: (L + 8, o8) :: RA ++ T3) (by exact F7) (by exact N8) d5' hds P.ok (by have := P.top2; omega) (bDs.sub fun p hp => List.mem_append_right _ hp) ?_
  intro Dc cvs nc h8 tk8 F8 N9 hI8
  clear F7 N8
  have hcl : (colsZ lk top).length = top := by simp [colsZ]
  have hRB1 : ∀ p ∈ RA ++ T3, ∀ v, p.2.data ≠ .cell v := by
    intro p hp
    rcases List.mem_append.mp hp with hp | hp
    · exact hRA1 p hp
    · exact hT31 p hp
  have b123 := b123.sub (T' := RA ++ T3) fun p hp => List.mem_append_left _ hp
  have bNag := bNag.sub (T' := RA ++ T3) fun p hp => List.mem_append_left _ hp
  have bWs := bWs.sub (T' := RA ++ T3) fun p hp => List.mem_append_left _ hp
  have bLb := bLb.sub (T' := RA ++ T3) fun p hp => List.mem_append_left _ hp
  have N10 : News B L h8 ((Dc, listOf cvs.toArray nc) :: (L + 6, o6) :: (L + 7, o7) :: (L + 1, o1') :: (L + 2, o2') :: (L + 3, o3) :: (L + 8, o8) :: (RA ++ T3)) := by
    refine newsSub N9 ?_
    repeat' (first | with_reducible exact subR0 | with_reducible exact subL subR0 | with_reducible exact subR subR0 | refine subC (by repeat (first | with_reducible exact List.mem_cons_self | with_reducible refine List.mem_cons_of_mem _ ?_ | with_reducible refine List.mem_append_left _ ?_)) ?_ | with_reducible refine subA ?_ ?_ | with_reducible refine subT ?_ | with_reducible refine subL ?_)
  generalize RA ++ T3 = RB at *
  clear N9
  refine stI hA hu Gb (R := (L + 1, o1') :: (L + 2, o2') :: (L + 3, o3) :: (L + 8, o8) :: RB) (by exact F8) (by exact N10) d6 d7 (apartOf ?_) (apartOf ?_) hI8 (by rw [hcl]; exact P.top1) (by rw [hcl]; exact P.top2) P.cols ?_
  · repeat (first | exact fun p hp => .inr (hRB1 p hp) | refine apC (neL rfl) ?_)
  · repeat (first | exact fun p hp => .inr (hRB1 p hp) | refine apC (neL rfl) ?_)
  intro Dr rvs n6 t7 o6' o7' h9 tk9 F9 N11 d6' d7' hI9
  rw [P.runs] at hI9
  rw [P.last] at d7'
  clear F8 N10
  refine stJ hA hu Gb (R := (Dr, listOf rvs.toArray n6) :: (Dc, listOf cvs.toArray nc) :: (L + 1, o1') :: (L + 2, o2') :: (L + 3, o3) :: (L + 8, o8) :: RB) (by exact F9) (newsSub N11 ?_) d6' d7' (fun h hh => ⟨bLb h fun p hp => hh p (by repeat (first | exact hp | exact List.mem_append_left _ hp | refine List.mem_cons_of_mem _ ?_)), hh _ (.head _)⟩) hI1 hI9 P.blen P.sort ?_
  · repeat' (first | with_reducible exact subR0 | with_reducible exact subL subR0 | with_reducible exact subR subR0 | refine subC (by repeat (first | with_reducible exact List.mem_cons_self | with_reducible refine List.mem_cons_of_mem _ ?_ | with_reducible refine List.mem_append_left _ ?_)) ?_ | with_reducible refine subA ?_ ?_ | with_reducible refine subT ?_ | with_reducible refine subL ?_)
  intro h10 tk10 F10 N12
  clear F9 N11
  refine stK hA hu Gb (R := (L + 6, o6') :: (L + 7, o7') :: (Dr, listOf rvs.toArray n6) :: (Dc, listOf cvs.toArray nc) :: (L + 2, o2') :: (L + 3, o3) :: (L + 8, o8) :: RB) (by exact F10) (newsSub N12 ?_) d1' (fun h hh => (bNag h fun p hp => hh p (by repeat (first | exact hp | exact List.mem_append_left _ hp | refine List.mem_cons_of_mem _ ?_))).1) (.inr P.okt) hs (by have := P.top2; omega) ?_
  · repeat' (first | with_reducible exact subR0 | with_reducible exact subL subR0 | with_reducible exact subR subR0 | refine subC (by repeat (first | with_reducible exact List.mem_cons_self | with_reducible refine List.mem_cons_of_mem _ ?_ | with_reducible refine List.mem_append_left _ ?_)) ?_ | with_reducible refine subA ?_ ?_ | with_reducible refine subT ?_ | with_reducible refine subL ?_)
  intro h11 tk11 F11 N13
  clear F10 N12
  rw [← hcl] at F11
  refine stL hA hu Gb (nn := nc) (nr := n6) (R := (L + 2, o2') :: RB) (lk := lk) (vc := .none) (as := as) (by exact F11) (newsSub N13 ?_) d1' d3 d6' d7' d8 (apartOf ?_) (apartOf ?_) (fun h hh => (bNag h fun p hp => hh p (by repeat (first | exact hp | exact List.mem_append_left _ hp | refine List.mem_cons_of_mem _ ?_))).2) has P.ok hs hI8 hI9 (by rw [hcl]; exact P.top2) (by have := P.rlen; omega) P.e0 (by have := P.e3; omega) P.cols P.due ?_
  · repeat' (first | with_reducible exact subR0 | with_reducible exact subL subR0 | with_reducible exact subR subR0 | refine subC (by repeat (first | with_reducible exact List.mem_cons_self | with_reducible refine List.mem_cons_of_mem _ ?_ | with_reducible refine List.mem_append_left _ ?_)) ?_ | with_reducible refine subA ?_ ?_ | with_reducible refine subT ?_ | with_reducible refine subL ?_)
  · repeat (first | exact fun p hp => .inr (hRB1 p hp) | refine apC (neL rfl) ?_)
  · repeat (first | exact fun p hp => .inr (hRB1 p hp) | refine apC (neL rfl) ?_)
  intro h12 tk12 F12 N14
  clear F11 N13
  refine stM hA hu Gb (R := (Dc, listOf cvs.toArray nc) :: (Dr, listOf rvs.toArray n6) :: (L + 1, o1') :: (L + 6, o6') :: (L + 7, o7') :: (L + 2, o2') :: RB) (lk := lk) (as := as) (by exact F12) (by exact N14) (fun h hh => bNag h fun p hp => hh p (by repeat (first | exact hp | exact List.mem_append_left _ hp | refine List.mem_cons_of_mem _ ?_))) has P.okt P.ok hs ?_
  intro h13 tk13 m13 F13 N15
  clear F12 N14
  refine stN hA hu Gb (R := (Dr, listOf rvs.toArray n6) :: RB) (by exact F13) (newsSub N15 ?_) d2' d6' d7' (fun h hh => ⟨bWs h fun p hp => hh p (by repeat (first | exact hp | exact List.mem_append_left _ hp | refine List.mem_cons_of_mem _ ?_)), hh _ (.head _)⟩) hI9 P.rlen P.r3 P.e0 P.e3 P.eq_ P.ind ?_
  · repeat' (first | with_reducible exact subR0 | with_reducible exact subL subR0 | with_reducible exact subR subR0 | refine subC (by repeat (first | with_reducible exact List.mem_cons_self | with_reducible refine List.mem_cons_of_mem _ ?_ | with_reducible refine List.mem_append_left _ ?_)) ?_ | with_reducible refine subA ?_ ?_ | with_reducible refine subT ?_ | with_reducible refine subL ?_)
  intro h14 tk14 m14 F14 N16
  exact hQ pt2 m14 _ F14 (b123 _ fun p hp => (N16 p (.tail _ hp)).1) hg5 (ho5.trans ho4)

end
example : True := by
  k_with_none
  (k_with "ktr_rel" => with_reducible (first | show wpAny _ _ (pyIter _) _ _ _ | show wpAny _ _ (call (Value.builtin "list.append") _) _ _ _ | show wpAny _ _ (setItem _ _ _) _ _ _))
  (k_with "ktr_unf" => repeat' (first | (k_unfold; (try dsimp only)) | ((fail_if_success ktr_rel); (first | walk1 | (dsimp only; walk1) | (leave1; (try dsimp only))))))
  (k_with "execs cons Assign cons" => with_reducible refine wpAny_execs_cons ?_)
  (k_with "kun_tup" => exact IsTup.keeps (by assumption) (Fr.keep (by k_asm)))
  (k_with "k_inst" => exact InstAt.keepsH (by assumption) (Fr.keep (by k_asm)))
  (k_with "call builtin:len" => (k_here; (with_reducible show wpAny _ _ (call (Value.builtin "len") [Value.ref _]) _ _ _); k_dflt (refine' PyProof.Rows.len_tuple ?k1 ?k2 ?_; (case k1 => kun_tup); (case k2 => first | assumption | decide); k_whole)))
  (k_with "call builtin:len" => (k_here; (with_reducible show wpAny _ _ (call (Value.builtin "len") [Value.ref _]) _ _ _); k_dflt (refine' PyProof.Rows.len_list ?k1 ?k2 ?_; (case k1 => exact stays_list (Fr.keep (by k_asm)) (by assumption)); (case k2 => first | assumption | decide); k_whole)))
  (k_with "subscriptTail" => (k_here; (with_reducible show wpAny _ _ (subscriptTail _ _ (Value.ref _) (Value.int _ _)) _ _ _); k_dflt (refine' item_tuple_ints ?t ?i ?a ?b ?c ?_; (case t => kun_tup); (case i => assumption); (case a => omega); (case b => omega); (case c => omega); k_whole); intro t9))
  (k_with "call ref" => (k_here; (show wpAny _ _ (call (Value.ref 79) [Value.ref _]) _ _ _); k_dflt (refine' longest ?hA ?hu ?G ?W ?_; (case hA => ktr_room); (case hu => ktr_units); (case G => exact Gd.up (by assumption) (Fr.keep (by k_asm))); (case W => exact WS.up (by assumption) (Fr.keep (by k_asm))); k_whole); intro t9 h9 tk9 hk9; (with_reducible rename Fr _ _ _ _ => F8); (with_reducible rename News _ _ _ _ => N8); (have F9 := frUp F8 hk9); (have N9 := newsUp N8 hk9); (try dsimp only)))
  (k_with "call ref" => (k_here; (show wpAny _ _ (call (Value.ref 86) [Value.ref _, Value.int _ _]) _ _ _); k_dflt (refine' indent ?hA ?hu ?G ?W ?h1 ?h2 ?_; (case hA => ktr_room); (case hu => ktr_units); (case G => exact Gd.up (by assumption) (Fr.keep (by k_asm))); (case W => exact WS.up (by assumption) (Fr.keep (by k_asm))); (case h1 => omega); (case h2 => omega); k_whole); intro t9 h9 tk9 hk9; (with_reducible rename Fr _ _ _ _ => F8); (with_reducible rename News _ _ _ _ => N8); (have F9 := frUp F8 hk9); (have N9 := newsUp N8 hk9); (try dsimp only)))
  (k_with "ktr_rel" => with_reducible (first | show wpAny _ _ (eval (Expr.ListComp _ _ _ _) _) _ _ _ | show wpAny _ _ (exec (Stmt.Assign [_] (Expr.ListComp _ _ _ _) _) _) _ _ _ | show wpAny _ _ (call (Value.builtin "str.join") _) _ _ _))
  (k_with "eval Name" => (k_here; (with_reducible show wpAny _ _ (eval (Expr.Name _ _) (compEnvC _ _ _ _)) _ _ _); k_dflt (first
  | (refine' cn_loc ?k1 ?k2 ?_ ?k3 ?k4 ?k5; (case k3 => rfl); (case k4 => rfl); (case k5 => decide); (case k1 => k_asm); (case k2 => exact rfl); k_whole)
  | (refine' cn_cell ?k1 ?k2 ?k3 ?_ ?k4 ?k5 ?k6; (case k4 => rfl); (case k5 => rfl); (case k6 => decide); (case k1 => k_asm); (case k2 => rfl); (case k3 => assumption); k_whole)
  | (refine' cn_glob ?k1 ?k2 ?k3 ?k4 ?_ ?k5 ?k6 ?k7 ?k8; (case k5 => rfl); (case k6 => rfl); (case k7 => rfl); (case k8 => decide); (case k1 => k_asm); (case k2 => k_asm); (case k3 => k_asm); (case k4 => k_is); k_whole)
  | (refine' cn_bi ?k1 ?k2 ?k3 ?k4 ?k5 ?k6 ?_ ?k7 ?k8 ?k9 ?k10 ?k11; (case k7 => rfl); (case k8 => rfl); (case k9 => rfl); (case k10 => rfl); (case k11 => decide); (case k1 => k_asm); (case k2 => k_asm); (case k3 => k_asm); (case k4 => k_is); (case k5 => boot_by_name); (case k6 => decide); k_whole))))
  (k_with "storeName" => (k_here; (with_reducible show wpAny _ _ (storeName (compEnvC _ _ _ _) _ _) _ _ _); k_dflt (refine' cn_store ?k1 ?k2 ?_ ?k3 ?k4; (case k3 => rfl); (case k4 => rfl); (case k1 => k_asm); (case k2 => k_asm); k_whole); intro h' F' N'; (try dsimp only)))
  (k_with "binaryOp Mult str int" => (k_here; (with_reducible show wpAny _ _ (binaryOp Operator.Mult (Value.str (Str.ofString " ") _) (Value.int _ _)) _ _ _); k_dflt (refine' mul_sp ?k1 ?k2 ?_; (case k1 => omega); (case k2 => omega); k_whole); intro t9 k9; (try dsimp only)))
  (k_with "ktr_rel" => with_reducible (first | show wpAny _ _ (call (Value.ref _) _) _ _ _))
  (k_with "subscriptTail" => (k_here; (with_reducible show wpAny _ _ (subscriptTail _ _ (Value.ref _) (Value.int _ _)) _ _ _); k_dflt (refine' item_tupleT ?t8 ?lo8 ?hi8 ?j8 ?x8 ?_; (case t8 => exact IsTup.keeps (by assumption) (Fr.keep (by k_asm))); (case lo8 => decide); (case hi8 => decide); (case j8 => exact rfl); (case x8 => exact rfl); k_whole)))
  (k_with "k_updF" => first | exact UpdF.head (by k_all) | exact UpdF.tail (by k_ne) (by k_updF))
  (k_with "storeName" => (k_here; (with_reducible show wpAny _ _ (storeName (envOfC _ _ _ _ _) _ _) _ _ _); k_dflt (refine' storeX_C ?sc1 ?sc2 ?sc3 ?sc4 ?sc5 ?_ ?sc6 ?sc7; (case sc6 => rfl); (case sc7 => rfl); (case sc1 => k_asm); (case sc2 => k_asm); (case sc3 => rfl); (case sc4 => k_updF); (case sc5 => assumption); k_whole); intro h' o' F' N' d'; (try dsimp only at N')))
  (k_with "eval Name" => (k_here; (with_reducible show wpAny _ _ (eval (Expr.Name _ _) (envOfC _ _ _ _ _)) _ _ _); k_dflt (refine' nameX_C ?nc1 ?nc2 ?nc3 ?nc4 ?_ ?nc5 ?nc6 ?nc7; (case nc5 => rfl); (case nc6 => rfl); (case nc7 => decide); (case nc1 => k_asm); (case nc2 => rfl); (case nc3 => k_mem); (case nc4 => assumption); k_whole)))
  (k_with "k_all" => first | exact trivial | exact apartT (by assumption) | exact And.intro (by k_all) (by k_all) | exact Or.inl (neN (by (try dsimp only); omega)) | exact Or.inr (by intro v e; cases e) | exact Or.inr (by assumption))
  (k_with "k_updF" => first | exact UpdA.head (by k_all) | exact UpdA.tail (by k_all) (by k_updF))
  (k_with "storeName" => (k_here; (with_reducible show wpAny _ _ (storeName (envOfC _ _ _ _ _) _ _) _ _ _); k_dflt (refine' storeA ?sa1 ?sa2 ?sa3 ?sa4 ?sa5 ?_ ?sa6 ?sa7; (case sa6 => rfl); (case sa7 => rfl); (case sa1 => k_asm); (case sa2 => k_asm); (case sa3 => rfl); (case sa4 => k_updF); (case sa5 => assumption); k_whole); intro h' o' F' N' d'; (try dsimp only at N')))
  (k_with "ktr_rel" => with_reducible (first | show wpAny _ _ (binaryOp Operator.Add (Value.str _ _) (Value.str _ _)) _ _ _ | show wpAny _ _ (execs (lawB _) _) _ _ _ | show wpAny _ _ (exec (Stmt.For _ _ _ _ _) _) _ _ _))
  (k_with "k_all" => first | assumption | exact trivial | exact apartT (by assumption) | exact And.intro (by k_all) (by k_all) | exact Or.inl (neN (by (try dsimp only); omega)) | exact Or.inr (by intro v e; cases e) | exact Or.inr (by assumption))
  (k_with "ktr_rel" => with_reducible (first | show wpAny _ _ (subscriptTail _ _ (Value.ref _) (Value.int _ _)) _ _ _))
  (k_with "ktr_rel" => with_reducible (first | show wpAny _ _ (call (Value.builtin "sorted") _) _ _ _ | show wpAny _ _ (call (Value.type "list") _) _ _ _ | show wpAny _ _ (compareOp CmpOp.NotEq (Value.ref _) (Value.ref _)) _ _ _ | show wpAny _ _ (subscriptTail _ _ (Value.ref _) (Value.ref _)) _ _ _))
  trivial
section
/-- entry of a def with cells, its new objects told in a ledger over an elder base -/
theorem enterCN {prog : Program} {w : World} {A : Around} {s : Shared} {K : Frag} {p : Program} {ls : List Str} {mg mb : Str → Option Value}
    {R : Result → Shared → Prop} {name qual : Str} {params : Arguments} {body : List Stmt} {scope : Scope} {dV kV doc pm cdv ct oc : Value} {an od : Option Addr} {osl : Array (Option Value)} {f : Addr} {args : Args} {binds : List (Str × Value)}
    {base : Heap} {news : List (Addr × Obj)}
    (kb : ∀ b o, base.get? b = some o → s.heap.get? b = some o) (hbs : base.objs.size ≤ s.heap.objs.size) (hnw : ∀ p ∈ news, s.heap.get? p.1 = some p.2 ∧ base.get? p.1 = none)
    (X : K.In base) (T : TopRead p ls mg mb base)
    (ho : K.lookup f = some ⟨oc, od, .func (fnOf name qual params body scope dV kV doc pm an cdv ct), osl⟩) (hcd : codeIn K cdv qual = true) (hroom : A.depth < recursionLimit)
    (hbind : BindsTo s (fnOf name qual params body scope dV kV doc pm an cdv ct) args binds) (hkind : (binds.all fun y => scope.names.lookup y.1 == some .local || scope.names.lookup y.1 == some .cell) = true)
    (hnd : ((cellsFrom 0 scope.names []).map (·.1)).Nodup)
    (h : ∀ L h₁ tk cells, Fr base L h₁ (bindL (envOfC qual scope L f cdv).kindOf binds fun _ => none) → News base L h₁ (cells ++ news) →
      CellsAre (bindC (envOfC qual scope L f cdv).kindOf binds fun _ => none) (cellsFrom (L + 1) scope.names []) cells →
      wpAny (model prog w) (A.deeper (envOfC qual scope L f cdv)) (execs body (envOfC qual scope L f cdv))
        (fun fl s' => R (.ok (.ret (match fl with | .ret v => v | _ => .none))) s') (fun _ _ => False) { s with heap := h₁, toks := tk })
    (hco : scope.isCoroutine = false := by rfl) (hgen : scope.isGenerator = false := by rfl) (hk : scope.kind = .function := by rfl) : codeAny (model prog w) A (.call (.ref f) args) R s := by
  have X' : K.In s.heap := fun a o e => kb _ _ (X a o e)
  refine codeAny_call_function hroom (X' _ _ ho) rfl hco hgen rfl (codeRec_of X' hcd) (hbind _ _ _ _ ?_)
  refine wpAny_newFunctionEnv_cells hk (kindsX hkind _) fun env' he s' x => ?_
  subst he
  refine ⟨(T.keeps kb).nolimit.keeps x.toInCall.keep, codeAny_func ?_⟩
  obtain ⟨h₁, tk, rfl, _⟩ := x.done
  obtain ⟨cells, NC, Y⟩ := Cl.news (h₀ := base) hbs fun n c hm => ⟨x.cell n c (lookup_of_mem_nodup (cellsFrom_names scope.names 0 (s.heap.objs.size + 1) [] [] rfl ▸ hnd) hm), x.above n c hm⟩
  refine wpAny_mono (h s.heap.objs.size h₁ tk cells ⟨x.toInCall.ns, fun b o e => x.toInCall.keep _ _ (kb _ _ e), hbs⟩ (fun p hp => ?_) Y) (fun _ _ x => x) (fun _ _ x => x.elim)
  rcases List.mem_append.mp hp with hp | hp
  · exact NC p hp
  · exact ⟨x.toInCall.keep _ _ (hnw p hp).1, Nat.ne_of_lt (Heap.lt_size (hnw p hp).1), (hnw p hp).2⟩
/-- a call of the law -/
theorem lawCode {w : World} {s : Shared} {mg mb : Str → Option Value} {R : Result → Shared → Prop} {sc : Addr} {vs : List Value} {ns : List Int}
    (G : Gd w mg mb s.heap) (Tt : Tb s.heap #[]) (hg : AllBare s.gens) (hl : s.heap.IsList sc vs.toArray) (hI : IntsAre vs ns) (hn : ns.length ≤ 63)
    (hR : ∀ pt s', (∀ b o, b ≠ 123 → s.heap.get? b = some o → s'.heap.get? b = some o) → s'.heap.get? 123 = some (tabO pt) → AllBare s'.gens → s'.os = s.os → R (.ok (.ret (.bool true))) s') :
    codeAny (model PG w) callerA (.call (.ref 177) { pos := [.ref sc] }) R s := by
  have Gh : Gd w mg mb (s.heap.hide 123) := G.ext Tt (hidExt _)
  have X := Gh.k
  have TT := Gh.t
  have hlh : (s.heap.hide 123).IsList sc vs.toArray := by
    obtain ⟨o, ho, hc, n, hd⟩ := hl
    refine ⟨o, hidCls Tt ho ?_, hc, n, hd⟩
    rw [hc]
    nofun
  refine' enterCN (base := s.heap.hide 123) (news := [(123, tabO #[])]) (binds := [(Str.ofString "script", .ref sc)]) (fun b o e => Heap.of_hide e) (Nat.le_of_eq (Heap.hide_size _ _)) ?b3 X TT ?k6 ?k7 ?k8 ?k9 ?kB ?kD ?_ ?c2 ?c3 ?c4
  case b3 =>
    intro p hp
    rw [List.mem_singleton.mp hp]
    exact ⟨Tt.at_, Heap.hide_self _ _⟩
  case k6 => k_is
  case k7 => k_is
  case k8 => decide
  case k9 => exact BindsTo.of_eq rfl
  case kB => exact rfl
  case kD => decide +kernel
  case c2 => exact rfl
  case c3 => exact rfl
  case c4 => exact rfl
  intro L h₁ tk cells F N Y
  obtain ⟨o8, o7, o6, o5, o4, o3, o2, o1, hE, d8, d7, d6, d5, d4, d3, d2, d1⟩ := PyProof.Rows.kc_eight Y
  subst hE
  clear Y
  have F' : Fr (s.heap.hide 123) L h₁ (fun y => kstB (fun _ => none) [(Str.ofString "script", .ref sc)] y) := F
  have N' : News (s.heap.hide 123) L h₁ [(L + 1, o1), (L + 2, o2), (L + 3, o3), (L + 4, o4), (L + 5, o5), (L + 6, o6), (L + 7, o7), (L + 8, o8), (123, tabO #[])] := by
    refine newsSub N ?_
    intro p hp
    simp only [List.mem_cons, List.not_mem_nil, or_false] at hp
    rcases hp with hp | hp | hp | hp | hp | hp | hp | hp | hp <;> rw [hp]
    · exact .tail _ (.tail _ (.tail _ (.tail _ (.tail _ (.tail _ (.tail _ (.head _)))))))
    · exact .tail _ (.tail _ (.tail _ (.tail _ (.tail _ (.tail _ (.head _))))))
    · exact .tail _ (.tail _ (.tail _ (.tail _ (.tail _ (.head _)))))
    · exact .tail _ (.tail _ (.tail _ (.tail _ (.head _))))
    · exact .tail _ (.tail _ (.tail _ (.head _)))
    · exact .tail _ (.tail _ (.head _))
    · exact .tail _ (.head _)
    · exact .head _
    · exact .tail _ (.tail _ (.tail _ (.tail _ (.tail _ (.tail _ (.tail _ (.tail _ (.head _))))))))
  have key := lawRun (dp := 302) (un := 7) (gd := some []) (s := { s with heap := h₁, toks := tk }) (fa := 177) (cd := .ref 176) (E := fun _ _ => False) (Q := fun fl s' => R (.ok (.ret (match fl with | .ret v => v | _ => .none))) s') (by decide) (by decide) (by decide) (by decide) Gh F' N' d1 d2 d3 d4 d5 d6 d7 d8 hg hlh hI hn ?_
  · exact key
  · intro pt m' s' Fz htab hgz hoz
    refine hR pt s' (fun b o hb e => Fz.keep b o ?_) htab hgz hoz
    rw [Heap.hide_ne _ hb]
    exact e

end
section
theorem tab123 {w : World} {mean : ExcName → Option Value} {mg mb : Str → Option Value} {h : Heap} (X : (Mine.hd0.heap_1 w.params).In h) (T : Top Mine.view loose mean mg mb h) : Tb h #[] := by
  have hm := mg_of X T.g (show nsIn (Mine.hd0.heap_1 w.params) mainGlobals (Str.ofString "format_witnesses") = some (some (.ref 128)) from rfl)
  obtain ⟨c, P, hc, hB⟩ := based_of_top T (name := Str.ofString "format_witnesses") rfl hm (X 128 _ rfl) rfl
  have e1 : c = 127 := by cases hc; rfl
  subst e1
  obtain ⟨o, vs, file, tf, flags, tg, inF, text, tt, op, h1, h2, h3, h4⟩ := hB.code
  have z := X 127 _ rfl
  rw [h1] at z
  cases z
  cases h2
  have e2 : P = 123 := by cases h3; rfl
  subst e2
  exact ⟨hB.tab.2, by simp [TriplesOk]⟩
theorem oldTab {w : World} {h h' : Heap} {pt : Array Value} (X : (Mine.hd0.heap_1 w.params).In h) (T : Tb h #[]) (hk : ∀ b o, b ≠ 123 → h.get? b = some o → h'.get? b = some o) (ht : h'.get? 123 = some (tabO pt)) : OldK h h' := by
  have t0 := (k127 X T).2
  refine (OldK.refl h).step_table (ps := #[]) (more := pt) t0 t0 ⟨?_, ?_⟩ (fun b o hb e => hk b o hb e) (by decide)
  · obtain ⟨o, vs, a, b⟩ := t0.1
    exact ⟨o, vs, hk _ _ (by decide) a, b⟩
  · rw [ht]
    simp

end
example : True := by
  k_with_none
  trivial

end
end Mine
open PySem PySem.W PySem.Calls PyProof.Rows PySem.Spec
set_option maxRecDepth 100000
set_option maxHeartbeats 8000000
namespace Mine
theorem walk {XP : (Str → Option Value) → Heap → Prop} {d : DefRec} {kwd : List (Str × Expr)} (hn : d.name = Str.ofString "law") :
    WalkO Mine.view [Str.ofString "Whitespace", Str.ofString "EXACT_TOKEN_TYPES"] XP (fun w h => (Mine.hd0.heap_1 w.params).In h) PySem.Challenge.rw_mj0217_01.row.toRowW d kwd fun f vs => call f vs := by
  intro w s₀ s₁ mg mb G KX fa o pm cd doc dV kV ho hd hcd hD hmg hg args vals as hpre hlay hrd hwl hlo
  rw [hn] at hmg
  refine Ground.open G ?_
  intro T B D TE TW
  clear hd hcd hD ho
  have e := (mg_of KX T.g (show nsIn (Mine.hd0.heap_1 w.params) mainGlobals (Str.ofString "law") = some (some (.ref 177)) from rfl)).symm.trans hmg
  cases e
  clear hmg
  wrow_args hpre hlay hrd hwl hlo
  refine enter_call ?_
  (with_reducible rename IntsAre _ _ => hI)
  (with_reducible rename Heap.IsList _ _ _ => hL)
  have GG : Mine.Gd w mg mb s₁.heap := ⟨KX, topRead_of T, bmod_of_top T⟩
  have Tt := Mine.tab123 KX T
  refine Mine.lawCode GG Tt (AllBare.of_eq hg) hL hI (by omega) ?_
  intro pt s' hk ht hb hos
  refine ⟨.inl ⟨.bool true, _, [], rfl, fun _ => rfl, .bool true, ?_, fun _ => ⟨.nil, nofun⟩⟩, Mine.oldTab KX Tt hk ht, hos, hb⟩
  exact postW_of (by wrow_shape) (by wtm_val) (by str_meet; first | done | w_fin)
-- names that keep the head from writing its constants anew
theorem hd.tw4517895374514979327 : True := trivial
theorem hd.tw10458740792067480800 : True := trivial
theorem hd.tw2887051446865420828 : True := trivial
theorem hd.tw5875755337557543767 : True := trivial
theorem hd.tw10727248033764811480 : True := trivial
theorem hd.tw1997569388931296116 : True := trivial
theorem hd.tw6291416237084387574 : True := trivial
theorem hd.tw16733963527221155113 : True := trivial
theorem hd.tw17177331786930743035 : True := trivial
theorem hd.tw11465210709893060100 : True := trivial
theorem hd.tw22551697357593593 : True := trivial
theorem hd.tw1292937080889116121 : True := trivial
theorem hd.tw1011335219593555734 : True := trivial
theorem hd.tw10601615944963115059 : True := trivial
theorem hd.tw9566141503761928105 : True := trivial
theorem hd.tw7289634563603522867 : True := trivial
theorem hd.tw17714235663813219645 : True := trivial
theorem hd.tw5961118342813265553 : True := trivial
theorem hd.tw11652457597714270106 : True := trivial
theorem hd.tw7754304195085646258 : True := trivial
theorem hd.tw4014540891139286612 : True := trivial
theorem hd.tw16064382804478563927 : True := trivial
theorem hd.tw2114630138375439770 : True := trivial
theorem hd.tw16194383521188589630 : True := trivial
theorem hd.tw189712035060473897 : True := trivial
theorem hd.tw13267510147771200024 : True := trivial
theorem hd.tw6164396464334811476 : True := trivial
theorem hd.tw2068664650715991707 : True := trivial
theorem hd.tw9719896912496429819 : True := trivial
theorem hd.tw4851647983119433812 : True := trivial
theorem hd.tw12271959270614036898 : True := trivial
theorem hd.tw6411954120941647267 : True := trivial
theorem hd.tw16828841361933241965 : True := trivial
theorem hd.tw15089522573102190283 : True := trivial
theorem hd.tw11032806212648032379 : True := trivial
theorem hd.tw16091413853298234908 : True := trivial
theorem hd.tw9421340871869096474 : True := trivial
theorem hd.tw1382963296337349011 : True := trivial
theorem hd.tw17183224562656869120 : True := trivial
theorem hd.tw5036846961687405229 : True := trivial
theorem hd.tw9170477692918782315 : True := trivial
theorem hd.tw728884934406724761 : True := trivial
theorem hd.tw17052436754867035129 : True := trivial
theorem hd.tw7296583596125217682 : True := trivial
theorem hd.tw26425463804135960 : True := trivial
theorem hd.tw13225837485096350037 : True := trivial
theorem hd.tw11953376511379268794 : True := trivial
theorem hd.tw16007149819294483003 : True := trivial
theorem hd.tw16477043939570097188 : True := trivial
theorem hd.tw4225703048834024713 : True := trivial
theorem hd.tw10170382586518783626 : True := trivial
theorem hd.tw15837987909243819085 : True := trivial
theorem hd.tw15759970867653108152 : True := trivial
theorem hd.tw8674980644004459391 : True := trivial
theorem hd.tw1413172679324656950 : True := trivial
theorem hd.tw4220365715202910465 : True := trivial
theorem hd.tw11157305236449619246 : True := trivial
theorem hd.tw6767318904944593275 : True := trivial
theorem hd.tw922143313871775805 : True := trivial
theorem hd.tw1600037746751723098 : True := trivial
theorem hd.tw17673860158736603733 : True := trivial
theorem hd.tw12472140842598129695 : True := trivial
theorem hd.tw6293948785866598258 : True := trivial
theorem hd.tw17062030032774818151 : True := trivial
theorem hd.tw12023040214023829324 : True := trivial
theorem hd.tw16945582573551092051 : True := trivial
theorem hd.tw13353348626548451038 : True := trivial
theorem hd.tw16345102440705955213 : True := trivial
theorem hd.tw17087091549796120035 : True := trivial
theorem hd.tw7752767780024739350 : True := trivial
theorem hd.tw11869253278440568778 : True := trivial
theorem hd.tw978945382295711627 : True := trivial
theorem hd.tw11917015161858427179 : True := trivial
theorem hd.tw8716120427605611371 : True := trivial
theorem hd.tw6820862383352777685 : True := trivial
theorem hd.tw16240987189780228909 : True := trivial
theorem hd.tw9673543361469618366 : True := trivial
theorem hd.tw11210553801493137410 : True := trivial
theorem hd.tw15411387601460861337 : True := trivial
theorem hd.tw8960069828448710407 : True := trivial
theorem hd.tw15368132723985388332 : True := trivial
theorem hd.tw16432713993328977331 : True := trivial
theorem hd.tw14302393025113927684 : True := trivial
theorem hd.tw13518370688599389936 : True := trivial
theorem hd.tw5130813555471234732 : True := trivial
theorem hd.tw17574625026820762457 : True := trivial
theorem hd.tw10403243965636340961 : True := trivial
theorem hd.tw18219297243305740317 : True := trivial
theorem hd.tw11631947586910100387 : True := trivial
theorem hd.tw1800889605409440832 : True := trivial
theorem hd.tw12936449754285732098 : True := trivial
theorem hd.tw7438314255253156184 : True := trivial
theorem hd.tw3759623122121258479 : True := trivial
theorem hd.tw17542962492245011380 : True := trivial
theorem hd.tw1760603350576429475 : True := trivial
theorem hd.tw16037735763661986305 : True := trivial
theorem hd.tw4702841417184801058 : True := trivial
theorem hd.tw3530705653197291679 : True := trivial
theorem hd.tw6555240042291301478 : True := trivial
theorem hd.tw17681399029576232318 : True := trivial
theorem hd.tw11162318198679636149 : True := trivial
theorem hd.tw3571134770919094901 : True := trivial
theorem hd.tw8457440626546761165 : True := trivial
theorem hd.tw13330244855972007585 : True := trivial
set_option Elab.async true
theorem hd : PySem.Challenge.rw_mj0217_01.Holds := by
  w_on; o_law; k_head; (case hw => w_witness2)
  exact walk rfl
end Mine
theorem PySem.Challenge.cw_mj0217_01_holds : PySem.Challenge.rw_mj0217_01.Holds := by
  exact Mine.hd
