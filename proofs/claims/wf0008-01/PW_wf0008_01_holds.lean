import PyProof.Rows.All
import Wide.All
import OpenK.AllK
import Wide.FinOn
import PySem.Challenge.RW_wf0008_01
open PySem PySem.W PySem.Calls PySem.Spec PyProof.Rows
set_option Elab.async false
set_option maxRecDepth 100000
set_option maxHeartbeats 8000000
namespace Mine
open_top hd for PySem.Challenge.rw_wf0008_01
section
noncomputable def Ct (w : World) (mean : ExcName → Option Value) (mg mb : Str → Option Value) (f : Addr) (dd uu : Nat) (vs : List Value) (small : List (Addr × Obj)) (Out : Value → List (Addr × Obj) → Prop) : Prop :=
  ∀ (dp un : Nat) (gd : Option (List Code)) (cn : Str) (cs : Scope) (a : Addr) (ccd : Value) (cl : List (Str × Addr)) (outer : List Env) (A₀ : Around) (base h₀ : Heap) (L : Addr) (m : Str → Option Value) (s : Shared) (Q E : Value → Shared → Prop),
    Below A₀ base outer h₀ → Fr h₀ L s.heap m → (Mine.hd.heap_39 w.params).In h₀ → News h₀ L s.heap small → Top Mine.hd.view_39 (looseW Mine.hd.view_39 [Str.ofString "bisect_right"]) mean mg mb h₀ → cs.kind = .function → dp + dd < recursionLimit → un + uu < cLine →
    (∀ r new h' tk', (∀ b o, b ∉ small.map (·.1) → s.heap.get? b = some o → h'.get? b = some o) → (∀ q ∈ new, h'.get? q.1 = some q.2 ∧ (q.1 ∈ small.map (·.1) ∨ s.heap.get? q.1 = none)) → Out r new → Q r { s with heap := h', toks := tk' }) →
    wpAny (model PySem.Challenge.rw_wf0008_01.row.prog w) (ktrTop dp un gd cn cs L a ccd cl outer) (call (.ref f) vs) Q E s

theorem use_ct {w : World} {mean : ExcName → Option Value} {mg mb : Str → Option Value} {f : Addr} {dd uu : Nat} {vs : List Value} {small rest news : List (Addr × Obj)} {Out : Value → List (Addr × Obj) → Prop}
    {dp un : Nat} {gd : Option (List Code)} {cn : Str} {cs : Scope} {a : Addr} {ccd : Value} {cl : List (Str × Addr)} {outer : List Env} {A₀ : Around} {base h₀ : Heap} {L : Addr} {m : Str → Option Value} {s : Shared} {Q E : Value → Shared → Prop}
    (C : Ct w mean mg mb f dd uu vs small Out)
    (B : Below A₀ base outer h₀) (F : Fr h₀ L s.heap m) (X : (Mine.hd.heap_39 w.params).In h₀) (N : News h₀ L s.heap news) (T : Top Mine.hd.view_39 (looseW Mine.hd.view_39 [Str.ofString "bisect_right"]) mean mg mb h₀) (hk : cs.kind = .function)
    (hd : dp + dd < recursionLimit) (hu : un + uu < cLine)
    (hs : ∀ p ∈ small, p ∈ news) (hr : ∀ p ∈ rest, p ∈ news) (hdis : ∀ p ∈ rest, ∀ q ∈ small, p.1 ≠ q.1)
    (k : ∀ r new h' tk', Fr h₀ L h' m → News h₀ L h' (new ++ rest) → (∀ q ∈ new, ∀ p ∈ rest, p.1 ≠ q.1) → Out r new → Q r { s with heap := h', toks := tk' }) :
    wpAny (model PySem.Challenge.rw_wf0008_01.row.prog w) (ktrTop dp un gd cn cs L a ccd cl outer) (call (.ref f) vs) Q E s := by
  refine C dp un gd cn cs a ccd cl outer A₀ base h₀ L m s Q E B F X (fun p hp => N p (hs p hp)) T hk hd hu fun r new h' tk' keep fresh out => ?_
  have hL : L ∉ small.map (·.1) := fun q => by
    obtain ⟨p, hp, e⟩ := List.mem_map.mp q
    exact (N p (hs p hp)).2.1 e
  have h0 : ∀ b o, h₀.get? b = some o → b ∉ small.map (·.1) := fun b o e q => by
    obtain ⟨p, hp, rfl⟩ := List.mem_map.mp q
    have := (N p (hs p hp)).2.2
    rw [this] at e; cases e
  obtain ⟨oL, es, ep, hL1, hLd, hLk, hLf⟩ := F.ns
  have F' : Fr h₀ L h' m := ⟨⟨oL, es, ep, keep _ _ hL hL1, hLd, hLk, hLf⟩, fun b o e => keep b o (h0 b o e) (F.keep b o e), F.above⟩
  have off : ∀ q ∈ new, ∀ p ∈ rest, p.1 ≠ q.1 := fun q hq p hp e => by
    rcases (fresh q hq).2 with h | h
    · obtain ⟨z, hz, e'⟩ := List.mem_map.mp h
      exact hdis p hp z hz (e.trans e'.symm)
    · rw [← e, (N p (hr p hp)).1] at h; cases h
  refine k r new h' tk' F' (fun p hp => ?_) off out
  rcases List.mem_append.mp hp with hp | hp
  · refine ⟨(fresh p hp).1, fun e => ?_, ?_⟩
    · rcases (fresh p hp).2 with h | h
      · exact hL (e ▸ h)
      · rw [e, hL1] at h; cases h
    · cases q : h₀.get? p.1 with
      | none => rfl
      | some o =>
        exfalso
        rcases (fresh p hp).2 with h | h
        · exact h0 _ _ q h
        · rw [F.keep _ _ q] at h; cases h
  · refine ⟨keep _ _ (fun q => ?_) (N p (hr p hp)).1, (N p (hr p hp)).2⟩
    obtain ⟨z, hz, e'⟩ := List.mem_map.mp q
    exact hdis p hp z hz e'.symm

noncomputable def LeaveG (g : Heap) (P : Value → List (Addr × Obj) → Prop) (s : Shared) (v : Value) (s' : Shared) : Prop :=
  ∃ L' m' new h' tk', s' = { s with heap := h', toks := tk' } ∧ Fr g L' h' m' ∧ News g L' h' new ∧ P v new
theorem LeaveG.intro {g : Heap} {P : Value → List (Addr × Obj) → Prop} {s : Shared} {v : Value} {L' : Addr} {m' : Str → Option Value} {new : List (Addr × Obj)} {h' : Heap} {tk' : Nat}
   (F : Fr g L' h' m') (N : News g L' h' new) (p : P v new) : LeaveG g P s v { s with heap := h', toks := tk' } := ⟨L', m', new, h', tk', rfl, F, N, p⟩

theorem enterF {w : World} {mean : ExcName → Option Value} {mg mb : Str → Option Value} {K : Frag} {A A₀ : Around} {s : Shared} {base h₀ : Heap} {env : Env} {outer : List Env} {L : Addr} {m : Str → Option Value} {small : List (Addr × Obj)} {Q E : Value → Shared → Prop}
    {p : Program} {loose : List Str}
    {name qual : Str} {params : Arguments} {body : List Stmt} {scope : Scope} {dV kV doc pm cdv ct oc : Value} {an od : Option Addr} {osl : Array (Option Value)} {f : Addr} {args : List Value} {binds : List (Str × Value)} {Out : Value → List (Addr × Obj) → Prop}
    (B : Below A₀ base outer h₀) (F : Fr h₀ L s.heap m) (X₀ : K.In h₀) (N : News h₀ L s.heap small) (T : Top p loose mean mg mb h₀) (hA : A.frames = some (env :: outer)) (hf : env.frame = some L) (hke : env.scope.kind = .function)
    (ho : K.lookup f = some ⟨oc, od, .func (fnOf name qual params body scope dV kV doc pm an cdv ct), osl⟩) (hcd : codeIn K cdv qual = true) (hroom : (A).depth < recursionLimit)
    (hbind : BindsTo s (fnOf name qual params body scope dV kV doc pm an cdv ct) ⟨args, []⟩ binds) (hloc : ∀ y ∈ binds, scope.names.lookup y.1 = some .local)
    (ret : ∀ r new h' tk', (∀ b o, b ∉ small.map (·.1) → s.heap.get? b = some o → h'.get? b = some o) → (∀ q ∈ new, h'.get? q.1 = some q.2 ∧ (q.1 ∈ small.map (·.1) ∨ s.heap.get? q.1 = none)) → Out r new → Q r { s with heap := h', toks := tk' })
    (h : ∀ g L' h₁, Fr g L' h₁ (fun y => binds.reverse.lookup y) → News g L' h₁ small → Below A base (env :: outer) g → K.In g → Top p loose mean mg mb g →
      wpAny (model PySem.Challenge.rw_wf0008_01.row.prog w) (A.deeper (envOf qual scope L' f cdv)) (execs body (envOf qual scope L' f cdv))
        (fun fl s' => LeaveG g Out s (match fl with | .ret v => v | _ => .none) s')
        (fun _ _ => False)
        { s with heap := h₁, toks := s.toks + binds.length })
    (hcell : ∀ x ∈ scope.names, x.2 ≠ .cell) (hco : scope.isCoroutine = false := by rfl) (hgen : scope.isGenerator = false := by rfl) (hk : scope.kind = .function := by rfl) :
    wpAny (model PySem.Challenge.rw_wf0008_01.row.prog w) A (call (.ref f) args) Q E s := by
  refine wpAny_call ?_
  obtain ⟨FG, BG, st, _⟩ := groundX (R := fun _ _ => True) B F N hA hf hke
  have X := X₀.keeps F.keep
  refine codeAny_call_def (fd := fnOf name qual params body scope dV kV doc pm an cdv ct) (body := body) (binds := binds) hroom (X _ _ ho) rfl (T.nolimit.keeps F.keep) (codeRec_of X hcd) rfl hbind hcell hloc (fun h₁ hns hk₁ => ?_) hco hgen hk
  refine wpAny_mono (h _ s.heap.objs.size h₁ ⟨hns, fun b o e => hk₁ b o (of_hideAll _ e), Nat.le_of_eq (hideAll_size _ _)⟩
    (fun p hp => ⟨hk₁ _ _ (N p hp).1, Nat.ne_of_lt (Heap.lt_size (N p hp).1), hideAll_none _ (List.mem_map_of_mem hp)⟩) BG (X₀.keeps st) (T.keeps st)) (fun fl s' hl => ?_) fun _ _ y => y.elim
  obtain ⟨L', m', new, h', tk', e, F', N', out⟩ := hl
  rw [e]
  refine ret _ new h' tk' (fun b o hb e => F'.keep b o (hideAll_get _ e hb)) (fun q hq => ⟨(N' q hq).1, ?_⟩) out
  by_cases hm : q.1 ∈ small.map (·.1)
  · exact .inl hm
  · refine .inr ?_
    cases e : s.heap.get? q.1 with
    | none => rfl
    | some o => have := (N' q hq).2.2; rw [hideAll_get _ e hm] at this; cases this
theorem Ct.mono {w : World} {mean : ExcName → Option Value} {mg mb : Str → Option Value} {f : Addr} {dd uu : Nat} {vs : List Value} {small : List (Addr × Obj)} {Out Out' : Value → List (Addr × Obj) → Prop}
    (C : Ct w mean mg mb f dd uu vs small Out) (h : ∀ r new, Out r new → Out' r new) : Ct w mean mg mb f dd uu vs small Out' :=
  fun dp un gd cn cs a ccd cl outer A₀ base h₀ L m s Q E B F X N T hk hd hu k => C dp un gd cn cs a ccd cl outer A₀ base h₀ L m s Q E B F X N T hk hd hu fun r new h' tk' a b o => k r new h' tk' a b (h _ _ o)
theorem use_ct_head {w : World} {mean : ExcName → Option Value} {mg mb : Str → Option Value} {f : Addr} {dd uu : Nat} {vs : List Value} {q : Addr × Obj} {rest : List (Addr × Obj)} {Out : Value → List (Addr × Obj) → Prop}
    {dp un : Nat} {gd : Option (List Code)} {cn : Str} {cs : Scope} {a : Addr} {ccd : Value} {cl : List (Str × Addr)} {outer : List Env} {A₀ : Around} {base h₀ : Heap} {L : Addr} {m : Str → Option Value} {s : Shared} {Q E : Value → Shared → Prop}
    (C : Ct w mean mg mb f dd uu vs [q] Out)
    (B : Below A₀ base outer h₀) (F : Fr h₀ L s.heap m) (X : (Mine.hd.heap_39 w.params).In h₀) (N : News h₀ L s.heap (q :: rest)) (T : Top Mine.hd.view_39 (looseW Mine.hd.view_39 [Str.ofString "bisect_right"]) mean mg mb h₀) (hk : cs.kind = .function)
    (hd : dp + dd < recursionLimit) (hu : un + uu < cLine) (hdis : ∀ p ∈ rest, p.1 ≠ q.1)
    (k : ∀ r new h' tk', Fr h₀ L h' m → News h₀ L h' (new ++ rest) → (∀ q ∈ new, ∀ p ∈ rest, p.1 ≠ q.1) → Out r new → Q r { s with heap := h', toks := tk' }) :
    wpAny (model PySem.Challenge.rw_wf0008_01.row.prog w) (ktrTop dp un gd cn cs L a ccd cl outer) (call (.ref f) vs) Q E s :=
  use_ct C B F X N T hk hd hu (fun p hp => by rw [List.mem_singleton.mp hp]; exact List.mem_cons_self) (fun p hp => List.mem_cons_of_mem _ hp) (fun p hp z hz => by rw [List.mem_singleton.mp hz]; exact hdis p hp) k
theorem use_ct_nil {w : World} {mean : ExcName → Option Value} {mg mb : Str → Option Value} {f : Addr} {dd uu : Nat} {vs : List Value} {small news : List (Addr × Obj)} {Out : Value → List (Addr × Obj) → Prop}
    {dp un : Nat} {gd : Option (List Code)} {cn : Str} {cs : Scope} {a : Addr} {ccd : Value} {cl : List (Str × Addr)} {outer : List Env} {A₀ : Around} {base h₀ : Heap} {L : Addr} {m : Str → Option Value} {s : Shared} {Q E : Value → Shared → Prop}
    (C : Ct w mean mg mb f dd uu vs small Out)
    (B : Below A₀ base outer h₀) (F : Fr h₀ L s.heap m) (X : (Mine.hd.heap_39 w.params).In h₀) (N : News h₀ L s.heap news) (T : Top Mine.hd.view_39 (looseW Mine.hd.view_39 [Str.ofString "bisect_right"]) mean mg mb h₀) (hk : cs.kind = .function)
    (hd : dp + dd < recursionLimit) (hu : un + uu < cLine) (hs : ∀ p ∈ small, p ∈ news)
    (k : ∀ r new h' tk', Fr h₀ L h' m → News h₀ L h' new → Out r new → Q r { s with heap := h', toks := tk' }) :
    wpAny (model PySem.Challenge.rw_wf0008_01.row.prog w) (ktrTop dp un gd cn cs L a ccd cl outer) (call (.ref f) vs) Q E s :=
  use_ct (rest := []) C B F X N T hk hd hu hs (fun p hp => nomatch hp) (fun p hp => nomatch hp) fun r new h' tk' F' N' _ o => k r new h' tk' F' (by rw [List.append_nil] at N'; exact N') o
noncomputable def Stop (P : Prop) : Prop := P
theorem while_stop {prog : Program} {w : World} {A : Around} {E : Value → Shared → Prop} {Q : Flow → Shared → Prop} {s : Shared} {env : Env} {h₀ : Heap} {L : Addr} {test : Expr} {body : List Stmt} {pos : Pos} {m : Str → Option Value} {news : List (Addr × Obj)} (J : Nat → (Str → Option Value) → List (Addr × Obj) → Prop) {n₀ : Nat}
    (F : Fr h₀ L s.heap m) (N : News h₀ L s.heap news) (hJ : J n₀ m news)
    (hE : PassesOwn (model prog w) A env E)
    (turn : Stop (∀ n m₁ news₁ h₁ tk₁, Fr h₀ L h₁ m₁ → News h₀ L h₁ news₁ → J n m₁ news₁ →
      wpAny (model prog w) A (isTrue test env (eval test env)) (fun b s₂ =>
        WhlIf b (wpAny (model prog w) A (execs body env) (WhileStep h₀ L s J n) E s₂) (Q .next s₂)) E { s with heap := h₁, toks := tk₁ })) :
    wpAny (model prog w) A (exec (.While test body [] pos) env) Q E s :=
  While_inv J F N hJ (fun n m₁ news₁ h₁ tk₁ F₁ N₁ J₁ => wpAny_mono (turn n m₁ news₁ h₁ tk₁ F₁ N₁ J₁) (fun b s₂ h => by unfold WhlIf at h; exact h) fun _ _ e => e) hE

/-- a table of the three counts -/
structure Tab (w : World) (T : Addr) (o : Obj) (ca cb cc : Int) : Prop where
  ex : ∃ t1 t2 t3 : Tok, o.IsDictOf (PySem.strKind PySem.Challenge.rw_wf0008_01.row.prog w) [(Str.ofString "a", .int ca t1), (Str.ofString "b", .int cb t2), (Str.ofString "c", .int cc t3)] ∧
    PyProof.V.FlatPairs PyData.str [(Str.ofString "a", Value.int ca t1), (Str.ofString "b", .int cb t2), (Str.ofString "c", .int cc t3)] [(.str (Str.ofString "a"), .int ca), (.str (Str.ofString "b"), .int cb), (.str (Str.ofString "c"), .int cc)]
  lo : (T == sysModules) = false
theorem str_ab : ¬ (Str.ofString "a" = Str.ofString "b") := by decide +kernel
theorem str_ac : ¬ (Str.ofString "a" = Str.ofString "c") := by decide +kernel
theorem str_bc : ¬ (Str.ofString "b" = Str.ofString "c") := by decide +kernel
theorem str_ba : ¬ (Str.ofString "b" = Str.ofString "a") := by decide +kernel
theorem str_ca : ¬ (Str.ofString "c" = Str.ofString "a") := by decide +kernel
theorem str_cb : ¬ (Str.ofString "c" = Str.ofString "b") := by decide +kernel
noncomputable abbrev st3 (x y z : Value) : List (Str × Value) := stored (stored (stored [] (Str.ofString "a") x) (Str.ofString "b") y) (Str.ofString "c") z
theorem st3_eq (x y z : Value) : st3 x y z = [(Str.ofString "a", x), (Str.ofString "b", y), (Str.ofString "c", z)] := by
  simp [stored, str_ab, str_ac, str_bc]
theorem stA (x y z x' : Value) : stored (st3 x y z) (Str.ofString "a") x' = [(Str.ofString "a", x'), (Str.ofString "b", y), (Str.ofString "c", z)] := by
  rw [st3_eq]; simp [stored, str_ba, str_ca]
theorem stB (x y z x' : Value) : stored (st3 x y z) (Str.ofString "b") x' = [(Str.ofString "a", x), (Str.ofString "b", x'), (Str.ofString "c", z)] := by
  rw [st3_eq]; simp [stored, str_ab, str_cb]
theorem stC (x y z x' : Value) : stored (st3 x y z) (Str.ofString "c") x' = [(Str.ofString "a", x), (Str.ofString "b", y), (Str.ofString "c", x')] := by
  rw [st3_eq]; simp [stored, str_ac, str_bc]
theorem flat3 (ca cb cc : Int) (t1 t2 t3 : Tok) : PyProof.V.FlatPairs PyData.str [(Str.ofString "a", Value.int ca t1), (Str.ofString "b", .int cb t2), (Str.ofString "c", .int cc t3)] [(.str (Str.ofString "a"), .int ca), (.str (Str.ofString "b"), .int cb), (.str (Str.ofString "c"), .int cc)] :=
  PyProof.V.FlatPairs.cons (PyProof.V.Flat.int _ _) (PyProof.V.FlatPairs.cons (PyProof.V.Flat.int _ _) (PyProof.V.FlatPairs.cons (PyProof.V.Flat.int _ _) PyProof.V.FlatPairs.nil))
theorem flat1 (x : Str) (i : Int) (t : Tok) : PyProof.V.FlatPairs PyData.str [(x, Value.int i t)] [(.str x, .int i)] := PyProof.V.FlatPairs.cons (PyProof.V.Flat.int _ _) PyProof.V.FlatPairs.nil
noncomputable def Keep (_T : Addr) (_o : Obj) : Prop := True
theorem keep_in {T : Addr} {o : Obj} {news : List (Addr × Obj)} (_ : Keep T o) (h : (T, o) ∈ news) : ∀ p ∈ [(T, o)], p ∈ news := fun p hp => by rw [List.mem_singleton.mp hp]; exact h
theorem tabA {w : World} {D : Addr} {o : Obj} {x y z x' : Int} {t1 t2 t3 t4 : Tok} (h : o.IsDictOf (PySem.strKind PySem.Challenge.rw_wf0008_01.row.prog w) (stored (st3 (.int x t1) (.int y t2) (.int z t3)) (Str.ofString "a") (.int x' t4))) (lo : (D == sysModules) = false) : Tab w D o x' y z :=
  ⟨⟨_, _, _, stA _ _ _ _ ▸ h, flat3 _ _ _ _ _ _⟩, lo⟩
theorem tabB {w : World} {D : Addr} {o : Obj} {x y z x' : Int} {t1 t2 t3 t4 : Tok} (h : o.IsDictOf (PySem.strKind PySem.Challenge.rw_wf0008_01.row.prog w) (stored (st3 (.int x t1) (.int y t2) (.int z t3)) (Str.ofString "b") (.int x' t4))) (lo : (D == sysModules) = false) : Tab w D o x x' z :=
  ⟨⟨_, _, _, stB _ _ _ _ ▸ h, flat3 _ _ _ _ _ _⟩, lo⟩
theorem tabC {w : World} {D : Addr} {o : Obj} {x y z x' : Int} {t1 t2 t3 t4 : Tok} (h : o.IsDictOf (PySem.strKind PySem.Challenge.rw_wf0008_01.row.prog w) (stored (st3 (.int x t1) (.int y t2) (.int z t3)) (Str.ofString "c") (.int x' t4))) (lo : (D == sysModules) = false) : Tab w D o x y x' :=
  ⟨⟨_, _, _, stC _ _ _ _ ▸ h, flat3 _ _ _ _ _ _⟩, lo⟩
theorem has_a (x y z : PyData) : (Spec.lookup (PyData.str (Str.ofString "a")) [(PyData.str (Str.ofString "a"), x), (PyData.str (Str.ofString "b"), y), (PyData.str (Str.ofString "c"), z)]).isSome = true := by with_unfolding_all rfl
theorem has_b (x y z : PyData) : (Spec.lookup (PyData.str (Str.ofString "b")) [(PyData.str (Str.ofString "a"), x), (PyData.str (Str.ofString "b"), y), (PyData.str (Str.ofString "c"), z)]).isSome = true := by with_unfolding_all rfl
theorem has_c (x y z : PyData) : (Spec.lookup (PyData.str (Str.ofString "c")) [(PyData.str (Str.ofString "a"), x), (PyData.str (Str.ofString "b"), y), (PyData.str (Str.ofString "c"), z)]).isSome = true := by with_unfolding_all rfl
theorem tf_false {b : Bool} (h : b = true) (h' : b = false) : False := by rw [h] at h'; cases h'
theorem upd1 {m : Str → Option Value} {x : Str} {v : Value} (h : m x = some v) : m = fun z => if z = x then some v else m z := by
  funext z
  by_cases e : z = x
  · rw [if_pos e, e, h]
  · rw [if_neg e]
theorem upd4 {m : Str → Option Value} {x1 x2 x3 x4 : Str} {v1 v2 v3 v4 : Value} (h1 : m x1 = some v1) (h2 : m x2 = some v2) (h3 : m x3 = some v3) (h4 : m x4 = some v4) :
    ∃ u : Str → Option Value, m = fun z => if z = x1 then some v1 else if z = x2 then some v2 else if z = x3 then some v3 else if z = x4 then some v4 else u z := by
  refine ⟨m, ?_⟩
  funext z
  by_cases e1 : z = x1
  · rw [if_pos e1, e1, h1]
  · rw [if_neg e1]
    by_cases e2 : z = x2
    · rw [if_pos e2, e2, h2]
    · rw [if_neg e2]
      by_cases e3 : z = x3
      · rw [if_pos e3, e3, h3]
      · rw [if_neg e3]
        by_cases e4 : z = x4
        · rw [if_pos e4, e4, h4]
        · rw [if_neg e4]
/-- the run that a number is read to, and what is kept of it -/
noncomputable def readF : Nat → Int → Int → Int → Int → Str → Str × Int
  | 0, _, _, _, x, r => (r, x)
  | n + 1, a, b, c, x, r =>
    if x.fmod (a + b + c) < a then readF n (a + -1) b c (x.fdiv (a + b + c) * a + x.fmod (a + b + c) - 0) (r ++ Str.ofString "a")
    else if x.fmod (a + b + c) < a + b then readF n a (b + -1) c (x.fdiv (a + b + c) * b + x.fmod (a + b + c) - a) (r ++ Str.ofString "b")
    else readF n a b (c + -1) (x.fdiv (a + b + c) * c + x.fmod (a + b + c) - (a + b)) (r ++ Str.ofString "c")
theorem lenStr (r : Str) (c : String) (h : (Str.ofString c).length = 1) : (r ++ Str.ofString c).length = r.length + 1 := by rw [Str.length_append, h]
theorem rdA {n : Nat} {a b c x : Int} {r : Str} (hn : n = (a + b + c).toNat) (_ha : 0 ≤ a) (hb : 0 ≤ b) (hc : 0 ≤ c) (hx : 0 ≤ x) (h0 : 0 < a + b + c) (hr : r.length + (a+b+c).toNat ≤ 4) (c1 : x.fmod (a + b + c) < a) :
    (a + -1 + b + c).toNat < n ∧ 0 ≤ a + -1 ∧ 0 ≤ x.fdiv (a + b + c) * a + x.fmod (a + b + c) - 0 ∧ (r ++ Str.ofString "a").length + (a + -1 + b + c).toNat ≤ 4 ∧
    readF (a + -1 + b + c).toNat (a + -1) b c (x.fdiv (a + b + c) * a + x.fmod (a + b + c) - 0) (r ++ Str.ofString "a") = readF n a b c x r := by
  have hm0 := Int.fmod_nonneg_of_pos x h0
  have hm1 := Int.fmod_lt_of_pos x h0
  have hq0 := Int.fdiv_nonneg hx (Int.le_of_lt h0)
  have hp := Int.mul_nonneg hq0 _ha
  obtain ⟨k, hk⟩ : ∃ k, n = k + 1 := ⟨n - 1, by omega⟩
  have ek : (a + -1 + b + c).toNat = k := by omega
  refine ⟨by omega, by omega, by omega, by rw [lenStr _ _ rfl]; omega, ?_⟩
  rw [ek, hk, readF, if_pos c1]
theorem rdB {n : Nat} {a b c x : Int} {r : Str} (hn : n = (a + b + c).toNat) (_ha : 0 ≤ a) (hb : 0 ≤ b) (hc : 0 ≤ c) (hx : 0 ≤ x) (h0 : 0 < a + b + c) (hr : r.length + (a+b+c).toNat ≤ 4) (c1 : ¬ x.fmod (a + b + c) < a) (c2 : x.fmod (a + b + c) < a + b) :
    (a + (b + -1) + c).toNat < n ∧ 0 ≤ b + -1 ∧ 0 ≤ x.fdiv (a + b + c) * b + x.fmod (a + b + c) - a ∧ (r ++ Str.ofString "b").length + (a + (b + -1) + c).toNat ≤ 4 ∧
    readF (a + (b + -1) + c).toNat a (b + -1) c (x.fdiv (a + b + c) * b + x.fmod (a + b + c) - a) (r ++ Str.ofString "b") = readF n a b c x r := by
  have hm0 := Int.fmod_nonneg_of_pos x h0
  have hm1 := Int.fmod_lt_of_pos x h0
  have hq0 := Int.fdiv_nonneg hx (Int.le_of_lt h0)
  have hp := Int.mul_nonneg hq0 hb
  obtain ⟨k, hk⟩ : ∃ k, n = k + 1 := ⟨n - 1, by omega⟩
  have ek : (a + (b + -1) + c).toNat = k := by omega
  refine ⟨by omega, by omega, by omega, by rw [lenStr _ _ rfl]; omega, ?_⟩
  rw [ek, hk, readF, if_neg c1, if_pos c2]
theorem rdC {n : Nat} {a b c x : Int} {r : Str} (hn : n = (a + b + c).toNat) (_ha : 0 ≤ a) (hb : 0 ≤ b) (hc : 0 ≤ c) (hx : 0 ≤ x) (h0 : 0 < a + b + c) (hr : r.length + (a+b+c).toNat ≤ 4) (c1 : ¬ x.fmod (a + b + c) < a) (c2 : ¬ x.fmod (a + b + c) < a + b) :
    (a + b + (c + -1)).toNat < n ∧ 0 ≤ c + -1 ∧ 0 ≤ x.fdiv (a + b + c) * c + x.fmod (a + b + c) - (a + b) ∧ (r ++ Str.ofString "c").length + (a + b + (c + -1)).toNat ≤ 4 ∧
    readF (a + b + (c + -1)).toNat a b (c + -1) (x.fdiv (a + b + c) * c + x.fmod (a + b + c) - (a + b)) (r ++ Str.ofString "c") = readF n a b c x r := by
  have hm0 := Int.fmod_nonneg_of_pos x h0
  have hm1 := Int.fmod_lt_of_pos x h0
  have hq0 := Int.fdiv_nonneg hx (Int.le_of_lt h0)
  have hp := Int.mul_nonneg hq0 hc
  obtain ⟨k, hk⟩ : ∃ k, n = k + 1 := ⟨n - 1, by omega⟩
  have ek : (a + b + (c + -1)).toNat = k := by omega
  refine ⟨by omega, by omega, by omega, by rw [lenStr _ _ rfl]; omega, ?_⟩
  rw [ek, hk, readF, if_neg c1, if_neg c2]
noncomputable abbrev tup2 (u v : Value) : Obj := { cls := .type "tuple", data := .seq #[u, v] }
theorem tup_eq {D : Addr} {r : Str} {x : Int} {t1 t2 : Tok} {q : Addr × Obj} {R : Str × Int} (e : (r, x) = R) : [(D, tup2 (.str r t1) (.int x t2)), q] = [(D, tup2 (.str R.1 t1) (.int R.2 t2)), q] := by subst e; rfl
theorem bis_ret {v : Value} {x y : Int} {t : Tok} (h : v = .int x t) (e : x = y) : v = .int y t := by subst e; exact h
end
section
local macro_rules | `(tactic| walk_at "own reset") => `(tactic| skip)
theorem resetC11 : True := by (k_with_none; w_top off; first | (walk1; done) | trivial)
local macro_rules | `(tactic| walk_at "own reset") => `(tactic| skip)
theorem resetC12 : True := by (w_top off; first | (walk1; done) | trivial)
end
section
local macro_rules | `(tactic| walk_at "ct_enter") => `(tactic| (refine' enterF ?k1 ?k2 ?k3 ?k4 ?k5 ?kA ?kF ?kK ?k6 ?k7 ?k8 ?k9 ?kB ?kR ?_ ?c5 ?c2 ?c3 ?c4; (case kA => exact rfl); (case kF => exact rfl); (case kK => assumption); (case k1 => k_asm); (case k2 => k_asm); (case k3 => k_asm); (case k4 => k_asm); (case k5 => k_asm); (case k6 => k_is); (case k7 => k_is); (case k8 => ktr_room); (case k9 => first | exact BindsTo.of_eq rfl | (refine' kp_binds ?kx ?ke; (case kx => k_in); (case ke => exact fun _ => rfl))); (case c5 => decide); (case kB => exact locs rfl); (case c2 => exact rfl); (case c3 => exact rfl); (case c4 => exact rfl); (case kR => assumption); k_whole; intro g' L' h' F' N' B' X' T'; (try dsimp only); (try k_fold)))
local macro_rules | `(tactic| walk_at "ct_leave") => `(tactic| (change LeaveG _ _ _ _ _; refine' LeaveG.intro ?F ?N ?P; (case P => walk_at "ct_out"); (case F => k_asm); (case N => exact cb_drop (by assumption) (by kcj_all))))
local macro_rules | `(tactic| walk_at "ct_use") => `(tactic| ((case B => k_asm); (case F => k_asm); (case X => k_asm); (case N => k_asm); (case T => k_asm); (case hk => first | exact rfl | assumption); (case hd => ktr_room); (case hu => ktr_units)))
local macro_rules | `(tactic| walk_at "mem_any") => `(tactic| first | assumption | exact List.mem_cons_self | (refine List.mem_cons_of_mem _ ?_; walk_at "mem_any"))
section
local macro_rules | `(tactic| walk_at "ct_out") => `(tactic| exact ⟨⟨_, by rw [Int.zero_add]⟩, rfl⟩)
theorem ct_count {w : World} {mean mg mb} {T : Addr} {o : Obj} {ca cb cc : Int} (hT : Tab w T o ca cb cc) :
   Ct w mean mg mb 44 1 8 [.ref T] [(T, o)] (fun r new => (∃ t, r = .int (ca + cb + cc) t) ∧ new = [(T, o)]) := by
  obtain ⟨⟨t1, t2, t3, hD, hF⟩, hlo⟩ := hT
  intro dp un gd cn cs a ccd cl outer A₀ base h₀ L m s Q E B F X N T hk hd hu hret
  k_dflt (walk_at "ct_enter")
  k_steps
  all_goals (walk_at "ct_leave")
end
end
section
local macro_rules | `(tactic| walk_at "own reset") => `(tactic| skip)
theorem resetC21 : True := by (k_with_none; w_top off; first | (walk1; done) | trivial)
local macro_rules | `(tactic| walk_at "own reset") => `(tactic| skip)
theorem resetC22 : True := by (w_top off; first | (walk1; done) | trivial)
end
section
local macro_rules | `(tactic| walk_at "ct_enter") => `(tactic| (refine' enterF ?k1 ?k2 ?k3 ?k4 ?k5 ?kA ?kF ?kK ?k6 ?k7 ?k8 ?k9 ?kB ?kR ?_ ?c5 ?c2 ?c3 ?c4; (case kA => exact rfl); (case kF => exact rfl); (case kK => assumption); (case k1 => k_asm); (case k2 => k_asm); (case k3 => k_asm); (case k4 => k_asm); (case k5 => k_asm); (case k6 => k_is); (case k7 => k_is); (case k8 => ktr_room); (case k9 => first | exact BindsTo.of_eq rfl | (refine' kp_binds ?kx ?ke; (case kx => k_in); (case ke => exact fun _ => rfl))); (case c5 => decide); (case kB => exact locs rfl); (case c2 => exact rfl); (case c3 => exact rfl); (case c4 => exact rfl); (case kR => assumption); k_whole; intro g' L' h' F' N' B' X' T'; (try dsimp only); (try k_fold)))
local macro_rules | `(tactic| walk_at "ct_leave") => `(tactic| (change LeaveG _ _ _ _ _; refine' LeaveG.intro ?F ?N ?P; (case P => walk_at "ct_out"); (case F => k_asm); (case N => exact cb_drop (by assumption) (by kcj_all))))
local macro_rules | `(tactic| walk_at "ct_use") => `(tactic| ((case B => k_asm); (case F => k_asm); (case X => k_asm); (case N => k_asm); (case T => k_asm); (case hk => first | exact rfl | assumption); (case hd => ktr_room); (case hu => ktr_units)))
local macro_rules | `(tactic| walk_at "mem_any") => `(tactic| first | assumption | exact List.mem_cons_self | (refine List.mem_cons_of_mem _ ?_; walk_at "mem_any"))
section
local macro_rules | `(tactic| walk_at "ct_out") => `(tactic| (refine' ⟨⟨_, bis_ret ?hh ?he⟩, rfl⟩; (case hh => exact rfl); (case he => (simp at *; first | omega | (split <;> first | omega | (split <;> omega))))))
theorem ct_bisect {w : World} {mean mg mb} {l : Addr} {p q x : Int} {t1 t2 t3 : Tok} {n : Nat} (hpq : p ≤ q) :
   Ct w mean mg mb 23 1 8 [.ref l, .int x t3] [(l, listOf #[.int p t1, .int q t2] n)] (fun r new => (∃ t, r = .int (if x < p then 0 else if x < q then 1 else 2) t) ∧ new = []) := by
  intro dp un gd cn cs a ccd cl outer A₀ base h₀ L m s Q E B F X N T hk hd hu hret
  k_dflt (walk_at "ct_enter")
  k_steps
  all_goals (walk_at "ct_leave")
end
theorem ct_bisect3 {w : World} {mean mg mb} {l : Addr} {p q x : Int} {t1 t2 t3 : Tok} {n : Nat} (hpq : p ≤ q) :
   Ct w mean mg mb 23 1 8 [.ref l, .int x t3] [(l, listOf #[.int p t1, .int q t2] n)] (fun r new => ((x < p ∧ ∃ t, r = .int 0 t) ∨ (¬ x < p ∧ x < q ∧ ∃ t, r = .int 1 t) ∨ (¬ x < p ∧ ¬ x < q ∧ ∃ t, r = .int 2 t)) ∧ new = []) :=
  (ct_bisect hpq).mono fun r new ⟨⟨t, e⟩, e'⟩ => ⟨by
    by_cases h1 : x < p
    · rw [if_pos h1] at e; exact .inl ⟨h1, t, e⟩
    · rw [if_neg h1] at e
      by_cases h2 : x < q
      · rw [if_pos h2] at e; exact .inr (.inl ⟨h1, h2, t, e⟩)
      · rw [if_neg h2] at e; exact .inr (.inr ⟨h1, h2, t, e⟩), e'⟩
end
section
local macro_rules | `(tactic| walk_at "own reset") => `(tactic| skip)
theorem resetC31 : True := by (k_with_none; w_top off; first | (walk1; done) | trivial)
local macro_rules | `(tactic| walk_at "own reset") => `(tactic| skip)
theorem resetC32 : True := by (w_top off; first | (walk1; done) | trivial)
end
section
local macro_rules | `(tactic| walk_at "ct_enter") => `(tactic| (refine' enterF ?k1 ?k2 ?k3 ?k4 ?k5 ?kA ?kF ?kK ?k6 ?k7 ?k8 ?k9 ?kB ?kR ?_ ?c5 ?c2 ?c3 ?c4; (case kA => exact rfl); (case kF => exact rfl); (case kK => assumption); (case k1 => k_asm); (case k2 => k_asm); (case k3 => k_asm); (case k4 => k_asm); (case k5 => k_asm); (case k6 => k_is); (case k7 => k_is); (case k8 => ktr_room); (case k9 => first | exact BindsTo.of_eq rfl | (refine' kp_binds ?kx ?ke; (case kx => k_in); (case ke => exact fun _ => rfl))); (case c5 => decide); (case kB => exact locs rfl); (case c2 => exact rfl); (case c3 => exact rfl); (case c4 => exact rfl); (case kR => assumption); k_whole; intro g' L' h' F' N' B' X' T'; (try dsimp only); (try k_fold)))
local macro_rules | `(tactic| walk_at "ct_leave") => `(tactic| (change LeaveG _ _ _ _ _; refine' LeaveG.intro ?F ?N ?P; (case P => walk_at "ct_out"); (case F => k_asm); (case N => exact cb_drop (by assumption) (by kcj_all))))
local macro_rules | `(tactic| walk_at "ct_use") => `(tactic| ((case B => k_asm); (case F => k_asm); (case X => k_asm); (case N => k_asm); (case T => k_asm); (case hk => first | exact rfl | assumption); (case hd => ktr_room); (case hu => ktr_units)))
local macro_rules | `(tactic| walk_at "mem_any") => `(tactic| first | assumption | exact List.mem_cons_self | (refine List.mem_cons_of_mem _ ?_; walk_at "mem_any"))
section
local macro_rules | `(tactic| walk_at "ct_out") => `(tactic| (refine' ⟨_, _, rfl, rfl, ?h4, tabA ?h1 ?h3⟩; (case h3 => assumption); (case h1 => assumption); (case h4 => omega)))
theorem ct_add_a {w : World} {mean mg mb} {T S : Addr} {o oS : Obj} {ca cb cc : Int} {t4 : Tok} (hTS : @LT.lt Nat _ T S) (hT : Tab w T o ca cb cc)
   (hD2 : oS.IsDictOf (PySem.strKind PySem.Challenge.rw_wf0008_01.row.prog w) [(Str.ofString "a", .int (-1) t4)])
   (hlo2 : (S == sysModules) = false) :
   Ct w mean mg mb 37 1 8 [.ref T, .ref S] [(T, o), (S, oS)] (fun r new => ∃ D o', r = .ref D ∧ new = [(D, o'), (T, o)] ∧ (@LT.lt Nat _ T D) ∧ Tab w D o' (ca + -1) cb cc) := by
  obtain ⟨⟨t1, t2, t3, hD, hF⟩, hlo⟩ := hT
  have hF2 := flat1 (Str.ofString "a") (-1) t4
  intro dp un gd cn cs a ccd cl outer A₀ base h₀ L m s Q E B F X N T hk hd hu hret
  k_dflt (walk_at "ct_enter")
  k_steps
  all_goals (first | exact (tf_false (has_a _ _ _) (by assumption)).elim | walk_at "ct_leave")
end
section
local macro_rules | `(tactic| walk_at "ct_out") => `(tactic| (refine' ⟨_, _, rfl, rfl, ?h4, tabB ?h1 ?h3⟩; (case h3 => assumption); (case h1 => assumption); (case h4 => omega)))
theorem ct_add_b {w : World} {mean mg mb} {T S : Addr} {o oS : Obj} {ca cb cc : Int} {t4 : Tok} (hTS : @LT.lt Nat _ T S) (hT : Tab w T o ca cb cc)
   (hD2 : oS.IsDictOf (PySem.strKind PySem.Challenge.rw_wf0008_01.row.prog w) [(Str.ofString "b", .int (-1) t4)])
   (hlo2 : (S == sysModules) = false) :
   Ct w mean mg mb 37 1 8 [.ref T, .ref S] [(T, o), (S, oS)] (fun r new => ∃ D o', r = .ref D ∧ new = [(D, o'), (T, o)] ∧ (@LT.lt Nat _ T D) ∧ Tab w D o' ca (cb + -1) cc) := by
  obtain ⟨⟨t1, t2, t3, hD, hF⟩, hlo⟩ := hT
  have hF2 := flat1 (Str.ofString "b") (-1) t4
  intro dp un gd cn cs a ccd cl outer A₀ base h₀ L m s Q E B F X N T hk hd hu hret
  k_dflt (walk_at "ct_enter")
  k_steps
  all_goals (first | exact (tf_false (has_b _ _ _) (by assumption)).elim | walk_at "ct_leave")
end
section
local macro_rules | `(tactic| walk_at "ct_out") => `(tactic| (refine' ⟨_, _, rfl, rfl, ?h4, tabC ?h1 ?h3⟩; (case h3 => assumption); (case h1 => assumption); (case h4 => omega)))
theorem ct_add_c {w : World} {mean mg mb} {T S : Addr} {o oS : Obj} {ca cb cc : Int} {t4 : Tok} (hTS : @LT.lt Nat _ T S) (hT : Tab w T o ca cb cc)
   (hD2 : oS.IsDictOf (PySem.strKind PySem.Challenge.rw_wf0008_01.row.prog w) [(Str.ofString "c", .int (-1) t4)])
   (hlo2 : (S == sysModules) = false) :
   Ct w mean mg mb 37 1 8 [.ref T, .ref S] [(T, o), (S, oS)] (fun r new => ∃ D o', r = .ref D ∧ new = [(D, o'), (T, o)] ∧ (@LT.lt Nat _ T D) ∧ Tab w D o' ca cb (cc + -1)) := by
  obtain ⟨⟨t1, t2, t3, hD, hF⟩, hlo⟩ := hT
  have hF2 := flat1 (Str.ofString "c") (-1) t4
  intro dp un gd cn cs a ccd cl outer A₀ base h₀ L m s Q E B F X N T hk hd hu hret
  k_dflt (walk_at "ct_enter")
  k_steps
  all_goals (first | exact (tf_false (has_c _ _ _) (by assumption)).elim | walk_at "ct_leave")
end
end
section
local macro_rules | `(tactic| walk_at "own reset") => `(tactic| skip)
theorem resetC51 : True := by (k_with_none; w_top off; first | (walk1; done) | trivial)
local macro_rules | `(tactic| walk_at "own reset") => `(tactic| skip)
theorem resetC52 : True := by (w_top off; first | (walk1; done) | trivial)
end
section
local macro_rules | `(tactic| walk_at "ct_enter") => `(tactic| (refine' enterF ?k1 ?k2 ?k3 ?k4 ?k5 ?kA ?kF ?kK ?k6 ?k7 ?k8 ?k9 ?kB ?kR ?_ ?c5 ?c2 ?c3 ?c4; (case kA => exact rfl); (case kF => exact rfl); (case kK => assumption); (case k1 => k_asm); (case k2 => k_asm); (case k3 => k_asm); (case k4 => k_asm); (case k5 => k_asm); (case k6 => k_is); (case k7 => k_is); (case k8 => ktr_room); (case k9 => first | exact BindsTo.of_eq rfl | (refine' kp_binds ?kx ?ke; (case kx => k_in); (case ke => exact fun _ => rfl))); (case c5 => decide); (case kB => exact locs rfl); (case c2 => exact rfl); (case c3 => exact rfl); (case c4 => exact rfl); (case kR => assumption); k_whole; intro g' L' h' F' N' B' X' T'; (try dsimp only); (try k_fold)))
local macro_rules | `(tactic| walk_at "ct_leave") => `(tactic| (change LeaveG _ _ _ _ _; refine' LeaveG.intro ?F ?N ?P; (case P => walk_at "ct_out"); (case F => k_asm); (case N => exact cb_drop (by assumption) (by kcj_all))))
local macro_rules | `(tactic| walk_at "ct_use") => `(tactic| ((case B => k_asm); (case F => k_asm); (case X => k_asm); (case N => k_asm); (case T => k_asm); (case hk => first | exact rfl | assumption); (case hd => ktr_room); (case hu => ktr_units)))
local macro_rules | `(tactic| walk_at "mem_any") => `(tactic| first | assumption | exact List.mem_cons_self | (refine List.mem_cons_of_mem _ ?_; walk_at "mem_any"))
section
local macro_rules | `(tactic| walk_at "call ref") => `(tactic| (k_here; (with_reducible show wpAny _ _ (call (Value.ref _) [Value.ref _]) _ _ _); refine' use_ct_nil (ct_count ?hT) ?B ?F ?X ?N ?T ?hk ?hd ?hu ?hs ?_; (case hT => assumption); walk_at "ct_use"; (case hs => k_allIn); k_whole; intro r new h' tk' F' N' out; obtain ⟨⟨t', e1⟩, e2⟩ := out; subst e1; subst e2; (try dsimp only)))
local macro_rules | `(tactic| walk_at "call ref") => `(tactic| (k_here; (with_reducible show wpAny _ _ (call (Value.ref _) [Value.ref _]) _ _ _); refine' use_ct_head (ct_count ?hT) ?B ?F ?X ?N ?T ?hk ?hd ?hu ?hdis ?_; (case hT => assumption); walk_at "ct_use"; (case hdis => k_all); k_whole; intro r new h' tk' F' N' off out; clear off; obtain ⟨⟨t', e1⟩, e2⟩ := out; subst e1; subst e2; (try simp only [List.nil_append, List.cons_append] at N'); (try dsimp only)))
local macro_rules | `(tactic| walk_at "call ref") => `(tactic| (k_here; (with_reducible show wpAny _ _ (call (Value.ref _) [Value.ref _, Value.int _ _]) _ _ _); refine' use_ct_head (ct_bisect3 ?hpq) ?B ?F ?X ?N ?T ?hk ?hd ?hu ?hdis ?_; walk_at "ct_use"; (case hpq => omega); (case hdis => k_all); k_whole; intro r new h' tk' F' N' off out; clear off; obtain ⟨out, e2⟩ := out; subst e2; rcases out with ⟨c1, t', e1⟩ | ⟨c1, c2, t', e1⟩ | ⟨c1, c2, t', e1⟩ <;> (subst e1; (try simp only [List.nil_append] at N'); (try dsimp only))))
local macro_rules | `(tactic| walk_at "call ref") => `(tactic| (k_here; (with_reducible show wpAny _ _ (call (Value.ref _) [Value.ref _, Value.ref _]) _ _ _); (first | refine' use_ct_nil (ct_add_a ?hTS ?hT ?hD2 ?hlo2) ?B ?F ?X ?N ?T ?hk ?hd ?hu ?hs ?_; (case hD2 => assumption) | refine' use_ct_nil (ct_add_b ?hTS ?hT ?hD2 ?hlo2) ?B ?F ?X ?N ?T ?hk ?hd ?hu ?hs ?_; (case hD2 => assumption) | refine' use_ct_nil (ct_add_c ?hTS ?hT ?hD2 ?hlo2) ?B ?F ?X ?N ?T ?hk ?hd ?hu ?hs ?_; (case hD2 => assumption)); (case hT => assumption); (case hlo2 => assumption); (case hTS => omega); walk_at "ct_use"; (case hs => k_allIn); k_whole; intro r new h' tk' F' N' out; obtain ⟨D, oD, e1, e2, lTD, hTD⟩ := out; subst e1; subst e2; (try dsimp only)))
local macro_rules | `(tactic| walk_at "call ref") => `(tactic| (k_here; (with_reducible show wpAny _ _ (call (Value.ref _) [Value.ref _, Value.ref _]) _ _ _); (first | refine' use_ct (ct_add_a ?hTS ?hT ?hD2 ?hlo2) ?B ?F ?X ?N ?T ?hk ?hd ?hu ?hs ?hr ?hdis ?_; (case hD2 => assumption) | refine' use_ct (ct_add_b ?hTS ?hT ?hD2 ?hlo2) ?B ?F ?X ?N ?T ?hk ?hd ?hu ?hs ?hr ?hdis ?_; (case hD2 => assumption) | refine' use_ct (ct_add_c ?hTS ?hT ?hD2 ?hlo2) ?B ?F ?X ?N ?T ?hk ?hd ?hu ?hs ?hr ?hdis ?_; (case hD2 => assumption)); (case hT => assumption); (case hlo2 => assumption); (case hTS => omega); walk_at "ct_use"; (case hs => k_allIn); (case hr => exact keep_in (by assumption) (by k_memK)); (case hdis => (refine List.forall_mem_cons.mpr ⟨?_, List.forall_mem_nil _⟩; refine List.forall_mem_cons.mpr ⟨neN ?_, List.forall_mem_cons.mpr ⟨neN ?_, List.forall_mem_nil _⟩⟩ <;> (dsimp only; omega))); k_whole; intro r new h' tk' F' N' off out; obtain ⟨D, oD, e1, e2, lTD, hTD⟩ := out; subst e1; subst e2; have lKD := off _ (List.Mem.head _) _ (List.Mem.head _); clear off; (try simp only [List.nil_append, List.cons_append] at N'); (try dsimp only at lKD); (try dsimp only)))
local macro_rules | `(tactic| walk_at "eval Dict") => `(tactic| (k_here; (with_reducible show wpAny _ _ (eval (Expr.Dict [some (Expr.Name _ _)] _ _) _) _ _ _); k_dflt (refine' kdn_eval (knd := PySem.strKind _ _) ?F ?N ?b ?a ?l ?e ?n ?_; (case F => k_asm); (case N => k_asm); (case b => exact Top.nolimit (by k_asm)); (case a => rfl); (case l => rfl); (case e => exact List.cons_ne_nil _ _); (case n => exact Nat.le_of_ble_eq_true rfl)); intro d' h' o' F' N' l1 lo' hd'; (try k_lt l1)))
local macro_rules | `(tactic| walk_at "WhlIf") => `(tactic| (first | (refine WhlIf.yes (by simp; omega) ?_) | (refine WhlIf.no (by simp; omega) ?_)))
noncomputable def ReadJ (w : World) (T : Addr) (o : Obj) (R : Str × Int) (n : Nat) (m₁ : Str → Option Value) (news₁ : List (Addr × Obj)) : Prop :=
  ∃ (T₁ : Addr) (o₁ : Obj) (a b c x : Int) (r : Str) (t1 t2 t3 : Tok), n = (a+b+c).toNat ∧ m₁ (Str.ofString "table") = some (.ref T₁) ∧ m₁ (Str.ofString "run") = some (.str r t1) ∧ m₁ (Str.ofString "number") = some (.int x t2) ∧ m₁ (Str.ofString "left") = some (.int (a+b+c) t3) ∧
    ((T₁ = T ∧ o₁ = o ∧ news₁ = [(T, o)]) ∨ ((@Ne Nat T T₁) ∧ news₁ = [(T₁, o₁), (T, o)])) ∧ Tab w T₁ o₁ a b c ∧ 0 ≤ a ∧ 0 ≤ b ∧ 0 ≤ c ∧ 0 ≤ x ∧ a + b + c ≤ 4 ∧ r.length + (a+b+c).toNat ≤ 4 ∧ readF n a b c x r = R
theorem ct_read {w : World} {mean mg mb} {T : Addr} {o : Obj} {ca cb cc x₀ : Int} {t₀ : Tok} (hT : Tab w T o ca cb cc) (ha : 0 ≤ ca) (hb : 0 ≤ cb) (hc : 0 ≤ cc) (h4 : ca + cb + cc ≤ 4) (hx : 0 ≤ x₀) :
   Ct w mean mg mb 65 3 40 [.ref T, .int x₀ t₀] [(T, o)] (fun v new => ∃ D t1 t2, v = .ref D ∧ new = [(D, tup2 (.str (readF (ca+cb+cc).toNat ca cb cc x₀ (Str.ofString "")).1 t1) (.int (readF (ca+cb+cc).toNat ca cb cc x₀ (Str.ofString "")).2 t2)), (T, o)]) := by
  intro dp un gd cn cs a ccd cl outer A₀ base h₀ L m s Q E B F X N TT hk hd hu hret
  k_dflt (walk_at "ct_enter")
  k_with "exec While Compare cons nil" => (rename Fr _ _ _ _ => wF; rename News _ _ _ _ => wN0; (have wN := cb_drop (news := [(_, o)]) wN0 (by kcj_all)); refine' while_stop (ReadJ w T o (readF (ca+cb+cc).toNat ca cb cc x₀ (Str.ofString ""))) (n₀ := (ca+cb+cc).toNat) wF wN ?wJ ?wE ?wT; (case wE => first | passes_own | with_unfolding_all passes_own); (case wJ => exact ⟨_, _, ca, cb, cc, x₀, _, _, _, _, rfl, by with_unfolding_all rfl, by with_unfolding_all rfl, by with_unfolding_all rfl, by with_unfolding_all rfl, .inl ⟨rfl, rfl, rfl⟩, hT, ha, hb, hc, hx, h4, by (have e : (Str.ofString "").length = 0 := rfl); omega, rfl⟩))
  k_steps
  unfold Stop
  rintro n m₁ news₁ h₁ tk₁ F₁ N₁ ⟨T₁, o₁, a, b, c, x, r, t1, t2, t3, hn, e1, e2, e3, e4, e5, hT₁, ha₁, hb₁, hc₁, hx₁, h41, hr, hread⟩
  obtain ⟨u, hu⟩ := upd4 e1 e2 e3 e4
  clear e1 e2 e3 e4
  subst hu
  obtain ⟨⟨tk1, tk2, tk3, hD₁, hF₁⟩, hlo₁⟩ := id hT₁
  have hm0 : 0 < a + b + c → 0 ≤ x.fmod (a + b + c) := fun h => Int.fmod_nonneg_of_pos _ h
  have hm1 : 0 < a + b + c → x.fmod (a + b + c) < a + b + c := fun h => Int.fmod_lt_of_pos _ h
  have hq0 : 0 < a + b + c → 0 ≤ x.fdiv (a + b + c) := fun h => Int.fdiv_nonneg hx₁ (by omega)
  clear hT
  rcases e5 with ⟨e5, e6, e7⟩ | ⟨e5, e7⟩
  · subst e5 e6 e7
    by_cases h0 : 0 < a + b + c
    · k_steps
      · (obtain ⟨h1, h2, h3, h5, h6⟩ := rdA hn ha₁ hb₁ hc₁ hx₁ h0 hr (by assumption); (try rename (@Ne Nat T _) => hNe); (try rename (@LT.lt Nat _ T _) => hLt); refine WhileStep.intro (by k_asm) (cb_drop (by assumption) (by kcj_all)) h1 ⟨_, _, (a + -1), b, c, _, _, _, _, _, rfl, by with_unfolding_all rfl, by with_unfolding_all rfl, by with_unfolding_all rfl, by with_unfolding_all rfl, .inr ⟨by first | assumption | omega, rfl⟩, by assumption, h2, hb₁, hc₁, h3, by omega, h5, h6.trans hread⟩)
      · (obtain ⟨h1, h2, h3, h5, h6⟩ := rdB hn ha₁ hb₁ hc₁ hx₁ h0 hr (by assumption) (by assumption); (try rename (@Ne Nat T _) => hNe); (try rename (@LT.lt Nat _ T _) => hLt); refine WhileStep.intro (by k_asm) (cb_drop (by assumption) (by kcj_all)) h1 ⟨_, _, a, (b + -1), c, _, _, _, _, _, rfl, by with_unfolding_all rfl, by with_unfolding_all rfl, by with_unfolding_all rfl, by with_unfolding_all rfl, .inr ⟨by first | assumption | omega, rfl⟩, by assumption, ha₁, h2, hc₁, h3, by omega, h5, h6.trans hread⟩)
      · (obtain ⟨h1, h2, h3, h5, h6⟩ := rdC hn ha₁ hb₁ hc₁ hx₁ h0 hr (by assumption) (by assumption); (try rename (@Ne Nat T _) => hNe); (try rename (@LT.lt Nat _ T _) => hLt); refine WhileStep.intro (by k_asm) (cb_drop (by assumption) (by kcj_all)) h1 ⟨_, _, a, b, (c + -1), _, _, _, _, _, rfl, by with_unfolding_all rfl, by with_unfolding_all rfl, by with_unfolding_all rfl, by with_unfolding_all rfl, .inr ⟨by first | assumption | omega, rfl⟩, by assumption, ha₁, hb₁, h2, h3, by omega, h5, h6.trans hread⟩)
    · have hn0 : n = 0 := by omega
      have hread' : (r, x) = readF (ca+cb+cc).toNat ca cb cc x₀ (Str.ofString "") := by rw [← hread, hn0, readF]
      k_steps
      change LeaveG _ _ _ _ _
      exact LeaveG.intro (new := [(_, tup2 (.str r t1) (.int x t2)), (T₁, o₁)]) (by k_asm) (cb_drop (by assumption) (by kcj_all)) ⟨_, t1, t2, rfl, tup_eq hread'⟩
  · subst e7
    have hK : Keep T o := trivial
    by_cases h0 : 0 < a + b + c
    · k_steps
      · (obtain ⟨h1, h2, h3, h5, h6⟩ := rdA hn ha₁ hb₁ hc₁ hx₁ h0 hr (by assumption); (try rename (@Ne Nat T _) => hNe); (try rename (@LT.lt Nat _ T _) => hLt); refine WhileStep.intro (by k_asm) (cb_drop (by assumption) (by kcj_all)) h1 ⟨_, _, (a + -1), b, c, _, _, _, _, _, rfl, by with_unfolding_all rfl, by with_unfolding_all rfl, by with_unfolding_all rfl, by with_unfolding_all rfl, .inr ⟨by first | assumption | omega, rfl⟩, by assumption, h2, hb₁, hc₁, h3, by omega, h5, h6.trans hread⟩)
      · (obtain ⟨h1, h2, h3, h5, h6⟩ := rdB hn ha₁ hb₁ hc₁ hx₁ h0 hr (by assumption) (by assumption); (try rename (@Ne Nat T _) => hNe); (try rename (@LT.lt Nat _ T _) => hLt); refine WhileStep.intro (by k_asm) (cb_drop (by assumption) (by kcj_all)) h1 ⟨_, _, a, (b + -1), c, _, _, _, _, _, rfl, by with_unfolding_all rfl, by with_unfolding_all rfl, by with_unfolding_all rfl, by with_unfolding_all rfl, .inr ⟨by first | assumption | omega, rfl⟩, by assumption, ha₁, h2, hc₁, h3, by omega, h5, h6.trans hread⟩)
      · (obtain ⟨h1, h2, h3, h5, h6⟩ := rdC hn ha₁ hb₁ hc₁ hx₁ h0 hr (by assumption) (by assumption); (try rename (@Ne Nat T _) => hNe); (try rename (@LT.lt Nat _ T _) => hLt); refine WhileStep.intro (by k_asm) (cb_drop (by assumption) (by kcj_all)) h1 ⟨_, _, a, b, (c + -1), _, _, _, _, _, rfl, by with_unfolding_all rfl, by with_unfolding_all rfl, by with_unfolding_all rfl, by with_unfolding_all rfl, .inr ⟨by first | assumption | omega, rfl⟩, by assumption, ha₁, hb₁, h2, h3, by omega, h5, h6.trans hread⟩)
    · have hn0 : n = 0 := by omega
      have hread' : (r, x) = readF (ca+cb+cc).toNat ca cb cc x₀ (Str.ofString "") := by rw [← hread, hn0, readF]
      k_steps
      change LeaveG _ _ _ _ _
      exact LeaveG.intro (new := [(_, tup2 (.str r t1) (.int x t2)), (T, o)]) (by k_asm) (cb_drop (by assumption) (by kcj_all)) ⟨_, t1, t2, rfl, tup_eq hread'⟩
end
end
section
local macro_rules | `(tactic| walk_at "own reset") => `(tactic| skip)
theorem resetP11 : True := by (k_with_none; w_top off; first | (walk1; done) | trivial)
local macro_rules | `(tactic| walk_at "own reset") => `(tactic| skip)
theorem resetP12 : True := by (w_top off; first | (walk1; done) | trivial)
end
section
local macro_rules | `(tactic| walk_at "ct_enter") => `(tactic| (refine' enterF ?k1 ?k2 ?k3 ?k4 ?k5 ?kA ?kF ?kK ?k6 ?k7 ?k8 ?k9 ?kB ?kR ?_ ?c5 ?c2 ?c3 ?c4; (case kA => exact rfl); (case kF => exact rfl); (case kK => assumption); (case k1 => k_asm); (case k2 => k_asm); (case k3 => k_asm); (case k4 => k_asm); (case k5 => k_asm); (case k6 => k_is); (case k7 => k_is); (case k8 => ktr_room); (case k9 => first | exact BindsTo.of_eq rfl | (refine' kp_binds ?kx ?ke; (case kx => k_in); (case ke => exact fun _ => rfl))); (case c5 => decide); (case kB => exact locs rfl); (case c2 => exact rfl); (case c3 => exact rfl); (case c4 => exact rfl); (case kR => assumption); k_whole; intro g' L' h' F' N' B' X' T'; (try dsimp only); (try k_fold)))
local macro_rules | `(tactic| walk_at "ct_leave") => `(tactic| (change LeaveG _ _ _ _ _; refine' LeaveG.intro ?F ?N ?P; (case P => walk_at "ct_out"); (case F => k_asm); (case N => exact cb_drop (by assumption) (by kcj_all))))
local macro_rules | `(tactic| walk_at "ct_use") => `(tactic| ((case B => k_asm); (case F => k_asm); (case X => k_asm); (case N => k_asm); (case T => k_asm); (case hk => first | exact rfl | assumption); (case hd => ktr_room); (case hu => ktr_units)))
local macro_rules | `(tactic| walk_at "mem_any") => `(tactic| first | assumption | exact List.mem_cons_self | (refine List.mem_cons_of_mem _ ?_; walk_at "mem_any"))
/-- the octets of a number but its last -/
noncomputable def hiO (n : Nat) : List Int := if h : n = 0 then [] else hiO (n / 64) ++ [64 + ((n % 64 : Nat) : Int)]
noncomputable def octs (n : Nat) : List Int := hiO (n / 64) ++ [((n % 64 : Nat) : Int)]
noncomputable def dec6 (l : List Int) : Int := l.foldl (fun v o => v * 64 + o % 64) 0
theorem hiO_zero : hiO 0 = [] := by rw [hiO]; rfl
theorem hiO_pos {n : Nat} (h : n ≠ 0) : hiO n = hiO (n / 64) ++ [64 + ((n % 64 : Nat) : Int)] := by rw [hiO, dif_neg h]
theorem dec6_snoc (l : List Int) (o : Int) : dec6 (l ++ [o]) = dec6 l * 64 + o % 64 := by simp [dec6]
theorem dec6_hi (n : Nat) : dec6 (hiO n) = n := by
  induction n using Nat.strongRecOn with
  | _ n ih =>
    by_cases h : n = 0
    · subst h; rw [hiO_zero]; rfl
    · rw [hiO_pos h, dec6_snoc, ih (n / 64) (by omega)]
      omega
theorem dec6_octs (n : Nat) : dec6 (octs n) = n := by
  rw [octs, dec6_snoc, dec6_hi]
  omega
theorem hiO_big (n : Nat) : ∀ o ∈ hiO n, 64 ≤ o ∧ o < 128 := by
  induction n using Nat.strongRecOn with
  | _ n ih =>
    by_cases h : n = 0
    · subst h; rw [hiO_zero]; intro o ho; cases ho
    · rw [hiO_pos h]
      intro o ho
      rcases List.mem_append.mp ho with ho | ho
      · exact ih (n / 64) (by omega) o ho
      · rw [List.mem_singleton.mp ho]; omega
theorem octs_split {n : Nat} {pre post : List Int} {b : Int} (h : octs n = pre ++ b :: post) : 0 ≤ b ∧ b < 128 ∧ (64 ≤ b ↔ post ≠ []) := by
  unfold octs at h
  by_cases hp : post = []
  · subst hp
    have := List.append_inj_right' h rfl
    rw [List.cons.injEq] at this
    rw [← this.1]
    refine ⟨by omega, by omega, ?_⟩
    simp
    omega
  · obtain ⟨q, z, rfl⟩ : ∃ q z, post = q ++ [z] := ⟨post.dropLast, post.getLast hp, (List.dropLast_concat_getLast hp).symm⟩
    have e : hiO (n / 64) ++ [((n % 64 : Nat) : Int)] = (pre ++ b :: q) ++ [z] := by rw [h]; simp
    have e2 := List.append_inj_left' e rfl
    have hb := hiO_big (n / 64) b (by rw [e2]; simp)
    exact ⟨by omega, hb.2, fun _ => hp, fun _ => hb.1⟩
theorem and64 (b : Int) (h0 : 0 ≤ b) (h1 : b < 128) : (Builtin.bitAnd b 64 ≠ 0) ↔ 64 ≤ b := by
  obtain ⟨k, rfl⟩ : ∃ k : Nat, b = k := ⟨b.toNat, by omega⟩
  have hk : k < 128 := by omega
  have all : ∀ k : Fin 128, (Builtin.bitAnd ((k.val : Nat) : Int) 64 ≠ 0) ↔ (64 : Int) ≤ ((k.val : Nat) : Int) := by decide +kernel
  exact all ⟨k, hk⟩
theorem or6 (v r : Int) (hv : 0 ≤ v) (h0 : 0 ≤ r) (h1 : r < 64) : Builtin.bitOr (v * 64) r = v * 64 + r := by
  obtain ⟨k, rfl⟩ : ∃ k : Nat, v = k := ⟨v.toNat, by omega⟩
  obtain ⟨j, rfl⟩ : ∃ j : Nat, r = j := ⟨r.toNat, by omega⟩
  have hj : j < 2 ^ 6 := by omega
  have e := Nat.two_pow_add_eq_or_of_lt hj k
  rw [PyProof.Rows.bitOr_and]
  have e2 : Builtin.bitAnd ((k : Int) * 64) (j : Int) = ((k * 64 &&& j : Nat) : Int) := by
    unfold Builtin.bitAnd
    have a1 : decide (0 ≤ (k : Int) * 64) = true := by simp; omega
    have a2 : decide (0 ≤ (j : Int)) = true := by simp
    rw [a1, a2]
    have t1 : ((k : Int) * 64).toNat = k * 64 := by omega
    rw [t1, Int.toNat_natCast]
  rw [e2]
  have e3 : k * 64 &&& j = 0 := by
    have := PyProof.Rows.nat_or_add_and (k * 64) j
    have e4 : k * 64 ||| j = k * 64 + j := by rw [Nat.mul_comm k 64]; exact e.symm
    omega
  rw [e3]; simp
theorem and63 (b : Int) : Builtin.bitAnd b 63 = b % 64 := PyProof.Rows.bitAnd_m6 b
end
section
local macro_rules | `(tactic| walk_at "own reset") => `(tactic| skip)
theorem resetC4a1 : True := by (k_with_none; w_top off; first | (walk1; done) | trivial)
local macro_rules | `(tactic| walk_at "own reset") => `(tactic| skip)
theorem resetC4a2 : True := by (w_top off; first | (walk1; done) | trivial)
end
section
local macro_rules | `(tactic| walk_at "ct_enter") => `(tactic| (refine' enterF ?k1 ?k2 ?k3 ?k4 ?k5 ?kA ?kF ?kK ?k6 ?k7 ?k8 ?k9 ?kB ?kR ?_ ?c5 ?c2 ?c3 ?c4; (case kA => exact rfl); (case kF => exact rfl); (case kK => assumption); (case k1 => k_asm); (case k2 => k_asm); (case k3 => k_asm); (case k4 => k_asm); (case k5 => k_asm); (case k6 => k_is); (case k7 => k_is); (case k8 => ktr_room); (case k9 => first | exact BindsTo.of_eq rfl | (refine' kp_binds ?kx ?ke; (case kx => k_in); (case ke => exact fun _ => rfl))); (case c5 => decide); (case kB => exact locs rfl); (case c2 => exact rfl); (case c3 => exact rfl); (case c4 => exact rfl); (case kR => assumption); k_whole; intro g' L' h' F' N' B' X' T'; (try dsimp only); (try k_fold)))
local macro_rules | `(tactic| walk_at "ct_leave") => `(tactic| (change LeaveG _ _ _ _ _; refine' LeaveG.intro ?F ?N ?P; (case P => walk_at "ct_out"); (case F => k_asm); (case N => exact cb_drop (by assumption) (by kcj_all))))
local macro_rules | `(tactic| walk_at "ct_use") => `(tactic| ((case B => k_asm); (case F => k_asm); (case X => k_asm); (case N => k_asm); (case T => k_asm); (case hk => first | exact rfl | assumption); (case hd => ktr_room); (case hu => ktr_units)))
local macro_rules | `(tactic| walk_at "mem_any") => `(tactic| first | assumption | exact List.mem_cons_self | (refine List.mem_cons_of_mem _ ?_; walk_at "mem_any"))
theorem ins0_eq (l : List Value) (y : Value) : kl_ins l 0 y = y :: l := by simp [kl_ins]
section
local macro_rules | `(tactic| walk_at "call builtin:list.insert") => `(tactic| (k_here; (with_reducible show wpAny _ _ (call (Value.builtin _) [Value.ref _, Value.int _ _, _]) _ _ _); k_dflt (refine' kl_insert ?F ?N ?f (ins0_eq _ _) ?U ?z ?_; (case F => k_asm); (case N => k_asm); (case U => k_upd); (case f => rfl); (case z => assumption)); intro h' F' N'))
local macro_rules | `(tactic| walk_at "WhlIf") => `(tactic| (first | (refine WhlIf.yes (by simp; omega) ?_) | (refine WhlIf.no (by simp; omega) ?_)))
theorem upd2 {m : Str → Option Value} {x1 x2 : Str} {v1 v2 : Value} (h1 : m x1 = some v1) (h2 : m x2 = some v2) :
    ∃ u : Str → Option Value, m = fun z => if z = x1 then some v1 else if z = x2 then some v2 else u z := by
  refine ⟨m, ?_⟩
  funext z
  by_cases e1 : z = x1
  · rw [if_pos e1, e1, h1]
  · rw [if_neg e1]
    by_cases e2 : z = x2
    · rw [if_pos e2, e2, h2]
    · rw [if_neg e2]
noncomputable def OctJ (R : List Int) (n : Nat) (m₁ : Str → Option Value) (news₁ : List (Addr × Obj)) : Prop :=
  ∃ (v : Int) (l : Addr) (vs : List Value) (ns : List Int) (k : Nat) (t : Tok), n = v.toNat ∧ m₁ (Str.ofString "number") = some (.int v t) ∧ m₁ (Str.ofString "octets") = some (.ref l) ∧ news₁ = [(l, listOf vs.toArray k)] ∧ IntsAre vs ns ∧ 0 ≤ v ∧ hiO (v.toNat / 64) ++ ns = R
theorem oct_step {v : Int} {ns R : List Int} (h : 64 ≤ v) (e : hiO (v.toNat / 64) ++ ns = R) : (v.fdiv 64).toNat < v.toNat ∧ 0 ≤ v.fdiv 64 ∧ hiO ((v.fdiv 64).toNat / 64) ++ ((64 + (v.fdiv 64).fmod 64) :: ns) = R := by
  obtain ⟨n, rfl⟩ : ∃ n : Nat, v = n := ⟨v.toNat, by omega⟩
  have e1 : ((n : Int).fdiv 64) = ((n / 64 : Nat) : Int) := by rw [Int.fdiv_eq_ediv_of_nonneg _ (by decide)]; rfl
  have e2 : (((n / 64 : Nat) : Int).fmod 64) = ((n / 64 % 64 : Nat) : Int) := by rw [Int.fmod_eq_emod_of_nonneg _ (by decide)]; rfl
  rw [e1, e2]
  simp only [Int.toNat_natCast] at e ⊢
  refine ⟨by omega, by omega, ?_⟩
  rw [← e, hiO_pos (n := n / 64) (by omega)]
  simp
theorem oct_done {v : Int} {ns R : List Int} (h0 : 0 ≤ v) (h : ¬ 64 ≤ v) (e : hiO (v.toNat / 64) ++ ns = R) : ns = R := by
  have : v.toNat / 64 = 0 := by omega
  rw [this, hiO_zero] at e
  exact e
theorem oct_start {v : Int} (h0 : 0 ≤ v) : hiO (v.toNat / 64) ++ [v.fmod 64] = octs v.toNat := by
  obtain ⟨n, rfl⟩ : ∃ n : Nat, v = n := ⟨v.toNat, by omega⟩
  have e2 : ((n : Int).fmod 64) = ((n % 64 : Nat) : Int) := by rw [Int.fmod_eq_emod_of_nonneg _ (by decide)]; rfl
  rw [e2]; rfl
theorem oct_room {v : Int} {vs : List Value} {ns R : List Int} (hi : IntsAre vs ns) (e : hiO (v.toNat / 64) ++ ns = R) (hR : R.length ≤ 1000) : vs.length ≤ sizeLine := by
  rw [hi.length, sizeLine_eq]
  rw [← e, List.length_append] at hR
  omega
theorem ct_octets {w : World} {mean mg mb} {x : Int} {t₀ : Tok} (hx : 0 ≤ x) (hR : (octs x.toNat).length ≤ 1000) :
   Ct w mean mg mb 51 3 40 [.int x t₀] [] (fun v new => ∃ l vs k, v = .ref l ∧ new = [(l, listOf vs.toArray k)] ∧ IntsAre vs (octs x.toNat)) := by
  intro dp un gd cn cs a ccd cl outer A₀ base h₀ L m s Q E B F X N TT hk hd hu hret
  k_dflt (walk_at "ct_enter")
  k_with "exec While Compare cons nil" => (rename Fr _ _ _ _ => wF; rename News _ _ _ _ => wN; refine' while_stop (OctJ (octs x.toNat)) (n₀ := x.toNat) wF wN ?wJ ?wE ?wT; (case wE => first | passes_own | with_unfolding_all passes_own); (case wJ => exact ⟨x, _, [_], [_], _, _, rfl, by with_unfolding_all rfl, by with_unfolding_all rfl, rfl, .cons _ _ .nil, hx, oct_start hx⟩))
  k_steps
  unfold Stop
  rintro n m₁ news₁ h₁ tk₁ F₁ N₁ ⟨v, l, vs, ns, k, t, hn, e1, e2, e3, hI, hv, hJ⟩
  obtain ⟨u, hu⟩ := upd2 e1 e2
  clear e1 e2
  subst hu
  subst e3
  have hroom := oct_room hI hJ hR
  by_cases h0 : 64 ≤ v
  · obtain ⟨g1, g2, g3⟩ := oct_step h0 hJ
    k_steps
    exact WhileStep.intro (by k_asm) (by k_asm) (hn ▸ g1) ⟨_, l, _, _, _, _, rfl, by with_unfolding_all rfl, by with_unfolding_all rfl, rfl, .cons _ _ hI, g2, g3⟩
  · have hE := oct_done hv h0 hJ
    k_steps
    change LeaveG _ _ _ _ _
    exact LeaveG.intro (new := [(l, listOf vs.toArray k)]) (by k_asm) (by k_asm) ⟨l, vs, k, rfl, rfl, hE ▸ hI⟩
end
end
section
local macro_rules | `(tactic| walk_at "own reset") => `(tactic| skip)
theorem resetC4b1 : True := by (k_with_none; w_top off; first | (walk1; done) | trivial)
local macro_rules | `(tactic| walk_at "own reset") => `(tactic| skip)
theorem resetC4b2 : True := by (w_top off; first | (walk1; done) | trivial)
end
section
local macro_rules | `(tactic| walk_at "ct_enter") => `(tactic| (refine' enterF ?k1 ?k2 ?k3 ?k4 ?k5 ?kA ?kF ?kK ?k6 ?k7 ?k8 ?k9 ?kB ?kR ?_ ?c5 ?c2 ?c3 ?c4; (case kA => exact rfl); (case kF => exact rfl); (case kK => assumption); (case k1 => k_asm); (case k2 => k_asm); (case k3 => k_asm); (case k4 => k_asm); (case k5 => k_asm); (case k6 => k_is); (case k7 => k_is); (case k8 => ktr_room); (case k9 => first | exact BindsTo.of_eq rfl | (refine' kp_binds ?kx ?ke; (case kx => k_in); (case ke => exact fun _ => rfl))); (case c5 => decide); (case kB => exact locs rfl); (case c2 => exact rfl); (case c3 => exact rfl); (case c4 => exact rfl); (case kR => assumption); k_whole; intro g' L' h' F' N' B' X' T'; (try dsimp only); (try k_fold)))
local macro_rules | `(tactic| walk_at "ct_leave") => `(tactic| (change LeaveG _ _ _ _ _; refine' LeaveG.intro ?F ?N ?P; (case P => walk_at "ct_out"); (case F => k_asm); (case N => exact cb_drop (by assumption) (by kcj_all))))
local macro_rules | `(tactic| walk_at "ct_use") => `(tactic| ((case B => k_asm); (case F => k_asm); (case X => k_asm); (case N => k_asm); (case T => k_asm); (case hk => first | exact rfl | assumption); (case hd => ktr_room); (case hu => ktr_units)))
local macro_rules | `(tactic| walk_at "mem_any") => `(tactic| first | assumption | exact List.mem_cons_self | (refine List.mem_cons_of_mem _ ?_; walk_at "mem_any"))
noncomputable abbrev litI (l : Addr) (i : Nat) : Obj := { cls := .type "list_iterator", data := .fields #[.ref l, .int i 0] }
theorem litI_next (l : Addr) (i : Nat) : Obj.mapFields (·.setIfInBounds 1 (rawInt ((i : Int) + 1))) (litI l i) = litI l (i + 1) := rfl
section
variable {prog : Program} {w : World} {A : Around} {E : Value → Shared → Prop} {s : Shared} {h₀ : Heap} {L I l : Addr} {m : Str → Option Value} {news news' : List (Addr × Obj)}
theorem next_lit {i k : Nat} {its : Array Value} {x : Value} {Q : Value → Shared → Prop} (F : Fr h₀ L s.heap m) (N : News h₀ L s.heap news) (hm : (l, listOf its k) ∈ news) (hx : its[i]? = some x)
    (U : Upd I (litI l i) (litI l (i + 1)) news news') (h : ∀ h', Fr h₀ L h' m → News h₀ L h' news' → Q x { s with heap := h' }) :
    wpAny (model prog w) A (call (.builtin "next") [.ref I]) Q E s := by
  obtain ⟨pre, post, rfl, rfl, a, c⟩ := U.split
  have z := N (I, litI l i) (List.mem_append_right _ (.head _))
  have ho : s.heap.get? I = some (litI l i) := z.1
  have hol : s.heap.get? l = some (listOf its k) := (N _ hm).1
  have hit : s.heap.IsListIter I l i := ⟨_, ho, rfl, rfl⟩
  refine call_function_entry (by decide +kernel) (by decide +kernel) kdk_entry_next (kdk_args_next _) ?_
  unfold Builtin.«next»
  refine wpAny_bind (m := someArgs "next" 1 2 _) (wpAny_of_eq (a := [Value.ref I]) (by first | rfl | kernel_rfl!) ?_)
  dsimp only
  refine wpAny_bind (wpAny_specialOf (name := Str.ofString "__next__") hit.typeIs slot_listiter_next.lookup ?_)
  refine wpAny_ite_split (fun hab => absurd hab (by decide)) (fun _ => ?_)
  refine wpAny_bind (wpAny_callSpecial?_slot (name := Str.ofString "__next__") hit.typeIs slot_listiter_next
    (wpAny_call_entry slot_listiter_next hit.typeIs entry_listiter_next ?_ (args_listiter_next _)))
  show wpAny _ _ (field (.ref I) 0 >>= _) _ _ s
  refine wpAny_bind (wpAny_field ho rfl (x := .ref l) rfl ?_)
  show wpAny _ _ (if (Value.ref l == Value.none) = true then _ else _) _ _ s
  rw [if_neg (show ¬ ((Value.ref l == Value.none) = true) from Bool.false_ne_true)]
  show wpAny _ _ (field (.ref I) 1 >>= _) _ _ s
  refine wpAny_bind (wpAny_field ho rfl (x := .int i 0) rfl ?_)
  show wpAny _ _ (seqItems? (.ref l) >>= _) _ _ s
  refine wpAny_bind (wpAny_seqItems hol rfl ?_)
  simp only [Int.toNat_natCast, hx]
  refine wpAny_bind (wpAny_setField ho rfl (by simp) (wpAny_pure ⟨x, rfl, wpAny_pure ?_⟩))
  have hup : (s.heap.update I (Obj.mapFields (·.setIfInBounds 1 (rawInt ((i : Int) + 1))))).get? I = some (litI l (i + 1)) := by
    rw [Heap.get?_update_self _ ho rfl, litI_next]
  exact ⟨_, rfl, h _ (F.change (Heap.SameBut.update ..) z.2.1 z.2.2) (news_set N a c (Heap.SameBut.update ..) hup)⟩
end
end
section
local macro_rules | `(tactic| walk_at "own reset") => `(tactic| skip)
theorem resetC4v1 : True := by (k_with_none; w_top off; first | (walk1; done) | trivial)
local macro_rules | `(tactic| walk_at "own reset") => `(tactic| skip)
theorem resetC4v2 : True := by (w_top off; first | (walk1; done) | trivial)
end
section
local macro_rules | `(tactic| walk_at "ct_enter") => `(tactic| (refine' enterF ?k1 ?k2 ?k3 ?k4 ?k5 ?kA ?kF ?kK ?k6 ?k7 ?k8 ?k9 ?kB ?kR ?_ ?c5 ?c2 ?c3 ?c4; (case kA => exact rfl); (case kF => exact rfl); (case kK => assumption); (case k1 => k_asm); (case k2 => k_asm); (case k3 => k_asm); (case k4 => k_asm); (case k5 => k_asm); (case k6 => k_is); (case k7 => k_is); (case k8 => ktr_room); (case k9 => first | exact BindsTo.of_eq rfl | (refine' kp_binds ?kx ?ke; (case kx => k_in); (case ke => exact fun _ => rfl))); (case c5 => decide); (case kB => exact locs rfl); (case c2 => exact rfl); (case c3 => exact rfl); (case c4 => exact rfl); (case kR => assumption); k_whole; intro g' L' h' F' N' B' X' T'; (try dsimp only); (try k_fold)))
local macro_rules | `(tactic| walk_at "ct_leave") => `(tactic| (change LeaveG _ _ _ _ _; refine' LeaveG.intro ?F ?N ?P; (case P => walk_at "ct_out"); (case F => k_asm); (case N => exact cb_drop (by assumption) (by kcj_all))))
local macro_rules | `(tactic| walk_at "ct_use") => `(tactic| ((case B => k_asm); (case F => k_asm); (case X => k_asm); (case N => k_asm); (case T => k_asm); (case hk => first | exact rfl | assumption); (case hd => ktr_room); (case hu => ktr_units)))
local macro_rules | `(tactic| walk_at "mem_any") => `(tactic| first | assumption | exact List.mem_cons_self | (refine List.mem_cons_of_mem _ ?_; walk_at "mem_any"))
theorem upd3 {m : Str → Option Value} {x1 x2 x3 : Str} {v1 v2 v3 : Value} (h1 : m x1 = some v1) (h2 : m x2 = some v2) (h3 : m x3 = some v3) :
    ∃ u : Str → Option Value, m = fun z => if z = x1 then some v1 else if z = x2 then some v2 else if z = x3 then some v3 else u z := by
  refine ⟨m, ?_⟩
  funext z
  by_cases e1 : z = x1
  · rw [if_pos e1, e1, h1]
  · rw [if_neg e1]
    by_cases e2 : z = x2
    · rw [if_pos e2, e2, h2]
    · rw [if_neg e2]
      by_cases e3 : z = x3
      · rw [if_pos e3, e3, h3]
      · rw [if_neg e3]
theorem dec6_lt (l : List Int) : 0 ≤ dec6 l ∧ dec6 l < 2 ^ (6 * l.length) := by
  have gen : ∀ (r : List Int), 0 ≤ dec6 r.reverse ∧ dec6 r.reverse < 2 ^ (6 * r.length) := by
    intro r
    induction r with
    | nil => exact ⟨Int.le_refl 0, by decide⟩
    | cons o r ih =>
      rw [List.reverse_cons, dec6_snoc, List.length_cons]
      have e : (2 : Int) ^ (6 * (r.length + 1)) = 2 ^ (6 * r.length) * 64 := by rw [Nat.mul_add, Int.pow_add]; rfl
      rw [e]
      omega
  have := gen l.reverse
  simpa using this
theorem dec6_bits {l : List Int} (h : l.length ≤ 1000) : (Builtin.Int.intBits (dec6 l) : Int) + 6 ≤ 2 ^ 27 := by
  have h1 := dec6_lt l
  have h2 : Builtin.Int.intBits (dec6 l) ≤ 6 * l.length := intBits_le_iff.mpr (by
    have e : (((dec6 l).natAbs : Nat) : Int) < ((2 ^ (6 * l.length) : Nat) : Int) := by
      rw [Int.natAbs_of_nonneg h1.1]
      have e2 : ((2 ^ (6 * l.length) : Nat) : Int) = (2 : Int) ^ (6 * l.length) := by simp
      rw [e2]; exact h1.2
    exact Int.ofNat_lt.mp e)
  have e : (2 : Int) ^ 27 = 134217728 := by decide
  rw [e]; omega
noncomputable def VarJ (I l : Addr) (its : Array Value) (k i : Nat) (R : List Int) (n : Nat) (m₁ : Str → Option Value) (news₁ : List (Addr × Obj)) : Prop :=
  ∃ (pre : List Int) (b : Int) (post : List Int) (val : Int) (t1 t2 : Tok), R = pre ++ b :: post ∧ n = post.length ∧ m₁ (Str.ofString "b") = some (.int b t1) ∧ m₁ (Str.ofString "val") = some (.int val t2) ∧ m₁ (Str.ofString "iterator") = some (.ref I) ∧
    news₁ = [(I, litI l (i + pre.length + 1)), (l, listOf its k)] ∧ val = dec6 (pre ++ [b])
theorem bne_no {x : Int} (h : x = 0) : (x != 0) = false := by rw [h]; rfl
section
local macro_rules | `(tactic| walk_at "WhlIf") => `(tactic| (first | (refine WhlIf.yes (bne_iff_ne.mpr (by assumption)) ?_) | (refine WhlIf.no (bne_no (by assumption)) ?_)))
local macro_rules | `(tactic| walk_at "call builtin:next") => `(tactic| (k_here; (with_reducible show wpAny _ _ (call (Value.builtin "next") [Value.ref _]) _ _ _); k_dflt (refine' next_lit ?F ?N ?hm ?hx ?U ?_; (case F => k_asm); (case N => k_asm); (case hm => k_mem); (case hx => assumption); (case U => k_upd)); intro h' F' N'))
local macro_rules | `(tactic| walk_at "inplaceOp LShift int int") => `(tactic| (k_here; (with_reducible refine ilshift_int ?kbn ?kbs ?_); (case kbn => decide); (case kbs => assumption)))
theorem ct_varint {w : World} {mean mg mb} {I l : Addr} {its : Array Value} {k i n₀ : Nat} (hIl : @Ne Nat l I) (hR : (octs n₀).length ≤ 1000) (hits : ∀ (j : Nat) (o : Int), (octs n₀)[j]? = some o → ∃ t, its[i + j]? = some (.int o t)) :
   Ct w mean mg mb 30 3 40 [.ref I] [(I, litI l i), (l, listOf its k)] (fun v new => (∃ t, v = .int n₀ t) ∧ new = [(I, litI l (i + (octs n₀).length)), (l, listOf its k)]) := by
  intro dp un gd cn cs a ccd cl outer A₀ base h₀ L m s Q E B F X N TT hk hd hu hret
  obtain ⟨b0, post0, hR0⟩ : ∃ b post, octs n₀ = b :: post := by
    cases e : octs n₀ with
    | nil => exfalso; have := congrArg List.length e; simp [octs] at this
    | cons b post => exact ⟨b, post, rfl⟩
  obtain ⟨tb0, hb0⟩ := hits 0 b0 (by rw [hR0]; rfl)
  rw [Nat.add_zero] at hb0
  k_dflt (walk_at "ct_enter")
  k_with "exec While BinOp" => (rename Fr _ _ _ _ => wF; rename News _ _ _ _ => wN; refine' while_stop (VarJ I l its k i (octs n₀)) (n₀ := post0.length) wF wN ?wJ ?wE ?wT; (case wE => first | passes_own | with_unfolding_all passes_own); (case wJ => exact ⟨[], b0, post0, _, _, _, hR0, rfl, by with_unfolding_all rfl, by with_unfolding_all rfl, by with_unfolding_all rfl, rfl, by rw [and63]; simp [dec6]⟩))
  k_steps
  unfold Stop
  rintro n m₁ news₁ h₁ tk₁ F₁ N₁ ⟨pre, b, post, val, t1, t2, hS, hn, e1, e2, e3, e4, hv⟩
  obtain ⟨u, hu⟩ := upd3 e1 e2 e3
  clear e1 e2 e3
  subst hu
  subst e4
  obtain ⟨hb1, hb2, hb3⟩ := octs_split hS
  have hand := and64 b hb1 hb2
  have hlen : (pre ++ [b]).length ≤ 1000 := by
    have := congrArg List.length hS
    simp at this ⊢
    omega
  have hbits := dec6_bits hlen
  rw [← hv] at hbits
  by_cases h0 : 64 ≤ b
  · obtain ⟨b', post', rfl⟩ : ∃ b' post', post = b' :: post' := by
      cases post with
      | nil => exact absurd rfl (hb3.mp h0)
      | cons b' post' => exact ⟨b', post', rfl⟩
    obtain ⟨tb, hx⟩ := hits (pre.length + 1) b' (by rw [hS]; simp)
    rw [← Nat.add_assoc] at hx
    have hnz := hand.mpr h0
    have hval : Builtin.bitOr (val * 2 ^ Int.toNat 6) (Builtin.bitAnd b' 63) = dec6 ((pre ++ [b]) ++ [b']) := by
      rw [and63, show (2 : Int) ^ Int.toNat 6 = 64 from by decide, hv, or6 _ _ (dec6_lt _).1 (by omega) (by omega), ← dec6_snoc]
    have hS' : octs n₀ = (pre ++ [b]) ++ b' :: post' := by rw [hS]; simp
    have hlt : post'.length < n := by rw [hn]; exact Nat.lt_succ_self _
    have hled : [(I, litI l (i + pre.length + 1 + 1)), (l, listOf its k)] = [(I, litI l (i + (pre ++ [b]).length + 1)), (l, listOf its k)] := by
      rw [List.length_append, List.length_singleton, Nat.add_assoc i]
    k_steps
    exact WhileStep.intro (by k_asm) (by k_asm) hlt ⟨pre ++ [b], b', post', _, _, _, hS', rfl, by with_unfolding_all rfl, by with_unfolding_all rfl, by with_unfolding_all rfl, hled, hval⟩
  · have hp : post = [] := Classical.byContradiction fun h => h0 (hb3.mpr h)
    subst hp
    have hz : Builtin.bitAnd b 64 = 0 := Classical.byContradiction fun h => h0 (hand.mp h)
    have hval : val = n₀ := by rw [hv, ← hS, dec6_octs]
    have hled : [(I, litI l (i + pre.length + 1)), (l, listOf its k)] = [(I, litI l (i + (octs n₀).length)), (l, listOf its k)] := by
      rw [hS, List.length_append, List.length_singleton, Nat.add_assoc i]
    k_steps
    change LeaveG _ _ _ _ _
    exact LeaveG.intro (new := [(I, litI l (i + pre.length + 1)), (l, listOf its k)]) (by k_asm) (by k_asm) ⟨⟨t2, by rw [hval]⟩, hled⟩
end
end
section
local macro_rules | `(tactic| walk_at "own reset") => `(tactic| skip)
theorem resetC4c1 : True := by (k_with_none; w_top off; first | (walk1; done) | trivial)
local macro_rules | `(tactic| walk_at "own reset") => `(tactic| skip)
theorem resetC4c2 : True := by (w_top off; first | (walk1; done) | trivial)
end
section
local macro_rules | `(tactic| walk_at "ct_enter") => `(tactic| (refine' enterF ?k1 ?k2 ?k3 ?k4 ?k5 ?kA ?kF ?kK ?k6 ?k7 ?k8 ?k9 ?kB ?kR ?_ ?c5 ?c2 ?c3 ?c4; (case kA => exact rfl); (case kF => exact rfl); (case kK => assumption); (case k1 => k_asm); (case k2 => k_asm); (case k3 => k_asm); (case k4 => k_asm); (case k5 => k_asm); (case k6 => k_is); (case k7 => k_is); (case k8 => ktr_room); (case k9 => first | exact BindsTo.of_eq rfl | (refine' kp_binds ?kx ?ke; (case kx => k_in); (case ke => exact fun _ => rfl))); (case c5 => decide); (case kB => exact locs rfl); (case c2 => exact rfl); (case c3 => exact rfl); (case c4 => exact rfl); (case kR => assumption); k_whole; intro g' L' h' F' N' B' X' T'; (try dsimp only); (try k_fold)))
local macro_rules | `(tactic| walk_at "ct_leave") => `(tactic| (change LeaveG _ _ _ _ _; refine' LeaveG.intro ?F ?N ?P; (case P => walk_at "ct_out"); (case F => k_asm); (case N => exact cb_drop (by assumption) (by kcj_all))))
local macro_rules | `(tactic| walk_at "ct_use") => `(tactic| ((case B => k_asm); (case F => k_asm); (case X => k_asm); (case N => k_asm); (case T => k_asm); (case hk => first | exact rfl | assumption); (case hd => ktr_room); (case hu => ktr_units)))
local macro_rules | `(tactic| walk_at "mem_any") => `(tactic| first | assumption | exact List.mem_cons_self | (refine List.mem_cons_of_mem _ ?_; walk_at "mem_any"))
noncomputable def gfold (l : List Int) : Int := l.foldl (fun g c => g * 1000 + c) 29007
theorem gfold_snoc (l : List Int) (c : Int) : gfold (l ++ [c]) = gfold l * 1000 + c := by simp [gfold]
section
theorem ct_great {w : World} {mean mg mb} {l : Addr} {vs : List Value} {ns : List Int} {k : Nat} (hI : IntsAre vs ns) (hn : ns.length ≤ 1000) :
   Ct w mean mg mb 58 3 40 [.ref l] [(l, listOf vs.toArray k)] (fun v new => (∃ t, v = .int (gfold ns) t) ∧ new = [(l, listOf vs.toArray k)]) := by
  intro dp un gd cn cs a ccd cl outer A₀ base h₀ L m s Q E B F X N TT hk hd hu hret
  k_dflt (walk_at "ct_enter")
  k_steps
  change LeaveG _ _ _ _ _
  exact LeaveG.intro (new := [(l, listOf vs.toArray k)]) (by k_asm) (cb_drop (by assumption) (by kcj_all)) ⟨⟨_, rfl⟩, rfl⟩
end
end
section
local macro_rules | `(tactic| walk_at "own reset") => `(tactic| skip)
theorem resetK11 : True := by (k_with_none; w_top off; first | (walk1; done) | trivial)
local macro_rules | `(tactic| walk_at "own reset") => `(tactic| skip)
theorem resetK12 : True := by (w_top off; first | (walk1; done) | trivial)
end
section
local macro_rules | `(tactic| walk_at "ct_enter") => `(tactic| (refine' enterF ?k1 ?k2 ?k3 ?k4 ?k5 ?kA ?kF ?kK ?k6 ?k7 ?k8 ?k9 ?kB ?kR ?_ ?c5 ?c2 ?c3 ?c4; (case kA => exact rfl); (case kF => exact rfl); (case kK => assumption); (case k1 => k_asm); (case k2 => k_asm); (case k3 => k_asm); (case k4 => k_asm); (case k5 => k_asm); (case k6 => k_is); (case k7 => k_is); (case k8 => ktr_room); (case k9 => first | exact BindsTo.of_eq rfl | (refine' kp_binds ?kx ?ke; (case kx => k_in); (case ke => exact fun _ => rfl))); (case c5 => decide); (case kB => exact locs rfl); (case c2 => exact rfl); (case c3 => exact rfl); (case c4 => exact rfl); (case kR => assumption); k_whole; intro g' L' h' F' N' B' X' T'; (try dsimp only); (try k_fold)))
local macro_rules | `(tactic| walk_at "ct_leave") => `(tactic| (change LeaveG _ _ _ _ _; refine' LeaveG.intro ?F ?N ?P; (case P => walk_at "ct_out"); (case F => k_asm); (case N => exact cb_drop (by assumption) (by kcj_all))))
local macro_rules | `(tactic| walk_at "ct_use") => `(tactic| ((case B => k_asm); (case F => k_asm); (case X => k_asm); (case N => k_asm); (case T => k_asm); (case hk => first | exact rfl | assumption); (case hd => ktr_room); (case hu => ktr_units)))
local macro_rules | `(tactic| walk_at "mem_any") => `(tactic| first | assumption | exact List.mem_cons_self | (refine List.mem_cons_of_mem _ ?_; walk_at "mem_any"))
noncomputable def upds : List Str → List Value → (Str → Option Value) → (Str → Option Value)
  | x :: xs, v :: vs, m => upds xs vs (fun z => if z = x then some v else m z)
  | _, _, m => m
noncomputable def pull (tgt : Expr) (it : Value) (cenv : Env) : Sem Bool := do
  match ← pyNext it with
  | none => pure false
  | some v => do
    letOwnedTupleGo tgt it v
    assign tgt cenv v
    pure true
/-- what a source gives, item by item, to a target's names in the comprehension's namespace -/
structure Pulls (prog : Program) (w : World) (A : Around) (I : Addr) (fp wr : List Addr) (n : Nat) (tgt : Expr) (cenv : Env) (xs : List Str) (P : Nat → List Value → Prop) (St : Nat → Heap → Prop) : Prop where
  sub : ∀ b ∈ wr, b ∈ fp
  frame : ∀ i h h', St i h → (∀ b ∈ fp, ∀ o, h.get? b = some o → h'.get? b = some o) → St i h'
  live : ∀ i h, St i h → ∀ b ∈ fp, ∃ o, h.get? b = some o
  item : ∀ i (s : Shared) m (Q : Bool → Shared → Prop) (E : Value → Shared → Prop), i < n → St i s.heap → s.heap.Ns cenv.locals m → cenv.locals ∉ fp →
    (∀ vs h' tk, P i vs → St (i + 1) h' → h'.Ns cenv.locals (upds xs vs m) → (∀ b o, b ≠ cenv.locals → b ∉ wr → s.heap.get? b = some o → h'.get? b = some o) → Q true { s with heap := h', toks := tk }) →
    wpAny (model prog w) A (pull tgt (.ref I) cenv) Q E s
  done : ∀ (s : Shared) (Q : Bool → Shared → Prop) (E : Value → Shared → Prop), St n s.heap →
    (∀ h' tk, (∀ b o, b ∉ wr → s.heap.get? b = some o → h'.get? b = some o) → Q false { s with heap := h', toks := tk }) → wpAny (model prog w) A (pull tgt (.ref I) cenv) Q E s
  self : ∀ i (s : Shared) (Q : Value → Shared → Prop) (E : Value → Shared → Prop), St i s.heap → Q (.ref I) s → wpAny (model prog w) A (pyIter (.ref I)) Q E s

section
variable {prog : Program} {w : World} {A : Around} {E : Value → Shared → Prop} {s : Shared}
theorem Pulls.ofName {I : Addr} {fp wr : List Addr} {n : Nat} {x : Str} {px : Pos} {cenv : Env} {P : Nat → Value → Prop} {St : Nat → Heap → Prop} (W : Walks prog w A I fp wr n P St)
    (hl : ∀ i h, St i h → ∀ b ∈ fp, ∃ o, h.get? b = some o)
    (hx : cenv.kindOf x = some .local) (hp : (cenv.scope.kind == .class || (cenv.scope.kind == .module && cenv.locals != cenv.globals)) = false) :
    Pulls prog w A I fp wr n (.Name x px) cenv [x] (fun i vs => ∃ v, vs = [v] ∧ P i v) St where
  sub := W.sub
  frame := W.frame
  live := hl
  item := fun i s m Q E hi st hn hC hQ => by
    unfold pull
    refine wpAny_bind (W.item i _ _ _ hi st fun v h' tk hP st' hk => ?_)
    refine wpAny_bind (wpAny_of_eq (a := ()) rfl ?_)
    have hCw : cenv.locals ∉ wr := fun h => hC (W.sub _ h)
    refine wpAny_bind (wpAny_assign_Name (wpAny_storeName_local hx (hn.at' fun o e => hk _ o hCw e) (fun h₂ hn₂ hs₂ => ?_) hp))
    refine wpAny_pure (hQ [v] h₂ _ ⟨v, rfl, hP⟩ (W.frame _ _ _ st' fun b hb o e => hs₂.extBut b o (fun q => hC (q ▸ hb)) e) hn₂ fun b o hb hw e => hs₂.extBut b o hb (hk b o hw e))
  done := fun s Q E st hQ => by
    unfold pull
    exact wpAny_bind (W.done _ _ _ st fun h' tk hk => wpAny_pure (hQ h' tk hk))
  self := W.self
theorem Pulls.ofPair {I : Addr} {fp wr : List Addr} {n : Nat} {a b : Str} {pa pb tp : Pos} {kk : Nat} {cenv : Env} {P : Nat → Array Value → Prop} {St : Nat → Heap → Prop} {Mid : Nat → Addr → Heap → Prop} (hh : A.handled = none) (W : WalksU prog w A I fp wr n P St Mid)
    (h2 : ∀ i vals, P i vals → ∃ u v, vals = #[u, v]) (hl : ∀ i h, St i h → ∀ b ∈ fp, ∃ o, h.get? b = some o)
    (ha : cenv.kindOf a = some .local) (hb : cenv.kindOf b = some .local) (hp : (cenv.scope.kind == .class || (cenv.scope.kind == .module && cenv.locals != cenv.globals)) = false) :
    Pulls prog w A I fp wr n (.Tuple [.Name a pa, .Name b pb] kk tp) cenv [a, b] (fun i vs => ∃ u v, vs = [u, v] ∧ P i #[u, v]) St where
  sub := W.sub
  frame := W.frame
  live := hl
  item := fun i s m Q E hi st hn hC hQ => by
    unfold pull
    refine wpAny_bind (W.item i _ _ _ hi st fun T vals h' tk hP hT hm hk => ?_)
    have hCw : cenv.locals ∉ wr := fun h => hC (W.sub _ h)
    have hTw := W.apart _ _ _ hm
    refine wpAny_bind (W.go _ _ _ _ _ _ _ _ hm fun h₁ st₁ hk₁ => ?_)
    obtain ⟨u, v, rfl⟩ := h2 _ _ hP
    have hT₁ : h₁.IsTuple T #[u, v] := hT.at fun o e => hk₁ _ o hTw e
    refine wpAny_bind (kcp_assign hh hT₁ ha hb hp ((hn.at' fun o e => hk _ o hCw e).at' fun o e => hk₁ _ o hCw e) fun h₂ tk₂ hn₂ hk₂ => ?_)
    refine wpAny_pure (hQ [u, v] h₂ _ ⟨u, v, rfl, hP⟩ (W.frame _ _ _ st₁ fun b hb o e => hk₂ b o (fun q => hC (q ▸ hb)) e) hn₂ fun b o hb hw e => hk₂ b o hb (hk₁ b o hw (hk b o hw e)))
  done := fun s Q E st hQ => by
    unfold pull
    exact wpAny_bind (W.done _ _ _ st fun h' tk hk => wpAny_pure (hQ h' tk hk))
  self := W.self
end

/-- one turn of a comprehension's loop -/
noncomputable def turnG (p : Pos) (tgt : Expr) (it : Value) (cenv : Env) (body : Sem Unit) (c : Code) : Sem Fin := do
  standAt p
  match ← pyNext it with
  | none => pure (.done .next)
  | some v => do
    letOwnedTupleGo tgt it v
    assign tgt cenv v
    body
    again c

noncomputable abbrev KInv := Nat → (Str → Option Value) → List (Addr × Obj) → Prop
/-- the end of a turn's body -/
noncomputable def BodyEnd (h₀ : Heap) (L : Addr) (m : Str → Option Value) (s : Shared) (own : List (Addr × Obj)) (C : Addr) (K : (Str → Option Value) → List (Addr × Obj) → Prop) (s₂ : Shared) : Prop :=
  ∃ h' tk' oC' m'' news', s₂ = { s with heap := h', toks := tk' } ∧ Fr h₀ L h' m ∧ News h₀ L h' (own ++ (C, oC') :: news') ∧ LCg.NsObj oC' m'' ∧ (∀ p ∈ news', p.1 ∉ own.map (·.1) ∧ p.1 ≠ C) ∧ K m'' news'
noncomputable def LoopInv (h₀ : Heap) (L : Addr) (m : Str → Option Value) (s : Shared) (wr : List Addr) (C : Addr) (n : Nat) (St : Nat → Heap → Prop) (K : KInv) (k : Nat) (s' : Shared) : Prop :=
  ∃ h' tk i m' oC news, s' = { s with heap := h', toks := tk } ∧ i ≤ n ∧ k = n - i ∧ St i h' ∧ Fr h₀ L h' m ∧ LCg.NsObj oC m' ∧ News h₀ L h' ((C, oC) :: news) ∧ (∀ p ∈ news, p.1 ∉ wr ∧ p.1 ≠ C) ∧ K i m' news
noncomputable def LoopFin (h₀ : Heap) (L : Addr) (m : Str → Option Value) (s : Shared) (wr : List Addr) (C : Addr) (K : (Str → Option Value) → List (Addr × Obj) → Prop) (s' : Shared) : Prop :=
  ∃ h' tk m' oC news, s' = { s with heap := h', toks := tk } ∧ Fr h₀ L h' m ∧ LCg.NsObj oC m' ∧ News h₀ L h' ((C, oC) :: news) ∧ (∀ p ∈ news, p.1 ∉ wr ∧ p.1 ≠ C) ∧ K m' news

theorem objs_at {h : Heap} : ∀ (wr : List Addr), (∀ b ∈ wr, ∃ o, h.get? b = some o) → ∃ own : List (Addr × Obj), own.map (·.1) = wr ∧ ∀ p ∈ own, h.get? p.1 = some p.2
  | [], _ => ⟨[], rfl, fun _ hp => nomatch hp⟩
  | b :: r, hl => by
    obtain ⟨o, ho⟩ := hl b List.mem_cons_self
    obtain ⟨own, h1, h2⟩ := objs_at r fun c hc => hl c (List.mem_cons_of_mem _ hc)
    refine ⟨(b, o) :: own, by rw [List.map_cons, h1], fun p hp => ?_⟩
    rcases List.mem_cons.mp hp with rfl | hp
    · exact ho
    · exact h2 p hp

section
variable {prog : Program} {w : World} {A : Around} {E : Value → Shared → Prop} {s : Shared} {h₀ : Heap} {L : Addr} {m : Str → Option Value}
theorem turn_news {I : Addr} {fp wr : List Addr} {n : Nat} {tgt : Expr} {cenv : Env} {xs : List Str} {P : Nat → List Value → Prop} {St : Nat → Heap → Prop} {p : Pos} {body : Sem Unit} {c : Code} {E' : Value → Shared → Prop}
    (W : Pulls prog w A I fp wr n tgt cenv xs P St) (K : KInv) (src : Addr → Option Obj)
    (hsrc : ∀ i m' nw, K i m' nw → ∀ b ∈ fp, b ∉ wr → ∃ o, src b = some o ∧ ((b, o) ∈ nw ∨ h₀.get? b = some o))
    (hCf : cenv.locals ∉ fp) (hCL : cenv.locals ≠ L) (hC0 : h₀.get? cenv.locals = none) (hwL : L ∉ wr) (hw0 : ∀ b ∈ wr, h₀.get? b = none)
    (hbody : ∀ i vs own m' oC news h tk, i < n → P i vs → own.map (·.1) = wr → K i m' news → LCg.NsObj oC (upds xs vs m') → Fr h₀ L h m → News h₀ L h (own ++ (cenv.locals, oC) :: news) → (∀ p ∈ news, p.1 ∉ wr ∧ p.1 ≠ cenv.locals) →
      wpAny (model prog w) A body (fun _ s₂ => BodyEnd h₀ L m { s with heap := h, toks := tk } own cenv.locals (K (i + 1)) s₂) E' { s with heap := h, toks := tk })
    {k : Nat} {s' : Shared} (hI : LoopInv h₀ L m s wr cenv.locals n St K k s') :
    wpAny (model prog w) A (turnG p tgt (.ref I) cenv body c) (fun f s'' => match f with | .done fl => fl = .next ∧ LoopFin h₀ L m s wr cenv.locals (K n) s'' | .again c' => c' = c ∧ ∃ k', k' < k ∧ LoopInv h₀ L m s wr cenv.locals n St K k' s'') E' s' := by
  obtain ⟨H, tk, i, m', oC, news, rfl, hi, hk, st, F, hoC, N, off, hK⟩ := hI
  have zC := N (cenv.locals, oC) List.mem_cons_self
  have hn : H.Ns cenv.locals m' := hoC.ns zC.1
  have hCw : cenv.locals ∉ wr := fun q => hCf (W.sub _ q)
  have keepF : ∀ {H' : Heap}, (∀ b o, b ≠ cenv.locals → b ∉ wr → H.get? b = some o → H'.get? b = some o) → Fr h₀ L H' m := fun hk' => by
    obtain ⟨oL, es, ep, hL1, hLd, hLk, hLf⟩ := F.ns
    exact ⟨⟨oL, es, ep, hk' _ _ (Ne.symm hCL) hwL hL1, hLd, hLk, hLf⟩, fun b o e => hk' b o (fun q => by rw [q, hC0] at e; cases e) (fun q => by rw [hw0 b q] at e; cases e) (F.keep b o e), F.above⟩
  unfold turnG
  refine wpAny_bind (wpAny_standAt ?_)
  have flip : ∀ (Q : Fin → Shared → Prop), wpAny (model prog w) A (pull tgt (.ref I) cenv) (fun b s₂ => wpAny (model prog w) A (if b = true then (do body; again c) else pure (.done .next)) Q E' s₂) E' { s with heap := H, toks := tk } →
      wpAny (model prog w) A (do
        match ← pyNext (.ref I) with
        | none => pure (.done .next)
        | some v => do
          letOwnedTupleGo tgt (.ref I) v
          assign tgt cenv v
          body
          again c) Q E' { s with heap := H, toks := tk } := by
    intro Q hq
    have e : (do
        match ← pyNext (.ref I) with
        | none => pure (.done .next)
        | some v => do
          letOwnedTupleGo tgt (.ref I) v
          assign tgt cenv v
          body
          again c : Sem Fin) = (pull tgt (.ref I) cenv >>= fun b => if b = true then (do body; again c) else pure (.done .next)) := by
      unfold pull
      rw [bind_assoc]
      congr 1
      funext r
      cases r with
      | none => simp only [pure_bind]; rfl
      | some v => simp only [bind_assoc, pure_bind]; rfl
    rw [e]
    exact wpAny_bind hq
  refine flip _ ?_
  by_cases hlt : i < n
  · refine W.item i _ m' _ _ hlt st hn hCf fun vs h' tk' hP st' hn' hk' => ?_
    simp only [if_true]
    obtain ⟨oC', hC', hoC'⟩ := LCg.ns_obj hn'
    obtain ⟨own, hown, hget⟩ := objs_at (h := h') wr fun b hb => W.live _ _ st' b (W.sub b hb)
    have F' := keepF hk'
    have N' : News h₀ L h' (own ++ (cenv.locals, oC') :: news) := fun q hq => by
      rcases List.mem_append.mp hq with hq | hq
      · have hw : q.1 ∈ wr := hown ▸ List.mem_map_of_mem hq
        exact ⟨hget q hq, fun e => hwL (e ▸ hw), hw0 _ hw⟩
      · rcases List.mem_cons.mp hq with rfl | hq
        · exact ⟨hC', hCL, hC0⟩
        · have z := N q (List.mem_cons_of_mem _ hq)
          exact ⟨hk' _ _ (off q hq).2 (off q hq).1 z.1, z.2⟩
    refine wpAny_bind (wpAny_mono (hbody i vs own m' oC' news h' tk' hlt hP hown hK hoC' F' N' off) (fun _ s₂ hb => ?_) fun _ _ e => e)
    obtain ⟨h₂, tk₂, oC₂, m₂, news₂, rfl, F₂, N₂, hoC₂, off₂, hK₂⟩ := hb
    refine wpAny_pure ⟨rfl, n - (i + 1), by omega, h₂, tk₂, i + 1, m₂, oC₂, news₂, rfl, hlt, rfl, ?_, F₂, hoC₂, fun q hq => N₂ q (List.mem_append_right _ hq), fun q hq => hown ▸ off₂ q hq, hK₂⟩
    refine W.frame _ _ _ st' fun b hb o e => ?_
    by_cases hbw : b ∈ wr
    · rw [← hown] at hbw
      obtain ⟨q, hq, rfl⟩ := List.mem_map.mp hbw
      rw [hget q hq] at e
      cases e
      exact (N₂ q (List.mem_append_left _ hq)).1
    · obtain ⟨o₁, hs₁, ho₁⟩ := hsrc _ _ _ hK b hb hbw
      obtain ⟨o₂, hs₂, ho₂⟩ := hsrc _ _ _ hK₂ b hb hbw
      rw [hs₁] at hs₂
      cases hs₂
      have a1 : h'.get? b = some o₁ := by
        rcases ho₁ with h1 | h1
        · exact (N' (b, o₁) (List.mem_append_right _ (List.mem_cons_of_mem _ h1))).1
        · exact F'.keep _ _ h1
      have a2 : h₂.get? b = some o₁ := by
        rcases ho₂ with h1 | h1
        · exact (N₂ (b, o₁) (List.mem_append_right _ (List.mem_cons_of_mem _ h1))).1
        · exact F₂.keep _ _ h1
      rw [a1] at e
      cases e
      exact a2
  · obtain rfl : i = n := Nat.le_antisymm hi (Nat.not_lt.mp hlt)
    refine W.done _ _ _ st fun h' tk' hk' => ?_
    simp only [Bool.false_eq_true, if_false]
    have hk'' : ∀ b o, b ≠ cenv.locals → b ∉ wr → H.get? b = some o → h'.get? b = some o := fun b o _ hw e => hk' b o hw e
    refine wpAny_pure ⟨rfl, h', tk', m', oC, news, rfl, keepF hk'', hoC, fun q hq => ?_, off, hK⟩
    rcases List.mem_cons.mp hq with rfl | hq
    · exact ⟨hk' _ _ hCw zC.1, hCL, hC0⟩
    · have z := N q (List.mem_cons_of_mem _ hq)
      exact ⟨hk' _ _ (off q hq).1 z.1, z.2⟩
end
end
section
local macro_rules | `(tactic| walk_at "own reset") => `(tactic| skip)
theorem resetK21 : True := by (k_with_none; w_top off; first | (walk1; done) | trivial)
local macro_rules | `(tactic| walk_at "own reset") => `(tactic| skip)
theorem resetK22 : True := by (w_top off; first | (walk1; done) | trivial)
end
section
local macro_rules | `(tactic| walk_at "ct_enter") => `(tactic| (refine' enterF ?k1 ?k2 ?k3 ?k4 ?k5 ?kA ?kF ?kK ?k6 ?k7 ?k8 ?k9 ?kB ?kR ?_ ?c5 ?c2 ?c3 ?c4; (case kA => exact rfl); (case kF => exact rfl); (case kK => assumption); (case k1 => k_asm); (case k2 => k_asm); (case k3 => k_asm); (case k4 => k_asm); (case k5 => k_asm); (case k6 => k_is); (case k7 => k_is); (case k8 => ktr_room); (case k9 => first | exact BindsTo.of_eq rfl | (refine' kp_binds ?kx ?ke; (case kx => k_in); (case ke => exact fun _ => rfl))); (case c5 => decide); (case kB => exact locs rfl); (case c2 => exact rfl); (case c3 => exact rfl); (case c4 => exact rfl); (case kR => assumption); k_whole; intro g' L' h' F' N' B' X' T'; (try dsimp only); (try k_fold)))
local macro_rules | `(tactic| walk_at "ct_leave") => `(tactic| (change LeaveG _ _ _ _ _; refine' LeaveG.intro ?F ?N ?P; (case P => walk_at "ct_out"); (case F => k_asm); (case N => exact cb_drop (by assumption) (by kcj_all))))
local macro_rules | `(tactic| walk_at "ct_use") => `(tactic| ((case B => k_asm); (case F => k_asm); (case X => k_asm); (case N => k_asm); (case T => k_asm); (case hk => first | exact rfl | assumption); (case hd => ktr_room); (case hu => ktr_units)))
local macro_rules | `(tactic| walk_at "mem_any") => `(tactic| first | assumption | exact List.mem_cons_self | (refine List.mem_cons_of_mem _ ?_; walk_at "mem_any"))
/-- what the loop leaves -/
noncomputable def LoopOut (h₀ : Heap) (L : Addr) (m : Str → Option Value) (s : Shared) (C : Addr) (K : (Str → Option Value) → List (Addr × Obj) → Prop) (r : Result) (s' : Shared) : Prop :=
  r = .ok .next ∧ ∃ h' tk m' oC news, s' = { s with heap := h', toks := tk } ∧ Fr h₀ L h' m ∧ LCg.NsObj oC m' ∧ News h₀ L h' ((C, oC) :: news) ∧ (∀ p ∈ news, p.1 ≠ C) ∧ K m' news
theorem LoopFin.out {h₀ : Heap} {L : Addr} {m : Str → Option Value} {s : Shared} {wr : List Addr} {C : Addr} {K : (Str → Option Value) → List (Addr × Obj) → Prop} {s' : Shared} (x : LoopFin h₀ L m s wr C K s') : LoopOut h₀ L m s C K (.ok .next) s' := by
  obtain ⟨h', tk, m', oC, news, e, F, hC, N, off, k⟩ := x
  exact ⟨rfl, h', tk, m', oC, news, e, F, hC, N, fun p hp => (off p hp).2, k⟩
section
variable {prog : Program} {w : World} {A : Around} {E : Value → Shared → Prop} {s : Shared} {h₀ : Heap} {L : Addr} {m : Str → Option Value} {env : Env}

/-- the start of a comprehension: accumulator and namespace on the ledger -/
theorem comp_start {e : Expr} {scope : Scope} {cl : List (Str × Addr)} {newAcc : Sem Value} {accObj : Obj} {s₂ : Shared} {news : List (Addr × Obj)} {it : Value} {RR : Value → Addr → Result → Shared → Prop}
    (hacc : ∀ (Q : Value → Shared → Prop) (E : Value → Shared → Prop) (s : Shared), Q (.ref s.heap.objs.size) { s with heap := s.heap.push accObj } → wpAny (model prog w) A newAcc Q E s) (hfree : accObj.isFreed = false)
    (hcell : ∀ y ∈ scope.names, y.2 ≠ .cell) (hkind : scope.kind = .function) (F : Fr h₀ L s₂.heap m) (N : News h₀ L s₂.heap news)
    (h : ∀ C D oC h₃ tk, C ≠ L → D ≠ L → (@Ne Nat C D) → h₀.get? C = none → LCg.NsObj oC (fun _ => none) → Fr h₀ L h₃ m → News h₀ L h₃ ((C, oC) :: (D, accObj) :: news) → (∀ p ∈ news, p.1 ≠ C ∧ p.1 ≠ D) → (∀ b o, s₂.heap.get? b = some o → h₃.get? b = some o) → (∀ b, (∃ o, s₂.heap.get? b = some o) → b ≠ C ∧ b ≠ D) →
      codeAny (model prog w) A (.compStart e 0 it (.ref D) (compEnvC scope cl C env)) (RR (.ref D) C) { s₂ with heap := h₃, toks := tk }) :
    wpAny (model prog w) A newAcc (fun acc s₃ => wpAny (model prog w) A (newFunctionEnv scope env.globals cl [] env.qual none .none (some env)) (fun cenv s₄ =>
      codeAny (model prog w) A (.compStart e 0 it acc { cenv with scope := relabel scope env }) (RR acc cenv.locals) s₄) E s₃) E s₂ := by
  refine hacc _ _ _ ?_
  refine wpAny_newFunctionEnv hcell (by intro y hy; simp at hy) (fun h₁ hns₁ hsb₁ => ?_) hkind
  dsimp only at hns₁ hsb₁ ⊢
  generalize hH2 : s₂.heap.push accObj = H2 at hns₁ hsb₁ ⊢
  have hC : H2.objs.size = s₂.heap.objs.size + 1 := by rw [← hH2, Heap.size_push]
  have hDC : s₂.heap.objs.size ≠ H2.objs.size := by rw [hC]; exact Nat.ne_of_lt (Nat.lt_succ_self _)
  have below : ∀ b, b < s₂.heap.objs.size → b ≠ H2.objs.size ∧ b ≠ s₂.heap.objs.size := fun b hb => ⟨by rw [hC]; exact Nat.ne_of_lt (Nat.lt_succ_of_lt hb), Nat.ne_of_lt hb⟩
  have old : ∀ b o, s₂.heap.get? b = some o → h₁.get? b = some o := fun b o e => hsb₁.extBut b o (below b (Heap.lt_size e)).1 (Heap.get?_push_of_some _ (hH2 ▸ Heap.get?_push_of_some _ e))
  have hD : h₁.get? s₂.heap.objs.size = some accObj := hsb₁.extBut _ _ hDC (Heap.get?_push_of_some _ (hH2 ▸ Heap.get?_push_size _ hfree))
  have fresh : ∀ a, s₂.heap.objs.size ≤ a → h₀.get? a = none := fun a ha => by
    cases e : h₀.get? a with
    | none => rfl
    | some o' => exact absurd (Heap.lt_size (F.keep a o' e)) (Nat.not_lt.mpr ha)
  have hLlt : L < s₂.heap.objs.size := F.ns.lt
  obtain ⟨oC, heC, hoC⟩ := LCg.ns_obj hns₁
  refine h H2.objs.size s₂.heap.objs.size oC h₁ _ (Ne.symm (below L hLlt).1) (Ne.symm (below L hLlt).2) (Ne.symm hDC) (fresh _ (by rw [hC]; exact Nat.le_succ _)) hoC (F.keeps old) (fun p hp => ?_) (fun p hp => below _ (Heap.lt_size (N p hp).1)) old (fun b ⟨o, e⟩ => below b (Heap.lt_size e))
  rcases List.mem_cons.mp hp with rfl | hp
  · exact ⟨heC, Ne.symm (below L hLlt).1, fresh _ (by rw [hC]; exact Nat.le_succ _)⟩
  · rcases List.mem_cons.mp hp with rfl | hp
    · exact ⟨hD, Ne.symm (below L hLlt).2, fresh _ (Nat.le_refl _)⟩
    · exact ⟨old _ _ (N p hp).1, (N p hp).2⟩

/-- a list comprehension, to its loop -/
theorem listcomp_top {elt : Expr} {g : Comprehension} {gs : List Comprehension} {scope : Scope} {cl : List (Str × Addr)} {pos : Pos} {Q : Value → Shared → Prop} (hasync : g.is_async = 0)
    (hclos : closureFor scope env = pure cl) (hcell : ∀ y ∈ scope.names, y.2 ≠ .cell) (hkind : scope.kind = .function)
    (hnames : ∀ y ∈ scope.names, y.2 = .local → scope.names.lookup y.1 = some .local)
    (h : wpAny (model prog w) A (eval g.iter env) (fun xv s₁ => wpAny (model prog w) A (pyIter xv) (fun it s₂ => ∃ news, Fr h₀ L s₂.heap m ∧ News h₀ L s₂.heap news ∧
      ∀ C D oC h₃ tk, C ≠ L → D ≠ L → (@Ne Nat C D) → h₀.get? C = none → LCg.NsObj oC (fun _ => none) → Fr h₀ L h₃ m → News h₀ L h₃ ((C, oC) :: (D, LCg.lst []) :: news) → (∀ p ∈ news, p.1 ≠ C ∧ p.1 ≠ D) → (∀ b o, s₂.heap.get? b = some o → h₃.get? b = some o) → (∀ b, (∃ o, s₂.heap.get? b = some o) → b ≠ C ∧ b ≠ D) →
        codeAny (model prog w) A (.compStart (.ListComp elt (g :: gs) scope pos) 0 it (.ref D) (compEnvC scope cl C env))
          (LoopOut h₀ L m s₂ C (fun _ new => ∀ h' tk', Fr h₀ L h' m → News h₀ L h' new → Q (.ref D) { s₂ with heap := h', toks := tk' })) { s₂ with heap := h₃, toks := tk }) E s₁) E s)
    (hs : ∀ x, foldedSetIterable g.iter env x = pure x := by intro _; rfl) :
    wpAny (model prog w) A (eval (.ListComp elt (g :: gs) scope pos) env) Q E s := by
  obtain ⟨tgt, iter, ifs, asy⟩ := g
  dsimp only at hasync
  subst hasync
  rw [eval_ListComp]
  refine wpAny_comprehension_free (use := none) rfl hs hclos hkind hnames (wpAny_mono h (fun xv s₁ h₁ => wpAny_mono h₁ (fun it s₂ h₂ => ?_) fun _ _ e => e) fun _ _ e => e)
  obtain ⟨news, F, N, hh⟩ := h₂
  refine comp_start (RR := fun acc C => compPost (model prog w) A E none Q acc C) (accObj := LCg.lst []) (fun Q E s hq => wpAny_newObj_type hq) rfl hcell hkind F N fun C D oC h₃ tk a1 a2 a3 a4 a5 a6 a7 a8 a9 a10 => ?_
  refine codeAny_mono (hh C D oC h₃ tk a1 a2 a3 a4 a5 a6 a7 a8 a9 a10) fun r s' hr => ?_
  obtain ⟨rfl, h', tk', m', oC', new, rfl, F', hC', N', off, hQ⟩ := hr
  refine ⟨m', hC'.ns (N' _ List.mem_cons_self).1, fun h'' hs'' => hQ h'' tk' (F'.change hs'' a1 a4) fun p hp => ?_⟩
  have z := N' p (List.mem_cons_of_mem _ hp)
  exact ⟨hs''.extBut _ _ (off p hp) z.1, z.2⟩

theorem listcomp_assign {elt : Expr} {g : Comprehension} {gs : List Comprehension} {scope : Scope} {cl : List (Str × Addr)} {pos spos py : Pos} {y : Str} {Q : Flow → Shared → Prop} (hLe : env.locals = L) (hasync : g.is_async = 0)
    (hsw : swapsWith (.ListComp elt (g :: gs) scope pos) (some (.Name y py)) spos.line env = pure true)
    (hclos : closureFor scope env = pure cl) (hcell : ∀ y ∈ scope.names, y.2 ≠ .cell) (hkind : scope.kind = .function)
    (hnames : ∀ y ∈ scope.names, y.2 = .local → scope.names.lookup y.1 = some .local)
    (hy : env.kindOf y = some .local) (hp : (env.scope.kind == .class || (env.scope.kind == .module && env.locals != env.globals)) = false)
    (h : wpAny (model prog w) A (eval g.iter env) (fun xv s₁ => wpAny (model prog w) A (pyIter xv) (fun it s₂ => ∃ news, Fr h₀ L s₂.heap m ∧ News h₀ L s₂.heap news ∧
      ∀ C D oC h₃ tk, C ≠ L → D ≠ L → (@Ne Nat C D) → h₀.get? C = none → LCg.NsObj oC (fun _ => none) → Fr h₀ L h₃ m → News h₀ L h₃ ((C, oC) :: (D, LCg.lst []) :: news) → (∀ p ∈ news, p.1 ≠ C ∧ p.1 ≠ D) → (∀ b o, s₂.heap.get? b = some o → h₃.get? b = some o) → (∀ b, (∃ o, s₂.heap.get? b = some o) → b ≠ C ∧ b ≠ D) →
        codeAny (model prog w) A (.compStart (.ListComp elt (g :: gs) scope pos) 0 it (.ref D) (compEnvC scope cl C env))
          (LoopOut h₀ L m s₂ C (fun _ new => ∀ h' tk', Fr h₀ L h' (fun z => if z = y then some (.ref D) else m z) → News h₀ L h' new → Q .next { s₂ with heap := h', toks := tk' })) { s₂ with heap := h₃, toks := tk }) E s₁) E s)
    (hs : ∀ x, foldedSetIterable g.iter env x = pure x := by intro _; rfl) :
    wpAny (model prog w) A (exec (.Assign [.Name y py] (.ListComp elt (g :: gs) scope pos) spos) env) Q E s := by
  obtain ⟨tgt, iter, ifs, asy⟩ := g
  dsimp only at hasync
  subst hasync
  subst hLe
  rw [exec_Assign_Name_used _ _ _ _ hsw]
  refine wpAny_bind (wpAny_standAt (wpAny_bind ?_))
  show wpAny _ A (do let _ ← comprehension (.ListComp elt (⟨tgt, iter, ifs, 0⟩ :: gs) scope pos) scope env _ (newList []) false (eval iter env) (some (assign (.Name y py) env))) _ _ s
  refine wpAny_bind (wpAny_mono (wpAny_comprehension_free (use := some (assign (.Name y py) env)) (Q := fun _ s' => Q .next s') rfl hs hclos hkind hnames
    (wpAny_mono h (fun xv s₁ h₁ => wpAny_mono h₁ (fun it s₂ h₂ => ?_) fun _ _ e => e) fun _ _ e => e)) (fun _ s' hq => wpAny_pure (wpAny_pure hq)) fun _ _ e => e)
  obtain ⟨news, F, N, hh⟩ := h₂
  refine comp_start (RR := fun acc C => compPost (model prog w) A E (some (assign (.Name y py) env)) (fun _ s' => Q .next s') acc C) (accObj := LCg.lst []) (fun Q E s hq => wpAny_newObj_type hq) rfl hcell hkind F N fun C D oC h₃ tk a1 a2 a3 a4 a5 a6 a7 a8 a9 a10 => ?_
  refine codeAny_mono (hh C D oC h₃ tk a1 a2 a3 a4 a5 a6 a7 a8 a9 a10) fun r s' hr => ?_
  obtain ⟨rfl, h', tk', m', oC', new, rfl, F', hC', N', off, hQ⟩ := hr
  show wpAny _ A (assign (.Name y py) env (.ref D)) _ _ _
  refine wpAny_assign_Name (wpAny_storeName_local hy F'.ns (fun h₂ hn₂ hs₂ => ?_) hp)
  have hL₀ : h₀.get? env.locals = none := Heap.get?_none_of_le F'.above
  have F₂ : Fr h₀ env.locals h₂ (fun z => if z = y then some (.ref D) else m z) := ⟨hn₂, fun b o e => hs₂.extBut b o (fun q => by rw [q, hL₀] at e; cases e) (F'.keep b o e), F'.above⟩
  refine ⟨m', (hC'.ns (N' _ List.mem_cons_self).1).sameBut hs₂ a1, fun h'' hs'' => hQ h'' _ (F₂.change hs'' a1 a4) fun p hp => ?_⟩
  have z := N' p (List.mem_cons_of_mem _ hp)
  exact ⟨hs''.extBut _ _ (off p hp) (hs₂.extBut _ _ z.2.1 z.1), z.2⟩

/-- the loop of a list comprehension of one clause -/
noncomputable def listBody (elt : Expr) (ifs : List Expr) (acc : Value) (cenv : Env) : Sem Unit := do
  let ok ← forIn ifs true fun c r => if r = true then do let ok ← isTrue c cenv (eval c cenv); pure (ForInStep.yield ok) else pure (ForInStep.yield r)
  if ok = true then (do let _ ← call (.builtin "list.append") [acc, ← eval elt cenv]) else pure ()
theorem compTurn_G (elt target iter : Expr) (ifs : List Expr) (scope : Scope) (pos : Pos) (it acc : Value) (cenv : Env) :
    compTurn (.ListComp elt [⟨target, iter, ifs, 0⟩] scope pos) 0 it acc cenv = turnG iter.pos target it cenv (listBody elt ifs acc cenv) (.compLoop (.ListComp elt [⟨target, iter, ifs, 0⟩] scope pos) 0 it acc cenv) := by
  rw [compTurn_list]
  unfold turnG listBody
  congr 1
  funext _
  congr 1
  funext r
  cases r with
  | none => rfl
  | some v =>
    simp only [bind_assoc]
    congr 1
    funext _
    congr 1
    funext _
    congr 1
    funext ok
    cases ok <;> simp
theorem listBody_plain {elt : Expr} {acc : Value} {cenv : Env} {Q : Unit → Shared → Prop} (h : wpAny (model prog w) A (eval elt cenv) (fun y s₁ => wpAny (model prog w) A (call (.builtin "list.append") [acc, y]) (fun _ s₂ => Q () s₂) E s₁) E s) :
    wpAny (model prog w) A (listBody elt [] acc cenv) Q E s := by
  unfold listBody
  refine wpAny_bind (wpAny_tests_nil ?_)
  simp only [if_true]
  exact wpAny_bind (wpAny_mono h (fun y s₁ h₁ => wpAny_bind (wpAny_mono h₁ (fun _ s₂ h₂ => wpAny_pure h₂) fun _ _ e => e)) fun _ _ e => e)
theorem listBody_test {elt c : Expr} {acc : Value} {cenv : Env} {Q : Unit → Shared → Prop} (h : wpAny (model prog w) A (isTrue c cenv (eval c cenv)) (fun ok s₀ => WhlIf ok (wpAny (model prog w) A (eval elt cenv) (fun y s₁ => wpAny (model prog w) A (call (.builtin "list.append") [acc, y]) (fun _ s₂ => Q () s₂) E s₁) E s₀) (Q () s₀)) E s) :
    wpAny (model prog w) A (listBody elt [c] acc cenv) Q E s := by
  unfold listBody
  refine wpAny_bind (wpAny_tests_one (wpAny_mono h (fun ok s₀ h₀ => ?_) fun _ _ e => e))
  cases ok with
  | false =>
    simp only [Bool.false_eq_true, if_false]
    unfold WhlIf at h₀
    simp only [Bool.false_eq_true, if_false] at h₀
    exact wpAny_pure h₀
  | true =>
    unfold WhlIf at h₀
    simp only [if_true] at h₀ ⊢
    exact wpAny_bind (wpAny_mono h₀ (fun y s₁ h₁ => wpAny_bind (wpAny_mono h₁ (fun _ s₂ h₂ => wpAny_pure h₂) fun _ _ e => e)) fun _ _ e => e)
theorem list_loop {elt tgt iter : Expr} {ifs : List Expr} {scope : Scope} {pos : Pos} {acc : Value} {cenv : Env} {I : Addr} {fp wr : List Addr} {n : Nat} {xs : List Str} {P : Nat → List Value → Prop} {St : Nat → Heap → Prop}
    (W : Pulls prog w A I fp wr n tgt cenv xs P St) (K : KInv) (src : Addr → Option Obj)
    (hsrc : ∀ i m' nw, K i m' nw → ∀ b ∈ fp, b ∉ wr → ∃ o, src b = some o ∧ ((b, o) ∈ nw ∨ h₀.get? b = some o))
    (hCf : cenv.locals ∉ fp) (hCL : cenv.locals ≠ L) (hC0 : h₀.get? cenv.locals = none) (hwL : L ∉ wr) (hw0 : ∀ b ∈ wr, h₀.get? b = none)
    {oC : Obj} {m' : Str → Option Value} {news : List (Addr × Obj)} {h₃ : Heap} {tk : Nat} (st : St 0 h₃) (hoC : LCg.NsObj oC m') (F : Fr h₀ L h₃ m) (N : News h₀ L h₃ ((cenv.locals, oC) :: news)) (off : ∀ p ∈ news, p.1 ∉ wr ∧ p.1 ≠ cenv.locals) (hK : K 0 m' news)
    (hbody : ∀ i vs own m' oC news h tk E', i < n → P i vs → own.map (·.1) = wr → K i m' news → LCg.NsObj oC (upds xs vs m') → Fr h₀ L h m → News h₀ L h (own ++ (cenv.locals, oC) :: news) → (∀ p ∈ news, p.1 ∉ wr ∧ p.1 ≠ cenv.locals) →
      wpAny (model prog w) A (listBody elt ifs acc cenv) (fun _ s₂ => BodyEnd h₀ L m { s with heap := h, toks := tk } own cenv.locals (K (i + 1)) s₂) E' { s with heap := h, toks := tk }) :
    codeAny (model prog w) A (.compStart (.ListComp elt [⟨tgt, iter, ifs, 0⟩] scope pos) 0 (.ref I) acc cenv) (LoopOut h₀ L m s cenv.locals (K n)) { s with heap := h₃, toks := tk } := by
  have loop : codeAny (model prog w) A (.compLoop (.ListComp elt [⟨tgt, iter, ifs, 0⟩] scope pos) 0 (.ref I) acc cenv) (LoopOut h₀ L m s cenv.locals (K n)) { s with heap := h₃, toks := tk } := by
    refine codeAny_loop rfl (LoopInv h₀ L m s wr cenv.locals n St K) (fun k s' hI => ?_) n ⟨h₃, tk, 0, m', oC, news, rfl, Nat.zero_le _, rfl, st, F, hoC, N, off, hK⟩
    show wpAny _ A ((compTurn (.ListComp elt [⟨tgt, iter, ifs, 0⟩] scope pos) 0 (.ref I) acc cenv).onRaise (fun x => do noteFrame x cenv; theTreesLotGoes x)) _ _ s'
    refine wpAny_noted ?_
    rw [compTurn_G]
    refine wpAny_mono (turn_news W K src hsrc hCf hCL hC0 hwL hw0 (fun i vs own m' oC news h tk a1 a2 a3 a4 a5 a6 a7 a8 => hbody i vs own m' oC news h tk _ a1 a2 a3 a4 a5 a6 a7 a8) hI) (fun f s'' hf => ?_) fun _ _ e => e
    cases f with
    | done fl => obtain ⟨rfl, hf⟩ := hf; exact hf.out
    | again c' => exact hf
  exact codeAny_compStart_list loop (W.self 0 _ _ _ st loop)
end
end
section
local macro_rules | `(tactic| walk_at "own reset") => `(tactic| skip)
theorem resetK31 : True := by (k_with_none; w_top off; first | (walk1; done) | trivial)
local macro_rules | `(tactic| walk_at "own reset") => `(tactic| skip)
theorem resetK32 : True := by (w_top off; first | (walk1; done) | trivial)
end
section
local macro_rules | `(tactic| walk_at "ct_enter") => `(tactic| (refine' enterF ?k1 ?k2 ?k3 ?k4 ?k5 ?kA ?kF ?kK ?k6 ?k7 ?k8 ?k9 ?kB ?kR ?_ ?c5 ?c2 ?c3 ?c4; (case kA => exact rfl); (case kF => exact rfl); (case kK => assumption); (case k1 => k_asm); (case k2 => k_asm); (case k3 => k_asm); (case k4 => k_asm); (case k5 => k_asm); (case k6 => k_is); (case k7 => k_is); (case k8 => ktr_room); (case k9 => first | exact BindsTo.of_eq rfl | (refine' kp_binds ?kx ?ke; (case kx => k_in); (case ke => exact fun _ => rfl))); (case c5 => decide); (case kB => exact locs rfl); (case c2 => exact rfl); (case c3 => exact rfl); (case c4 => exact rfl); (case kR => assumption); k_whole; intro g' L' h' F' N' B' X' T'; (try dsimp only); (try k_fold)))
local macro_rules | `(tactic| walk_at "ct_leave") => `(tactic| (change LeaveG _ _ _ _ _; refine' LeaveG.intro ?F ?N ?P; (case P => walk_at "ct_out"); (case F => k_asm); (case N => exact cb_drop (by assumption) (by kcj_all))))
local macro_rules | `(tactic| walk_at "ct_use") => `(tactic| ((case B => k_asm); (case F => k_asm); (case X => k_asm); (case N => k_asm); (case T => k_asm); (case hk => first | exact rfl | assumption); (case hd => ktr_room); (case hu => ktr_units)))
local macro_rules | `(tactic| walk_at "mem_any") => `(tactic| first | assumption | exact List.mem_cons_self | (refine List.mem_cons_of_mem _ ?_; walk_at "mem_any"))
section
variable {prog : Program} {w : World} {A : Around} {E : Value → Shared → Prop} {s : Shared} {h₀ : Heap} {L : Addr} {m : Str → Option Value} {env : Env}
noncomputable def nestBody (e i1 : Expr) (acc : Value) (cenv : Env) : Sem Unit := do
  let x ← eval i1 cenv
  standAt i1.pos
  let x ← foldedSetIterable i1 cenv x
  let _ ← runOwn (.compStart e 1 (← holding [x] (pyIter x)) acc cenv) cenv
theorem compTurn_N0 (elt t0 i0 t1 i1 : Expr) (ifs1 : List Expr) (scope : Scope) (pos : Pos) (it acc : Value) (cenv : Env) :
    compTurn (.ListComp elt [⟨t0, i0, [], 0⟩, ⟨t1, i1, ifs1, 0⟩] scope pos) 0 it acc cenv =
      turnG i0.pos t0 it cenv (nestBody (.ListComp elt [⟨t0, i0, [], 0⟩, ⟨t1, i1, ifs1, 0⟩] scope pos) i1 acc cenv) (.compLoop (.ListComp elt [⟨t0, i0, [], 0⟩, ⟨t1, i1, ifs1, 0⟩] scope pos) 0 it acc cenv) := by
  have e : compTurn (.ListComp elt [⟨t0, i0, [], 0⟩, ⟨t1, i1, ifs1, 0⟩] scope pos) 0 it acc cenv = (do
      standAt i0.pos
      match ← pyNext it with
      | none => pure (.done .next)
      | some v =>
        letOwnedTupleGo t0 it v
        assign t0 cenv v
        let mut ok := true
        for c in ([] : List Expr) do
          if ok then ok ← isTrue c cenv (eval c cenv)
        if ok then
          let x ← eval i1 cenv
          standAt i1.pos
          let x ← foldedSetIterable i1 cenv x
          let _ ← runOwn (.compStart (.ListComp elt [⟨t0, i0, [], 0⟩, ⟨t1, i1, ifs1, 0⟩] scope pos) 1 (← holding [x] (pyIter x)) acc cenv) cenv
        again (.compLoop (.ListComp elt [⟨t0, i0, [], 0⟩, ⟨t1, i1, ifs1, 0⟩] scope pos) 0 it acc cenv)) := by rfl
  rw [e]
  unfold turnG nestBody
  congr 1
  funext _
  congr 1
  funext r
  cases r with
  | none => rfl
  | some v => simp
theorem compTurn_N1 (elt t0 i0 t1 i1 : Expr) (ifs1 : List Expr) (scope : Scope) (pos : Pos) (it acc : Value) (cenv : Env) :
    compTurn (.ListComp elt [⟨t0, i0, [], 0⟩, ⟨t1, i1, ifs1, 0⟩] scope pos) 1 it acc cenv =
      turnG i1.pos t1 it cenv (listBody elt ifs1 acc cenv) (.compLoop (.ListComp elt [⟨t0, i0, [], 0⟩, ⟨t1, i1, ifs1, 0⟩] scope pos) 1 it acc cenv) := by
  have e : compTurn (.ListComp elt [⟨t0, i0, [], 0⟩, ⟨t1, i1, ifs1, 0⟩] scope pos) 1 it acc cenv = (do
      standAt i1.pos
      match ← pyNext it with
      | none => pure (.done .next)
      | some v =>
        letOwnedTupleGo t1 it v
        assign t1 cenv v
        let mut ok := true
        for c in ifs1 do
          if ok then ok ← isTrue c cenv (eval c cenv)
        if ok then
          (do let _ ← call (.builtin "list.append") [acc, ← eval elt cenv])
        again (.compLoop (.ListComp elt [⟨t0, i0, [], 0⟩, ⟨t1, i1, ifs1, 0⟩] scope pos) 1 it acc cenv)) := by rfl
  rw [e]
  unfold turnG listBody
  congr 1
  funext _
  congr 1
  funext r
  cases r with
  | none => rfl
  | some v =>
    simp only [bind_assoc]
    congr 1
    funext _
    congr 1
    funext _
    congr 1
    funext ok
    cases ok <;> simp
theorem compStart1 {elt t0 i0 t1 i1 : Expr} {ifs1 : List Expr} {scope : Scope} {pos : Pos} {it acc : Value} {env : Env} {R : Result → Shared → Prop}
    (h0 : codeAny (model prog w) A (.compLoop (.ListComp elt [⟨t0, i0, [], 0⟩, ⟨t1, i1, ifs1, 0⟩] scope pos) 1 it acc env) R s)
    (h : wpAny (model prog w) A (pyIter it) (fun it' s' => codeAny (model prog w) A (.compLoop (.ListComp elt [⟨t0, i0, [], 0⟩, ⟨t1, i1, ifs1, 0⟩] scope pos) 1 it' acc env) R s')
      (notedBy (model prog w) A env fun x s' => R (.error x) s') s) :
    codeAny (model prog w) A (.compStart (.ListComp elt [⟨t0, i0, [], 0⟩, ⟨t1, i1, ifs1, 0⟩] scope pos) 1 it acc env) R s := by
  refine codeAny_of_tree ?_
  show wpAny _ _ ((compStart (.ListComp elt [⟨t0, i0, [], 0⟩, ⟨t1, i1, ifs1, 0⟩] scope pos) 1 it acc env).onRaise (fun x => do noteFrame x env; standAt theWindowsPlace)) _ _ s
  refine wpAny_notedAt ?_
  unfold compStart
  show wpAny _ _ (ask >>= _) _ _ s
  refine wpAny_bind (wpAny_askSetting (wpAny_ite ?_))
  split
  · first
      | exact wpAny_bind (wpAny_pure (wpAny_pure (And.intro rfl h0)))
      | exact wpAny_pure (And.intro rfl h0)
  · first
      | exact wpAny_bind (wpAny_rule (wpAny_bind (wpAny_standAt (wpAny_bind (wpAny_mono h (fun it' s' h' => wpAny_pure (And.intro rfl h')) fun _ _ x => x)))))
      | (refine wpAny_bind (wpAny_rule ?_); show wpAny _ _ (standAt i1.pos >>= _) _ _ s; exact wpAny_bind (wpAny_standAt (wpAny_bind (wpAny_mono h (fun it' s' h' => wpAny_pure (And.intro rfl h')) fun _ _ x => x))))

theorem inner_loop {elt t0 i0 tgt iter : Expr} {ifs : List Expr} {scope : Scope} {pos : Pos} {acc : Value} {cenv : Env} {I : Addr} {fp wr : List Addr} {n : Nat} {xs : List Str} {P : Nat → List Value → Prop} {St : Nat → Heap → Prop}
    (W : Pulls prog w A I fp wr n tgt cenv xs P St) (K : KInv) (src : Addr → Option Obj)
    (hsrc : ∀ i m' nw, K i m' nw → ∀ b ∈ fp, b ∉ wr → ∃ o, src b = some o ∧ ((b, o) ∈ nw ∨ h₀.get? b = some o))
    (hCf : cenv.locals ∉ fp) (hCL : cenv.locals ≠ L) (hC0 : h₀.get? cenv.locals = none) (hwL : L ∉ wr) (hw0 : ∀ b ∈ wr, h₀.get? b = none)
    {oC : Obj} {m' : Str → Option Value} {news : List (Addr × Obj)} {h₃ : Heap} {tk : Nat} (st : St 0 h₃) (hoC : LCg.NsObj oC m') (F : Fr h₀ L h₃ m) (N : News h₀ L h₃ ((cenv.locals, oC) :: news)) (off : ∀ p ∈ news, p.1 ∉ wr ∧ p.1 ≠ cenv.locals) (hK : K 0 m' news)
    (hbody : ∀ i vs own m' oC news h tk E', i < n → P i vs → own.map (·.1) = wr → K i m' news → LCg.NsObj oC (upds xs vs m') → Fr h₀ L h m → News h₀ L h (own ++ (cenv.locals, oC) :: news) → (∀ p ∈ news, p.1 ∉ wr ∧ p.1 ≠ cenv.locals) →
      wpAny (model prog w) A (listBody elt ifs acc cenv) (fun _ s₂ => BodyEnd h₀ L m { s with heap := h, toks := tk } own cenv.locals (K (i + 1)) s₂) E' { s with heap := h, toks := tk }) :
    codeAny (model prog w) A (.compStart (.ListComp elt [⟨t0, i0, [], 0⟩, ⟨tgt, iter, ifs, 0⟩] scope pos) 1 (.ref I) acc cenv) (LoopOut h₀ L m s cenv.locals (K n)) { s with heap := h₃, toks := tk } := by
  have loop : codeAny (model prog w) A (.compLoop (.ListComp elt [⟨t0, i0, [], 0⟩, ⟨tgt, iter, ifs, 0⟩] scope pos) 1 (.ref I) acc cenv) (LoopOut h₀ L m s cenv.locals (K n)) { s with heap := h₃, toks := tk } := by
    refine codeAny_loop rfl (LoopInv h₀ L m s wr cenv.locals n St K) (fun k s' hI => ?_) n ⟨h₃, tk, 0, m', oC, news, rfl, Nat.zero_le _, rfl, st, F, hoC, N, off, hK⟩
    show wpAny _ A ((compTurn (.ListComp elt [⟨t0, i0, [], 0⟩, ⟨tgt, iter, ifs, 0⟩] scope pos) 1 (.ref I) acc cenv).onRaise (fun x => do noteFrame x cenv; theTreesLotGoes x)) _ _ s'
    refine wpAny_noted ?_
    rw [compTurn_N1]
    refine wpAny_mono (turn_news W K src hsrc hCf hCL hC0 hwL hw0 (fun i vs own m' oC news h tk a1 a2 a3 a4 a5 a6 a7 a8 => hbody i vs own m' oC news h tk _ a1 a2 a3 a4 a5 a6 a7 a8) hI) (fun f s'' hf => ?_) fun _ _ e => e
    cases f with
    | done fl => obtain ⟨rfl, hf⟩ := hf; exact hf.out
    | again c' => exact hf
  exact compStart1 loop (W.self 0 _ _ _ st loop)

theorem nestBody_wp {e i1 : Expr} {acc : Value} {cenv : Env} {Q : Unit → Shared → Prop}
    (h : wpAny (model prog w) A (eval i1 cenv) (fun xv s₁ => wpAny (model prog w) A (pyIter xv) (fun it s₂ => codeAny (model prog w) A (.compStart e 1 it acc cenv) (fun r s' => ∃ f, r = .ok f ∧ Q () s') s₂) E s₁) E s)
    (hs : ∀ x, foldedSetIterable i1 cenv x = pure x := by intro _; rfl) :
    wpAny (model prog w) A (nestBody e i1 acc cenv) Q E s := by
  unfold nestBody
  refine wpAny_bind (wpAny_mono h (fun xv s₁ h₁ => ?_) fun _ _ e => e)
  refine wpAny_bind (wpAny_standAt (wpAny_bind (wpAny_of_eq (hs xv) ?_)))
  refine wpAny_bind (wpAny_holding (wpAny_mono h₁ (fun it s₂ h₂ => ?_) fun _ _ e => e))
  refine wpAny_bind (wpAny_runOwn (codeAny_mono h₂ fun r s' hr => ?_))
  obtain ⟨f, rfl, hq⟩ := hr
  exact wpAny_pure hq

theorem outer_loop {elt tgt iter t1 i1 : Expr} {ifs1 : List Expr} {scope : Scope} {pos : Pos} {acc : Value} {cenv : Env} {I : Addr} {fp wr : List Addr} {n : Nat} {xs : List Str} {P : Nat → List Value → Prop} {St : Nat → Heap → Prop}
    (W : Pulls prog w A I fp wr n tgt cenv xs P St) (K : KInv) (src : Addr → Option Obj)
    (hsrc : ∀ i m' nw, K i m' nw → ∀ b ∈ fp, b ∉ wr → ∃ o, src b = some o ∧ ((b, o) ∈ nw ∨ h₀.get? b = some o))
    (hCf : cenv.locals ∉ fp) (hCL : cenv.locals ≠ L) (hC0 : h₀.get? cenv.locals = none) (hwL : L ∉ wr) (hw0 : ∀ b ∈ wr, h₀.get? b = none)
    {oC : Obj} {m' : Str → Option Value} {news : List (Addr × Obj)} {h₃ : Heap} {tk : Nat} (st : St 0 h₃) (hoC : LCg.NsObj oC m') (F : Fr h₀ L h₃ m) (N : News h₀ L h₃ ((cenv.locals, oC) :: news)) (off : ∀ p ∈ news, p.1 ∉ wr ∧ p.1 ≠ cenv.locals) (hK : K 0 m' news)
    (hbody : ∀ i vs own m' oC news h tk E', i < n → P i vs → own.map (·.1) = wr → K i m' news → LCg.NsObj oC (upds xs vs m') → Fr h₀ L h m → News h₀ L h (own ++ (cenv.locals, oC) :: news) → (∀ p ∈ news, p.1 ∉ wr ∧ p.1 ≠ cenv.locals) →
      wpAny (model prog w) A (nestBody (.ListComp elt [⟨tgt, iter, [], 0⟩, ⟨t1, i1, ifs1, 0⟩] scope pos) i1 acc cenv) (fun _ s₂ => BodyEnd h₀ L m { s with heap := h, toks := tk } own cenv.locals (K (i + 1)) s₂) E' { s with heap := h, toks := tk }) :
    codeAny (model prog w) A (.compStart (.ListComp elt [⟨tgt, iter, [], 0⟩, ⟨t1, i1, ifs1, 0⟩] scope pos) 0 (.ref I) acc cenv) (LoopOut h₀ L m s cenv.locals (K n)) { s with heap := h₃, toks := tk } := by
  have loop : codeAny (model prog w) A (.compLoop (.ListComp elt [⟨tgt, iter, [], 0⟩, ⟨t1, i1, ifs1, 0⟩] scope pos) 0 (.ref I) acc cenv) (LoopOut h₀ L m s cenv.locals (K n)) { s with heap := h₃, toks := tk } := by
    refine codeAny_loop rfl (LoopInv h₀ L m s wr cenv.locals n St K) (fun k s' hI => ?_) n ⟨h₃, tk, 0, m', oC, news, rfl, Nat.zero_le _, rfl, st, F, hoC, N, off, hK⟩
    show wpAny _ A ((compTurn (.ListComp elt [⟨tgt, iter, [], 0⟩, ⟨t1, i1, ifs1, 0⟩] scope pos) 0 (.ref I) acc cenv).onRaise (fun x => do noteFrame x cenv; theTreesLotGoes x)) _ _ s'
    refine wpAny_noted ?_
    rw [compTurn_N0]
    refine wpAny_mono (turn_news W K src hsrc hCf hCL hC0 hwL hw0 (fun i vs own m' oC news h tk a1 a2 a3 a4 a5 a6 a7 a8 => hbody i vs own m' oC news h tk _ a1 a2 a3 a4 a5 a6 a7 a8) hI) (fun f s'' hf => ?_) fun _ _ e => e
    cases f with
    | done fl => obtain ⟨rfl, hf⟩ := hf; exact hf.out
    | again c' => exact hf
  exact codeAny_compStart_list loop (W.self 0 _ _ _ st loop)
end
end
section
local macro_rules | `(tactic| walk_at "own reset") => `(tactic| skip)
theorem resetC61 : True := by (k_with_none; w_top off; first | (walk1; done) | trivial)
local macro_rules | `(tactic| walk_at "own reset") => `(tactic| skip)
theorem resetC62 : True := by (w_top off; first | (walk1; done) | trivial)
end
section
local macro_rules | `(tactic| walk_at "ct_enter") => `(tactic| (refine' enterF ?k1 ?k2 ?k3 ?k4 ?k5 ?kA ?kF ?kK ?k6 ?k7 ?k8 ?k9 ?kB ?kR ?_ ?c5 ?c2 ?c3 ?c4; (case kA => exact rfl); (case kF => exact rfl); (case kK => assumption); (case k1 => k_asm); (case k2 => k_asm); (case k3 => k_asm); (case k4 => k_asm); (case k5 => k_asm); (case k6 => k_is); (case k7 => k_is); (case k8 => ktr_room); (case k9 => first | exact BindsTo.of_eq rfl | (refine' kp_binds ?kx ?ke; (case kx => k_in); (case ke => exact fun _ => rfl))); (case c5 => decide); (case kB => exact locs rfl); (case c2 => exact rfl); (case c3 => exact rfl); (case c4 => exact rfl); (case kR => assumption); k_whole; intro g' L' h' F' N' B' X' T'; (try dsimp only); (try k_fold)))
local macro_rules | `(tactic| walk_at "ct_leave") => `(tactic| (change LeaveG _ _ _ _ _; refine' LeaveG.intro ?F ?N ?P; (case P => walk_at "ct_out"); (case F => k_asm); (case N => exact cb_drop (by assumption) (by kcj_all))))
local macro_rules | `(tactic| walk_at "ct_use") => `(tactic| ((case B => k_asm); (case F => k_asm); (case X => k_asm); (case N => k_asm); (case T => k_asm); (case hk => first | exact rfl | assumption); (case hd => ktr_room); (case hu => ktr_units)))
local macro_rules | `(tactic| walk_at "mem_any") => `(tactic| first | assumption | exact List.mem_cons_self | (refine List.mem_cons_of_mem _ ?_; walk_at "mem_any"))
theorem own_one {own : List (Addr × Obj)} {I : Addr} (h : own.map (·.1) = [I]) : ∃ o, own = [(I, o)] := by
  cases own with
  | nil => cases h
  | cons p r =>
    rw [List.map_cons] at h
    have h1 := (List.cons.inj h).1
    have h2 := List.map_eq_nil_iff.mp (List.cons.inj h).2
    subst h2
    exact ⟨p.2, by rw [← h1]⟩
noncomputable abbrev StrV (v : Value) (o : Str) : Prop := ∃ t, v = .str o t
theorem Paired.get {α β : Type} {F : α → β → Prop} : ∀ {l₁ : List α} {l₂ : List β}, Paired F l₁ l₂ → ∀ {i : Nat} {a : α}, l₁[i]? = some a → ∃ b, l₂[i]? = some b ∧ F a b
  | _, _, .cons h _, 0, _, e => by cases e; exact ⟨_, rfl, h⟩
  | _, _, .cons _ t, i + 1, _, e => by simpa using Paired.get t (by simpa using e)
theorem Paired.app {α β : Type} {F : α → β → Prop} : ∀ {l₁ : List α} {l₂ : List β} {r₁ : List α} {r₂ : List β}, Paired F l₁ l₂ → Paired F r₁ r₂ → Paired F (l₁ ++ r₁) (l₂ ++ r₂)
  | _, _, _, _, .nil, h => h
  | _, _, _, _, .cons h t, h' => .cons h (Paired.app t h')
noncomputable def abc : List Str := [Str.ofString "a", Str.ofString "b", Str.ofString "c"]
noncomputable def ordOne (S o : Str) (ns : List Str) : List Str := (ns.filter fun n => decide (Txt.count o n < Txt.count S n)).map fun n => o ++ n
noncomputable def ordStep (S : Str) (os : List Str) : List Str := os.flatMap fun o => ordOne S o abc
theorem ordOne_snoc (S o : Str) (ns : List Str) (n : Str) : ordOne S o (ns ++ [n]) = ordOne S o ns ++ (if Txt.count o n < Txt.count S n then [o ++ n] else []) := by
  unfold ordOne
  rw [List.filter_append, List.map_append]
  by_cases h : Txt.count o n < Txt.count S n <;> simp [h]
theorem ordOne_len (S o : Str) (ns : List Str) : (ordOne S o ns).length ≤ ns.length := by unfold ordOne; rw [List.length_map]; exact List.length_filter_le _ _
theorem ordStep_len (S : Str) : ∀ os : List Str, (ordStep S os).length ≤ 3 * os.length
  | [] => Nat.zero_le _
  | o :: os => by
    have ih := ordStep_len S os
    have h1 := ordOne_len S o abc
    have h2 : (ordStep S (o :: os)).length = (ordOne S o abc).length + (ordStep S os).length := by
      show (List.flatMap _ _).length = _
      rw [List.flatMap_cons, List.length_append]; rfl
    have h3 : abc.length = 3 := rfl
    rw [h2, List.length_cons]
    generalize (ordOne S o abc).length = x at *
    generalize (ordStep S os).length = y at *
    rw [h3] at h1
    omega
theorem ordStep_take (S : Str) (os : List Str) (i : Nat) (o : Str) (h : os[i]? = some o) : ordStep S (os.take (i + 1)) = ordStep S (os.take i) ++ ordOne S o abc := by
  unfold ordStep
  rw [List.take_add_one, h, List.flatMap_append]
  simp
theorem abc_cps : (Str.ofString "abc").cps = #[97, 98, 99] := by decide +kernel
theorem abc_strs : abc = [⟨#[97]⟩, ⟨#[98]⟩, ⟨#[99]⟩] := by decide +kernel
theorem abc_at {i : Nat} {v : Value} (h : SignAt (Str.ofString "abc") i v) : ∃ n t, v = .str n t ∧ abc[i]? = some n ∧ n.length = 1 := by
  obtain ⟨c, u, hc, rfl⟩ := h
  rw [abc_cps] at hc
  rw [abc_strs]
  refine ⟨_, u, rfl, ?_, rfl⟩
  match i with
  | 0 => simp at hc; simp [← hc]
  | 1 => simp at hc; simp [← hc]
  | 2 => simp at hc; simp [← hc]
  | i + 3 => simp at hc
section
variable {prog : Program} {w : World} {A : Around} {E : Value → Shared → Prop} {s : Shared} {h₀ : Heap} {L : Addr} {m : Str → Option Value}
theorem pulls_list (hh : A.handled = none) {I l : Addr} (hne : l ≠ I) (vs : List Value) {x : Str} {px : Pos} {cenv : Env}
    (hx : cenv.kindOf x = some .local) (hp : (cenv.scope.kind == .class || (cenv.scope.kind == .module && cenv.locals != cenv.globals)) = false) :
    Pulls prog w A I [I, l] [I] vs.length (.Name x px) cenv [x] (fun i ws => ∃ v, ws = [v] ∧ vs[i]? = some v) (fun i h => h.IsListIter I l i ∧ h.IsList l vs.toArray) := by
  have W := Walks.list (prog := prog) (w := w) hh I l hne vs.toArray
  rw [List.size_toArray] at W
  have W' := Pulls.ofName (x := x) (px := px) (cenv := cenv) W (fun i h st b hb => by
    rcases List.mem_cons.mp hb with rfl | hb
    · obtain ⟨o, e, _⟩ := st.1; exact ⟨o, e⟩
    · rw [List.mem_singleton.mp hb]; obtain ⟨o, e, _⟩ := st.2; exact ⟨o, e⟩) hx hp
  simpa using W'
theorem pyIter_src {l : Addr} {vs : List Value} {k : Nat} {news : List (Addr × Obj)} {Q : Value → Shared → Prop} (F : Fr h₀ L s.heap m) (N : News h₀ L s.heap news) (hm : (l, listOf vs.toArray k) ∈ news)
    (h : ∀ I h', Fr h₀ L h' m → News h₀ L h' ((I, litI l 0) :: news) → (∀ p ∈ news, @LT.lt Nat _ p.1 I) → Q (.ref I) { s with heap := h' }) : wpAny (model prog w) A (pyIter (.ref l)) Q E s := by
  refine wpAny_pyIter_list (items := vs.toArray) ⟨_, (N _ hm).1, rfl, k, rfl⟩ ?_
  exact h _ _ (F.push _) (N.push F _) fun p hp => Heap.lt_size (N p hp).1
theorem append_mid {D : Addr} {ys : List Value} {y : Value} {pre post : List (Addr × Obj)} {Q : Value → Shared → Prop} (F : Fr h₀ L s.heap m) (N : News h₀ L s.heap (pre ++ (D, LCg.lst ys) :: post)) (ha : ∀ p ∈ pre, p.1 ≠ D) (hc : ∀ p ∈ post, p.1 ≠ D) (hz : ys.length ≤ 100000)
    (h : ∀ h', Fr h₀ L h' m → News h₀ L h' (pre ++ (D, LCg.lst (ys ++ [y])) :: post) → Q .none { s with heap := h' }) : wpAny (model prog w) A (call (.builtin "list.append") [.ref D, y]) Q E s := by
  have z := N (D, LCg.lst ys) (List.mem_append_right _ List.mem_cons_self)
  refine append_at (hsz := by rw [List.size_toArray, sizeLine_eq]; omega) z.1 fun h' hs hD => ?_
  refine h h' (F.change hs z.2.1 z.2.2) (news_set N ha hc hs ?_)
  rw [hD, LCg.lst_snoc]
end
section
variable {M : Model} {A : Around} {E : Value → Shared → Prop} {s : Shared} {h₀ : Heap} {L C c : Addr} {news : List (Addr × Obj)} {scope : Scope} {cl : List (Str × Addr)} {env : Env} {x : Str} {pos : Pos} {v : Value} {o : Obj} {Q : Value → Shared → Prop}
theorem ld_cell (N : News h₀ L s.heap news) (hm : (c, o) ∈ news) (hd : o.data = .cell (some v)) (hc : cl.lookup x = some c) (hk : (compEnvC scope cl C env).scope.kind = .function) (hx : (compEnvC scope cl C env).kindOf x = some .cell) (hb : (x == ("__debug__" : Str)) = false) (h : Q v s) :
    wpAny M A (eval (.Name x pos) (compEnvC scope cl C env)) Q E s := wpAny_Name (wpAny_loadName_cell hk hx hc ⟨o, N.get hm, hd⟩ h) hb
end
end
section
local macro_rules | `(tactic| walk_at "own reset") => `(tactic| skip)
theorem resetG01 : True := by (k_with_none; w_top off; first | (walk1; done) | trivial)
local macro_rules | `(tactic| walk_at "own reset") => `(tactic| skip)
theorem resetG02 : True := by (w_top off; first | (walk1; done) | trivial)
end
section
local macro_rules | `(tactic| walk_at "ct_enter") => `(tactic| (refine' enterF ?k1 ?k2 ?k3 ?k4 ?k5 ?kA ?kF ?kK ?k6 ?k7 ?k8 ?k9 ?kB ?kR ?_ ?c5 ?c2 ?c3 ?c4; (case kA => exact rfl); (case kF => exact rfl); (case kK => assumption); (case k1 => k_asm); (case k2 => k_asm); (case k3 => k_asm); (case k4 => k_asm); (case k5 => k_asm); (case k6 => k_is); (case k7 => k_is); (case k8 => ktr_room); (case k9 => first | exact BindsTo.of_eq rfl | (refine' kp_binds ?kx ?ke; (case kx => k_in); (case ke => exact fun _ => rfl))); (case c5 => decide); (case kB => exact locs rfl); (case c2 => exact rfl); (case c3 => exact rfl); (case c4 => exact rfl); (case kR => assumption); k_whole; intro g' L' h' F' N' B' X' T'; (try dsimp only); (try k_fold)))
local macro_rules | `(tactic| walk_at "ct_leave") => `(tactic| (change LeaveG _ _ _ _ _; refine' LeaveG.intro ?F ?N ?P; (case P => walk_at "ct_out"); (case F => k_asm); (case N => exact cb_drop (by assumption) (by kcj_all))))
local macro_rules | `(tactic| walk_at "ct_use") => `(tactic| ((case B => k_asm); (case F => k_asm); (case X => k_asm); (case N => k_asm); (case T => k_asm); (case hk => first | exact rfl | assumption); (case hd => ktr_room); (case hu => ktr_units)))
local macro_rules | `(tactic| walk_at "mem_any") => `(tactic| first | assumption | exact List.mem_cons_self | (refine List.mem_cons_of_mem _ ?_; walk_at "mem_any"))
/-- x, brought to its written form by computation -/
structure Got {α : Type} (x : α) : Prop where
noncomputable abbrev Got.it {α : Type} {x : α} (_ : Got x) : α := x
noncomputable def lastOf : Stmt → List Stmt → Stmt
  | s, [] => s
  | _, t :: r => lastOf t r
noncomputable def bodyOf : Stmt → List Stmt
  | .FunctionDef _ _ b _ _ _ _ _ _ _ => b
  | _ => []
noncomputable def scopeOf : Stmt → Scope
  | .FunctionDef _ _ _ _ _ _ sc _ _ _ => sc
  | _ => { kind := .function, names := [], isGenerator := false, isCoroutine := false }
noncomputable abbrev noScope : Scope := { kind := .function, names := [], isGenerator := false, isCoroutine := false }
noncomputable abbrev noStmt : Stmt := .Pass ⟨0, 0, 0, 0⟩
noncomputable abbrev noExpr : Expr := .Name (Str.ofString "") ⟨0, 0, 0, 0⟩
noncomputable def prevOf : Stmt → Stmt → List Stmt → Stmt
  | p, _, [] => p
  | _, s, t :: r => prevOf s t r
end
section
local macro_rules | `(tactic| walk_at "own reset") => `(tactic| skip)
theorem resetC71 : True := by (k_with_none; w_top off; first | (walk1; done) | trivial)
local macro_rules | `(tactic| walk_at "own reset") => `(tactic| skip)
theorem resetC72 : True := by (w_top off; first | (walk1; done) | trivial)
end
section
local macro_rules | `(tactic| walk_at "ct_enter") => `(tactic| (refine' enterF ?k1 ?k2 ?k3 ?k4 ?k5 ?kA ?kF ?kK ?k6 ?k7 ?k8 ?k9 ?kB ?kR ?_ ?c5 ?c2 ?c3 ?c4; (case kA => exact rfl); (case kF => exact rfl); (case kK => assumption); (case k1 => k_asm); (case k2 => k_asm); (case k3 => k_asm); (case k4 => k_asm); (case k5 => k_asm); (case k6 => k_is); (case k7 => k_is); (case k8 => ktr_room); (case k9 => first | exact BindsTo.of_eq rfl | (refine' kp_binds ?kx ?ke; (case kx => k_in); (case ke => exact fun _ => rfl))); (case c5 => decide); (case kB => exact locs rfl); (case c2 => exact rfl); (case c3 => exact rfl); (case c4 => exact rfl); (case kR => assumption); k_whole; intro g' L' h' F' N' B' X' T'; (try dsimp only); (try k_fold)))
local macro_rules | `(tactic| walk_at "ct_leave") => `(tactic| (change LeaveG _ _ _ _ _; refine' LeaveG.intro ?F ?N ?P; (case P => walk_at "ct_out"); (case F => k_asm); (case N => exact cb_drop (by assumption) (by kcj_all))))
local macro_rules | `(tactic| walk_at "ct_use") => `(tactic| ((case B => k_asm); (case F => k_asm); (case X => k_asm); (case N => k_asm); (case T => k_asm); (case hk => first | exact rfl | assumption); (case hd => ktr_room); (case hu => ktr_units)))
local macro_rules | `(tactic| walk_at "mem_any") => `(tactic| first | assumption | exact List.mem_cons_self | (refine List.mem_cons_of_mem _ ?_; walk_at "mem_any"))
noncomputable abbrev ordScope (more : List (Str × Const)) : Scope := by
  refine @Got.it _ ?x ?h
  case h =>
    have h : Got ({ scopeOf (prevOf noStmt noStmt PySem.Challenge.pw_wf0008_01.main.body) with more := more }) := ⟨⟩
    dsimp only [prevOf, scopeOf, PySem.Challenge.pw_wf0008_01] at h
    exact h
noncomputable abbrev ordStmt : Stmt := by
  refine @Got.it _ ?x ?h
  case h =>
    have h : Got (match bodyOf (prevOf noStmt noStmt PySem.Challenge.pw_wf0008_01.main.body) with | _ :: .For _ _ (s :: _) _ _ :: _ => s | _ => noStmt) := ⟨⟩
    dsimp only [prevOf, bodyOf, PySem.Challenge.pw_wf0008_01] at h
    exact h
noncomputable abbrev ordCScope : Scope := by
  refine @Got.it _ ?x ?h
  case h =>
    have h : Got (match ordStmt with | .Assign _ (.ListComp _ _ sc _) _ => sc | _ => noScope) := ⟨⟩
    dsimp only [ordStmt, Got.it] at h
    exact h
noncomputable abbrev ordElt : Expr := by
  refine @Got.it _ ?x ?h
  case h =>
    have h : Got (match ordStmt with | .Assign _ (.ListComp e _ _ _) _ => e | _ => noExpr) := ⟨⟩
    dsimp only [ordStmt, Got.it] at h
    exact h
noncomputable abbrev ordTest : Expr := by
  refine @Got.it _ ?x ?h
  case h =>
    have h : Got (match ordStmt with | .Assign _ (.ListComp _ (_ :: ⟨_, _, i :: _, _⟩ :: _) _ _) _ => i | _ => noExpr) := ⟨⟩
    dsimp only [ordStmt, Got.it] at h
    exact h
section
local macro_rules | `(tactic| walk_at "eval Name") => `(tactic| (k_here; (with_reducible show wpAny _ _ (eval (Expr.Name _ _) (compEnvC _ _ _ _)) _ _ _); k_dflt (refine' ld_cell ?N ?m ?d ?c ?k ?x ?b ?_; (case x => exact rfl); (case k => exact rfl); (case c => exact rfl); (case b => exact rfl); (case d => assumption); (case N => k_asm); (case m => walk_at "mem_any"))))
variable {w : World} {mean : ExcName → Option Value} {mg mb : Str → Option Value} {A : Around} {E : Value → Shared → Prop} {s : Shared} {g : Heap} {L c D C I : Addr} {m m₂ : Str → Option Value}
theorem ord_body {more : List (Str × Const)} {a : Addr} {ccd : Value} {oc oC oI o' : Obj} {I' : Addr} {S o n : Str} {tS to tn : Tok} {ys : List Value} {zs : List Str} {base : List (Addr × Obj)}
    (F : Fr g L s.heap m) (X : (Mine.hd.heap_39 w.params).In g) (T : Top Mine.hd.view_39 (looseW Mine.hd.view_39 [Str.ofString "bisect_right"]) mean mg mb g)
    (N : News g L s.heap ((I', o') :: (C, oC) :: (I, oI) :: (D, LCg.lst ys) :: base)) (hcell : (c, oc) ∈ base) (hoc : oc.data = .cell (some (.str S tS)))
    (hC : LCg.NsObj oC m₂) (ho : m₂ (Str.ofString "order") = some (.str o to)) (hn : m₂ (Str.ofString "name") = some (.str n tn)) (hP : Paired StrV ys zs) (hz : ys.length ≤ 1000) (hol : o.length ≤ 1000) (hnl : n.length = 1)
    (hI'D : @Ne Nat I' D) (hCD : @Ne Nat C D) (hID : @Ne Nat I D) (hbD : ∀ p ∈ base, p.1 ≠ D) {Q : Unit → Shared → Prop}
    (h : ∀ h' tk' ys', Fr g L h' m → News g L h' ((I', o') :: (C, oC) :: (I, oI) :: (D, LCg.lst ys') :: base) → Paired StrV ys' (zs ++ (if Txt.count o n < Txt.count S n then [o ++ n] else [])) → Q () { s with heap := h', toks := tk' }) :
    wpAny (model PySem.Challenge.rw_wf0008_01.row.prog w) A (listBody ordElt [ordTest] (.ref D) (compEnvC ordCScope [(Str.ofString "calls", c)] C (envX (Str.ofString "_law_orders") (ordScope more) L a ccd [(Str.ofString "calls", c)]))) Q E s := by
  refine listBody_test ?_
  by_cases hlt : Txt.count o n < Txt.count S n
  · rw [if_pos hlt] at h
    have hw : decide (Txt.count o n < Txt.count S n) = true := decide_eq_true hlt
    k_steps
    refine WhlIf.yes hw ?_
    k_steps
    refine append_mid (pre := [(I', o'), (C, oC), (I, oI)]) (by k_asm) (by k_asm) ?_ hbD (by omega) fun h' F' N' => h h' _ _ F' N' (Paired.snoc hP ⟨_, rfl⟩)
    exact List.forall_mem_cons.mpr ⟨hI'D, List.forall_mem_cons.mpr ⟨hCD, List.forall_mem_cons.mpr ⟨hID, List.forall_mem_nil _⟩⟩⟩
  · rw [if_neg hlt, List.append_nil] at h
    have hw : decide (Txt.count o n < Txt.count S n) = false := decide_eq_false hlt
    k_steps
    refine WhlIf.no hw ?_
    exact h _ _ ys F N hP
theorem upds1 (x : Str) (v : Value) (m : Str → Option Value) : upds [x] [v] m x = some v := by
  show (if x = x then some v else m x) = some v
  rw [if_pos rfl]
theorem upds1_ne {x z : Str} {v : Value} {m : Str → Option Value} (h : ¬ z = x) : upds [x] [v] m z = m z := by
  show (if z = x then some v else m z) = m z
  rw [if_neg h]
theorem ord_name : ¬ Str.ofString "order" = Str.ofString "name" := by decide +kernel
theorem orders_turn {more : List (Str × Const)} {a l : Addr} {ccd : Value} {oc : Obj} {S : Str} {tS : Tok} {vs : List Value} {os : List Str} {k : Nat} {news : List (Addr × Obj)} {Q : Flow → Shared → Prop} (hh : A.handled = none)
    (F : Fr g L s.heap m) (X : (Mine.hd.heap_39 w.params).In g) (T : Top Mine.hd.view_39 (looseW Mine.hd.view_39 [Str.ofString "bisect_right"]) mean mg mb g)
    (N : News g L s.heap news) (hl : m (Str.ofString "orders") = some (.ref l)) (hm : (l, listOf vs.toArray k) ∈ news) (hcell : (c, oc) ∈ news) (hoc : oc.data = .cell (some (.str S tS)))
    (hP : Paired StrV vs os) (hz2 : os.length ≤ 300) (hol : ∀ o ∈ os, o.length ≤ 1000)
    (h : ∀ D h' tk' vs', Fr g L h' (fun z => if z = Str.ofString "orders" then some (.ref D) else m z) → News g L h' ((D, LCg.lst vs') :: news) → (∀ p ∈ news, p.1 ≠ D) → Paired StrV vs' (ordStep S os) → Q .next { s with heap := h', toks := tk' }) :
    wpAny (model PySem.Challenge.rw_wf0008_01.row.prog w) A (exec ordStmt (envX (Str.ofString "_law_orders") (ordScope more) L a ccd [(Str.ofString "calls", c)])) Q E s := by
  refine listcomp_assign (m := m) (h₀ := g) rfl rfl rfl rfl (by decide) rfl (by decide) rfl rfl ?_
  dsimp only
  refine nameX_L F hl ?_ rfl rfl (by decide)
  refine pyIter_src F N hm fun I h₁ F₁ N₁ lt₁ => ?_
  refine ⟨_, F₁, N₁, fun C D oC h₃ tk a1 a2 a3 a4 hC F₃ N₃ off₃ up₃ new₃ => ?_⟩
  have hlI : l ≠ I := Nat.ne_of_lt (lt₁ _ hm)
  have zI := N₁ (I, litI l 0) List.mem_cons_self
  have zl := N₁ (l, listOf vs.toArray k) (List.mem_cons_of_mem _ hm)
  have hCI := (off₃ _ (List.mem_cons_self)).1
  have hDI := (off₃ _ (List.mem_cons_self)).2
  have offn : ∀ p ∈ news, p.1 ≠ C ∧ p.1 ≠ D := fun p hp => off₃ p (List.mem_cons_of_mem _ hp)
  have hlC := (offn _ hm).1
  refine codeAny_mono (outer_loop (cenv := compEnvC ordCScope [(Str.ofString "calls", c)] C (envX (Str.ofString "_law_orders") (ordScope more) L a ccd [(Str.ofString "calls", c)])) (pulls_list hh hlI vs rfl rfl)
    (fun i m' nw => ∃ ys, nw = (D, LCg.lst ys) :: news ∧ Paired StrV ys (ordStep S (os.take i))) (fun b => if b = l then some (listOf vs.toArray k) else none)
    ?_ ?_ a1 a4 ?_ ?_ (m' := fun _ => none) (oC := oC) (news := (D, LCg.lst []) :: news) ?_ hC F₃ ?_ ?_ ⟨[], rfl, .nil⟩ ?_) fun r s' hr => ?_
  · rintro i m' nw ⟨ys, rfl, _⟩ b hb hbI
    rcases List.mem_cons.mp hb with e | hb
    · exact absurd (List.mem_singleton.mpr e) hbI
    · rw [List.mem_singleton.mp hb]
      exact ⟨_, if_pos rfl, .inl (List.mem_cons_of_mem _ hm)⟩
  · intro hmem
    rcases List.mem_cons.mp hmem with e | e
    · exact hCI e.symm
    · exact hlC (List.mem_singleton.mp e).symm
  · intro hmem
    exact zI.2.1 (List.mem_singleton.mp hmem).symm
  · intro b hb
    rw [List.mem_singleton.mp hb]
    exact zI.2.2
  · exact ⟨⟨_, up₃ _ _ zI.1, rfl, rfl⟩, ⟨_, up₃ _ _ zl.1, rfl, k, rfl⟩⟩
  · exact cb_drop N₃ fun p hp => by
      rcases List.mem_cons.mp hp with rfl | hp
      · exact List.mem_cons_self
      · rcases List.mem_cons.mp hp with rfl | hp
        · exact List.mem_cons_of_mem _ List.mem_cons_self
        · exact List.mem_cons_of_mem _ (List.mem_cons_of_mem _ (List.mem_cons_of_mem _ hp))
  · intro p hp
    rcases List.mem_cons.mp hp with rfl | hp
    · exact ⟨fun q => hDI (List.mem_singleton.mp q).symm, fun q => a3 q.symm⟩
    · exact ⟨fun q => Nat.ne_of_lt (lt₁ p hp) (List.mem_singleton.mp q), (offn p hp).1⟩
  · rintro i ws own m' oC' nw h₄ tk₄ E' hi ⟨v, rfl, hv⟩ hown ⟨ys, rfl, hys⟩ hoC F₄ N₄ off₄
    obtain ⟨oI, rfl⟩ := own_one hown
    obtain ⟨o, ho, to, rfl⟩ := Paired.get hP hv
    have hI4 := (N₄ (I, oI) List.mem_cons_self).2
    refine nestBody_wp (wpAny_Constant_str (wpAny_pyIter_ascii (by decide +kernel) ?_))
    generalize hI' : h₄.objs.size = I'
    generalize hh4 : h₄.push { cls := Value.type "str_ascii_iterator", data := Data.fields #[Value.str (Str.ofString "abc") tk₄, Value.int 0 0] } = h₄'
    have F₅ : Fr g L h₄' m := hh4 ▸ F₄.push _
    have N₅ : News g L h₄' ((I', { cls := Value.type "str_ascii_iterator", data := Data.fields #[Value.str (Str.ofString "abc") tk₄, Value.int 0 0] }) :: ([(I, oI)] ++ (C, oC') :: (D, LCg.lst ys) :: news)) := hh4 ▸ hI' ▸ N₄.push F₄ _
    have new₅ : ∀ p ∈ [(I, oI)] ++ (C, oC') :: (D, LCg.lst ys) :: news, p.1 ≠ I' := fun p hp => hI' ▸ Nat.ne_of_lt (Heap.lt_size (N₄ p hp).1)
    have zI' := N₅ _ List.mem_cons_self
    have nI := new₅ _ List.mem_cons_self
    have nC := new₅ _ (List.mem_cons_of_mem _ List.mem_cons_self)
    have nD := new₅ _ (List.mem_cons_of_mem _ (List.mem_cons_of_mem _ List.mem_cons_self))
    have nn : ∀ p ∈ news, p.1 ≠ I' := fun p hp => new₅ p (List.mem_cons_of_mem _ (List.mem_cons_of_mem _ (List.mem_cons_of_mem _ hp)))
    have W' := Pulls.ofName (x := Str.ofString "name") (px := ⟨77, 55, 77, 59⟩) (cenv := compEnvC ordCScope [(Str.ofString "calls", c)] C (envX (Str.ofString "_law_orders") (ordScope more) L a ccd [(Str.ofString "calls", c)])) (Walks.strAscii (prog := PySem.Challenge.rw_wf0008_01.row.prog) (w := w) hh I' (Str.ofString "abc") tk₄)
      (fun i h st b hb => by rw [List.mem_singleton.mp hb]; obtain ⟨o, e, _⟩ := st; exact ⟨o, e⟩) rfl rfl
    refine codeAny_mono (inner_loop (h₀ := g) (L := L) (m := m) W'
      (fun j m'' nw => m'' (Str.ofString "order") = some (.str o to) ∧ ∃ ys', nw = (I, oI) :: (D, LCg.lst ys') :: news ∧ Paired StrV ys' (ordStep S (os.take i) ++ ordOne S o (abc.take j))) (fun _ => none)
      ?_ ?_ a1 a4 ?_ ?_ (m' := upds [Str.ofString "order"] [.str o to] m') (oC := oC') (news := (I, oI) :: (D, LCg.lst ys) :: news) ?_ hoC F₅ ?_ ?_ ⟨?_, ys, rfl, ?_⟩ ?_) fun r s' hr => ?_
    · intro i m' nw _ b hb hbI
      exact absurd hb hbI
    · intro hmem
      exact nC (List.mem_singleton.mp hmem)
    · intro hmem
      exact zI'.2.1 (List.mem_singleton.mp hmem).symm
    · intro b hb
      rw [List.mem_singleton.mp hb]
      exact zI'.2.2
    · exact ⟨_, zI'.1, rfl, rfl⟩
    · exact cb_drop N₅ fun p hp => by
        rcases List.mem_cons.mp hp with rfl | hp
        · exact List.mem_cons_of_mem _ (List.mem_cons_of_mem _ List.mem_cons_self)
        · rcases List.mem_cons.mp hp with rfl | hp
          · exact List.mem_cons_of_mem _ List.mem_cons_self
          · exact List.mem_cons_of_mem _ (List.mem_cons_of_mem _ (List.mem_cons_of_mem _ hp))
    · intro p hp
      rcases List.mem_cons.mp hp with rfl | hp
      · exact ⟨fun q => nI (List.mem_singleton.mp q), fun q => hCI q⟩
      · exact ⟨fun q => new₅ p (List.mem_cons_of_mem _ (List.mem_cons_of_mem _ hp)) (List.mem_singleton.mp q), (off₄ p hp).2⟩
    · exact upds1 _ _ _
    · simpa [ordOne] using hys
    · rintro j ws own' m5 oC5 nw5 h5 tk5 E5 hj ⟨v', rfl, hv'⟩ hown' ⟨ho5, ys', rfl, hys'⟩ hoC5 F5 N5 off5
      obtain ⟨o5, rfl⟩ := own_one hown'
      obtain ⟨n, tn, rfl, hn, hnl⟩ := abc_at hv'
      have hlen := Paired.length hys'
      have hb1 := ordStep_len S (os.take i)
      have hb2 := ordOne_len S o (abc.take j)
      have hb3 : (abc.take j).length ≤ 3 := by rw [List.length_take]; exact Nat.min_le_right _ _
      have hb4 : (os.take i).length ≤ os.length := by rw [List.length_take]; exact Nat.min_le_right _ _
      rw [List.length_append] at hlen
      refine ord_body F5 X T N5 hcell hoc hoC5 ((upds1_ne ord_name).trans ho5) (upds1 _ _ _) hys' (by omega) (hol o (List.mem_of_getElem? ho)) hnl (fun q => nD q.symm) (fun q => a3 q) (fun q => hDI q) (fun p hp => (offn p hp).2) fun h6 tk6 ys6 F6 N6 hys6 => ?_
      refine ⟨h6, tk6, oC5, _, (I, oI) :: (D, LCg.lst ys6) :: news, rfl, F6, N6, hoC5, ?_, (upds1_ne ord_name).trans ho5, ys6, rfl, ?_⟩
      · intro p hp
        rcases List.mem_cons.mp hp with rfl | hp
        · exact off5 _ List.mem_cons_self
        · rcases List.mem_cons.mp hp with rfl | hp
          · exact off5 (D, LCg.lst ys') (List.mem_cons_of_mem _ List.mem_cons_self)
          · exact off5 p (List.mem_cons_of_mem _ (List.mem_cons_of_mem _ hp))
      · rw [List.take_add_one, hn, Option.toList_some, ordOne_snoc, ← List.append_assoc]
        exact hys6
    · obtain ⟨rfl, h', tk', m'', oC'', nw, rfl, F', hC', N', off', _, ys', rfl, hys'⟩ := hr
      refine ⟨_, rfl, h', tk', oC'', m'', (D, LCg.lst ys') :: news, rfl, F', cb_drop N' ?_, hC', ?_, ys', rfl, ?_⟩
      · intro p hp
        rcases List.mem_cons.mp hp with rfl | hp
        · exact List.mem_cons_of_mem _ List.mem_cons_self
        · rcases List.mem_cons.mp hp with rfl | hp
          · exact List.mem_cons_self
          · exact List.mem_cons_of_mem _ (List.mem_cons_of_mem _ hp)
      · intro p hp
        rcases List.mem_cons.mp hp with rfl | hp
        · exact off₄ (D, LCg.lst ys) List.mem_cons_self
        · exact off₄ p (List.mem_cons_of_mem _ hp)
      · rw [ordStep_take S os i o ho]
        have e : abc.take (Str.ofString "abc").cps.size = abc := by rw [abc_cps]; rfl
        rw [e] at hys'
        exact hys'
  · obtain ⟨rfl, h', tk', m', oC', nw, rfl, F', hC', N', off', ys, rfl, hys⟩ := hr
    rw [hP.length, List.take_length] at hys
    exact ⟨rfl, h', tk', m', oC', _, rfl, F', hC', N', off', fun h'' tk'' F'' N'' => h D h'' tk'' ys F'' N'' (fun p hp => (offn p hp).2) hys⟩
end
end
section
local macro_rules | `(tactic| walk_at "own reset") => `(tactic| skip)
theorem resetC81 : True := by (k_with_none; w_top off; first | (walk1; done) | trivial)
local macro_rules | `(tactic| walk_at "own reset") => `(tactic| skip)
theorem resetC82 : True := by (w_top off; first | (walk1; done) | trivial)
end
section
local macro_rules | `(tactic| walk_at "ct_enter") => `(tactic| (refine' enterF ?k1 ?k2 ?k3 ?k4 ?k5 ?kA ?kF ?kK ?k6 ?k7 ?k8 ?k9 ?kB ?kR ?_ ?c5 ?c2 ?c3 ?c4; (case kA => exact rfl); (case kF => exact rfl); (case kK => assumption); (case k1 => k_asm); (case k2 => k_asm); (case k3 => k_asm); (case k4 => k_asm); (case k5 => k_asm); (case k6 => k_is); (case k7 => k_is); (case k8 => ktr_room); (case k9 => first | exact BindsTo.of_eq rfl | (refine' kp_binds ?kx ?ke; (case kx => k_in); (case ke => exact fun _ => rfl))); (case c5 => decide); (case kB => exact locs rfl); (case c2 => exact rfl); (case c3 => exact rfl); (case c4 => exact rfl); (case kR => assumption); k_whole; intro g' L' h' F' N' B' X' T'; (try dsimp only); (try k_fold)))
local macro_rules | `(tactic| walk_at "ct_leave") => `(tactic| (change LeaveG _ _ _ _ _; refine' LeaveG.intro ?F ?N ?P; (case P => walk_at "ct_out"); (case F => k_asm); (case N => exact cb_drop (by assumption) (by kcj_all))))
local macro_rules | `(tactic| walk_at "ct_use") => `(tactic| ((case B => k_asm); (case F => k_asm); (case X => k_asm); (case N => k_asm); (case T => k_asm); (case hk => first | exact rfl | assumption); (case hd => ktr_room); (case hu => ktr_units)))
local macro_rules | `(tactic| walk_at "mem_any") => `(tactic| first | assumption | exact List.mem_cons_self | (refine List.mem_cons_of_mem _ ?_; walk_at "mem_any"))
/-- the orders, turn by turn -/
noncomputable def ordN (S : Str) : Nat → List Str
  | 0 => [Str.ofString ""]
  | k + 1 => ordStep S (ordN S k)
theorem ordN_len (S : Str) : ∀ k, (ordN S k).length ≤ 3 ^ k
  | 0 => Nat.le_refl _
  | k + 1 => by
    have h := ordStep_len S (ordN S k)
    have ih := ordN_len S k
    rw [ordN, Nat.pow_succ]
    omega
theorem ordN_lens (S : Str) : ∀ k, ∀ o ∈ ordN S k, o.length ≤ k
  | 0, o, h => by rw [ordN] at h; rw [List.mem_singleton.mp h]; exact Nat.le_refl _
  | k + 1, o, h => by
    rw [ordN, ordStep] at h
    obtain ⟨o', h', h2⟩ := List.mem_flatMap.mp h
    have ih := ordN_lens S k o' h'
    unfold ordOne at h2
    obtain ⟨n, hn, rfl⟩ := List.mem_map.mp h2
    have hn' := (List.mem_filter.mp hn).1
    have e : n.length = 1 := by
      rw [abc_strs] at hn'
      rcases List.mem_cons.mp hn' with rfl | hn'
      · rfl
      · rcases List.mem_cons.mp hn' with rfl | hn'
        · rfl
        · rw [List.mem_singleton.mp hn']; rfl
    rw [Str.length_append, e]
    omega
theorem ordN_z (S : Str) (k : Nat) (h : 3 ^ k ≤ 300) : (ordN S k).length ≤ 300 := Nat.le_trans (ordN_len S k) h
theorem ordN_o (S : Str) (k : Nat) (h : k ≤ 1000) : ∀ o ∈ ordN S k, o.length ≤ 1000 := fun o ho => Nat.le_trans (ordN_lens S k o ho) h
theorem ordN_0 (S : Str) (t : Tok) : Paired StrV [Value.str (Str.ofString "") t] (ordN S 0) := .cons ⟨t, rfl⟩ .nil
theorem ordN_s {S : Str} {vs : List Value} (k : Nat) (h : Paired StrV vs (ordStep S (ordN S k))) : Paired StrV vs (ordN S (k + 1)) := h
section
variable {w : World} {mean : ExcName → Option Value} {mg mb : Str → Option Value}
theorem enterC {K : Frag} {A A₀ : Around} {s : Shared} {base h₀ : Heap} {env : Env} {outer : List Env} {L : Addr} {m : Str → Option Value} {small : List (Addr × Obj)} {Q E : Value → Shared → Prop}
    {p : Program} {loose : List Str}
    {name qual : Str} {params : Arguments} {body : List Stmt} {scope : Scope} {dV kV doc pm cdv ct oc : Value} {an od : Option Addr} {osl : Array (Option Value)} {f : Addr} {args : List Value} {binds : List (Str × Value)} {Out : Value → List (Addr × Obj) → Prop}
    (B : Below A₀ base outer h₀) (F : Fr h₀ L s.heap m) (X₀ : K.In h₀) (N : News h₀ L s.heap small) (T : Top p loose mean mg mb h₀) (hA : A.frames = some (env :: outer)) (hf : env.frame = some L) (hke : env.scope.kind = .function)
    (ho : K.lookup f = some ⟨oc, od, .func (fnOf name qual params body scope dV kV doc pm an cdv ct), osl⟩) (hcd : codeIn K cdv qual = true) (hroom : (A).depth < recursionLimit)
    (hbind : BindsTo s (fnOf name qual params body scope dV kV doc pm an cdv ct) ⟨args, []⟩ binds) (hkind : (binds.all fun y => scope.names.lookup y.1 == some .local || scope.names.lookup y.1 == some .cell) = true)
    (hnd : ((cellsFrom 0 scope.names []).map (·.1)).Nodup)
    (ret : ∀ r new h' tk', (∀ b o, b ∉ small.map (·.1) → s.heap.get? b = some o → h'.get? b = some o) → (∀ q ∈ new, h'.get? q.1 = some q.2 ∧ (q.1 ∈ small.map (·.1) ∨ s.heap.get? q.1 = none)) → Out r new → Q r { s with heap := h', toks := tk' })
    (h : ∀ g L' h₁ tk cells, Fr g L' h₁ (bindL (envOfC qual scope L' f cdv).kindOf binds fun _ => none) → News g L' h₁ (cells ++ small) →
      CellsAre (bindC (envOfC qual scope L' f cdv).kindOf binds fun _ => none) (cellsFrom (L' + 1) scope.names []) cells → Below A base (env :: outer) g → K.In g → Top p loose mean mg mb g → (∀ p ∈ small, p.1 < L') →
      wpAny (model PySem.Challenge.rw_wf0008_01.row.prog w) (A.deeper (envOfC qual scope L' f cdv)) (execs body (envOfC qual scope L' f cdv))
        (fun fl s' => LeaveG g Out s (match fl with | .ret v => v | _ => .none) s')
        (fun _ _ => False)
        { s with heap := h₁, toks := tk })
    (hco : scope.isCoroutine = false := by rfl) (hgen : scope.isGenerator = false := by rfl) (hk : scope.kind = .function := by rfl) :
    wpAny (model PySem.Challenge.rw_wf0008_01.row.prog w) A (call (.ref f) args) Q E s := by
  refine wpAny_call ?_
  obtain ⟨FG, BG, st, _⟩ := groundX (R := fun _ _ => True) B F N hA hf hke
  have X := X₀.keeps F.keep
  refine codeAny_call_function (fd := fnOf name qual params body scope dV kV doc pm an cdv ct) hroom (X _ _ ho) rfl hco hgen rfl (codeRec_of X hcd) (hbind _ _ _ _ ?_)
  refine wpAny_newFunctionEnv_cells hk (kindsX hkind _) fun env' he s' x => ?_
  subst he
  refine ⟨(T.nolimit.keeps F.keep).keeps x.toInCall.keep, codeAny_func ?_⟩
  obtain ⟨h₁, tk, rfl, _⟩ := x.done
  have hk₁ := x.toInCall.keep
  obtain ⟨cells, NC, Y⟩ := Cl.news (h₀ := s.heap) (Nat.le_refl _) fun n c hm => ⟨x.cell n c (lookup_of_mem_nodup (cellsFrom_names scope.names 0 (s.heap.objs.size + 1) [] [] rfl ▸ hnd) hm), x.above n c hm⟩
  refine wpAny_mono (h _ s.heap.objs.size h₁ tk cells ⟨x.toInCall.ns, fun b o e => hk₁ b o (of_hideAll _ e), Nat.le_of_eq (hideAll_size _ _)⟩ (fun p hp => ?_) Y BG (X₀.keeps st) (T.keeps st) (fun p hp => Heap.lt_size (N p hp).1)) (fun fl s' hl => ?_) fun _ _ y => y.elim
  · rcases List.mem_append.mp hp with hp | hp
    · refine ⟨(NC p hp).1, (NC p hp).2.1, ?_⟩
      cases q : (hideAll s.heap (small.map (·.1))).get? p.1 with
      | none => rfl
      | some o => have := of_hideAll _ q; rw [(NC p hp).2.2] at this; cases this
    · exact ⟨hk₁ _ _ (N p hp).1, Nat.ne_of_lt (Heap.lt_size (N p hp).1), hideAll_none _ (List.mem_map_of_mem hp)⟩
  · obtain ⟨L', m', new, h', tk', e, F', N', out⟩ := hl
    rw [e]
    refine ret _ new h' tk' (fun b o hb e => F'.keep b o (hideAll_get _ e hb)) (fun q hq => ⟨(N' q hq).1, ?_⟩) out
    by_cases hm : q.1 ∈ small.map (·.1)
    · exact .inl hm
    · refine .inr ?_
      cases e : s.heap.get? q.1 with
      | none => rfl
      | some o => have := (N' q hq).2.2; rw [hideAll_get _ e hm] at this; cases this
end
theorem orders_turnN {w : World} {mean : ExcName → Option Value} {mg mb : Str → Option Value} {A : Around} {E : Value → Shared → Prop} {s : Shared} {g : Heap} {L c : Addr} {m : Str → Option Value}
    {more : List (Str × Const)} {a l : Addr} {ccd : Value} {oc : Obj} {S : Str} {tS : Tok} {vs : List Value} {k : Nat} {news : List (Addr × Obj)} {Q : Flow → Shared → Prop} (j : Nat) (hh : A.handled = none)
    (F : Fr g L s.heap m) (X : (Mine.hd.heap_39 w.params).In g) (T : Top Mine.hd.view_39 (looseW Mine.hd.view_39 [Str.ofString "bisect_right"]) mean mg mb g)
    (N : News g L s.heap news) (hl : m (Str.ofString "orders") = some (.ref l)) (hm : (l, listOf vs.toArray k) ∈ news) (hcell : (c, oc) ∈ news) (hoc : oc.data = .cell (some (.str S tS)))
    (hP : Paired StrV vs (ordN S j)) (hj : j ≤ 4)
    (h : ∀ D h' tk' vs', Fr g L h' (fun z => if z = Str.ofString "orders" then some (.ref D) else m z) → News g L h' ((D, LCg.lst vs') :: news) → (∀ p ∈ news, p.1 ≠ D) → Paired StrV vs' (ordN S (j + 1)) → Q .next { s with heap := h', toks := tk' }) :
    wpAny (model PySem.Challenge.rw_wf0008_01.row.prog w) A (exec ordStmt (envX (Str.ofString "_law_orders") (ordScope more) L a ccd [(Str.ofString "calls", c)])) Q E s :=
  orders_turn hh F X T N hl hm hcell hoc hP (ordN_z S j (Nat.le_trans (Nat.pow_le_pow_right (by decide) hj) (by decide))) (ordN_o S j (Nat.le_trans hj (by decide))) h
section
local macro_rules | `(tactic| walk_at "ct_enterC") => `(tactic| (refine' enterC ?k1 ?k2 ?k3 ?k4 ?k5 ?kA ?kF ?kK ?k6 ?k7 ?k8 ?k9 ?kB ?kD ?kR ?_ ?c2 ?c3 ?c4; (case kA => exact rfl); (case kF => exact rfl); (case kK => assumption); (case k1 => k_asm); (case k2 => k_asm); (case k3 => k_asm); (case k4 => k_asm); (case k5 => k_asm); (case k6 => k_is); (case k7 => k_is); (case k8 => ktr_room); (case k9 => exact BindsTo.of_eq rfl); (case kB => exact rfl); (case kD => decide +kernel); (case c2 => exact rfl); (case c3 => exact rfl); (case c4 => exact rfl); (case kR => assumption); k_whole; intro g' L' h' tk' cells' F' N' Y' B' X' T' l1; (try k_lt l1); k_cells Y'; (try simp only [List.cons_append, List.nil_append] at N'); (try dsimp only); (try k_fold)))
local macro_rules | `(tactic| walk_at "exec Assign cons ListComp") => `(tactic| (k_here; k_dflt (refine' orders_turnN _ ?hh ?F ?X ?T ?N ?hl ?hm ?hc ?hoc ?hP ?hj ?_; (case hh => exact rfl); (case F => k_asm); (case X => k_asm); (case T => k_asm); (case N => k_asm); (case hl => exact rfl); (case hm => k_mem); (case hoc => assumption); (case hc => k_mem); (case hP => first | assumption | exact ordN_0 _ _); (case hj => decide)); intro D h' tk' vs' F' N' off hP'; (obtain ⟨off1, off2⟩ := List.forall_mem_cons.mp off); clear off; (try simp only [List.forall_mem_cons] at off2)))
theorem ct_orders {w : World} {mean mg mb} {S : Str} {t : Tok} :
   Ct w mean mg mb 70 3 40 [.str S t] [] (fun v new => ∃ D vs, v = .ref D ∧ new = [(D, LCg.lst vs)] ∧ Paired StrV vs (ordN S 4)) := by
  intro dp un gd cn cs a ccd cl outer A₀ base h₀ L m s Q E B F X N TT hk hd hu hret
  k_dflt (walk_at "ct_enterC")
  k_steps
  change LeaveG _ _ _ _ _
  refine LeaveG.intro (by k_asm) ?_ ⟨_, _, rfl, rfl, by assumption⟩
  exact cb_drop (by assumption) (List.forall_mem_cons.mpr ⟨by k_mem, List.forall_mem_nil _⟩)
end
end
section
local macro_rules | `(tactic| walk_at "own reset") => `(tactic| skip)
theorem resetLT1 : True := by (k_with_none; w_top off; first | (walk1; done) | trivial)
local macro_rules | `(tactic| walk_at "own reset") => `(tactic| skip)
theorem resetLT2 : True := by (w_top off; first | (walk1; done) | trivial)
end
section
local macro_rules | `(tactic| walk_at "ct_enter") => `(tactic| (refine' enterF ?k1 ?k2 ?k3 ?k4 ?k5 ?kA ?kF ?kK ?k6 ?k7 ?k8 ?k9 ?kB ?kR ?_ ?c5 ?c2 ?c3 ?c4; (case kA => exact rfl); (case kF => exact rfl); (case kK => assumption); (case k1 => k_asm); (case k2 => k_asm); (case k3 => k_asm); (case k4 => k_asm); (case k5 => k_asm); (case k6 => k_is); (case k7 => k_is); (case k8 => ktr_room); (case k9 => first | exact BindsTo.of_eq rfl | (refine' kp_binds ?kx ?ke; (case kx => k_in); (case ke => exact fun _ => rfl))); (case c5 => decide); (case kB => exact locs rfl); (case c2 => exact rfl); (case c3 => exact rfl); (case c4 => exact rfl); (case kR => assumption); k_whole; intro g' L' h' F' N' B' X' T'; (try dsimp only); (try k_fold)))
local macro_rules | `(tactic| walk_at "ct_leave") => `(tactic| (change LeaveG _ _ _ _ _; refine' LeaveG.intro ?F ?N ?P; (case P => walk_at "ct_out"); (case F => k_asm); (case N => exact cb_drop (by assumption) (by kcj_all))))
local macro_rules | `(tactic| walk_at "ct_use") => `(tactic| ((case B => k_asm); (case F => k_asm); (case X => k_asm); (case N => k_asm); (case T => k_asm); (case hk => first | exact rfl | assumption); (case hd => ktr_room); (case hu => ktr_units)))
local macro_rules | `(tactic| walk_at "mem_any") => `(tactic| first | assumption | exact List.mem_cons_self | (refine List.mem_cons_of_mem _ ?_; walk_at "mem_any"))
noncomputable abbrev lawBody : List Stmt := by
  refine @Got.it _ ?x ?h
  case h =>
    have h : Got (bodyOf (lastOf noStmt PySem.Challenge.pw_wf0008_01.main.body)) := ⟨⟩
    dsimp only [lastOf, bodyOf, PySem.Challenge.pw_wf0008_01] at h
    exact h
noncomputable abbrev lawScope (more : List (Str × Const)) : Scope := by
  refine @Got.it _ ?x ?h
  case h =>
    have h : Got ({ scopeOf (lastOf noStmt PySem.Challenge.pw_wf0008_01.main.body) with more := more }) := ⟨⟩
    dsimp only [lastOf, scopeOf, PySem.Challenge.pw_wf0008_01] at h
    exact h
noncomputable abbrev lawCl (c1 c2 c3 c4 c5 : Addr) : List (Str × Addr) := [(Str.ofString "order", c5), (Str.ofString "profile", c4), (Str.ofString "tape", c3), (Str.ofString "calls", c2), (Str.ofString "drawn", c1)]
noncomputable abbrev lawEnv (more : List (Str × Const)) (L a : Addr) (ccd : Value) (c1 c2 c3 c4 c5 : Addr) : Env := envX (Str.ofString "law") (lawScope more) L a ccd (lawCl c1 c2 c3 c4 c5)
noncomputable abbrev lawTop (dp un : Nat) (gd : Option (List Code)) (more : List (Str × Const)) (L a : Addr) (ccd : Value) (c1 c2 c3 c4 c5 : Addr) (outer : List Env) : Around := ktrTop dp un gd (Str.ofString "law") (lawScope more) L a ccd (lawCl c1 c2 c3 c4 c5) outer
noncomputable abbrev callsComp : Expr := by
  refine @Got.it _ ?x ?h
  case h =>
    have h : Got (match lawBody with | _ :: .Assign _ (.Call _ [c] _ _) _ :: _ => c | _ => noExpr) := ⟨⟩
    dsimp only [lawBody, Got.it] at h
    exact h
noncomputable abbrev toldComp : Expr := by
  refine @Got.it _ ?x ?h
  case h =>
    have h : Got (match lawBody with | _ :: _ :: _ :: .Assign _ (.BinOp (.BinOp c _ _ _) _ _ _) _ :: _ => c | _ => noExpr) := ⟨⟩
    dsimp only [lawBody, Got.it] at h
    exact h
noncomputable abbrev tailStmts : List Stmt := by
  refine @Got.it _ ?x ?h
  case h =>
    have h : Got (match lawBody with | _ :: _ :: _ :: _ :: r => r | _ => []) := ⟨⟩
    dsimp only [lawBody, Got.it] at h
    exact h
noncomputable abbrev tapeComp : Expr := by
  refine @Got.it _ ?x ?h
  case h =>
    have h : Got (match tailStmts with | .Assign _ (.Call _ [c] _ _) _ :: _ => c | _ => noExpr) := ⟨⟩
    dsimp only [tailStmts, Got.it] at h
    exact h
noncomputable abbrev profComp : Expr := by
  refine @Got.it _ ?x ?h
  case h =>
    have h : Got (match tailStmts with | _ :: .Assign _ c _ :: _ => c | _ => noExpr) := ⟨⟩
    dsimp only [tailStmts, Got.it] at h
    exact h
noncomputable abbrev seenStmt : Stmt := by
  refine @Got.it _ ?x ?h
  case h =>
    have h : Got (match tailStmts with | _ :: _ :: _ :: c :: _ => c | _ => noStmt) := ⟨⟩
    dsimp only [tailStmts, Got.it] at h
    exact h
noncomputable abbrev forStmt : Stmt := by
  refine @Got.it _ ?x ?h
  case h =>
    have h : Got (match tailStmts with | _ :: _ :: _ :: _ :: _ :: _ :: c :: _ => c | _ => noStmt) := ⟨⟩
    dsimp only [tailStmts, Got.it] at h
    exact h
noncomputable abbrev retStmt : Stmt := by
  refine @Got.it _ ?x ?h
  case h =>
    have h : Got (match tailStmts with | _ :: _ :: _ :: _ :: _ :: _ :: _ :: c :: _ => c | _ => noStmt) := ⟨⟩
    dsimp only [tailStmts, Got.it] at h
    exact h
noncomputable abbrev testComp : Expr := by
  refine @Got.it _ ?x ?h
  case h =>
    have h : Got (match forStmt with | .For _ _ (.If (.Compare c _ _ _) _ _ _ :: _) _ _ => c | _ => noExpr) := ⟨⟩
    dsimp only [forStmt, Got.it] at h
    exact h
noncomputable abbrev callsCScope : Scope := by
  refine @Got.it _ ?x ?h
  case h =>
    have h : Got (match callsComp with | .ListComp _ _ sc _ => sc | _ => noScope) := ⟨⟩
    dsimp only [callsComp, Got.it] at h
    exact h
noncomputable abbrev callsElt : Expr := by
  refine @Got.it _ ?x ?h
  case h =>
    have h : Got (match callsComp with | .ListComp e _ _ _ => e | _ => noExpr) := ⟨⟩
    dsimp only [callsComp, Got.it] at h
    exact h
noncomputable abbrev toldCScope : Scope := by
  refine @Got.it _ ?x ?h
  case h =>
    have h : Got (match toldComp with | .ListComp _ _ sc _ => sc | _ => noScope) := ⟨⟩
    dsimp only [toldComp, Got.it] at h
    exact h
noncomputable abbrev toldElt : Expr := by
  refine @Got.it _ ?x ?h
  case h =>
    have h : Got (match toldComp with | .ListComp e _ _ _ => e | _ => noExpr) := ⟨⟩
    dsimp only [toldComp, Got.it] at h
    exact h
noncomputable abbrev tapeCScope : Scope := by
  refine @Got.it _ ?x ?h
  case h =>
    have h : Got (match tapeComp with | .ListComp _ _ sc _ => sc | _ => noScope) := ⟨⟩
    dsimp only [tapeComp, Got.it] at h
    exact h
noncomputable abbrev tapeElt : Expr := by
  refine @Got.it _ ?x ?h
  case h =>
    have h : Got (match tapeComp with | .ListComp e _ _ _ => e | _ => noExpr) := ⟨⟩
    dsimp only [tapeComp, Got.it] at h
    exact h
noncomputable abbrev testCScope : Scope := by
  refine @Got.it _ ?x ?h
  case h =>
    have h : Got (match testComp with | .ListComp _ _ sc _ => sc | _ => noScope) := ⟨⟩
    dsimp only [testComp, Got.it] at h
    exact h
noncomputable abbrev testElt : Expr := by
  refine @Got.it _ ?x ?h
  case h =>
    have h : Got (match testComp with | .ListComp e _ _ _ => e | _ => noExpr) := ⟨⟩
    dsimp only [testComp, Got.it] at h
    exact h
noncomputable abbrev profCScope : Scope := by
  refine @Got.it _ ?x ?h
  case h =>
    have h : Got (match profComp with | .DictComp _ _ _ sc _ => sc | _ => noScope) := ⟨⟩
    dsimp only [profComp, Got.it] at h
    exact h
noncomputable abbrev profKx : Expr := by
  refine @Got.it _ ?x ?h
  case h =>
    have h : Got (match profComp with | .DictComp k _ _ _ _ => k | _ => noExpr) := ⟨⟩
    dsimp only [profComp, Got.it] at h
    exact h
noncomputable abbrev profVx : Expr := by
  refine @Got.it _ ?x ?h
  case h =>
    have h : Got (match profComp with | .DictComp _ v _ _ _ => v | _ => noExpr) := ⟨⟩
    dsimp only [profComp, Got.it] at h
    exact h
noncomputable abbrev seenCScope : Scope := by
  refine @Got.it _ ?x ?h
  case h =>
    have h : Got (match seenStmt with | .Assign _ (.ListComp _ _ sc _) _ => sc | _ => noScope) := ⟨⟩
    dsimp only [seenStmt, Got.it] at h
    exact h
noncomputable abbrev seenElt : Expr := by
  refine @Got.it _ ?x ?h
  case h =>
    have h : Got (match seenStmt with | .Assign _ (.ListComp e _ _ _) _ => e | _ => noExpr) := ⟨⟩
    dsimp only [seenStmt, Got.it] at h
    exact h
noncomputable abbrev octCall : Expr := by
  refine @Got.it _ ?x ?h
  case h =>
    have h : Got (match tapeComp with | .ListComp _ (_ :: g :: _) _ _ => g.iter | _ => noExpr) := ⟨⟩
    dsimp only [tapeComp, Got.it] at h
    exact h
noncomputable abbrev testIf : Expr := by
  refine @Got.it _ ?x ?h
  case h =>
    have h : Got (match testComp with | .ListComp _ (⟨_, _, i :: _, _⟩ :: _) _ _ => i | _ => noExpr) := ⟨⟩
    dsimp only [testComp, Got.it] at h
    exact h
noncomputable abbrev forBody : List Stmt := by
  refine @Got.it _ ?x ?h
  case h =>
    have h : Got (match forStmt with | .For _ _ b _ _ => b | _ => []) := ⟨⟩
    dsimp only [forStmt, Got.it] at h
    exact h
end
section
local macro_rules | `(tactic| walk_at "own reset") => `(tactic| skip)
theorem resetL21 : True := by (k_with_none; w_top off; first | (walk1; done) | trivial)
local macro_rules | `(tactic| walk_at "own reset") => `(tactic| skip)
theorem resetL22 : True := by (w_top off; first | (walk1; done) | trivial)
end
section
local macro_rules | `(tactic| walk_at "ct_enter") => `(tactic| (refine' enterF ?k1 ?k2 ?k3 ?k4 ?k5 ?kA ?kF ?kK ?k6 ?k7 ?k8 ?k9 ?kB ?kR ?_ ?c5 ?c2 ?c3 ?c4; (case kA => exact rfl); (case kF => exact rfl); (case kK => assumption); (case k1 => k_asm); (case k2 => k_asm); (case k3 => k_asm); (case k4 => k_asm); (case k5 => k_asm); (case k6 => k_is); (case k7 => k_is); (case k8 => ktr_room); (case k9 => first | exact BindsTo.of_eq rfl | (refine' kp_binds ?kx ?ke; (case kx => k_in); (case ke => exact fun _ => rfl))); (case c5 => decide); (case kB => exact locs rfl); (case c2 => exact rfl); (case c3 => exact rfl); (case c4 => exact rfl); (case kR => assumption); k_whole; intro g' L' h' F' N' B' X' T'; (try dsimp only); (try k_fold)))
local macro_rules | `(tactic| walk_at "ct_leave") => `(tactic| (change LeaveG _ _ _ _ _; refine' LeaveG.intro ?F ?N ?P; (case P => walk_at "ct_out"); (case F => k_asm); (case N => exact cb_drop (by assumption) (by kcj_all))))
local macro_rules | `(tactic| walk_at "ct_use") => `(tactic| ((case B => k_asm); (case F => k_asm); (case X => k_asm); (case N => k_asm); (case T => k_asm); (case hk => first | exact rfl | assumption); (case hd => ktr_room); (case hu => ktr_units)))
local macro_rules | `(tactic| walk_at "mem_any") => `(tactic| first | assumption | exact List.mem_cons_self | (refine List.mem_cons_of_mem _ ?_; walk_at "mem_any"))
theorem ints_get {vs : List Value} {ns : List Int} (h : IntsAre vs ns) {i : Nat} {v : Value} (e : vs[i]? = some v) : ∃ n t, v = .int n t ∧ ns[i]? = some n := by
  induction h generalizing i with
  | nil => simp at e
  | cons n t _ ih =>
    cases i with
    | zero => simp at e; subst e; exact ⟨_, _, rfl, by simp⟩
    | succ i => simpa using ih (by simpa using e)
theorem ints_of {ws : List Value} (h : ∀ v ∈ ws, ∃ n t, v = Value.int n t) : ∃ ns, IntsAre ws ns := by
  induction ws with
  | nil => exact ⟨[], .nil⟩
  | cons v ws ih =>
    obtain ⟨ns, hn⟩ := ih fun x hx => h x (List.mem_cons_of_mem _ hx)
    obtain ⟨n, t, rfl⟩ := h v List.mem_cons_self
    exact ⟨n :: ns, .cons n t hn⟩
theorem pick_ints {ys : List Value} {ns : List Int} (h : IntsAre ys ns) (lo hi st : Option Int) : ∃ ms, IntsAre (slicePick ys.toArray lo hi st).toList ms := by
  refine ints_of fun v hv => ?_
  unfold slicePick at hv
  rw [List.toList_toArray] at hv
  obtain ⟨j, _, hj⟩ := List.mem_filterMap.mp hv
  obtain ⟨n, t, e, _⟩ := ints_get (i := j) h (by simpa using hj)
  exact ⟨n, t, e⟩
section
variable {prog : Program} {w : World} {A : Around} {E : Value → Shared → Prop} {s : Shared} {h₀ : Heap} {L l : Addr} {m : Str → Option Value} {news : List (Addr × Obj)}
theorem slice_any {value slice : Expr} {ys : List Value} {ns : List Int} {lo hi st : Option Int} {vl vu vk : Value} {ops : List Value} {Q : Value → Shared → Prop} (F : Fr h₀ L s.heap m) (N : News h₀ L s.heap news) (hm : (l, LCg.lst ys) ∈ news) (hI : IntsAre ys ns) (hl : ns.length ≤ 1000) (pl : IsPart vl lo) (pu : IsPart vu hi) (pk : IsPart vk st) (h0 : st ≠ some 0)
    (h : ∀ D h' ws ms, Fr h₀ L h' m → News h₀ L h' ((D, listOf ws.toArray 0) :: news) → (∀ p ∈ news, p.1 < D) → IntsAre ws ms → Q (.ref D) { s with heap := h' })
    (hs : subscripted slice false (.ref l) (.ref s.heap.objs.size) = operate ops (getItem (.ref l) (.ref s.heap.objs.size))) (ht : ∀ r, letTemporaryGo value (.ref l) r = pure ()) :
    wpAny (model prog w) A (subscriptTail value slice (.ref l) (.ref s.heap.objs.size)) Q E { s with heap := s.heap.push { cls := .type "slice", data := .fields #[vl, vu, vk] } } := by
  obtain ⟨ms, hms⟩ := pick_ints hI lo hi st
  have hlen : ys.length ≤ 1000 := by rw [hI.length]; exact hl
  refine kmk_slice3_lit (its := ys.toArray) F N ?_ pl pu pk h0 rfl (fun D h' F' N' lt => h D h' _ ms F' N' lt hms) hs ht (by rw [List.size_toArray, sizeLine_eq]; omega)
  exact N.isList hm
end
section
local macro_rules | `(tactic| walk_at "subscriptTail Name Slice ref ref") => `(tactic| (k_here; (with_reducible show wpAny _ _ (subscriptTail _ (PySem.Expr.Slice _ _ (some _) _) (Value.ref _) (Value.ref _)) _ _ _); k_dflt (refine' slice_any ?F ?N ?hm ?hI ?hl ?pl ?pu ?pk ?h0 ?_ ?s ?t; (case F => k_asm); (case N => k_asm); (case hm => walk_at "mem_any"); (case hI => assumption); (case hl => omega); (case pl => kmk_part); (case pu => kmk_part); (case pk => kmk_part); (case h0 => decide); (case s => with_unfolding_all rfl); (case t => kmk_pure)); intro D' h' ws' ms' F' N' l1 hI'))
local macro_rules | `(tactic| walk_at "eval Name") => `(tactic| (k_here; (with_reducible show wpAny _ _ (eval (Expr.Name _ _) (compEnvC _ _ _ _)) _ _ _); k_dflt (refine' ld_cell ?N ?m ?d ?c ?k ?x ?b ?_; (case x => exact rfl); (case k => exact rfl); (case c => exact rfl); (case b => exact rfl); (case d => assumption); (case N => k_asm); (case m => walk_at "mem_any"))))
variable {w : World} {mean : ExcName → Option Value} {mg mb : Str → Option Value} {E : Value → Shared → Prop} {s : Shared} {g : Heap} {L a : Addr} {ccd : Value} {c1 c2 c3 c4 c5 : Addr} {m : Str → Option Value} {dp un : Nat} {gd : Option (List Code)} {more : List (Str × Const)} {outer : List Env} {A₀ : Around} {base : Heap} {news : List (Addr × Obj)}
theorem calls_body {o1 oC : Obj} {ys ys' : List Value} {ns : List Int} {zs : List Str} {nw : List (Addr × Obj)} {E : Value → Shared → Prop} {C D l : Addr} {k sd : Int} {tk ts : Tok} {m₂ : Str → Option Value}
    (B : Below A₀ base outer g) (F : Fr g L s.heap m) (X : (Mine.hd.heap_39 w.params).In g) (T : Top Mine.hd.view_39 (looseW Mine.hd.view_39 [Str.ofString "bisect_right"]) mean mg mb g) (hd : dp + 100 < recursionLimit) (hu : un + 100 < cLine)
    (N : News g L s.heap ((C, oC) :: (D, LCg.lst ys') :: nw)) (hm : (l, LCg.lst ys) ∈ nw) (hc1 : (c1, o1) ∈ nw) (ho1 : o1.data = .cell (some (.ref l))) (hI : IntsAre ys ns) (hl : ns.length ≤ 12)
    (hC : LCg.NsObj oC m₂) (e1 : m₂ (Str.ofString "k") = some (.int k tk)) (e2 : m₂ (Str.ofString "seed") = some (.int sd ts)) (hP : Paired StrV ys' zs) (hz : ys'.length ≤ 10) (hCD : @Ne Nat C D) (hnD : ∀ p ∈ nw, p.1 ≠ D) {Q : Unit → Shared → Prop}
    (h : ∀ h' tk' y z, Fr g L h' m → News g L h' ((C, oC) :: (D, LCg.lst (ys' ++ [y])) :: nw) → z ∈ abc → StrV y z → Q () { s with heap := h', toks := tk' }) :
    wpAny (model PySem.Challenge.rw_wf0008_01.row.prog w) (lawTop dp un gd more L a ccd c1 c2 c3 c4 c5 outer) (listBody callsElt [] (.ref D) (compEnvC callsCScope [(Str.ofString "drawn", c1)] C (lawEnv more L a ccd c1 c2 c3 c4 c5))) Q E s := by
  refine listBody_plain ?_
  dsimp only [callsElt, Got.it]
  k_steps
  have hit : ∀ x : Int, Txt.item (Str.ofString "abc") (x.fmod 3) ∈ abc := fun x => by
    have h0 : 0 ≤ x.fmod 3 := Int.fmod_nonneg_of_pos _ (by decide)
    have h1 : x.fmod 3 < 3 := Int.fmod_lt_of_pos _ (by decide)
    have h2 : x.fmod 3 = 0 ∨ x.fmod 3 = 1 ∨ x.fmod 3 = 2 := by omega
    rcases h2 with e | e | e <;> rw [e] <;> decide +kernel
  refine append_mid (y := Value.str (Txt.item (Str.ofString "abc") _) _) (pre := [_, (C, oC)]) (by k_asm) (by k_asm) ?_ hnD (by omega) fun h' F' N' => h h' _ _ _ F' (cb_drop N' fun p hp => List.mem_cons_of_mem _ hp) (hit _) ⟨_, rfl⟩
  refine List.forall_mem_cons.mpr ⟨?_, List.forall_mem_cons.mpr ⟨hCD, List.forall_mem_nil _⟩⟩
  rename ∀ p ∈ (C, oC) :: _, _ => lt
  exact Nat.ne_of_gt (lt _ (List.mem_cons_of_mem _ List.mem_cons_self))
theorem k_seed : ¬ Str.ofString "k" = Str.ofString "seed" := by decide +kernel
theorem upds_last (m : Str → Option Value) (u v : Value) : upds [Str.ofString "k", Str.ofString "seed"] [u, v] m (Str.ofString "seed") = some v := by
  show (if Str.ofString "seed" = Str.ofString "seed" then some v else (if Str.ofString "seed" = Str.ofString "k" then some u else m (Str.ofString "seed"))) = some v
  rw [if_pos rfl]
theorem kname (m : Str → Option Value) (u v : Value) : upds [Str.ofString "k", Str.ofString "seed"] [u, v] m (Str.ofString "k") = some u := by
  show (if Str.ofString "k" = Str.ofString "seed" then some v else (if Str.ofString "k" = Str.ofString "k" then some u else m (Str.ofString "k"))) = some u
  rw [if_neg k_seed, if_pos rfl]
theorem enum_news {l₀ : Addr} {ol : Obj} {items : List Value} {hh h₁ : Heap} (F₀ : Fr g L hh m) (N₀ : News g L hh ((l₀, ol) :: news)) (lt : ∀ p ∈ news, @LT.lt Nat _ p.1 l₀)
    (he : IsEnum h₁ (hh.objs.size + 1) hh.objs.size 0 Value.none) (hit : h₁.IsListIter hh.objs.size l₀ 0) (keep : ∀ b o, hh.get? b = some o → h₁.get? b = some o) :
    ∃ (e it : Addr) (oe oi : Obj), e = hh.objs.size + 1 ∧ it = hh.objs.size ∧ @Ne Nat e it ∧ @Ne Nat l₀ e ∧ @Ne Nat l₀ it ∧ Fr g L h₁ m ∧ News g L h₁ ((e, oe) :: (it, oi) :: (l₀, ol) :: news) ∧ (∀ p ∈ news, p.1 ≠ e ∧ p.1 ≠ it ∧ p.1 ≠ l₀) := by
  have fresh : ∀ a, hh.objs.size ≤ a → g.get? a = none := fun a ha => by
    cases e : g.get? a with
    | none => rfl
    | some o' => exact absurd (Heap.lt_size (F₀.keep a o' e)) (Nat.not_lt.mpr ha)
  have hL : L < hh.objs.size := F₀.ns.lt
  have hl : l₀ < hh.objs.size := Heap.lt_size (N₀ _ List.mem_cons_self).1
  obtain ⟨oi, hoi, _⟩ := hit
  have hn : ∀ p ∈ news, p.1 < hh.objs.size := fun p hp => Heap.lt_size (N₀ p (List.mem_cons_of_mem _ hp)).1
  refine ⟨_, _, { cls := .type "enumerate", dict := none, data := .fields #[.none, .bool false, .ref hh.objs.size, rawInt 0, .none, .none], slots := #[] }, oi, rfl, rfl, Nat.ne_of_gt (Nat.lt_succ_self _), Nat.ne_of_lt (Nat.lt_succ_of_lt hl), Nat.ne_of_lt hl, F₀.keeps keep, fun p hp => ?_, fun p hp => ⟨Nat.ne_of_lt (Nat.lt_succ_of_lt (hn p hp)), Nat.ne_of_lt (hn p hp), Nat.ne_of_lt (lt p hp)⟩⟩
  rcases List.mem_cons.mp hp with rfl | hp
  · exact ⟨he, Nat.ne_of_gt (Nat.lt_succ_of_lt hL), fresh _ (Nat.le_succ _)⟩
  · rcases List.mem_cons.mp hp with rfl | hp
    · exact ⟨hoi, Nat.ne_of_gt hL, fresh _ (Nat.le_refl _)⟩
    · have z := N₀ p hp
      exact ⟨keep _ _ z.1, z.2⟩
theorem calls_comp {l : Addr} {o1 : Obj} {ys : List Value} {ns : List Int} {Q : Value → Shared → Prop}
    (B : Below A₀ base outer g) (F : Fr g L s.heap m) (X : (Mine.hd.heap_39 w.params).In g) (T : Top Mine.hd.view_39 (looseW Mine.hd.view_39 [Str.ofString "bisect_right"]) mean mg mb g) (N : News g L s.heap news) (hd : dp + 100 < recursionLimit) (hu : un + 100 < cLine)
    (hm : (l, LCg.lst ys) ∈ news) (hc1 : (c1, o1) ∈ news) (ho1 : o1.data = .cell (some (.ref l))) (hI : IntsAre ys ns) (hl : ns.length ≤ 12)
    (h : ∀ D h' tk' vs zs, Fr g L h' m → News g L h' ((D, LCg.lst vs) :: news) → (∀ p ∈ news, p.1 ≠ D) → Paired StrV vs zs → zs.length = 4 → (∀ z ∈ zs, z ∈ abc) → Q (.ref D) { s with heap := h', toks := tk' }) :
    wpAny (model PySem.Challenge.rw_wf0008_01.row.prog w) (lawTop dp un gd more L a ccd c1 c2 c3 c4 c5 outer) (eval callsComp (lawEnv more L a ccd c1 c2 c3 c4 c5)) Q E s := by
  refine listcomp_top (L := L) (m := m) (h₀ := g) rfl rfl (by decide) rfl (by decide) ?_
  dsimp only
  k_steps
  rename Fr g L _ m => F₀
  rename News g L _ (_ :: news) => N₀
  generalize hl0 : ([Value.int 0 _, Value.int 1 _, Value.int 0 _, Value.int 2 _] : List Value) = items at N₀
  have hIit : IntsAre items [0, 1, 0, 2] := hl0 ▸ .cons _ _ (.cons _ _ (.cons _ _ (.cons _ _ .nil)))
  rename Addr => l₀
  have z0 := N₀ _ List.mem_cons_self
  rename Heap => hh
  refine call_enumerate_list (N₀.isList List.mem_cons_self) fun h₁ he hit hsz keep => ?_
  dsimp only at he hit hsz keep ⊢
  refine wpAny_pyIter_enum he ?_
  rename ∀ p ∈ news, p.1 < l₀ => lt₀
  obtain ⟨e, it, oe, oi, e1, e2, hei, hle, hli, F₁, N₁, off₁⟩ := enum_news (items := items) F₀ N₀ lt₀ he hit keep
  have e1' := e1.symm
  have e2' := e2.symm
  rw [e1', e2'] at he
  rw [e2'] at hit
  show ∃ _, _
  rw [e1']
  clear e1 e2 e1' e2'
  refine ⟨_, F₁, N₁, fun C D oC h₃ tk a1 a2 a3 a4 hC F₃ N₃ off₃ up₃ new₃ => ?_⟩
  have ze := N₁ (e, oe) List.mem_cons_self
  have zi := N₁ (it, oi) (List.mem_cons_of_mem _ List.mem_cons_self)
  have zl := N₁ (l₀, listOf items.toArray 0) (List.mem_cons_of_mem _ (List.mem_cons_of_mem _ List.mem_cons_self))
  have oe3 := off₃ (e, oe) List.mem_cons_self
  have oi3 := off₃ (it, oi) (List.mem_cons_of_mem _ List.mem_cons_self)
  have ol3 := off₃ (l₀, listOf items.toArray 0) (List.mem_cons_of_mem _ (List.mem_cons_of_mem _ List.mem_cons_self))
  have offn : ∀ p ∈ news, p.1 ≠ C ∧ p.1 ≠ D := fun p hp => off₃ p (List.mem_cons_of_mem _ (List.mem_cons_of_mem _ (List.mem_cons_of_mem _ hp)))
  have W := Pulls.ofPair (a := Str.ofString "k") (b := Str.ofString "seed") (pa := ⟨81, 62, 81, 63⟩) (pb := ⟨81, 65, 81, 69⟩) (tp := ⟨81, 62, 81, 69⟩) (kk := 0) (cenv := compEnvC callsCScope [(Str.ofString "drawn", c1)] C (lawEnv more L a ccd c1 c2 c3 c4 c5)) (A := lawTop dp un gd more L a ccd c1 c2 c3 c4 c5 outer) rfl
    ((WalksT.enumerate (prog := PySem.Challenge.rw_wf0008_01.row.prog) (w := w) (A := lawTop dp un gd more L a ccd c1 c2 c3 c4 c5 outer) rfl e it l₀ hei hle hli items.toArray).toU)
    (fun i vals ⟨t, x, _, h2⟩ => ⟨_, _, h2⟩) (fun i h st b hb => by
      obtain ⟨⟨old, q1⟩, ⟨o2, q2, _⟩, ⟨o3, q3, _⟩⟩ := st
      rcases List.mem_cons.mp hb with rfl | hb
      · exact ⟨_, q1⟩
      · rcases List.mem_cons.mp hb with rfl | hb
        · exact ⟨_, q2⟩
        · rw [List.mem_singleton.mp hb]; exact ⟨_, q3⟩) rfl rfl rfl
  refine codeAny_mono (list_loop (ifs := []) W
    (fun i m' nw => ∃ ys' zs, nw = (D, LCg.lst ys') :: (l₀, listOf items.toArray 0) :: news ∧ Paired StrV ys' zs ∧ zs.length = i ∧ ∀ z ∈ zs, z ∈ abc) (fun b => if b = l₀ then some (listOf items.toArray 0) else none)
    ?_ ?_ a1 a4 ?_ ?_ (m' := fun _ => none) (oC := oC) (news := (D, LCg.lst []) :: (l₀, listOf items.toArray 0) :: news) ?_ hC F₃ ?_ ?_ ⟨[], [], rfl, .nil, rfl, fun _ h => nomatch h⟩ ?_) fun r s' hr => ?_
  · rintro i m' nw ⟨ys, zs, rfl, _⟩ b hb hbI
    rcases List.mem_cons.mp hb with e | hb
    · exact absurd (e ▸ List.mem_cons_self) hbI
    · rcases List.mem_cons.mp hb with e | hb
      · exact absurd (e ▸ List.mem_cons_of_mem _ List.mem_cons_self) hbI
      · rw [List.mem_singleton.mp hb]
        exact ⟨_, if_pos rfl, .inl (List.mem_cons_of_mem _ List.mem_cons_self)⟩
  · intro hmem
    rcases List.mem_cons.mp hmem with e | hmem
    · exact oe3.1 e.symm
    · rcases List.mem_cons.mp hmem with e | e
      · exact oi3.1 e.symm
      · exact ol3.1 (List.mem_singleton.mp e).symm
  · intro hmem
    rcases List.mem_cons.mp hmem with e | e
    · exact ze.2.1 e.symm
    · exact zi.2.1 (List.mem_singleton.mp e).symm
  · intro b hb
    rcases List.mem_cons.mp hb with rfl | hb
    · exact ze.2.2
    · rw [List.mem_singleton.mp hb]
      exact zi.2.2
  · exact ⟨⟨_, up₃ _ _ he⟩, hit.at fun o x => up₃ _ _ x, ⟨_, up₃ _ _ zl.1, rfl, 0, rfl⟩⟩
  · exact cb_drop N₃ fun p hp => by
      rcases List.mem_cons.mp hp with rfl | hp
      · exact List.mem_cons_self
      · rcases List.mem_cons.mp hp with rfl | hp
        · exact List.mem_cons_of_mem _ List.mem_cons_self
        · exact List.mem_cons_of_mem _ (List.mem_cons_of_mem _ (List.mem_cons_of_mem _ (List.mem_cons_of_mem _ hp)))
  · intro p hp
    rcases List.mem_cons.mp hp with rfl | hp
    · refine ⟨fun q => ?_, fun q => a3 q.symm⟩
      rcases List.mem_cons.mp q with q | q
      · exact oe3.2 q.symm
      · exact oi3.2 (List.mem_singleton.mp q).symm
    · rcases List.mem_cons.mp hp with rfl | hp
      · refine ⟨fun q => ?_, ol3.1⟩
        rcases List.mem_cons.mp q with q | q
        · exact hle q
        · exact hli (List.mem_singleton.mp q)
      · refine ⟨fun q => ?_, (offn p hp).1⟩
        rcases List.mem_cons.mp q with q | q
        · exact (off₁ p hp).1 q
        · exact (off₁ p hp).2.1 (List.mem_singleton.mp q)
  · rintro i ws own m' oC' nw h₄ tk₄ E' hi ⟨u, v, rfl, t, x, hx, huv⟩ hown ⟨ys', zs, rfl, hP, hz, hzz⟩ hoC F₄ N₄ off₄
    have huv' : u = Value.int i t ∧ v = x := by simpa using huv
    obtain ⟨rfl, rfl⟩ := huv'
    obtain ⟨sd, tsd, rfl, _⟩ := ints_get hIit (i := i) (by simpa using hx)
    have hown1 : ∀ p ∈ own, p.1 = e ∨ p.1 = it := fun p hp => by
      have : p.1 ∈ own.map (·.1) := List.mem_map_of_mem hp
      rw [hown] at this
      rcases List.mem_cons.mp this with h1 | h1
      · exact .inl h1
      · exact .inr (List.mem_singleton.mp h1)
    have hlen := hP.length
    have hi4 : i < 4 := by rw [List.size_toArray, hIit.length] at hi; exact hi
    refine calls_body (nw := own ++ (l₀, listOf items.toArray 0) :: news) (s := ⟨h₄, _, _, tk₄, _⟩) B F₄ X T hd hu (cb_drop N₄ fun p hp => ?_) (List.mem_append_right _ (List.mem_cons_of_mem _ hm)) (List.mem_append_right _ (List.mem_cons_of_mem _ hc1)) ho1 hI hl hoC (kname m' _ _) (upds_last m' _ _) hP (by omega) a3 (fun p hp => ?_) fun h₅ tk₅ y z F₅ N₅ hz5 hy => ?_
    · rcases List.mem_cons.mp hp with rfl | hp
      · exact List.mem_append_right _ List.mem_cons_self
      · rcases List.mem_cons.mp hp with rfl | hp
        · exact List.mem_append_right _ (List.mem_cons_of_mem _ List.mem_cons_self)
        · rcases List.mem_append.mp hp with hp | hp
          · exact List.mem_append_left _ hp
          · exact List.mem_append_right _ (List.mem_cons_of_mem _ (List.mem_cons_of_mem _ hp))
    · rcases List.mem_append.mp hp with hp | hp
      · rcases hown1 p hp with q | q
        · rw [q]; exact oe3.2
        · rw [q]; exact oi3.2
      · rcases List.mem_cons.mp hp with rfl | hp
        · exact ol3.2
        · exact (offn p hp).2
    · refine ⟨h₅, tk₅, oC', _, (D, LCg.lst (ys' ++ [y])) :: (l₀, listOf items.toArray 0) :: news, rfl, F₅, cb_drop N₅ fun p hp => ?_, hoC, fun p hp => ?_, ys' ++ [y], zs ++ [z], rfl, hP.snoc hy, by rw [List.length_append, hz]; rfl, fun z' hz' => ?_⟩
      · rcases List.mem_append.mp hp with hp | hp
        · exact List.mem_cons_of_mem _ (List.mem_cons_of_mem _ (List.mem_append_left _ hp))
        · rcases List.mem_cons.mp hp with rfl | hp
          · exact List.mem_cons_self
          · rcases List.mem_cons.mp hp with rfl | hp
            · exact List.mem_cons_of_mem _ List.mem_cons_self
            · exact List.mem_cons_of_mem _ (List.mem_cons_of_mem _ (List.mem_append_right _ hp))
      · rw [hown]
        rcases List.mem_cons.mp hp with rfl | hp
        · exact off₄ (D, LCg.lst ys') List.mem_cons_self
        · exact off₄ p (List.mem_cons_of_mem _ hp)
      · rcases List.mem_append.mp hz' with h1 | h1
        · exact hzz _ h1
        · rw [List.mem_singleton.mp h1]; exact hz5
  · obtain ⟨rfl, h', tk', m', oC', nw, rfl, F', hC', N', off', ys, zs, rfl, hys, hz, hzz⟩ := hr
    refine ⟨rfl, h', tk', m', oC', _, rfl, F', hC', N', off', fun h'' tk'' F'' N'' => h D h'' tk'' ys zs F'' (cb_drop N'' fun p hp => ?_) (fun p hp => (offn p hp).2) hys ?_ hzz⟩
    · rcases List.mem_cons.mp hp with rfl | hp
      · exact List.mem_cons_self
      · exact List.mem_cons_of_mem _ (List.mem_cons_of_mem _ hp)
    · rw [hz, List.size_toArray, hIit.length]; rfl
end
end
section
local macro_rules | `(tactic| walk_at "own reset") => `(tactic| skip)
theorem resetL31 : True := by (k_with_none; w_top off; first | (walk1; done) | trivial)
local macro_rules | `(tactic| walk_at "own reset") => `(tactic| skip)
theorem resetL32 : True := by (w_top off; first | (walk1; done) | trivial)
end
section
local macro_rules | `(tactic| walk_at "ct_enter") => `(tactic| (refine' enterF ?k1 ?k2 ?k3 ?k4 ?k5 ?kA ?kF ?kK ?k6 ?k7 ?k8 ?k9 ?kB ?kR ?_ ?c5 ?c2 ?c3 ?c4; (case kA => exact rfl); (case kF => exact rfl); (case kK => assumption); (case k1 => k_asm); (case k2 => k_asm); (case k3 => k_asm); (case k4 => k_asm); (case k5 => k_asm); (case k6 => k_is); (case k7 => k_is); (case k8 => ktr_room); (case k9 => first | exact BindsTo.of_eq rfl | (refine' kp_binds ?kx ?ke; (case kx => k_in); (case ke => exact fun _ => rfl))); (case c5 => decide); (case kB => exact locs rfl); (case c2 => exact rfl); (case c3 => exact rfl); (case c4 => exact rfl); (case kR => assumption); k_whole; intro g' L' h' F' N' B' X' T'; (try dsimp only); (try k_fold)))
local macro_rules | `(tactic| walk_at "ct_leave") => `(tactic| (change LeaveG _ _ _ _ _; refine' LeaveG.intro ?F ?N ?P; (case P => walk_at "ct_out"); (case F => k_asm); (case N => exact cb_drop (by assumption) (by kcj_all))))
local macro_rules | `(tactic| walk_at "ct_use") => `(tactic| ((case B => k_asm); (case F => k_asm); (case X => k_asm); (case N => k_asm); (case T => k_asm); (case hk => first | exact rfl | assumption); (case hd => ktr_room); (case hu => ktr_units)))
local macro_rules | `(tactic| walk_at "mem_any") => `(tactic| first | assumption | exact List.mem_cons_self | (refine List.mem_cons_of_mem _ ?_; walk_at "mem_any"))
theorem ints_snoc {vs : List Value} {ns : List Int} (h : IntsAre vs ns) (n : Int) (t : Tok) : IntsAre (vs ++ [.int n t]) (ns ++ [n]) := by
  induction h with
  | nil => exact .cons _ _ .nil
  | cons k u _ ih => exact .cons _ _ ih
section
local macro_rules | `(tactic| walk_at "eval Name") => `(tactic| (k_here; (with_reducible show wpAny _ _ (eval (Expr.Name _ _) (compEnvC _ _ _ _)) _ _ _); k_dflt (refine' ld_cell ?N ?m ?d ?c ?k ?x ?b ?_; (case x => exact rfl); (case k => exact rfl); (case c => exact rfl); (case b => exact rfl); (case d => assumption); (case N => k_asm); (case m => walk_at "mem_any"))))
variable {w : World} {mean : ExcName → Option Value} {mg mb : Str → Option Value} {E : Value → Shared → Prop} {s : Shared} {g : Heap} {L a : Addr} {ccd : Value} {c1 c2 c3 c4 c5 : Addr} {m : Str → Option Value} {dp un : Nat} {gd : Option (List Code)} {more : List (Str × Const)} {outer : List Env} {A₀ : Around} {base : Heap} {news : List (Addr × Obj)}
theorem told_body {o2 oC : Obj} {ys' : List Value} {zs : List Int} {nw : List (Addr × Obj)} {E : Value → Shared → Prop} {C D : Addr} {S n : Str} {tS tn : Tok} {m₂ : Str → Option Value}
    (F : Fr g L s.heap m) (X : (Mine.hd.heap_39 w.params).In g) (T : Top Mine.hd.view_39 (looseW Mine.hd.view_39 [Str.ofString "bisect_right"]) mean mg mb g)
    (N : News g L s.heap ((C, oC) :: (D, LCg.lst ys') :: nw)) (hc2 : (c2, o2) ∈ nw) (ho2 : o2.data = .cell (some (.str S tS)))
    (hC : LCg.NsObj oC m₂) (e1 : m₂ (Str.ofString "name") = some (.str n tn)) (hI : IntsAre ys' zs) (hz : ys'.length ≤ 10) (hCD : @Ne Nat C D) (hnD : ∀ p ∈ nw, p.1 ≠ D) {Q : Unit → Shared → Prop}
    (h : ∀ h' tk' ys, Fr g L h' m → News g L h' ((C, oC) :: (D, LCg.lst ys) :: nw) → IntsAre ys (zs ++ [(Txt.count S n : Int)]) → Q () { s with heap := h', toks := tk' }) :
    wpAny (model PySem.Challenge.rw_wf0008_01.row.prog w) (lawTop dp un gd more L a ccd c1 c2 c3 c4 c5 outer) (listBody toldElt [] (.ref D) (compEnvC toldCScope [(Str.ofString "calls", c2)] C (lawEnv more L a ccd c1 c2 c3 c4 c5))) Q E s := by
  refine listBody_plain ?_
  dsimp only [toldElt, Got.it]
  k_steps
  refine append_mid (pre := [(C, oC)]) (by k_asm) (by k_asm) ?_ hnD (by omega) fun h' F' N' => h h' _ _ F' N' (ints_snoc hI _ _)
  exact List.forall_mem_cons.mpr ⟨hCD, List.forall_mem_nil _⟩
theorem told_comp {o2 : Obj} {S : Str} {tS : Tok} {Q : Value → Shared → Prop}
    (F : Fr g L s.heap m) (X : (Mine.hd.heap_39 w.params).In g) (T : Top Mine.hd.view_39 (looseW Mine.hd.view_39 [Str.ofString "bisect_right"]) mean mg mb g) (N : News g L s.heap news)
    (hc2 : (c2, o2) ∈ news) (ho2 : o2.data = .cell (some (.str S tS)))
    (h : ∀ D h' tk' vs, Fr g L h' m → News g L h' ((D, LCg.lst vs) :: news) → (∀ p ∈ news, p.1 ≠ D) → IntsAre vs (abc.map fun n => (Txt.count S n : Int)) → Q (.ref D) { s with heap := h', toks := tk' }) :
    wpAny (model PySem.Challenge.rw_wf0008_01.row.prog w) (lawTop dp un gd more L a ccd c1 c2 c3 c4 c5 outer) (eval toldComp (lawEnv more L a ccd c1 c2 c3 c4 c5)) Q E s := by
  refine listcomp_top (L := L) (m := m) (h₀ := g) rfl rfl (by decide) rfl (by decide) ?_
  dsimp only
  refine wpAny_Constant_str (wpAny_pyIter_ascii (by decide +kernel) ?_)
  dsimp only
  generalize hI' : s.heap.objs.size = I
  generalize s.toks = tk₀
  generalize hh4 : s.heap.push { cls := Value.type "str_ascii_iterator", data := Data.fields #[Value.str (Str.ofString "abc") tk₀, Value.int 0 0] } = h₁
  have F₁ : Fr g L h₁ m := hh4 ▸ F.push _
  have N₁ : News g L h₁ ((I, { cls := Value.type "str_ascii_iterator", data := Data.fields #[Value.str (Str.ofString "abc") tk₀, Value.int 0 0] }) :: news) := hh4 ▸ hI' ▸ N.push F _
  have off₁ : ∀ p ∈ news, p.1 ≠ I := fun p hp => hI' ▸ Nat.ne_of_lt (Heap.lt_size (N p hp).1)
  refine ⟨_, F₁, N₁, fun C D oC h₃ tk a1 a2 a3 a4 hC F₃ N₃ off₃ up₃ new₃ => ?_⟩
  have zI := N₁ _ List.mem_cons_self
  have oI3 := off₃ _ List.mem_cons_self
  have offn : ∀ p ∈ news, p.1 ≠ C ∧ p.1 ≠ D := fun p hp => off₃ p (List.mem_cons_of_mem _ hp)
  have W := Pulls.ofName (x := Str.ofString "name") (px := ⟨83, 34, 83, 38⟩) (cenv := compEnvC toldCScope [(Str.ofString "calls", c2)] C (lawEnv more L a ccd c1 c2 c3 c4 c5)) (Walks.strAscii (prog := PySem.Challenge.rw_wf0008_01.row.prog) (w := w) (A := lawTop dp un gd more L a ccd c1 c2 c3 c4 c5 outer) rfl I (Str.ofString "abc") tk₀)
    (fun i h st b hb => by rw [List.mem_singleton.mp hb]; obtain ⟨o, e, _⟩ := st; exact ⟨o, e⟩) rfl rfl
  refine codeAny_mono (list_loop (ifs := []) W
    (fun i m' nw => ∃ ys', nw = (D, LCg.lst ys') :: news ∧ IntsAre ys' ((abc.take i).map fun n => (Txt.count S n : Int))) (fun _ => none)
    ?_ ?_ a1 a4 ?_ ?_ (m' := fun _ => none) (oC := oC) (news := (D, LCg.lst []) :: news) ?_ hC F₃ ?_ ?_ ⟨[], rfl, .nil⟩ ?_) fun r s' hr => ?_
  · intro i m' nw _ b hb hbI
    exact absurd hb hbI
  · intro hmem
    exact oI3.1 (List.mem_singleton.mp hmem).symm
  · intro hmem
    exact zI.2.1 (List.mem_singleton.mp hmem).symm
  · intro b hb
    rw [List.mem_singleton.mp hb]
    exact zI.2.2
  · exact ⟨_, up₃ _ _ zI.1, rfl, rfl⟩
  · exact cb_drop N₃ fun p hp => by
      rcases List.mem_cons.mp hp with rfl | hp
      · exact List.mem_cons_self
      · rcases List.mem_cons.mp hp with rfl | hp
        · exact List.mem_cons_of_mem _ List.mem_cons_self
        · exact List.mem_cons_of_mem _ (List.mem_cons_of_mem _ (List.mem_cons_of_mem _ hp))
  · intro p hp
    rcases List.mem_cons.mp hp with rfl | hp
    · exact ⟨fun q => oI3.2 (List.mem_singleton.mp q).symm, fun q => a3 q.symm⟩
    · exact ⟨fun q => off₁ p hp (List.mem_singleton.mp q), (offn p hp).1⟩
  · rintro i ws own m' oC' nw h₄ tk₄ E' hi ⟨v, rfl, hv⟩ hown ⟨ys', rfl, hP⟩ hoC F₄ N₄ off₄
    obtain ⟨oI, rfl⟩ := own_one hown
    obtain ⟨n, tn, rfl, hn, hnl⟩ := abc_at hv
    have hlen := hP.length
    rw [List.length_map, List.length_take] at hlen
    have h3 : abc.length = 3 := rfl
    refine told_body (nw := (I, oI) :: news) (s := ⟨h₄, _, _, tk₄, _⟩) F₄ X T (cb_drop N₄ fun p hp => ?_) (List.mem_cons_of_mem _ hc2) ho2 hoC (upds1 _ _ _) hP (by omega) a3 (fun p hp => ?_) fun h₅ tk₅ ys F₅ N₅ hI5 => ?_
    · rcases List.mem_cons.mp hp with rfl | hp
      · exact List.mem_cons_of_mem _ List.mem_cons_self
      · rcases List.mem_cons.mp hp with rfl | hp
        · exact List.mem_cons_of_mem _ (List.mem_cons_of_mem _ List.mem_cons_self)
        · rcases List.mem_cons.mp hp with rfl | hp
          · exact List.mem_cons_self
          · exact List.mem_cons_of_mem _ (List.mem_cons_of_mem _ (List.mem_cons_of_mem _ hp))
    · rcases List.mem_cons.mp hp with rfl | hp
      · exact oI3.2
      · exact (offn p hp).2
    · refine ⟨h₅, tk₅, oC', _, (D, LCg.lst ys) :: news, rfl, F₅, cb_drop N₅ fun p hp => ?_, hoC, fun p hp => ?_, ys, rfl, ?_⟩
      · rcases List.mem_cons.mp hp with rfl | hp
        · exact List.mem_cons_of_mem _ (List.mem_cons_of_mem _ List.mem_cons_self)
        · rcases List.mem_cons.mp hp with rfl | hp
          · exact List.mem_cons_self
          · rcases List.mem_cons.mp hp with rfl | hp
            · exact List.mem_cons_of_mem _ List.mem_cons_self
            · exact List.mem_cons_of_mem _ (List.mem_cons_of_mem _ (List.mem_cons_of_mem _ hp))
      · rcases List.mem_cons.mp hp with rfl | hp
        · exact off₄ (D, LCg.lst ys') List.mem_cons_self
        · exact off₄ p (List.mem_cons_of_mem _ hp)
      · rw [List.take_add_one, hn, Option.toList_some, List.map_append]
        exact hI5
  · obtain ⟨rfl, h', tk', m', oC', nw, rfl, F', hC', N', off', ys, rfl, hys⟩ := hr
    have e : abc.take (Str.ofString "abc").cps.size = abc := by rw [abc_cps]; rfl
    rw [e] at hys
    exact ⟨rfl, h', tk', m', oC', _, rfl, F', hC', N', off', fun h'' tk'' F'' N'' => h D h'' tk'' ys F'' N'' (fun p hp => (offn p hp).2) hys⟩
end
end
section
local macro_rules | `(tactic| walk_at "own reset") => `(tactic| skip)
theorem resetL41 : True := by (k_with_none; w_top off; first | (walk1; done) | trivial)
local macro_rules | `(tactic| walk_at "own reset") => `(tactic| skip)
theorem resetL42 : True := by (w_top off; first | (walk1; done) | trivial)
end
section
local macro_rules | `(tactic| walk_at "ct_enter") => `(tactic| (refine' enterF ?k1 ?k2 ?k3 ?k4 ?k5 ?kA ?kF ?kK ?k6 ?k7 ?k8 ?k9 ?kB ?kR ?_ ?c5 ?c2 ?c3 ?c4; (case kA => exact rfl); (case kF => exact rfl); (case kK => assumption); (case k1 => k_asm); (case k2 => k_asm); (case k3 => k_asm); (case k4 => k_asm); (case k5 => k_asm); (case k6 => k_is); (case k7 => k_is); (case k8 => ktr_room); (case k9 => first | exact BindsTo.of_eq rfl | (refine' kp_binds ?kx ?ke; (case kx => k_in); (case ke => exact fun _ => rfl))); (case c5 => decide); (case kB => exact locs rfl); (case c2 => exact rfl); (case c3 => exact rfl); (case c4 => exact rfl); (case kR => assumption); k_whole; intro g' L' h' F' N' B' X' T'; (try dsimp only); (try k_fold)))
local macro_rules | `(tactic| walk_at "ct_leave") => `(tactic| (change LeaveG _ _ _ _ _; refine' LeaveG.intro ?F ?N ?P; (case P => walk_at "ct_out"); (case F => k_asm); (case N => exact cb_drop (by assumption) (by kcj_all))))
local macro_rules | `(tactic| walk_at "ct_use") => `(tactic| ((case B => k_asm); (case F => k_asm); (case X => k_asm); (case N => k_asm); (case T => k_asm); (case hk => first | exact rfl | assumption); (case hd => ktr_room); (case hu => ktr_units)))
local macro_rules | `(tactic| walk_at "mem_any") => `(tactic| first | assumption | exact List.mem_cons_self | (refine List.mem_cons_of_mem _ ?_; walk_at "mem_any"))
section
variable {w : World} {mean : ExcName → Option Value} {mg mb : Str → Option Value} {E : Value → Shared → Prop} {s : Shared} {g : Heap} {L a : Addr} {ccd : Value} {c1 c2 c3 c4 c5 : Addr} {m : Str → Option Value} {dp un : Nat} {gd : Option (List Code)} {more : List (Str × Const)} {outer : List Env} {A₀ : Around} {base : Heap} {news : List (Addr × Obj)}
theorem tape_body {oC : Obj} {ys' : List Value} {zs : List Int} {nw : List (Addr × Obj)} {E : Value → Shared → Prop} {C D : Addr} {o : Int} {tn : Tok} {m₂ : Str → Option Value}
    (F : Fr g L s.heap m) (X : (Mine.hd.heap_39 w.params).In g) (T : Top Mine.hd.view_39 (looseW Mine.hd.view_39 [Str.ofString "bisect_right"]) mean mg mb g)
    (N : News g L s.heap ((C, oC) :: (D, LCg.lst ys') :: nw))
    (hC : LCg.NsObj oC m₂) (e1 : m₂ (Str.ofString "octet") = some (.int o tn)) (hI : IntsAre ys' zs) (hz : ys'.length ≤ 100000) (hCD : @Ne Nat C D) (hnD : ∀ p ∈ nw, p.1 ≠ D) {Q : Unit → Shared → Prop}
    (h : ∀ h' tk' ys, Fr g L h' m → News g L h' ((C, oC) :: (D, LCg.lst ys) :: nw) → IntsAre ys (zs ++ [o]) → Q () { s with heap := h', toks := tk' }) :
    wpAny (model PySem.Challenge.rw_wf0008_01.row.prog w) (lawTop dp un gd more L a ccd c1 c2 c3 c4 c5 outer) (listBody tapeElt [] (.ref D) (compEnvC tapeCScope [] C (lawEnv more L a ccd c1 c2 c3 c4 c5))) Q E s := by
  refine listBody_plain ?_
  dsimp only [tapeElt, Got.it]
  k_steps
  refine append_mid (pre := [(C, oC)]) (by k_asm) (by k_asm) ?_ hnD (by omega) fun h' F' N' => h h' _ _ F' N' (ints_snoc hI _ _)
  exact List.forall_mem_cons.mpr ⟨hCD, List.forall_mem_nil _⟩
end
section
local macro_rules | `(tactic| walk_at "call ref") => `(tactic| (k_here; (with_reducible show wpAny _ _ (call (Value.ref _) [Value.int _ _]) _ _ _); refine' use_ct (ct_octets ?hx ?hz) ?B ?F ?X ?N ?T ?hk ?hd ?hu ?hs ?hr ?hdis ?_; (case hx => assumption); (case hz => assumption); walk_at "ct_use"; (case hs => exact fun p hp => nomatch hp); (case hr => exact fun p hp => hp); (case hdis => exact fun p hp q hq => nomatch hq); k_whole; intro r new h' tk' F' N' off out; obtain ⟨l, vs, k, e1, e2, hI⟩ := out; subst e1; subst e2; (try simp only [List.nil_append, List.cons_append] at N'); (try dsimp only)))
variable {w : World} {mean : ExcName → Option Value} {mg mb : Str → Option Value} {E : Value → Shared → Prop} {s : Shared} {g : Heap} {L a : Addr} {ccd : Value} {c1 c2 c3 c4 c5 : Addr} {m : Str → Option Value} {dp un : Nat} {gd : Option (List Code)} {more : List (Str × Const)} {outer : List Env} {A₀ : Around} {base : Heap} {news : List (Addr × Obj)}
theorem oct_call {oC : Obj} {x : Int} {tx : Tok} {C : Addr} {nw : List (Addr × Obj)} {E : Value → Shared → Prop} {m₂ : Str → Option Value}
    (B : Below A₀ base outer g) (F : Fr g L s.heap m) (X : (Mine.hd.heap_39 w.params).In g) (T : Top Mine.hd.view_39 (looseW Mine.hd.view_39 [Str.ofString "bisect_right"]) mean mg mb g) (hd : dp + 100 < recursionLimit) (hu : un + 100 < cLine)
    (N : News g L s.heap ((C, oC) :: nw)) (hC : LCg.NsObj oC m₂) (e1 : m₂ (Str.ofString "number") = some (.int x tx)) (hx : 0 ≤ x) (hz : (octs x.toNat).length ≤ 1000) {Q : Value → Shared → Prop}
    (h : ∀ l h' tk' vs k, Fr g L h' m → News g L h' ((l, listOf vs.toArray k) :: (C, oC) :: nw) → (∀ p ∈ (C, oC) :: nw, p.1 ≠ l) → IntsAre vs (octs x.toNat) → Q (.ref l) { s with heap := h', toks := tk' }) :
    wpAny (model PySem.Challenge.rw_wf0008_01.row.prog w) (lawTop dp un gd more L a ccd c1 c2 c3 c4 c5 outer) (eval octCall (compEnvC tapeCScope [] C (lawEnv more L a ccd c1 c2 c3 c4 c5))) Q E s := by
  k_steps
  rename News g L _ ((_, listOf _ _) :: _) => N₁
  rename IntsAre _ _ => hI₁
  rename ∀ q ∈ [_], _ => off₁
  exact h _ _ _ _ _ (by k_asm) N₁ (off₁ _ List.mem_cons_self) hI₁
noncomputable def tfm (ns : List Int) : List Int := ns.flatMap fun x => octs x.toNat
theorem tfm_app (a b : List Int) : tfm (a ++ b) = tfm a ++ tfm b := by unfold tfm; rw [List.flatMap_append]
theorem tfm_one (x : Int) : tfm [x] = octs x.toNat := by simp [tfm]
theorem tfm_take_succ (ns : List Int) (i : Nat) (x : Int) (h : ns[i]? = some x) : tfm (ns.take (i + 1)) = tfm (ns.take i) ++ octs x.toNat := by
  rw [List.take_add_one, h, Option.toList_some, tfm_app, tfm_one]
theorem tfm_take_le (ns : List Int) (i : Nat) : (tfm (ns.take i)).length ≤ (tfm ns).length := by
  have e := congrArg (fun l => (tfm l).length) (List.take_append_drop i ns)
  simp only [tfm_app, List.length_append] at e
  omega
theorem tape_comp {tl : Addr} {tvs : List Value} {tns : List Int} {kt : Nat} {Q : Value → Shared → Prop}
    (B : Below A₀ base outer g) (F : Fr g L s.heap m) (X : (Mine.hd.heap_39 w.params).In g) (T : Top Mine.hd.view_39 (looseW Mine.hd.view_39 [Str.ofString "bisect_right"]) mean mg mb g) (hd : dp + 100 < recursionLimit) (hu : un + 100 < cLine) (N : News g L s.heap news)
    (htl : m (Str.ofString "told") = some (.ref tl)) (hm : (tl, listOf tvs.toArray kt) ∈ news) (hI : IntsAre tvs tns) (hpos : ∀ x ∈ tns, 0 ≤ x) (hlen : ∀ x ∈ tns, (octs x.toNat).length ≤ 1000) (hall : (tfm tns).length ≤ 50000)
    (h : ∀ D h' tk' vs, Fr g L h' m → News g L h' ((D, LCg.lst vs) :: news) → (∀ p ∈ news, p.1 ≠ D) → IntsAre vs (tfm tns) → Q (.ref D) { s with heap := h', toks := tk' }) :
    wpAny (model PySem.Challenge.rw_wf0008_01.row.prog w) (lawTop dp un gd more L a ccd c1 c2 c3 c4 c5 outer) (eval tapeComp (lawEnv more L a ccd c1 c2 c3 c4 c5)) Q E s := by
  refine listcomp_top (L := L) (m := m) (h₀ := g) rfl rfl (by decide) rfl (by decide) ?_
  dsimp only
  refine nameX_L F htl ?_ rfl rfl (by decide)
  refine pyIter_src F N hm fun I h₁ F₁ N₁ lt₁ => ?_
  refine ⟨_, F₁, N₁, fun C D oC h₃ tk a1 a2 a3 a4 hC F₃ N₃ off₃ up₃ new₃ => ?_⟩
  have hlI : tl ≠ I := Nat.ne_of_lt (lt₁ _ hm)
  have zI := N₁ (I, litI tl 0) List.mem_cons_self
  have zl := N₁ (tl, listOf tvs.toArray kt) (List.mem_cons_of_mem _ hm)
  have hCI := (off₃ _ (List.mem_cons_self)).1
  have hDI := (off₃ _ (List.mem_cons_self)).2
  have offn : ∀ p ∈ news, p.1 ≠ C ∧ p.1 ≠ D := fun p hp => off₃ p (List.mem_cons_of_mem _ hp)
  have hlC := (offn _ hm).1
  refine codeAny_mono (outer_loop (cenv := compEnvC tapeCScope [] C (lawEnv more L a ccd c1 c2 c3 c4 c5)) (pulls_list (A := lawTop dp un gd more L a ccd c1 c2 c3 c4 c5 outer) rfl hlI tvs rfl rfl)
    (fun i m' nw => ∃ ys, nw = (D, LCg.lst ys) :: news ∧ IntsAre ys (tfm (tns.take i))) (fun b => if b = tl then some (listOf tvs.toArray kt) else none)
    ?_ ?_ a1 a4 ?_ ?_ (m' := fun _ => none) (oC := oC) (news := (D, LCg.lst []) :: news) ?_ hC F₃ ?_ ?_ ⟨[], rfl, .nil⟩ ?_) fun r s' hr => ?_
  · rintro i m' nw ⟨ys, rfl, _⟩ b hb hbI
    rcases List.mem_cons.mp hb with e | hb
    · exact absurd (List.mem_singleton.mpr e) hbI
    · rw [List.mem_singleton.mp hb]
      exact ⟨_, if_pos rfl, .inl (List.mem_cons_of_mem _ hm)⟩
  · intro hmem
    rcases List.mem_cons.mp hmem with e | e
    · exact hCI e.symm
    · exact hlC (List.mem_singleton.mp e).symm
  · intro hmem
    exact zI.2.1 (List.mem_singleton.mp hmem).symm
  · intro b hb
    rw [List.mem_singleton.mp hb]
    exact zI.2.2
  · exact ⟨⟨_, up₃ _ _ zI.1, rfl, rfl⟩, ⟨_, up₃ _ _ zl.1, rfl, kt, rfl⟩⟩
  · exact cb_drop N₃ fun p hp => by
      rcases List.mem_cons.mp hp with rfl | hp
      · exact List.mem_cons_self
      · rcases List.mem_cons.mp hp with rfl | hp
        · exact List.mem_cons_of_mem _ List.mem_cons_self
        · exact List.mem_cons_of_mem _ (List.mem_cons_of_mem _ (List.mem_cons_of_mem _ hp))
  · intro p hp
    rcases List.mem_cons.mp hp with rfl | hp
    · exact ⟨fun q => hDI (List.mem_singleton.mp q).symm, fun q => a3 q.symm⟩
    · exact ⟨fun q => Nat.ne_of_lt (lt₁ p hp) (List.mem_singleton.mp q), (offn p hp).1⟩
  · rintro i ws own m' oC' nw h₄ tk₄ E' hi ⟨v, rfl, hv⟩ hown ⟨ys, rfl, hys⟩ hoC F₄ N₄ off₄
    obtain ⟨oI, rfl⟩ := own_one hown
    obtain ⟨x, tx, rfl, hx⟩ := ints_get hI hv
    have hxm : x ∈ tns := List.mem_of_getElem? hx
    have hI4 := (N₄ (I, oI) List.mem_cons_self).2
    refine nestBody_wp (oct_call (s := ⟨h₄, _, _, tk₄, _⟩) (nw := (I, oI) :: (D, LCg.lst ys) :: news) B F₄ X T hd hu (cb_drop N₄ fun p hp => ?_) hoC (upds1 _ _ _) (hpos x hxm) (hlen x hxm) fun l₂ h₅ tk₅ vs k F₅ N₅ off₅ hI₅ => ?_)
    · rcases List.mem_cons.mp hp with rfl | hp
      · exact List.mem_append_right _ List.mem_cons_self
      · rcases List.mem_cons.mp hp with rfl | hp
        · exact List.mem_append_left _ List.mem_cons_self
        · exact List.mem_append_right _ (List.mem_cons_of_mem _ hp)
    have nC := off₅ _ List.mem_cons_self
    have nI := off₅ (I, oI) (List.mem_cons_of_mem _ List.mem_cons_self)
    have nD := off₅ (D, LCg.lst ys) (List.mem_cons_of_mem _ (List.mem_cons_of_mem _ List.mem_cons_self))
    have nn : ∀ p ∈ news, p.1 ≠ l₂ := fun p hp => off₅ p (List.mem_cons_of_mem _ (List.mem_cons_of_mem _ (List.mem_cons_of_mem _ hp)))
    refine pyIter_src (s := ⟨h₅, _, _, tk₅, _⟩) F₅ N₅ List.mem_cons_self fun I' h₆ F₆ N₆ lt₆ => ?_
    have zI' := N₆ _ List.mem_cons_self
    have zl₂ := N₆ (l₂, listOf vs.toArray k) (List.mem_cons_of_mem _ List.mem_cons_self)
    have hlI' : l₂ ≠ I' := Nat.ne_of_lt (lt₆ _ List.mem_cons_self)
    have new₆ : ∀ p ∈ (C, oC') :: (I, oI) :: (D, LCg.lst ys) :: news, p.1 ≠ I' := fun p hp => Nat.ne_of_lt (lt₆ p (List.mem_cons_of_mem _ hp))
    have pC := new₆ _ List.mem_cons_self
    have pI := new₆ (I, oI) (List.mem_cons_of_mem _ List.mem_cons_self)
    have pD := new₆ (D, LCg.lst ys) (List.mem_cons_of_mem _ (List.mem_cons_of_mem _ List.mem_cons_self))
    have pn : ∀ p ∈ news, p.1 ≠ I' := fun p hp => new₆ p (List.mem_cons_of_mem _ (List.mem_cons_of_mem _ (List.mem_cons_of_mem _ hp)))
    have hvs := hI₅.length
    have hb1 := tfm_take_le tns (i + 1)
    rw [tfm_take_succ tns i x hx, List.length_append] at hb1
    refine codeAny_mono (inner_loop (h₀ := g) (L := L) (m := m) (cenv := compEnvC tapeCScope [] C (lawEnv more L a ccd c1 c2 c3 c4 c5)) (pulls_list (A := lawTop dp un gd more L a ccd c1 c2 c3 c4 c5 outer) rfl hlI' vs rfl rfl)
      (fun j m'' nw => ∃ ys', nw = (I, oI) :: (D, LCg.lst ys') :: (l₂, listOf vs.toArray k) :: news ∧ IntsAre ys' (tfm (tns.take i) ++ (octs x.toNat).take j)) (fun b => if b = l₂ then some (listOf vs.toArray k) else none)
      ?_ ?_ a1 a4 ?_ ?_ (m' := upds [Str.ofString "number"] [.int x tx] m') (oC := oC') (news := (I, oI) :: (D, LCg.lst ys) :: (l₂, listOf vs.toArray k) :: news) ?_ hoC F₆ ?_ ?_ ⟨ys, rfl, ?_⟩ ?_) fun r s' hr => ?_
    · rintro j m'' nw ⟨ys', rfl, _⟩ b hb hbI
      rcases List.mem_cons.mp hb with e | hb
      · exact absurd (List.mem_singleton.mpr e) hbI
      · rw [List.mem_singleton.mp hb]
        exact ⟨_, if_pos rfl, .inl (List.mem_cons_of_mem _ (List.mem_cons_of_mem _ List.mem_cons_self))⟩
    · intro hmem
      rcases List.mem_cons.mp hmem with e | e
      · exact pC e
      · exact nC (List.mem_singleton.mp e)
    · intro hmem
      exact zI'.2.1 (List.mem_singleton.mp hmem).symm
    · intro b hb
      rw [List.mem_singleton.mp hb]
      exact zI'.2.2
    · exact ⟨⟨_, zI'.1, rfl, rfl⟩, ⟨_, zl₂.1, rfl, k, rfl⟩⟩
    · exact cb_drop N₆ fun p hp => by
        rcases List.mem_cons.mp hp with rfl | hp
        · exact List.mem_cons_of_mem _ (List.mem_cons_of_mem _ List.mem_cons_self)
        · rcases List.mem_cons.mp hp with rfl | hp
          · exact List.mem_cons_of_mem _ (List.mem_cons_of_mem _ (List.mem_cons_of_mem _ List.mem_cons_self))
          · rcases List.mem_cons.mp hp with rfl | hp
            · exact List.mem_cons_of_mem _ (List.mem_cons_of_mem _ (List.mem_cons_of_mem _ (List.mem_cons_of_mem _ List.mem_cons_self)))
            · rcases List.mem_cons.mp hp with rfl | hp
              · exact List.mem_cons_of_mem _ List.mem_cons_self
              · exact List.mem_cons_of_mem _ (List.mem_cons_of_mem _ (List.mem_cons_of_mem _ (List.mem_cons_of_mem _ (List.mem_cons_of_mem _ hp))))
    · intro p hp
      rcases List.mem_cons.mp hp with rfl | hp
      · exact ⟨fun q => pI (List.mem_singleton.mp q), fun q => hCI q⟩
      · rcases List.mem_cons.mp hp with rfl | hp
        · exact ⟨fun q => pD (List.mem_singleton.mp q), fun q => a3 q.symm⟩
        · rcases List.mem_cons.mp hp with rfl | hp
          · exact ⟨fun q => hlI' (List.mem_singleton.mp q), fun q => nC q.symm⟩
          · exact ⟨fun q => pn p hp (List.mem_singleton.mp q), (offn p hp).1⟩
    · simpa using hys
    · rintro j ws own' m5 oC5 nw5 h5 tk5 E5 hj ⟨v', rfl, hv'⟩ hown' ⟨ys', rfl, hys'⟩ hoC5 F5 N5 off5
      obtain ⟨o5, rfl⟩ := own_one hown'
      obtain ⟨y, ty, rfl, hy⟩ := ints_get hI₅ hv'
      have hl5 := hys'.length
      rw [List.length_append, List.length_take] at hl5
      refine tape_body (s := ⟨h5, _, _, tk5, _⟩) (nw := (I', o5) :: (I, oI) :: (l₂, listOf vs.toArray k) :: news) F5 X T (cb_drop N5 fun p hp => ?_) hoC5 (upds1 _ _ _) hys' (by omega) a3 (fun p hp => ?_) fun h6 tk6 ys6 F6 N6 hys6 => ?_
      · rcases List.mem_cons.mp hp with rfl | hp
        · exact List.mem_cons_of_mem _ List.mem_cons_self
        · rcases List.mem_cons.mp hp with rfl | hp
          · exact List.mem_cons_of_mem _ (List.mem_cons_of_mem _ (List.mem_cons_of_mem _ List.mem_cons_self))
          · rcases List.mem_cons.mp hp with rfl | hp
            · exact List.mem_cons_self
            · rcases List.mem_cons.mp hp with rfl | hp
              · exact List.mem_cons_of_mem _ (List.mem_cons_of_mem _ List.mem_cons_self)
              · exact List.mem_cons_of_mem _ (List.mem_cons_of_mem _ (List.mem_cons_of_mem _ (List.mem_cons_of_mem _ hp)))
      · rcases List.mem_cons.mp hp with rfl | hp
        · exact fun q => pD q.symm
        · rcases List.mem_cons.mp hp with rfl | hp
          · exact hDI
          · rcases List.mem_cons.mp hp with rfl | hp
            · exact fun q => nD q.symm
            · exact (offn p hp).2
      · refine ⟨h6, tk6, oC5, _, (I, oI) :: (D, LCg.lst ys6) :: (l₂, listOf vs.toArray k) :: news, rfl, F6, cb_drop N6 fun p hp => ?_, hoC5, ?_, ys6, rfl, ?_⟩
        · rcases List.mem_cons.mp hp with rfl | hp
          · exact List.mem_cons_of_mem _ (List.mem_cons_of_mem _ List.mem_cons_self)
          · rcases List.mem_cons.mp hp with rfl | hp
            · exact List.mem_cons_self
            · rcases List.mem_cons.mp hp with rfl | hp
              · exact List.mem_cons_of_mem _ (List.mem_cons_of_mem _ (List.mem_cons_of_mem _ List.mem_cons_self))
              · rcases List.mem_cons.mp hp with rfl | hp
                · exact List.mem_cons_of_mem _ List.mem_cons_self
                · exact List.mem_cons_of_mem _ (List.mem_cons_of_mem _ (List.mem_cons_of_mem _ (List.mem_cons_of_mem _ hp)))
        · intro p hp
          rcases List.mem_cons.mp hp with rfl | hp
          · exact off5 _ List.mem_cons_self
          · rcases List.mem_cons.mp hp with rfl | hp
            · exact off5 (D, LCg.lst ys') (List.mem_cons_of_mem _ List.mem_cons_self)
            · exact off5 p (List.mem_cons_of_mem _ (List.mem_cons_of_mem _ hp))
        · rw [List.take_add_one, hy, Option.toList_some, ← List.append_assoc]
          exact hys6
    · obtain ⟨rfl, h', tk', m'', oC'', nw, rfl, F', hC', N', off', ys', rfl, hys'⟩ := hr
      refine ⟨_, rfl, h', tk', oC'', m'', (D, LCg.lst ys') :: news, rfl, F', cb_drop N' ?_, hC', ?_, ys', rfl, ?_⟩
      · intro p hp
        rcases List.mem_cons.mp hp with rfl | hp
        · exact List.mem_cons_of_mem _ List.mem_cons_self
        · rcases List.mem_cons.mp hp with rfl | hp
          · exact List.mem_cons_self
          · rcases List.mem_cons.mp hp with rfl | hp
            · exact List.mem_cons_of_mem _ (List.mem_cons_of_mem _ List.mem_cons_self)
            · exact List.mem_cons_of_mem _ (List.mem_cons_of_mem _ (List.mem_cons_of_mem _ (List.mem_cons_of_mem _ hp)))
      · intro p hp
        rcases List.mem_cons.mp hp with rfl | hp
        · exact off₄ (D, LCg.lst ys) List.mem_cons_self
        · exact off₄ p (List.mem_cons_of_mem _ hp)
      · rw [tfm_take_succ tns i x hx]
        rw [hvs, List.take_length] at hys'
        exact hys'
  · obtain ⟨rfl, h', tk', m', oC', nw, rfl, F', hC', N', off', ys, rfl, hys⟩ := hr
    rw [hI.length, List.take_length] at hys
    exact ⟨rfl, h', tk', m', oC', _, rfl, F', hC', N', off', fun h'' tk'' F'' N'' => h D h'' tk'' ys F'' N'' (fun p hp => (offn p hp).2) hys⟩
end
end
section
local macro_rules | `(tactic| walk_at "own reset") => `(tactic| skip)
theorem resetL51 : True := by (k_with_none; w_top off; first | (walk1; done) | trivial)
local macro_rules | `(tactic| walk_at "own reset") => `(tactic| skip)
theorem resetL52 : True := by (w_top off; first | (walk1; done) | trivial)
end
section
local macro_rules | `(tactic| walk_at "ct_enter") => `(tactic| (refine' enterF ?k1 ?k2 ?k3 ?k4 ?k5 ?kA ?kF ?kK ?k6 ?k7 ?k8 ?k9 ?kB ?kR ?_ ?c5 ?c2 ?c3 ?c4; (case kA => exact rfl); (case kF => exact rfl); (case kK => assumption); (case k1 => k_asm); (case k2 => k_asm); (case k3 => k_asm); (case k4 => k_asm); (case k5 => k_asm); (case k6 => k_is); (case k7 => k_is); (case k8 => ktr_room); (case k9 => first | exact BindsTo.of_eq rfl | (refine' kp_binds ?kx ?ke; (case kx => k_in); (case ke => exact fun _ => rfl))); (case c5 => decide); (case kB => exact locs rfl); (case c2 => exact rfl); (case c3 => exact rfl); (case c4 => exact rfl); (case kR => assumption); k_whole; intro g' L' h' F' N' B' X' T'; (try dsimp only); (try k_fold)))
local macro_rules | `(tactic| walk_at "ct_leave") => `(tactic| (change LeaveG _ _ _ _ _; refine' LeaveG.intro ?F ?N ?P; (case P => walk_at "ct_out"); (case F => k_asm); (case N => exact cb_drop (by assumption) (by kcj_all))))
local macro_rules | `(tactic| walk_at "ct_use") => `(tactic| ((case B => k_asm); (case F => k_asm); (case X => k_asm); (case N => k_asm); (case T => k_asm); (case hk => first | exact rfl | assumption); (case hd => ktr_room); (case hu => ktr_units)))
local macro_rules | `(tactic| walk_at "mem_any") => `(tactic| first | assumption | exact List.mem_cons_self | (refine List.mem_cons_of_mem _ ?_; walk_at "mem_any"))
section
variable {prog : Program} {w : World} {A : Around} {E : Value → Shared → Prop} {s : Shared} {h₀ : Heap} {L : Addr} {m : Str → Option Value} {env : Env}
noncomputable abbrev dict0 : Obj := { cls := .type "dict", data := .dict #[] }
theorem dict0_of {K : Type} [DecidableEq K] {knd : KeyKind prog w K} : dict0.IsDictOf knd [] := ⟨#[], 0, ⟨rfl, rfl, rfl⟩, rfl, fun _ he => by simp at he, Pairs.nil, List.nodup_nil⟩
theorem comp_startD {e : Expr} {scope : Scope} {cl : List (Str × Addr)} {newAcc : Sem Value} {accObj : Obj} {s₂ : Shared} {news : List (Addr × Obj)} {it : Value} {RR : Value → Addr → Result → Shared → Prop}
    (hacc : ∀ (Q : Value → Shared → Prop) (E : Value → Shared → Prop) (s : Shared), Q (.ref s.heap.objs.size) { s with heap := s.heap.push accObj } → wpAny (model prog w) A newAcc Q E s) (hfree : accObj.isFreed = false)
    (hcell : ∀ y ∈ scope.names, y.2 ≠ .cell) (hkind : scope.kind = .function) (F : Fr h₀ L s₂.heap m) (N : News h₀ L s₂.heap news) (hbig : h₀.NoLimit)
    (h : ∀ C D oC h₃ tk, C ≠ L → D ≠ L → (@Ne Nat C D) → h₀.get? C = none → LCg.NsObj oC (fun _ => none) → Fr h₀ L h₃ m → News h₀ L h₃ ((C, oC) :: (D, accObj) :: news) → (∀ p ∈ news, p.1 ≠ C ∧ p.1 ≠ D) → (∀ b o, s₂.heap.get? b = some o → h₃.get? b = some o) → (D == sysModules) = false →
      codeAny (model prog w) A (.compStart e 0 it (.ref D) (compEnvC scope cl C env)) (RR (.ref D) C) { s₂ with heap := h₃, toks := tk }) :
    wpAny (model prog w) A newAcc (fun acc s₃ => wpAny (model prog w) A (newFunctionEnv scope env.globals cl [] env.qual none .none (some env)) (fun cenv s₄ =>
      codeAny (model prog w) A (.compStart e 0 it acc { cenv with scope := relabel scope env }) (RR acc cenv.locals) s₄) E s₃) E s₂ := by
  refine hacc _ _ _ ?_
  refine wpAny_newFunctionEnv hcell (by intro y hy; simp at hy) (fun h₁ hns₁ hsb₁ => ?_) hkind
  dsimp only at hns₁ hsb₁ ⊢
  generalize hH2 : s₂.heap.push accObj = H2 at hns₁ hsb₁ ⊢
  have hC : H2.objs.size = s₂.heap.objs.size + 1 := by rw [← hH2, Heap.size_push]
  have hDC : s₂.heap.objs.size ≠ H2.objs.size := by rw [hC]; exact Nat.ne_of_lt (Nat.lt_succ_self _)
  have below : ∀ b, b < s₂.heap.objs.size → b ≠ H2.objs.size ∧ b ≠ s₂.heap.objs.size := fun b hb => ⟨by rw [hC]; exact Nat.ne_of_lt (Nat.lt_succ_of_lt hb), Nat.ne_of_lt hb⟩
  have old : ∀ b o, s₂.heap.get? b = some o → h₁.get? b = some o := fun b o e => hsb₁.extBut b o (below b (Heap.lt_size e)).1 (Heap.get?_push_of_some _ (hH2 ▸ Heap.get?_push_of_some _ e))
  have hD : h₁.get? s₂.heap.objs.size = some accObj := hsb₁.extBut _ _ hDC (Heap.get?_push_of_some _ (hH2 ▸ Heap.get?_push_size _ hfree))
  have fresh : ∀ a, s₂.heap.objs.size ≤ a → h₀.get? a = none := fun a ha => by
    cases e : h₀.get? a with
    | none => rfl
    | some o' => exact absurd (Heap.lt_size (F.keep a o' e)) (Nat.not_lt.mpr ha)
  have hLlt : L < s₂.heap.objs.size := F.ns.lt
  obtain ⟨oC, heC, hoC⟩ := LCg.ns_obj hns₁
  refine h H2.objs.size s₂.heap.objs.size oC h₁ _ (Ne.symm (below L hLlt).1) (Ne.symm (below L hLlt).2) (Ne.symm hDC) (fresh _ (by rw [hC]; exact Nat.le_succ _)) hoC (F.keeps old) (fun p hp => ?_) (fun p hp => below _ (Heap.lt_size (N p hp).1)) old (F.notModules (modules_low hbig))
  rcases List.mem_cons.mp hp with rfl | hp
  · exact ⟨heC, Ne.symm (below L hLlt).1, fresh _ (by rw [hC]; exact Nat.le_succ _)⟩
  · rcases List.mem_cons.mp hp with rfl | hp
    · exact ⟨hD, Ne.symm (below L hLlt).2, fresh _ (Nat.le_refl _)⟩
    · exact ⟨old _ _ (N p hp).1, (N p hp).2⟩
theorem dictcomp_top {kx vx : Expr} {g : Comprehension} {gs : List Comprehension} {scope : Scope} {cl : List (Str × Addr)} {pos : Pos} {Q : Value → Shared → Prop} (hasync : g.is_async = 0)
    (hclos : closureFor scope env = pure cl) (hcell : ∀ y ∈ scope.names, y.2 ≠ .cell) (hkind : scope.kind = .function)
    (hnames : ∀ y ∈ scope.names, y.2 = .local → scope.names.lookup y.1 = some .local) (hbig : h₀.NoLimit)
    (h : wpAny (model prog w) A (eval g.iter env) (fun xv s₁ => wpAny (model prog w) A (pyIter xv) (fun it s₂ => ∃ news, Fr h₀ L s₂.heap m ∧ News h₀ L s₂.heap news ∧
      ∀ C D oC h₃ tk, C ≠ L → D ≠ L → (@Ne Nat C D) → h₀.get? C = none → LCg.NsObj oC (fun _ => none) → Fr h₀ L h₃ m → News h₀ L h₃ ((C, oC) :: (D, dict0) :: news) → (∀ p ∈ news, p.1 ≠ C ∧ p.1 ≠ D) → (∀ b o, s₂.heap.get? b = some o → h₃.get? b = some o) → (D == sysModules) = false →
        codeAny (model prog w) A (.compStart (.DictComp kx vx (g :: gs) scope pos) 0 it (.ref D) (compEnvC scope cl C env))
          (LoopOut h₀ L m s₂ C (fun _ new => ∀ h' tk', Fr h₀ L h' m → News h₀ L h' new → Q (.ref D) { s₂ with heap := h', toks := tk' })) { s₂ with heap := h₃, toks := tk }) E s₁) E s)
    (hs : ∀ x, foldedSetIterable g.iter env x = pure x := by intro _; rfl) :
    wpAny (model prog w) A (eval (.DictComp kx vx (g :: gs) scope pos) env) Q E s := by
  obtain ⟨tgt, iter, ifs, asy⟩ := g
  dsimp only at hasync
  subst hasync
  rw [arm_eval_DictComp]
  refine wpAny_comprehension_free (use := none) rfl hs hclos hkind hnames (wpAny_mono h (fun xv s₁ h₁ => wpAny_mono h₁ (fun it s₂ h₂ => ?_) fun _ _ e => e) fun _ _ e => e)
  obtain ⟨news, F, N, hh⟩ := h₂
  refine comp_startD (RR := fun acc C => compPost (model prog w) A E none Q acc C) (accObj := dict0) (fun Q E s hq => wpAny_newObj_type hq) rfl hcell hkind F N hbig fun C D oC h₃ tk a1 a2 a3 a4 a5 a6 a7 a8 a9 a10 => ?_
  refine codeAny_mono (hh C D oC h₃ tk a1 a2 a3 a4 a5 a6 a7 a8 a9 a10) fun r s' hr => ?_
  obtain ⟨rfl, h', tk', m', oC', new, rfl, F', hC', N', off, hQ⟩ := hr
  refine ⟨m', hC'.ns (N' _ List.mem_cons_self).1, fun h'' hs'' => hQ h'' tk' (F'.change hs'' a1 a4) fun p hp => ?_⟩
  have z := N' p (List.mem_cons_of_mem _ hp)
  exact ⟨hs''.extBut _ _ (off p hp) z.1, z.2⟩
noncomputable def dictBody (kx vx : Expr) (D : Addr) (cenv : Env) : Sem Unit := do
  let kv ← eval kx cenv
  let vv ← holding [kv] (eval vx cenv)
  standAt { kx.pos with endLine := vx.pos.endLine, endCol := vx.pos.endCol }
  holding [kv, vv] (dictSet D kv vv)
theorem compTurn_D (kx vx target iter : Expr) (scope : Scope) (pos : Pos) (it : Value) (D : Addr) (cenv : Env) :
    compTurn (.DictComp kx vx [⟨target, iter, [], 0⟩] scope pos) 0 it (.ref D) cenv = turnG iter.pos target it cenv (dictBody kx vx D cenv) (.compLoop (.DictComp kx vx [⟨target, iter, [], 0⟩] scope pos) 0 it (.ref D) cenv) := by
  rw [compTurn_dict]
  unfold turnG dictBody
  congr 1
theorem dictBody_wp {kx vx : Expr} {D : Addr} {cenv : Env} {Q : Unit → Shared → Prop} (h : wpAny (model prog w) A (eval kx cenv) (fun kv s₁ => wpAny (model prog w) A (eval vx cenv) (fun vv s₂ => wpAny (model prog w) A (dictSet D kv vv) Q E s₂) E s₁) E s) :
    wpAny (model prog w) A (dictBody kx vx D cenv) Q E s := by
  unfold dictBody
  exact wpAny_bind (wpAny_mono h (fun kv s₁ h₁ => wpAny_bind (wpAny_holding (wpAny_mono h₁ (fun vv s₂ h₂ => wpAny_bind (wpAny_standAt (wpAny_holding h₂))) fun _ _ e => e))) fun _ _ e => e)
theorem dict_loop {kx vx tgt iter : Expr} {scope : Scope} {pos : Pos} {DD : Addr} {cenv : Env} {I : Addr} {fp wr : List Addr} {n : Nat} {xs : List Str} {P : Nat → List Value → Prop} {St : Nat → Heap → Prop}
    (W : Pulls prog w A I fp wr n tgt cenv xs P St) (K : KInv) (src : Addr → Option Obj)
    (hsrc : ∀ i m' nw, K i m' nw → ∀ b ∈ fp, b ∉ wr → ∃ o, src b = some o ∧ ((b, o) ∈ nw ∨ h₀.get? b = some o))
    (hCf : cenv.locals ∉ fp) (hCL : cenv.locals ≠ L) (hC0 : h₀.get? cenv.locals = none) (hwL : L ∉ wr) (hw0 : ∀ b ∈ wr, h₀.get? b = none)
    {oC : Obj} {m' : Str → Option Value} {news : List (Addr × Obj)} {h₃ : Heap} {tk : Nat} (st : St 0 h₃) (hoC : LCg.NsObj oC m') (F : Fr h₀ L h₃ m) (N : News h₀ L h₃ ((cenv.locals, oC) :: news)) (off : ∀ p ∈ news, p.1 ∉ wr ∧ p.1 ≠ cenv.locals) (hK : K 0 m' news)
    (hbody : ∀ i vs own m' oC news h tk E', i < n → P i vs → own.map (·.1) = wr → K i m' news → LCg.NsObj oC (upds xs vs m') → Fr h₀ L h m → News h₀ L h (own ++ (cenv.locals, oC) :: news) → (∀ p ∈ news, p.1 ∉ wr ∧ p.1 ≠ cenv.locals) →
      wpAny (model prog w) A (dictBody kx vx DD cenv) (fun _ s₂ => BodyEnd h₀ L m { s with heap := h, toks := tk } own cenv.locals (K (i + 1)) s₂) E' { s with heap := h, toks := tk }) :
    codeAny (model prog w) A (.compStart (.DictComp kx vx [⟨tgt, iter, [], 0⟩] scope pos) 0 (.ref I) (.ref DD) cenv) (LoopOut h₀ L m s cenv.locals (K n)) { s with heap := h₃, toks := tk } := by
  have loop : codeAny (model prog w) A (.compLoop (.DictComp kx vx [⟨tgt, iter, [], 0⟩] scope pos) 0 (.ref I) (.ref DD) cenv) (LoopOut h₀ L m s cenv.locals (K n)) { s with heap := h₃, toks := tk } := by
    refine codeAny_loop rfl (LoopInv h₀ L m s wr cenv.locals n St K) (fun k s' hI => ?_) n ⟨h₃, tk, 0, m', oC, news, rfl, Nat.zero_le _, rfl, st, F, hoC, N, off, hK⟩
    show wpAny _ A ((compTurn (.DictComp kx vx [⟨tgt, iter, [], 0⟩] scope pos) 0 (.ref I) (.ref DD) cenv).onRaise (fun x => do noteFrame x cenv; theTreesLotGoes x)) _ _ s'
    refine wpAny_noted ?_
    rw [compTurn_D]
    refine wpAny_mono (turn_news W K src hsrc hCf hCL hC0 hwL hw0 (fun i vs own m' oC news h tk a1 a2 a3 a4 a5 a6 a7 a8 => hbody i vs own m' oC news h tk _ a1 a2 a3 a4 a5 a6 a7 a8) hI) (fun f s'' hf => ?_) fun _ _ e => e
    cases f with
    | done fl => obtain ⟨rfl, hf⟩ := hf; exact hf.out
    | again c' => exact hf
  exact codeAny_compStart_dict loop (W.self 0 _ _ _ st loop)
end
/-- the place on the tape before the i-th number -/
noncomputable def tpos (ns : List Int) (i : Nat) : Nat := (tfm (ns.take i)).length
theorem tpos_succ {ns : List Int} {i : Nat} {x : Int} (h : ns[i]? = some x) : tpos ns (i + 1) = tpos ns i + (octs x.toNat).length := by
  unfold tpos; rw [tfm_take_succ ns i x h, List.length_append]
theorem tape_hits {its : List Value} {ns : List Int} (hI : IntsAre its (tfm ns)) {i : Nat} {x : Int} (h : ns[i]? = some x) (j : Nat) (o : Int) (ho : (octs x.toNat)[j]? = some o) : ∃ t, its.toArray[tpos ns i + j]? = some (.int o t) := by
  have e : (tfm ns)[tpos ns i + j]? = some o := by
    have e1 : ns = ns.take (i + 1) ++ ns.drop (i + 1) := (List.take_append_drop _ _).symm
    rw [e1, tfm_app, tfm_take_succ ns i x h]
    have hj : j < (octs x.toNat).length := (List.getElem?_eq_some_iff.mp ho).1
    rw [List.append_assoc, List.getElem?_append_right (by unfold tpos; rw [← e1]; omega)]
    have : tpos (List.take (i + 1) ns ++ List.drop (i + 1) ns) i + j - (tfm (List.take i ns)).length = j := by
      rw [← e1]; unfold tpos; omega
    rw [this, List.getElem?_append_left hj, ho]
  have hl := hI.length
  have hlt : tpos ns i + j < its.length := by rw [hl]; exact (List.getElem?_eq_some_iff.mp e).1
  obtain ⟨n, t, h1, h2⟩ := ints_get hI (List.getElem?_eq_getElem hlt)
  rw [e] at h2
  cases h2
  exact ⟨t, by rw [List.getElem?_toArray, List.getElem?_eq_getElem hlt, h1]⟩
theorem ct_tape {w : World} {mean mg mb} {I l : Addr} {its : List Value} {ns : List Int} {k i : Nat} {x : Int} (hIl : @Ne Nat l I) (hI : IntsAre its (tfm ns)) (hx : ns[i]? = some x) (h0 : 0 ≤ x) (hR : (octs x.toNat).length ≤ 1000) :
   Ct w mean mg mb 30 3 40 [.ref I] [(I, litI l (tpos ns i)), (l, listOf its.toArray k)] (fun v new => (∃ t, v = .int x t) ∧ new = [(I, litI l (tpos ns (i + 1))), (l, listOf its.toArray k)]) := by
  refine (ct_varint hIl hR (tape_hits hI hx)).mono fun v new h => ?_
  rw [tpos_succ hx]
  rw [Int.toNat_of_nonneg h0] at h
  exact h
theorem use_tape {w : World} {mean : ExcName → Option Value} {mg mb : Str → Option Value} {f : Addr} {dd uu : Nat} {vs : List Value} {I l : Addr} {oI oI' ol : Obj} {rest news : List (Addr × Obj)} {Out : Value → Prop}
    {dp un : Nat} {gd : Option (List Code)} {cn : Str} {cs : Scope} {a : Addr} {ccd : Value} {cl : List (Str × Addr)} {outer : List Env} {A₀ : Around} {base h₀ : Heap} {L : Addr} {m : Str → Option Value} {s : Shared} {Q E : Value → Shared → Prop}
    (C : Ct w mean mg mb f dd uu vs [(I, oI), (l, ol)] (fun v new => Out v ∧ new = [(I, oI'), (l, ol)]))
    (B : Below A₀ base outer h₀) (F : Fr h₀ L s.heap m) (X : (Mine.hd.heap_39 w.params).In h₀) (N : News h₀ L s.heap news) (T : Top Mine.hd.view_39 (looseW Mine.hd.view_39 [Str.ofString "bisect_right"]) mean mg mb h₀) (hk : cs.kind = .function)
    (hd : dp + dd < recursionLimit) (hu : un + uu < cLine) (hI : (I, oI) ∈ news) (hl : (l, ol) ∈ news) (hr : ∀ p ∈ rest, p ∈ news) (hdis : ∀ p ∈ rest, p.1 ≠ I)
    (k : ∀ r h' tk', Fr h₀ L h' m → News h₀ L h' ((I, oI') :: rest) → Out r → Q r { s with heap := h', toks := tk' }) :
    wpAny (model PySem.Challenge.rw_wf0008_01.row.prog w) (ktrTop dp un gd cn cs L a ccd cl outer) (call (.ref f) vs) Q E s := by
  classical
  refine use_ct (rest := rest.filter fun p => decide (p.1 ≠ l)) C B F X N T hk hd hu (List.forall_mem_cons.mpr ⟨hI, List.forall_mem_cons.mpr ⟨hl, List.forall_mem_nil _⟩⟩) (fun p hp => hr p (List.mem_filter.mp hp).1) (fun p hp => ?_) fun r new h' tk' F' N' _ out => ?_
  · have h1 := List.mem_filter.mp hp
    exact List.forall_mem_cons.mpr ⟨hdis p h1.1, List.forall_mem_cons.mpr ⟨of_decide_eq_true h1.2, List.forall_mem_nil _⟩⟩
  · obtain ⟨out, rfl⟩ := out
    refine k r h' tk' F' (cb_drop N' fun p hp => ?_) out
    rcases List.mem_cons.mp hp with rfl | hp
    · exact List.mem_cons_self
    · by_cases e : p.1 = l
      · have h1 := (N p (hr p hp)).1
        have h2 := (N _ hl).1
        rw [e] at h1
        rw [h1] at h2
        obtain ⟨b, o⟩ := p
        dsimp only at e h2
        cases h2
        subst e
        exact List.mem_cons_of_mem _ List.mem_cons_self
      · exact List.mem_append_right _ (List.mem_filter.mpr ⟨hp, decide_eq_true e⟩)
section
local macro_rules | `(tactic| walk_at "eval Name") => `(tactic| (k_here; (with_reducible show wpAny _ _ (eval (Expr.Name _ _) (compEnvC _ _ _ _)) _ _ _); k_dflt (refine' ld_cell ?N ?m ?d ?c ?k ?x ?b ?_; (case x => exact rfl); (case k => exact rfl); (case c => exact rfl); (case b => exact rfl); (case d => assumption); (case N => k_asm); (case m => walk_at "mem_any"))))
variable {w : World} {mean : ExcName → Option Value} {mg mb : Str → Option Value} {E : Value → Shared → Prop} {s : Shared} {g : Heap} {L a : Addr} {ccd : Value} {c1 c2 c3 c4 c5 : Addr} {m : Str → Option Value} {dp un : Nat} {gd : Option (List Code)} {more : List (Str × Const)} {outer : List Env} {A₀ : Around} {base : Heap} {news : List (Addr × Obj)}
theorem prof_body {o3 oC oD : Obj} {its : List Value} {tns : List Int} {kt i : Nat} {x : Int} {nw : List (Addr × Obj)} {E : Value → Shared → Prop} {C D It lt : Addr} {n : Str} {tn : Tok} {m₂ : Str → Option Value} {kvs : List (Str × Value)}
    (B : Below A₀ base outer g) (F : Fr g L s.heap m) (X : (Mine.hd.heap_39 w.params).In g) (T : Top Mine.hd.view_39 (looseW Mine.hd.view_39 [Str.ofString "bisect_right"]) mean mg mb g) (hd : dp + 100 < recursionLimit) (hu : un + 100 < cLine)
    (N : News g L s.heap ((C, oC) :: (D, oD) :: (It, litI lt (tpos tns i)) :: nw)) (hlt : (lt, listOf its.toArray kt) ∈ nw) (hc3 : (c3, o3) ∈ nw) (ho3 : o3.data = .cell (some (.ref It))) (hltI : @Ne Nat lt It) (hI : IntsAre its (tfm tns)) (hx : tns[i]? = some x) (h0 : 0 ≤ x) (hR : (octs x.toNat).length ≤ 1000)
    (hC : LCg.NsObj oC m₂) (e1 : m₂ (Str.ofString "name") = some (.str n tn)) (hD : oD.IsDictOf (PySem.strKind PySem.Challenge.rw_wf0008_01.row.prog w) kvs) (hz : kvs.length ≤ 100) (hCD : @Ne Nat C D) (hCI : @Ne Nat C It) (hDI : @Ne Nat D It) (hnD : ∀ p ∈ nw, p.1 ≠ D) (hnI : ∀ p ∈ nw, p.1 ≠ It) {Q : Unit → Shared → Prop}
    (h : ∀ h' tk' t oD', Fr g L h' m → News g L h' ((C, oC) :: (D, oD') :: (It, litI lt (tpos tns (i + 1))) :: nw) → oD'.IsDictOf (PySem.strKind PySem.Challenge.rw_wf0008_01.row.prog w) (stored kvs n (.int x t)) → Q () { s with heap := h', toks := tk' }) :
    wpAny (model PySem.Challenge.rw_wf0008_01.row.prog w) (lawTop dp un gd more L a ccd c1 c2 c3 c4 c5 outer) (dictBody profKx profVx D (compEnvC profCScope [(Str.ofString "tape", c3)] C (lawEnv more L a ccd c1 c2 c3 c4 c5))) Q E s := by
  refine dictBody_wp ?_
  have hr : ∀ p ∈ (C, oC) :: (D, oD) :: nw, p ∈ (C, oC) :: (D, oD) :: (It, litI lt (tpos tns i)) :: nw := fun p hp => by
    rcases List.mem_cons.mp hp with rfl | hp
    · exact List.mem_cons_self
    · rcases List.mem_cons.mp hp with rfl | hp
      · exact List.mem_cons_of_mem _ List.mem_cons_self
      · exact List.mem_cons_of_mem _ (List.mem_cons_of_mem _ (List.mem_cons_of_mem _ hp))
  have hdis : ∀ p ∈ (C, oC) :: (D, oD) :: nw, p.1 ≠ It := List.forall_mem_cons.mpr ⟨hCI, List.forall_mem_cons.mpr ⟨hDI, hnI⟩⟩
  k_steps
  refine use_tape (ct_tape (k := kt) hltI hI hx h0 hR) B F X N T rfl (by omega) (by omega) (List.mem_cons_of_mem _ (List.mem_cons_of_mem _ List.mem_cons_self)) (List.mem_cons_of_mem _ (List.mem_cons_of_mem _ (List.mem_cons_of_mem _ hlt))) hr hdis fun r h' tk' F' N' out => ?_
  obtain ⟨t, rfl⟩ := out
  have zD := N' (D, oD) (List.mem_cons_of_mem _ (List.mem_cons_of_mem _ List.mem_cons_self))
  refine wpAny_dictSet_pairs (knd := PySem.strKind PySem.Challenge.rw_wf0008_01.row.prog w) (k := n) (hsz := by rw [sizeLine_eq]; omega) (by simp [PySem.strKind, Value.isStrOf]) (Heap.dictOf_iff.mpr ⟨oD, zD.1, hD⟩) fun h'' hd'' hs'' => ?_
  obtain ⟨oD', g1, g2⟩ := Heap.dictOf_iff.mp hd''
  refine h h'' _ t oD' (F'.change hs'' zD.2.1 zD.2.2) (fun p hp => ?_) g2
  rcases List.mem_cons.mp hp with rfl | hp
  · have z := N' (C, oC) (List.mem_cons_of_mem _ List.mem_cons_self)
    exact ⟨(hs''.2 _ hCD).trans z.1, z.2⟩
  · rcases List.mem_cons.mp hp with rfl | hp
    · exact ⟨g1, zD.2⟩
    · rcases List.mem_cons.mp hp with rfl | hp
      · have z := N' _ List.mem_cons_self
        exact ⟨(hs''.2 _ (Ne.symm hDI)).trans z.1, z.2⟩
      · have z := N' p (List.mem_cons_of_mem _ (List.mem_cons_of_mem _ (List.mem_cons_of_mem _ hp)))
        exact ⟨(hs''.2 _ (hnD p hp)).trans z.1, z.2⟩
noncomputable def KV (x0 x1 x2 : Int) : Nat → List (Str × Value) → Prop
  | 0, kvs => kvs = []
  | 1, kvs => ∃ t1, kvs = stored [] (Str.ofString "a") (.int x0 t1)
  | 2, kvs => ∃ t1 t2, kvs = stored (stored [] (Str.ofString "a") (.int x0 t1)) (Str.ofString "b") (.int x1 t2)
  | _, kvs => ∃ t1 t2 t3, kvs = st3 (.int x0 t1) (.int x1 t2) (.int x2 t3)
theorem KV_len {x0 x1 x2 : Int} {i : Nat} {kvs : List (Str × Value)} (h : KV x0 x1 x2 i kvs) : kvs.length ≤ 100 := by
  match i, h with
  | 0, h => rw [show kvs = [] from h]; decide
  | 1, h => obtain ⟨t1, rfl⟩ := h; simp [stored]
  | 2, h => obtain ⟨t1, t2, rfl⟩ := h; simp [stored, str_ab]
  | i + 3, h => obtain ⟨t1, t2, t3, rfl⟩ := h; rw [st3_eq]; exact Nat.le_of_ble_eq_true rfl
theorem prof_comp {o3 : Obj} {its : List Value} {tns more' : List Int} {kt : Nat} {x0 x1 x2 : Int} {rest : List (Addr × Obj)} {It lt : Addr} {Q : Value → Shared → Prop}
    (B : Below A₀ base outer g) (F : Fr g L s.heap m) (X : (Mine.hd.heap_39 w.params).In g) (T : Top Mine.hd.view_39 (looseW Mine.hd.view_39 [Str.ofString "bisect_right"]) mean mg mb g) (hd : dp + 100 < recursionLimit) (hu : un + 100 < cLine)
    (N : News g L s.heap ((It, litI lt 0) :: rest)) (offI : ∀ p ∈ rest, p.1 ≠ It) (hlt : (lt, listOf its.toArray kt) ∈ rest) (hc3 : (c3, o3) ∈ rest) (ho3 : o3.data = .cell (some (.ref It))) (hltI : @Ne Nat lt It) (hI : IntsAre its (tfm tns)) (htns : tns = x0 :: x1 :: x2 :: more') (h0 : ∀ x ∈ tns, 0 ≤ x) (hR : ∀ x ∈ tns, (octs x.toNat).length ≤ 1000)
    (h : ∀ D oD h' tk', Fr g L h' m → News g L h' ((D, oD) :: (It, litI lt (tpos tns 3)) :: rest) → (∀ p ∈ rest, p.1 ≠ D) → (@Ne Nat It D) → Tab w D oD x0 x1 x2 → Q (.ref D) { s with heap := h', toks := tk' }) :
    wpAny (model PySem.Challenge.rw_wf0008_01.row.prog w) (lawTop dp un gd more L a ccd c1 c2 c3 c4 c5 outer) (eval profComp (lawEnv more L a ccd c1 c2 c3 c4 c5)) Q E s := by
  refine dictcomp_top (L := L) (m := m) (h₀ := g) rfl rfl (by decide) rfl (by decide) T.nolimit ?_
  dsimp only
  refine wpAny_Constant_str (wpAny_pyIter_ascii (by decide +kernel) ?_)
  dsimp only
  generalize hI' : s.heap.objs.size = I
  generalize s.toks = tk₀
  generalize hh4 : s.heap.push { cls := Value.type "str_ascii_iterator", data := Data.fields #[Value.str (Str.ofString "abc") tk₀, Value.int 0 0] } = h₁
  have F₁ : Fr g L h₁ m := hh4 ▸ F.push _
  have N₁ : News g L h₁ ((I, { cls := Value.type "str_ascii_iterator", data := Data.fields #[Value.str (Str.ofString "abc") tk₀, Value.int 0 0] }) :: (It, litI lt 0) :: rest) := hh4 ▸ hI' ▸ N.push F _
  have off₁ : ∀ p ∈ (It, litI lt 0) :: rest, p.1 ≠ I := fun p hp => hI' ▸ Nat.ne_of_lt (Heap.lt_size (N p hp).1)
  refine ⟨_, F₁, N₁, fun C D oC h₃ tk a1 a2 a3 a4 hC F₃ N₃ off₃ up₃ lo => ?_⟩
  have zI := N₁ _ List.mem_cons_self
  have oI3 := off₃ _ List.mem_cons_self
  have oIt := off₃ (It, litI lt 0) (List.mem_cons_of_mem _ List.mem_cons_self)
  have iIt := off₁ (It, litI lt 0) List.mem_cons_self
  have offn : ∀ p ∈ rest, p.1 ≠ C ∧ p.1 ≠ D := fun p hp => off₃ p (List.mem_cons_of_mem _ (List.mem_cons_of_mem _ hp))
  have offi : ∀ p ∈ rest, p.1 ≠ I := fun p hp => off₁ p (List.mem_cons_of_mem _ hp)
  have W := Pulls.ofName (x := Str.ofString "name") (px := ⟨85, 45, 85, 49⟩) (cenv := compEnvC profCScope [(Str.ofString "tape", c3)] C (lawEnv more L a ccd c1 c2 c3 c4 c5)) (Walks.strAscii (prog := PySem.Challenge.rw_wf0008_01.row.prog) (w := w) (A := lawTop dp un gd more L a ccd c1 c2 c3 c4 c5 outer) rfl I (Str.ofString "abc") tk₀)
    (fun i h st b hb => by rw [List.mem_singleton.mp hb]; obtain ⟨o, e, _⟩ := st; exact ⟨o, e⟩) rfl rfl
  refine codeAny_mono (dict_loop W
    (fun i m' nw => ∃ oD kvs, nw = (D, oD) :: (It, litI lt (tpos tns i)) :: rest ∧ oD.IsDictOf (PySem.strKind PySem.Challenge.rw_wf0008_01.row.prog w) kvs ∧ KV x0 x1 x2 i kvs) (fun _ => none)
    ?_ ?_ a1 a4 ?_ ?_ (m' := fun _ => none) (oC := oC) (news := (D, dict0) :: (It, litI lt 0) :: rest) ?_ hC F₃ ?_ ?_ ⟨dict0, [], rfl, dict0_of, rfl⟩ ?_) fun r s' hr => ?_
  · intro i m' nw _ b hb hbI
    exact absurd hb hbI
  · intro hmem
    exact oI3.1 (List.mem_singleton.mp hmem).symm
  · intro hmem
    exact zI.2.1 (List.mem_singleton.mp hmem).symm
  · intro b hb
    rw [List.mem_singleton.mp hb]
    exact zI.2.2
  · exact ⟨_, up₃ _ _ zI.1, rfl, rfl⟩
  · exact cb_drop N₃ fun p hp => by
      rcases List.mem_cons.mp hp with rfl | hp
      · exact List.mem_cons_self
      · rcases List.mem_cons.mp hp with rfl | hp
        · exact List.mem_cons_of_mem _ List.mem_cons_self
        · exact List.mem_cons_of_mem _ (List.mem_cons_of_mem _ (List.mem_cons_of_mem _ hp))
  · intro p hp
    rcases List.mem_cons.mp hp with rfl | hp
    · exact ⟨fun q => oI3.2 (List.mem_singleton.mp q).symm, fun q => a3 q.symm⟩
    · exact ⟨fun q => off₁ p hp (List.mem_singleton.mp q), (off₃ p (List.mem_cons_of_mem _ hp)).1⟩
  · rintro i ws own m' oC' nw h₄ tk₄ E' hi ⟨v, rfl, hv⟩ hown ⟨oD, kvs, rfl, hD, hkv⟩ hoC F₄ N₄ off₄
    obtain ⟨oI, rfl⟩ := own_one hown
    obtain ⟨n, tn, rfl, hn, hnl⟩ := abc_at hv
    have hx : ∃ x, tns[i]? = some x ∧ ∀ t, KV x0 x1 x2 (i + 1) (stored kvs n (.int x t)) := by
      subst htns
      match i, hn, hkv with
      | 0, hn, hkv => exact ⟨x0, rfl, fun t => ⟨t, by cases hn; rw [show kvs = [] from hkv]⟩⟩
      | 1, hn, hkv => obtain ⟨t1, rfl⟩ := hkv; exact ⟨x1, rfl, fun t => ⟨t1, t, by cases hn; rfl⟩⟩
      | 2, hn, hkv => obtain ⟨t1, t2, rfl⟩ := hkv; exact ⟨x2, rfl, fun t => ⟨t1, t2, t, by cases hn; rfl⟩⟩
      | i + 3, hn, hkv => exact absurd hn (by simp [abc])
    obtain ⟨x, hx, hstep⟩ := hx
    have hxm : x ∈ tns := List.mem_of_getElem? hx
    refine prof_body (nw := (I, oI) :: rest) (s := ⟨h₄, _, _, tk₄, _⟩) B F₄ X T hd hu (cb_drop N₄ fun p hp => ?_) (List.mem_cons_of_mem _ hlt) (List.mem_cons_of_mem _ hc3) ho3 hltI hI hx (h0 x hxm) (hR x hxm) hoC (upds1 _ _ _) hD (KV_len hkv) a3 (fun q => oIt.1 q.symm) (fun q => oIt.2 q.symm) (fun p hp => ?_) (fun p hp => ?_) fun h₅ tk₅ t oD' F₅ N₅ hD' => ?_
    · rcases List.mem_cons.mp hp with rfl | hp
      · exact List.mem_cons_of_mem _ List.mem_cons_self
      · rcases List.mem_cons.mp hp with rfl | hp
        · exact List.mem_cons_of_mem _ (List.mem_cons_of_mem _ List.mem_cons_self)
        · rcases List.mem_cons.mp hp with rfl | hp
          · exact List.mem_cons_of_mem _ (List.mem_cons_of_mem _ (List.mem_cons_of_mem _ List.mem_cons_self))
          · rcases List.mem_cons.mp hp with rfl | hp
            · exact List.mem_cons_self
            · exact List.mem_cons_of_mem _ (List.mem_cons_of_mem _ (List.mem_cons_of_mem _ (List.mem_cons_of_mem _ hp)))
    · rcases List.mem_cons.mp hp with rfl | hp
      · exact oI3.2
      · exact (offn p hp).2
    · rcases List.mem_cons.mp hp with rfl | hp
      · exact fun q => iIt q.symm
      · exact offI p hp
    · refine ⟨h₅, tk₅, oC', _, (D, oD') :: (It, litI lt (tpos tns (i + 1))) :: rest, rfl, F₅, cb_drop N₅ fun p hp => ?_, hoC, fun p hp => ?_, oD', _, rfl, hD', hstep t⟩
      · rcases List.mem_cons.mp hp with rfl | hp
        · exact List.mem_cons_of_mem _ (List.mem_cons_of_mem _ (List.mem_cons_of_mem _ List.mem_cons_self))
        · rcases List.mem_cons.mp hp with rfl | hp
          · exact List.mem_cons_self
          · rcases List.mem_cons.mp hp with rfl | hp
            · exact List.mem_cons_of_mem _ List.mem_cons_self
            · rcases List.mem_cons.mp hp with rfl | hp
              · exact List.mem_cons_of_mem _ (List.mem_cons_of_mem _ List.mem_cons_self)
              · exact List.mem_cons_of_mem _ (List.mem_cons_of_mem _ (List.mem_cons_of_mem _ (List.mem_cons_of_mem _ hp)))
      · rcases List.mem_cons.mp hp with rfl | hp
        · exact off₄ (D, oD) List.mem_cons_self
        · rcases List.mem_cons.mp hp with rfl | hp
          · exact off₄ (It, litI lt (tpos tns i)) (List.mem_cons_of_mem _ List.mem_cons_self)
          · exact off₄ p (List.mem_cons_of_mem _ (List.mem_cons_of_mem _ hp))
  · obtain ⟨rfl, h', tk', m', oC', nw, rfl, F', hC', N', off', oD, kvs, rfl, hD, hkv⟩ := hr
    have e : (Str.ofString "abc").cps.size = 3 := by rw [abc_cps]; rfl
    rw [e] at hkv N' off'
    obtain ⟨t1, t2, t3, rfl⟩ := hkv
    exact ⟨rfl, h', tk', m', oC', _, rfl, F', hC', N', off', fun h'' tk'' F'' N'' => h D oD h'' tk'' F'' N'' (fun p hp => (offn p hp).2) oIt.2 ⟨⟨t1, t2, t3, st3_eq _ _ _ ▸ hD, flat3 _ _ _ _ _ _⟩, lo⟩⟩
end
end
section
local macro_rules | `(tactic| walk_at "own reset") => `(tactic| skip)
theorem resetL6a1 : True := by (k_with_none; w_top off; first | (walk1; done) | trivial)
local macro_rules | `(tactic| walk_at "own reset") => `(tactic| skip)
theorem resetL6a2 : True := by (w_top off; first | (walk1; done) | trivial)
end
section
local macro_rules | `(tactic| walk_at "ct_enter") => `(tactic| (refine' enterF ?k1 ?k2 ?k3 ?k4 ?k5 ?kA ?kF ?kK ?k6 ?k7 ?k8 ?k9 ?kB ?kR ?_ ?c5 ?c2 ?c3 ?c4; (case kA => exact rfl); (case kF => exact rfl); (case kK => assumption); (case k1 => k_asm); (case k2 => k_asm); (case k3 => k_asm); (case k4 => k_asm); (case k5 => k_asm); (case k6 => k_is); (case k7 => k_is); (case k8 => ktr_room); (case k9 => first | exact BindsTo.of_eq rfl | (refine' kp_binds ?kx ?ke; (case kx => k_in); (case ke => exact fun _ => rfl))); (case c5 => decide); (case kB => exact locs rfl); (case c2 => exact rfl); (case c3 => exact rfl); (case c4 => exact rfl); (case kR => assumption); k_whole; intro g' L' h' F' N' B' X' T'; (try dsimp only); (try k_fold)))
local macro_rules | `(tactic| walk_at "ct_leave") => `(tactic| (change LeaveG _ _ _ _ _; refine' LeaveG.intro ?F ?N ?P; (case P => walk_at "ct_out"); (case F => k_asm); (case N => exact cb_drop (by assumption) (by kcj_all))))
local macro_rules | `(tactic| walk_at "ct_use") => `(tactic| ((case B => k_asm); (case F => k_asm); (case X => k_asm); (case N => k_asm); (case T => k_asm); (case hk => first | exact rfl | assumption); (case hd => ktr_room); (case hu => ktr_units)))
local macro_rules | `(tactic| walk_at "mem_any") => `(tactic| first | assumption | exact List.mem_cons_self | (refine List.mem_cons_of_mem _ ?_; walk_at "mem_any"))
noncomputable abbrev readR (ca cb cc x : Int) : Str × Int := readF (ca + cb + cc).toNat ca cb cc x (Str.ofString "")
noncomputable abbrev tupR (R : Str × Int) (t1 t2 : Tok) : Obj := tup2 (.str R.1 t1) (.int R.2 t2)
theorem use_read {w : World} {mean : ExcName → Option Value} {mg mb : Str → Option Value} {T : Addr} {o : Obj} {ca cb cc x : Int} {tx : Tok} {news : List (Addr × Obj)}
    {dp un : Nat} {gd : Option (List Code)} {cn : Str} {cs : Scope} {a : Addr} {ccd : Value} {cl : List (Str × Addr)} {outer : List Env} {A₀ : Around} {base h₀ : Heap} {L : Addr} {m : Str → Option Value} {s : Shared} {Q E : Value → Shared → Prop}
    (hT : Tab w T o ca cb cc) (ha : 0 ≤ ca) (hb : 0 ≤ cb) (hc : 0 ≤ cc) (h4 : ca + cb + cc ≤ 4) (hx : 0 ≤ x)
    (B : Below A₀ base outer h₀) (F : Fr h₀ L s.heap m) (X : (Mine.hd.heap_39 w.params).In h₀) (N : News h₀ L s.heap news) (TT : Top Mine.hd.view_39 (looseW Mine.hd.view_39 [Str.ofString "bisect_right"]) mean mg mb h₀) (hk : cs.kind = .function)
    (hd : dp + 3 < recursionLimit) (hu : un + 40 < cLine) (hm : (T, o) ∈ news)
    (k : ∀ D t1 t2 h' tk', Fr h₀ L h' m → News h₀ L h' ((D, tupR (readR ca cb cc x) t1 t2) :: news) → (∀ p ∈ news, p.1 ≠ D) → Q (.ref D) { s with heap := h', toks := tk' }) :
    wpAny (model PySem.Challenge.rw_wf0008_01.row.prog w) (ktrTop dp un gd cn cs L a ccd cl outer) (call (.ref 65) [.ref T, .int x tx]) Q E s := by
  classical
  refine use_ct (rest := news.filter fun p => decide (p.1 ≠ T)) (ct_read hT ha hb hc h4 hx) B F X N TT hk hd hu (List.forall_mem_cons.mpr ⟨hm, List.forall_mem_nil _⟩) (fun p hp => (List.mem_filter.mp hp).1) (fun p hp => ?_) fun r new h' tk' F' N' off out => ?_
  · exact List.forall_mem_cons.mpr ⟨of_decide_eq_true (List.mem_filter.mp hp).2, List.forall_mem_nil _⟩
  · obtain ⟨D, t1, t2, rfl, rfl⟩ := out
    have hDT : D ≠ T := fun e => by
      have z1 := (N' _ List.mem_cons_self).1
      have z2 := (N' (T, o) (List.mem_cons_of_mem _ List.mem_cons_self)).1
      dsimp only at z1 z2
      rw [e, z2] at z1
      have ho : o = tup2 _ _ := Option.some.inj z1
      obtain ⟨⟨_, _, _, ⟨es, ep, _, hd, _⟩, _⟩, _⟩ := hT
      rw [ho] at hd
      cases hd
    have mem : ∀ p ∈ news, p.1 = T → p = (T, o) := fun p hp e => by
      have h1 := (N p hp).1
      have h2 := (N _ hm).1
      rw [e] at h1
      rw [h1] at h2
      obtain ⟨b, o'⟩ := p
      dsimp only at e h2
      cases h2
      subst e
      rfl
    refine k D t1 t2 h' tk' F' (cb_drop N' fun p hp => ?_) fun p hp => ?_
    · rcases List.mem_cons.mp hp with rfl | hp
      · exact List.mem_cons_self
      · by_cases e : p.1 = T
        · rw [mem p hp e]
          exact List.mem_cons_of_mem _ List.mem_cons_self
        · exact List.mem_append_right _ (List.mem_filter.mpr ⟨hp, decide_eq_true e⟩)
    · by_cases e : p.1 = T
      · rw [e]; exact Ne.symm hDT
      · exact off _ List.mem_cons_self p (List.mem_filter.mpr ⟨hp, decide_eq_true e⟩)
noncomputable def SeenV (tups : List (Addr × Obj)) (v : Value) (R : Str × Int) : Prop := ∃ b t1 t2, v = .ref b ∧ (b, tupR R t1 t2) ∈ tups
theorem SeenV.addQ {tups : List (Addr × Obj)} {v : Value} {R : Str × Int} {q : Addr × Obj} (h : SeenV tups v R) : SeenV (q :: tups) v R := by
  obtain ⟨b, t1, t2, e, hm⟩ := h
  exact ⟨b, t1, t2, e, List.mem_cons_of_mem _ hm⟩
theorem Paired.addQ {tups : List (Addr × Obj)} {q : Addr × Obj} {vs : List Value} {Rs : List (Str × Int)} (h : Paired (SeenV tups) vs Rs) : Paired (SeenV (q :: tups)) vs Rs := by
  induction h with
  | nil => exact .nil
  | cons h _ ih => exact .cons h.addQ ih
noncomputable def seenRs (ca cb cc : Int) (n : Nat) : List (Str × Int) := (List.range n).map fun (j : Nat) => readR ca cb cc (j : Int)
theorem seenRs_succ (ca cb cc : Int) (n : Nat) : seenRs ca cb cc (n + 1) = seenRs ca cb cc n ++ [readR ca cb cc (n : Int)] := by
  unfold seenRs; rw [List.range_succ, List.map_append]; rfl
end
section
local macro_rules | `(tactic| walk_at "own reset") => `(tactic| skip)
theorem resetL6b1 : True := by (k_with_none; w_top off; first | (walk1; done) | trivial)
local macro_rules | `(tactic| walk_at "own reset") => `(tactic| skip)
theorem resetL6b2 : True := by (w_top off; first | (walk1; done) | trivial)
end
section
local macro_rules | `(tactic| walk_at "ct_enter") => `(tactic| (refine' enterF ?k1 ?k2 ?k3 ?k4 ?k5 ?kA ?kF ?kK ?k6 ?k7 ?k8 ?k9 ?kB ?kR ?_ ?c5 ?c2 ?c3 ?c4; (case kA => exact rfl); (case kF => exact rfl); (case kK => assumption); (case k1 => k_asm); (case k2 => k_asm); (case k3 => k_asm); (case k4 => k_asm); (case k5 => k_asm); (case k6 => k_is); (case k7 => k_is); (case k8 => ktr_room); (case k9 => first | exact BindsTo.of_eq rfl | (refine' kp_binds ?kx ?ke; (case kx => k_in); (case ke => exact fun _ => rfl))); (case c5 => decide); (case kB => exact locs rfl); (case c2 => exact rfl); (case c3 => exact rfl); (case c4 => exact rfl); (case kR => assumption); k_whole; intro g' L' h' F' N' B' X' T'; (try dsimp only); (try k_fold)))
local macro_rules | `(tactic| walk_at "ct_leave") => `(tactic| (change LeaveG _ _ _ _ _; refine' LeaveG.intro ?F ?N ?P; (case P => walk_at "ct_out"); (case F => k_asm); (case N => exact cb_drop (by assumption) (by kcj_all))))
local macro_rules | `(tactic| walk_at "ct_use") => `(tactic| ((case B => k_asm); (case F => k_asm); (case X => k_asm); (case N => k_asm); (case T => k_asm); (case hk => first | exact rfl | assumption); (case hd => ktr_room); (case hu => ktr_units)))
local macro_rules | `(tactic| walk_at "mem_any") => `(tactic| first | assumption | exact List.mem_cons_self | (refine List.mem_cons_of_mem _ ?_; walk_at "mem_any"))
section
local macro_rules | `(tactic| walk_at "eval Name") => `(tactic| (k_here; (with_reducible show wpAny _ _ (eval (Expr.Name _ _) (compEnvC _ _ _ _)) _ _ _); k_dflt (refine' ld_cell ?N ?m ?d ?c ?k ?x ?b ?_; (case x => exact rfl); (case k => exact rfl); (case c => exact rfl); (case b => exact rfl); (case N => k_asm); (case m => walk_at "mem_any"); (case d => assumption))))
variable {w : World} {mean : ExcName → Option Value} {mg mb : Str → Option Value} {E : Value → Shared → Prop} {s : Shared} {g : Heap} {L a : Addr} {ccd : Value} {c1 c2 c3 c4 c5 : Addr} {m : Str → Option Value} {dp un : Nat} {gd : Option (List Code)} {more : List (Str × Const)} {outer : List Env} {A₀ : Around} {base : Heap} {news : List (Addr × Obj)}
theorem seen_body {o3 o4 oC oP : Obj} {its ys : List Value} {tns : List Int} {kt i : Nat} {x ca cb cc : Int} {nw : List (Addr × Obj)} {E : Value → Shared → Prop} {C D It lt P : Addr} {m₂ : Str → Option Value}
    (B : Below A₀ base outer g) (F : Fr g L s.heap m) (X : (Mine.hd.heap_39 w.params).In g) (T : Top Mine.hd.view_39 (looseW Mine.hd.view_39 [Str.ofString "bisect_right"]) mean mg mb g) (hd : dp + 100 < recursionLimit) (hu : un + 100 < cLine)
    (N : News g L s.heap ((C, oC) :: (D, LCg.lst ys) :: (It, litI lt (tpos tns i)) :: nw)) (hlt : (lt, listOf its.toArray kt) ∈ nw) (hc3 : (c3, o3) ∈ nw) (ho3 : o3.data = .cell (some (.ref It))) (hc4 : (c4, o4) ∈ nw) (ho4 : o4.data = .cell (some (.ref P))) (hP : (P, oP) ∈ nw) (hT : Tab w P oP ca cb cc) (ha : 0 ≤ ca) (hb : 0 ≤ cb) (hc : 0 ≤ cc) (h4 : ca + cb + cc ≤ 4)
    (hltI : @Ne Nat lt It) (hI : IntsAre its (tfm tns)) (hx : tns[i]? = some x) (h0 : 0 ≤ x) (hR : (octs x.toNat).length ≤ 1000)
    (hC : LCg.NsObj oC m₂) (hz : ys.length ≤ 100) (hCD : @Ne Nat C D) (hCI : @Ne Nat C It) (hDI : @Ne Nat D It) (hnD : ∀ p ∈ nw, p.1 ≠ D) (hnI : ∀ p ∈ nw, p.1 ≠ It) {Q : Unit → Shared → Prop}
    (h : ∀ b t1 t2 h' tk', Fr g L h' m → News g L h' ((b, tupR (readR ca cb cc x) t1 t2) :: (It, litI lt (tpos tns (i + 1))) :: (C, oC) :: (D, LCg.lst (ys ++ [.ref b])) :: nw) → (b ≠ It ∧ b ≠ C ∧ b ≠ D ∧ ∀ p ∈ nw, p.1 ≠ b) → Q () { s with heap := h', toks := tk' }) :
    wpAny (model PySem.Challenge.rw_wf0008_01.row.prog w) (lawTop dp un gd more L a ccd c1 c2 c3 c4 c5 outer) (listBody seenElt [] (.ref D) (compEnvC seenCScope [(Str.ofString "tape", c3), (Str.ofString "profile", c4)] C (lawEnv more L a ccd c1 c2 c3 c4 c5))) Q E s := by
  refine listBody_plain ?_
  dsimp only [seenElt, Got.it]
  have hr : ∀ p ∈ (C, oC) :: (D, LCg.lst ys) :: nw, p ∈ (C, oC) :: (D, LCg.lst ys) :: (It, litI lt (tpos tns i)) :: nw := fun p hp => by
    rcases List.mem_cons.mp hp with rfl | hp
    · exact List.mem_cons_self
    · rcases List.mem_cons.mp hp with rfl | hp
      · exact List.mem_cons_of_mem _ List.mem_cons_self
      · exact List.mem_cons_of_mem _ (List.mem_cons_of_mem _ (List.mem_cons_of_mem _ hp))
  have hdis : ∀ p ∈ (C, oC) :: (D, LCg.lst ys) :: nw, p.1 ≠ It := List.forall_mem_cons.mpr ⟨hCI, List.forall_mem_cons.mpr ⟨hDI, hnI⟩⟩
  k_steps
  refine use_tape (ct_tape (k := kt) hltI hI hx h0 hR) B F X N T rfl (by omega) (by omega) (List.mem_cons_of_mem _ (List.mem_cons_of_mem _ List.mem_cons_self)) (List.mem_cons_of_mem _ (List.mem_cons_of_mem _ (List.mem_cons_of_mem _ hlt))) hr hdis fun r h' tk' F' N' out => ?_
  obtain ⟨t, rfl⟩ := out
  k_steps
  refine' use_read hT ha hb hc h4 h0 B F' X N' T rfl (by omega) (by omega) (List.mem_cons_of_mem _ (List.mem_cons_of_mem _ (List.mem_cons_of_mem _ hP))) ?_
  k_whole
  intro b t1 t2 h'' tk'' F'' N'' offb
  have oIt := offb (It, litI lt (tpos tns (i + 1))) List.mem_cons_self
  have oC' := offb (C, oC) (List.mem_cons_of_mem _ List.mem_cons_self)
  have oD' := offb (D, LCg.lst ys) (List.mem_cons_of_mem _ (List.mem_cons_of_mem _ List.mem_cons_self))
  have on' : ∀ p ∈ nw, p.1 ≠ b := fun p hp => offb p (List.mem_cons_of_mem _ (List.mem_cons_of_mem _ (List.mem_cons_of_mem _ hp)))
  try dsimp only
  refine append_mid (pre := [(b, tupR (readR ca cb cc x) t1 t2), (It, litI lt (tpos tns (i + 1))), (C, oC)]) F'' N'' ?_ hnD (by omega) fun h3 F3 N3 => h b t1 t2 h3 _ F3 N3 ⟨fun e => oIt e.symm, fun e => oC' e.symm, fun e => oD' e.symm, on'⟩
  exact List.forall_mem_cons.mpr ⟨fun e => oD' e.symm, List.forall_mem_cons.mpr ⟨fun e => hDI e.symm, List.forall_mem_cons.mpr ⟨hCD, List.forall_mem_nil _⟩⟩⟩
theorem seen_stmt {o3 o4 oP : Obj} {its : List Value} {tns : List Int} {kt i₀ : Nat} {ca cb cc : Int} {rest : List (Addr × Obj)} {It lt P : Addr} {Q : Flow → Shared → Prop}
    (B : Below A₀ base outer g) (F : Fr g L s.heap m) (X : (Mine.hd.heap_39 w.params).In g) (T : Top Mine.hd.view_39 (looseW Mine.hd.view_39 [Str.ofString "bisect_right"]) mean mg mb g) (hd : dp + 100 < recursionLimit) (hu : un + 100 < cLine)
    (N : News g L s.heap ((It, litI lt (tpos tns i₀)) :: rest)) (hnI : ∀ p ∈ rest, p.1 ≠ It) (hlt : (lt, listOf its.toArray kt) ∈ rest) (hc3 : (c3, o3) ∈ rest) (ho3 : o3.data = .cell (some (.ref It))) (hc4 : (c4, o4) ∈ rest) (ho4 : o4.data = .cell (some (.ref P))) (hP : (P, oP) ∈ rest) (hT : Tab w P oP ca cb cc) (ha : 0 ≤ ca) (hb : 0 ≤ cb) (hc : 0 ≤ cc) (h4 : ca + cb + cc ≤ 4)
    (hltI : @Ne Nat lt It) (hI : IntsAre its (tfm tns)) (hx : ∀ j, j < 24 → tns[i₀ + j]? = some (j : Int)) (hR : ∀ x ∈ tns, (octs x.toNat).length ≤ 1000)
    (h : ∀ D ys tups h' tk', Fr g L h' (fun z => if z = Str.ofString "seen" then some (.ref D) else m z) → News g L h' ((D, LCg.lst ys) :: (It, litI lt (tpos tns (i₀ + 24))) :: (tups ++ rest)) → (∀ p ∈ rest, p.1 ≠ D) → (∀ p ∈ tups, p.1 ≠ It ∧ p.1 ≠ D ∧ ∀ q ∈ rest, q.1 ≠ p.1) → It ≠ D → Paired (SeenV tups) ys (seenRs ca cb cc 24) → Q .next { s with heap := h', toks := tk' }) :
    wpAny (model PySem.Challenge.rw_wf0008_01.row.prog w) (lawTop dp un gd more L a ccd c1 c2 c3 c4 c5 outer) (exec seenStmt (lawEnv more L a ccd c1 c2 c3 c4 c5)) Q E s := by
  refine listcomp_assign (L := L) (m := m) (h₀ := g) rfl rfl rfl rfl (by decide) rfl (by decide) rfl rfl ?_
  dsimp only
  k_steps
  rename IsRange _ _ _ _ _ _ _ _ => hrg
  rename PyProof.Rows.Fr g L _ _ => F₀
  rename News g L _ ((It, litI lt (tpos tns i₀)) :: rest) => N₀
  refine wpAny_pyIter_range hrg (by decide) ?_
  clear hrg
  rename Heap => hh
  dsimp only
  generalize hI' : hh.objs.size = I
  generalize hh4 : hh.push { cls := Value.type "range_iterator", data := Data.fields #[rawInt 0, rawInt (Builtin.Range.rangeSize 0 24 1), rawInt 1] } = h₁
  have F₁ : Fr g L h₁ m := hh4 ▸ F₀.push _
  have N₁ : News g L h₁ ((I, { cls := Value.type "range_iterator", data := Data.fields #[rawInt 0, rawInt (Builtin.Range.rangeSize 0 24 1), rawInt 1] }) :: (It, litI lt (tpos tns i₀)) :: rest) := hh4 ▸ hI' ▸ N₀.push F₀ _
  have off₁ : ∀ p ∈ (It, litI lt (tpos tns i₀)) :: rest, p.1 ≠ I := fun p hp => hI' ▸ Nat.ne_of_lt (Heap.lt_size (N₀ p hp).1)
  refine ⟨_, F₁, N₁, fun C D oC h₃ tk a1 a2 a3 a4 hC F₃ N₃ off₃ up₃ new₃ => ?_⟩
  have zI := N₁ _ List.mem_cons_self
  have oI3 := off₃ _ List.mem_cons_self
  have oIt := off₃ (It, litI lt (tpos tns i₀)) (List.mem_cons_of_mem _ List.mem_cons_self)
  have iIt := off₁ (It, litI lt (tpos tns i₀)) List.mem_cons_self
  have offn : ∀ p ∈ rest, p.1 ≠ C ∧ p.1 ≠ D := fun p hp => off₃ p (List.mem_cons_of_mem _ (List.mem_cons_of_mem _ hp))
  have offi : ∀ p ∈ rest, p.1 ≠ I := fun p hp => off₁ p (List.mem_cons_of_mem _ hp)
  have W := Pulls.ofName (x := Str.ofString "number") (px := ⟨87, 56, 87, 62⟩) (cenv := compEnvC seenCScope [(Str.ofString "tape", c3), (Str.ofString "profile", c4)] C (lawEnv more L a ccd c1 c2 c3 c4 c5)) (Walks.range (prog := PySem.Challenge.rw_wf0008_01.row.prog) (w := w) (A := lawTop dp un gd more L a ccd c1 c2 c3 c4 c5 outer) rfl I 0 1 24)
    (fun i h st b hb => by rw [List.mem_singleton.mp hb]; exact ⟨_, st⟩) rfl rfl
  refine codeAny_mono (list_loop (ifs := []) W
    (fun i m' nw => ∃ ys tups, nw = (D, LCg.lst ys) :: (It, litI lt (tpos tns (i₀ + i))) :: (tups ++ rest) ∧ Paired (SeenV tups) ys (seenRs ca cb cc i) ∧ (∀ p ∈ tups, p.1 ≠ It ∧ p.1 ≠ D ∧ ∀ q ∈ rest, q.1 ≠ p.1)) (fun _ => none)
    ?_ ?_ a1 a4 ?_ ?_ (m' := fun _ => none) (oC := oC) (news := (D, LCg.lst []) :: (It, litI lt (tpos tns i₀)) :: rest) ?_ hC F₃ ?_ ?_ ⟨[], [], rfl, .nil, fun _ h => nomatch h⟩ ?_) fun r s' hr => ?_
  · intro i m' nw _ b hb hbI
    exact absurd hb hbI
  · intro hmem
    exact oI3.1 (List.mem_singleton.mp hmem).symm
  · intro hmem
    exact zI.2.1 (List.mem_singleton.mp hmem).symm
  · intro b hb
    rw [List.mem_singleton.mp hb]
    exact zI.2.2
  · exact up₃ _ _ zI.1
  · exact cb_drop N₃ fun p hp => by
      rcases List.mem_cons.mp hp with rfl | hp
      · exact List.mem_cons_self
      · rcases List.mem_cons.mp hp with rfl | hp
        · exact List.mem_cons_of_mem _ List.mem_cons_self
        · exact List.mem_cons_of_mem _ (List.mem_cons_of_mem _ (List.mem_cons_of_mem _ hp))
  · intro p hp
    rcases List.mem_cons.mp hp with rfl | hp
    · exact ⟨fun q => oI3.2 (List.mem_singleton.mp q).symm, fun q => a3 q.symm⟩
    · exact ⟨fun q => off₁ p hp (List.mem_singleton.mp q), (off₃ p (List.mem_cons_of_mem _ hp)).1⟩
  · rintro i ws own m' oC' nw h₄ tk₄ E' hi ⟨v, rfl, _⟩ hown ⟨ys, tups, rfl, hys, htups⟩ hoC F₄ N₄ off₄
    obtain ⟨oI, rfl⟩ := own_one hown
    have hxi := hx i hi
    have hxm : (i : Int) ∈ tns := List.mem_of_getElem? hxi
    have hlen := hys.length
    have hsl : (seenRs ca cb cc i).length = i := by unfold seenRs; simp
    have hi' : i < 24 := hi
    have hl100 : ys.length ≤ 100 := by rw [hlen, hsl]; omega
    have offT : ∀ p ∈ tups, p.1 ≠ I ∧ p.1 ≠ C := fun p hp => by
      have z := off₄ p (List.mem_cons_of_mem _ (List.mem_cons_of_mem _ (List.mem_append_left _ hp)))
      exact ⟨fun e => z.1 (List.mem_singleton.mpr e), z.2⟩
    refine seen_body (nw := (I, oI) :: (tups ++ rest)) (s := ⟨h₄, _, _, tk₄, _⟩) B F₄ X T hd hu (cb_drop N₄ fun p hp => ?_) (List.mem_cons_of_mem _ (List.mem_append_right _ hlt)) (List.mem_cons_of_mem _ (List.mem_append_right _ hc3)) ho3 (List.mem_cons_of_mem _ (List.mem_append_right _ hc4)) ho4 (List.mem_cons_of_mem _ (List.mem_append_right _ hP)) hT ha hb hc h4 hltI hI hxi (Int.natCast_nonneg i) (hR _ hxm) hoC hl100 a3 (fun q => oIt.1 q.symm) (fun q => oIt.2 q.symm) (fun p hp => ?_) (fun p hp => ?_) fun b t1 t2 h₅ tk₅ F₅ N₅ offb => ?_
    · rcases List.mem_cons.mp hp with rfl | hp
      · exact List.mem_cons_of_mem _ List.mem_cons_self
      · rcases List.mem_cons.mp hp with rfl | hp
        · exact List.mem_cons_of_mem _ (List.mem_cons_of_mem _ List.mem_cons_self)
        · rcases List.mem_cons.mp hp with rfl | hp
          · exact List.mem_cons_of_mem _ (List.mem_cons_of_mem _ (List.mem_cons_of_mem _ List.mem_cons_self))
          · rcases List.mem_cons.mp hp with rfl | hp
            · exact List.mem_cons_self
            · exact List.mem_cons_of_mem _ (List.mem_cons_of_mem _ (List.mem_cons_of_mem _ (List.mem_cons_of_mem _ hp)))
    · rcases List.mem_cons.mp hp with rfl | hp
      · exact oI3.2
      · rcases List.mem_append.mp hp with hp | hp
        · exact (htups p hp).2.1
        · exact (offn p hp).2
    · rcases List.mem_cons.mp hp with rfl | hp
      · exact fun q => iIt q.symm
      · rcases List.mem_append.mp hp with hp | hp
        · exact (htups p hp).1
        · exact hnI p hp
    · obtain ⟨b1, b2, b3, b4⟩ := offb
      refine ⟨h₅, tk₅, oC', _, (D, LCg.lst (ys ++ [.ref b])) :: (It, litI lt (tpos tns (i₀ + (i + 1)))) :: ((b, tupR (readR ca cb cc i) t1 t2) :: tups ++ rest), rfl, F₅, cb_drop N₅ fun p hp => ?_, hoC, fun p hp => ?_, ys ++ [.ref b], (b, tupR (readR ca cb cc i) t1 t2) :: tups, rfl, ?_, ?_⟩
      · rcases List.mem_cons.mp hp with rfl | hp
        · exact List.mem_cons_of_mem _ (List.mem_cons_of_mem _ (List.mem_cons_of_mem _ (List.mem_cons_of_mem _ List.mem_cons_self)))
        · rcases List.mem_cons.mp hp with rfl | hp
          · exact List.mem_cons_of_mem _ (List.mem_cons_of_mem _ List.mem_cons_self)
          · rcases List.mem_cons.mp hp with rfl | hp
            · exact List.mem_cons_of_mem _ (List.mem_cons_of_mem _ (List.mem_cons_of_mem _ List.mem_cons_self))
            · rcases List.mem_cons.mp hp with rfl | hp
              · exact List.mem_cons_of_mem _ List.mem_cons_self
              · rcases List.mem_cons.mp hp with rfl | hp
                · exact List.mem_cons_self
                · exact List.mem_cons_of_mem _ (List.mem_cons_of_mem _ (List.mem_cons_of_mem _ (List.mem_cons_of_mem _ (List.mem_cons_of_mem _ hp))))
      · rcases List.mem_cons.mp hp with rfl | hp
        · exact off₄ (D, LCg.lst ys) List.mem_cons_self
        · rcases List.mem_cons.mp hp with rfl | hp
          · exact off₄ (It, litI lt (tpos tns (i₀ + i))) (List.mem_cons_of_mem _ List.mem_cons_self)
          · rcases List.mem_cons.mp hp with rfl | hp
            · exact ⟨fun e => b4 (I, oI) List.mem_cons_self (List.mem_singleton.mp e).symm, b2⟩
            · exact off₄ p (List.mem_cons_of_mem _ (List.mem_cons_of_mem _ hp))
      · rw [seenRs_succ]
        exact (Paired.addQ hys).snoc ⟨b, t1, t2, rfl, List.mem_cons_self⟩
      · intro p hp
        rcases List.mem_cons.mp hp with rfl | hp
        · exact ⟨b1, b3, fun q hq => b4 q (List.mem_cons_of_mem _ (List.mem_append_right _ hq))⟩
        · exact htups p hp
  · obtain ⟨rfl, h', tk', m', oC', nw, rfl, F', hC', N', off', ys, tups, rfl, hys, htups⟩ := hr
    exact ⟨rfl, h', tk', m', oC', _, rfl, F', hC', N', off', fun h'' tk'' F'' N'' => h D ys tups h'' tk'' F'' N'' (fun p hp => (offn p hp).2) htups oIt.2 hys⟩
end
end
section
local macro_rules | `(tactic| walk_at "own reset") => `(tactic| skip)
theorem resetL71 : True := by (k_with_none; w_top off; first | (walk1; done) | trivial)
local macro_rules | `(tactic| walk_at "own reset") => `(tactic| skip)
theorem resetL72 : True := by (w_top off; first | (walk1; done) | trivial)
end
section
local macro_rules | `(tactic| walk_at "ct_enter") => `(tactic| (refine' enterF ?k1 ?k2 ?k3 ?k4 ?k5 ?kA ?kF ?kK ?k6 ?k7 ?k8 ?k9 ?kB ?kR ?_ ?c5 ?c2 ?c3 ?c4; (case kA => exact rfl); (case kF => exact rfl); (case kK => assumption); (case k1 => k_asm); (case k2 => k_asm); (case k3 => k_asm); (case k4 => k_asm); (case k5 => k_asm); (case k6 => k_is); (case k7 => k_is); (case k8 => ktr_room); (case k9 => first | exact BindsTo.of_eq rfl | (refine' kp_binds ?kx ?ke; (case kx => k_in); (case ke => exact fun _ => rfl))); (case c5 => decide); (case kB => exact locs rfl); (case c2 => exact rfl); (case c3 => exact rfl); (case c4 => exact rfl); (case kR => assumption); k_whole; intro g' L' h' F' N' B' X' T'; (try dsimp only); (try k_fold)))
local macro_rules | `(tactic| walk_at "ct_leave") => `(tactic| (change LeaveG _ _ _ _ _; refine' LeaveG.intro ?F ?N ?P; (case P => walk_at "ct_out"); (case F => k_asm); (case N => exact cb_drop (by assumption) (by kcj_all))))
local macro_rules | `(tactic| walk_at "ct_use") => `(tactic| ((case B => k_asm); (case F => k_asm); (case X => k_asm); (case N => k_asm); (case T => k_asm); (case hk => first | exact rfl | assumption); (case hd => ktr_room); (case hu => ktr_units)))
local macro_rules | `(tactic| walk_at "mem_any") => `(tactic| first | assumption | exact List.mem_cons_self | (refine List.mem_cons_of_mem _ ?_; walk_at "mem_any"))
noncomputable def srcOf (rest : List (Addr × Obj)) (b : Addr) : Option Obj := (rest.find? fun p => decide (@Eq Nat p.1 b)).map (·.2)
theorem srcOf_mem {rest : List (Addr × Obj)} {b : Addr} {o : Obj} (h : (b, o) ∈ rest) : ∃ o', srcOf rest b = some o' ∧ (b, o') ∈ rest := by
  unfold srcOf
  cases e : rest.find? fun p => decide (@Eq Nat p.1 b) with
  | none =>
    have := List.find?_eq_none.mp e (b, o) h
    simp at this
  | some p =>
    have h1 := List.find?_some e
    have h2 := List.mem_of_find?_eq_some e
    have h3 : p.1 = b := of_decide_eq_true h1
    exact ⟨p.2, rfl, by rw [← h3]; exact h2⟩
theorem seen_pick {tups : List (Addr × Obj)} {sv : List Value} {Rs : List (Str × Int)} (h : Paired (SeenV tups) sv Rs) :
    ∃ (Ts : Nat → Addr) (vals : Nat → Array Value), ∀ k, k < sv.length → sv[k]? = some (.ref (Ts k)) ∧ ∃ R t1 t2, Rs[k]? = some R ∧ vals k = #[.str R.1 t1, .int R.2 t2] ∧ (Ts k, tupR R t1 t2) ∈ tups := by
  have hk : ∀ k, ∃ q : Addr × Array Value, k < sv.length → sv[k]? = some (.ref q.1) ∧ ∃ R t1 t2, Rs[k]? = some R ∧ q.2 = #[.str R.1 t1, .int R.2 t2] ∧ (q.1, tupR R t1 t2) ∈ tups := fun k => by
    by_cases hlt : k < sv.length
    · obtain ⟨R, hR, b, t1, t2, e, hm⟩ := Paired.get h (List.getElem?_eq_getElem hlt)
      exact ⟨(b, #[.str R.1 t1, .int R.2 t2]), fun _ => ⟨by rw [List.getElem?_eq_getElem hlt, e], R, t1, t2, hR, rfl, hm⟩⟩
    · exact ⟨(0, #[]), fun h => absurd h hlt⟩
  exact ⟨fun k => (Classical.choose (hk k)).1, fun k => (Classical.choose (hk k)).2, fun k => Classical.choose_spec (hk k)⟩
section
local macro_rules | `(tactic| walk_at "eval Name") => `(tactic| (k_here; (with_reducible show wpAny _ _ (eval (Expr.Name _ _) (compEnvC _ _ _ _)) _ _ _); k_dflt (refine' ld_cell ?N ?m ?d ?c ?k ?x ?b ?_; (case x => exact rfl); (case k => exact rfl); (case c => exact rfl); (case b => exact rfl); (case N => k_asm); (case m => walk_at "mem_any"); (case d => assumption))))
variable {w : World} {mean : ExcName → Option Value} {mg mb : Str → Option Value} {E : Value → Shared → Prop} {s : Shared} {g : Heap} {L a : Addr} {ccd : Value} {c1 c2 c3 c4 c5 : Addr} {m : Str → Option Value} {dp un : Nat} {gd : Option (List Code)} {more : List (Str × Const)} {outer : List Env} {A₀ : Around} {base : Heap} {news : List (Addr × Obj)}
theorem test_body {o5 oC : Obj} {ys : List Value} {zs : List Int} {o W : Str} {n : Int} {to tw tn : Tok} {nw : List (Addr × Obj)} {E : Value → Shared → Prop} {C D : Addr} {m₂ : Str → Option Value}
    (F : Fr g L s.heap m) (X : (Mine.hd.heap_39 w.params).In g) (T : Top Mine.hd.view_39 (looseW Mine.hd.view_39 [Str.ofString "bisect_right"]) mean mg mb g)
    (N : News g L s.heap ((C, oC) :: (D, LCg.lst ys) :: nw)) (hc5 : (c5, o5) ∈ nw) (ho5 : o5.data = .cell (some (.str o to)))
    (hC : LCg.NsObj oC m₂) (e1 : m₂ (Str.ofString "word") = some (.str W tw)) (e2 : m₂ (Str.ofString "rest") = some (.int n tn)) (hI : IntsAre ys zs) (hz : ys.length ≤ 100) (hCD : @Ne Nat C D) (hnD : ∀ p ∈ nw, p.1 ≠ D) {Q : Unit → Shared → Prop}
    (h : ∀ h' tk' ys', Fr g L h' m → News g L h' ((C, oC) :: (D, LCg.lst ys') :: nw) → IntsAre ys' (zs ++ (if W = o then [n] else [])) → Q () { s with heap := h', toks := tk' }) :
    wpAny (model PySem.Challenge.rw_wf0008_01.row.prog w) (lawTop dp un gd more L a ccd c1 c2 c3 c4 c5 outer) (listBody testElt [testIf] (.ref D) (compEnvC testCScope [(Str.ofString "order", c5)] C (lawEnv more L a ccd c1 c2 c3 c4 c5))) Q E s := by
  refine listBody_test ?_
  dsimp only [testElt, Got.it]
  by_cases hW : W = o
  · rw [if_pos hW] at h
    have hw : (W == o) = true := by simp [hW]
    k_steps
    refine WhlIf.yes hw ?_
    k_steps
    refine append_mid (pre := [(C, oC)]) (by k_asm) (by k_asm) ?_ hnD (by omega) fun h' F' N' => h h' _ _ F' N' (ints_snoc hI _ _)
    exact List.forall_mem_cons.mpr ⟨hCD, List.forall_mem_nil _⟩
  · rw [if_neg hW, List.append_nil] at h
    have hw : (W == o) = false := by simp [hW]
    k_steps
    refine WhlIf.no hw ?_
    exact h _ _ ys F N hI
theorem word_rest : ¬ Str.ofString "word" = Str.ofString "rest" := by decide +kernel
theorem upds_rest (m : Str → Option Value) (u v : Value) : upds [Str.ofString "word", Str.ofString "rest"] [u, v] m (Str.ofString "rest") = some v := by
  show (if Str.ofString "rest" = Str.ofString "rest" then some v else (if Str.ofString "rest" = Str.ofString "word" then some u else m (Str.ofString "rest"))) = some v
  rw [if_pos rfl]
theorem upds_word (m : Str → Option Value) (u v : Value) : upds [Str.ofString "word", Str.ofString "rest"] [u, v] m (Str.ofString "word") = some u := by
  show (if Str.ofString "word" = Str.ofString "rest" then some v else (if Str.ofString "word" = Str.ofString "word" then some u else m (Str.ofString "word"))) = some u
  rw [if_neg word_rest, if_pos rfl]
noncomputable def pickR (Rs : List (Str × Int)) (o : Str) : List Int := (Rs.filter fun R => decide (R.1 = o)).map (·.2)
theorem pickR_snoc (Rs : List (Str × Int)) (R : Str × Int) (o : Str) : pickR (Rs ++ [R]) o = pickR Rs o ++ (if R.1 = o then [R.2] else []) := by
  unfold pickR
  rw [List.filter_append, List.map_append]
  by_cases h : R.1 = o <;> simp [h]
theorem pickR_len (Rs : List (Str × Int)) (o : Str) : (pickR Rs o).length ≤ Rs.length := by unfold pickR; rw [List.length_map]; exact List.length_filter_le _ _
theorem test_comp {o5 : Obj} {sl : Addr} {sv : List Value} {Rs : List (Str × Int)} {o : Str} {to : Tok} {tups : List (Addr × Obj)} {Q : Value → Shared → Prop}
    (F : Fr g L s.heap m) (X : (Mine.hd.heap_39 w.params).In g) (T : Top Mine.hd.view_39 (looseW Mine.hd.view_39 [Str.ofString "bisect_right"]) mean mg mb g) (N : News g L s.heap news)
    (hsl : m (Str.ofString "seen") = some (.ref sl)) (hm : (sl, LCg.lst sv) ∈ news) (htu : ∀ p ∈ tups, p ∈ news) (hS : Paired (SeenV tups) sv Rs) (hn : Rs.length ≤ 50) (hc5 : (c5, o5) ∈ news) (ho5 : o5.data = .cell (some (.str o to)))
    (h : ∀ D h' tk' vs, Fr g L h' m → News g L h' ((D, LCg.lst vs) :: news) → (∀ p ∈ news, p.1 ≠ D) → IntsAre vs (pickR Rs o) → Q (.ref D) { s with heap := h', toks := tk' }) :
    wpAny (model PySem.Challenge.rw_wf0008_01.row.prog w) (lawTop dp un gd more L a ccd c1 c2 c3 c4 c5 outer) (eval testComp (lawEnv more L a ccd c1 c2 c3 c4 c5)) Q E s := by
  refine listcomp_top (L := L) (m := m) (h₀ := g) rfl rfl (by decide) rfl (by decide) ?_
  dsimp only
  refine nameX_L F hsl ?_ rfl rfl (by decide)
  refine pyIter_src F N hm fun I h₁ F₁ N₁ lt₁ => ?_
  refine ⟨_, F₁, N₁, fun C D oC h₃ tk a1 a2 a3 a4 hC F₃ N₃ off₃ up₃ new₃ => ?_⟩
  have hlI : sl ≠ I := Nat.ne_of_lt (lt₁ _ hm)
  have zI := N₁ (I, litI sl 0) List.mem_cons_self
  have zl := N₁ (sl, LCg.lst sv) (List.mem_cons_of_mem _ hm)
  have hCI := (off₃ _ (List.mem_cons_self)).1
  have hDI := (off₃ _ (List.mem_cons_self)).2
  have offn : ∀ p ∈ news, p.1 ≠ C ∧ p.1 ≠ D := fun p hp => off₃ p (List.mem_cons_of_mem _ hp)
  obtain ⟨Ts, vals, hTV⟩ := seen_pick hS
  have hTn : ∀ k, k < sv.length → ∃ ob, (Ts k, ob) ∈ news ∧ ob = { cls := .type "tuple", data := .seq (vals k) } := fun k hk => by
    obtain ⟨_, R, t1, t2, _, e, hmm⟩ := hTV k hk
    exact ⟨_, htu _ hmm, by rw [e]⟩
  have hTI : ∀ k, k < sv.length → Ts k ≠ I := fun k hk => by
    obtain ⟨ob, hmm, _⟩ := hTn k hk
    exact Nat.ne_of_lt (lt₁ _ hmm)
  have W := Pulls.ofPair (a := Str.ofString "word") (b := Str.ofString "rest") (pa := ⟨91, 21, 91, 25⟩) (pb := ⟨91, 27, 91, 31⟩) (tp := ⟨91, 21, 91, 31⟩) (kk := 0) (cenv := compEnvC testCScope [(Str.ofString "order", c5)] C (lawEnv more L a ccd c1 c2 c3 c4 c5)) (A := lawTop dp un gd more L a ccd c1 c2 c3 c4 c5 outer) rfl
    ((WalksU.listOfTuples (prog := PySem.Challenge.rw_wf0008_01.row.prog) (w := w) (A := lawTop dp un gd more L a ccd c1 c2 c3 c4 c5 outer) rfl I sl hlI sv.toArray Ts vals (fun j hj => by rw [List.getElem?_toArray]; exact (hTV j (by simpa using hj)).1) (fun j hj => hTI j (by simpa using hj))).bound)
    (fun i v ⟨h1, h2⟩ => by
      obtain ⟨_, R, t1, t2, _, e, _⟩ := hTV i (by simpa using h1)
      exact ⟨_, _, h2.trans e⟩) (fun i h st b hb => by
      obtain ⟨⟨o1, q1, _⟩, ⟨o2, q2, _⟩, q3⟩ := st
      rcases List.mem_cons.mp hb with rfl | hb
      · exact ⟨_, q1⟩
      · rcases List.mem_cons.mp hb with rfl | hb
        · exact ⟨_, q2⟩
        · obtain ⟨k, hk, rfl⟩ := List.mem_map.mp hb
          obtain ⟨o3, q3, _⟩ := q3 k (List.mem_range.mp hk)
          exact ⟨_, q3⟩) rfl rfl rfl
  refine codeAny_mono (list_loop (ifs := [testIf]) W
    (fun i m' nw => ∃ ys, nw = (D, LCg.lst ys) :: news ∧ IntsAre ys (pickR (Rs.take i) o)) (srcOf news)
    ?_ ?_ a1 a4 ?_ ?_ (m' := fun _ => none) (oC := oC) (news := (D, LCg.lst []) :: news) ?_ hC F₃ ?_ ?_ ⟨[], rfl, .nil⟩ ?_) fun r s' hr => ?_
  · rintro i m' nw ⟨ys, rfl, _⟩ b hb hbI
    have hex : ∃ ob, (b, ob) ∈ news := by
      rcases List.mem_cons.mp hb with e | hb
      · exact absurd (List.mem_singleton.mpr e) hbI
      · rcases List.mem_cons.mp hb with rfl | hb
        · exact ⟨_, hm⟩
        · obtain ⟨k, hk, rfl⟩ := List.mem_map.mp hb
          obtain ⟨ob, h1, _⟩ := hTn k (by simpa using hk)
          exact ⟨ob, h1⟩
    obtain ⟨ob, hob⟩ := hex
    obtain ⟨o', e1, e2⟩ := srcOf_mem hob
    exact ⟨o', e1, .inl (List.mem_cons_of_mem _ e2)⟩
  · intro hmem
    rcases List.mem_cons.mp hmem with e | hmem
    · exact hCI e.symm
    · rcases List.mem_cons.mp hmem with e | hmem
      · exact (offn _ hm).1 e.symm
      · obtain ⟨k, hk, e⟩ := List.mem_map.mp hmem
        obtain ⟨ob, h1, _⟩ := hTn k (by simpa using hk)
        exact (offn _ h1).1 e
  · intro hmem
    exact zI.2.1 (List.mem_singleton.mp hmem).symm
  · intro b hb
    rw [List.mem_singleton.mp hb]
    exact zI.2.2
  · refine ⟨⟨_, up₃ _ _ zI.1, rfl, rfl⟩, ⟨_, up₃ _ _ zl.1, rfl, _, rfl⟩, fun k hk => ?_⟩
    obtain ⟨ob, h1, rfl⟩ := hTn k (by simpa using hk)
    exact ⟨_, up₃ _ _ (N₁ _ (List.mem_cons_of_mem _ h1)).1, rfl, _, rfl⟩
  · exact cb_drop N₃ fun p hp => by
      rcases List.mem_cons.mp hp with rfl | hp
      · exact List.mem_cons_self
      · rcases List.mem_cons.mp hp with rfl | hp
        · exact List.mem_cons_of_mem _ List.mem_cons_self
        · exact List.mem_cons_of_mem _ (List.mem_cons_of_mem _ (List.mem_cons_of_mem _ hp))
  · intro p hp
    rcases List.mem_cons.mp hp with rfl | hp
    · exact ⟨fun q => hDI (List.mem_singleton.mp q).symm, fun q => a3 q.symm⟩
    · exact ⟨fun q => Nat.ne_of_lt (lt₁ p hp) (List.mem_singleton.mp q), (offn p hp).1⟩
  · rintro i ws own m' oC' nw h₄ tk₄ E' hi ⟨u, v, rfl, hi2, huv⟩ hown ⟨ys, rfl, hys⟩ hoC F₄ N₄ off₄
    obtain ⟨oI, rfl⟩ := own_one hown
    obtain ⟨_, R, t1, t2, hR, e, _⟩ := hTV i (by simpa using hi2)
    have huv' : u = Value.str R.1 t1 ∧ v = Value.int R.2 t2 := by simpa using huv.trans e
    obtain ⟨rfl, rfl⟩ := huv'
    have hlen := hys.length
    have hb1 := pickR_len (Rs.take i) o
    rw [List.length_take] at hb1
    refine test_body (nw := (I, oI) :: news) (s := ⟨h₄, _, _, tk₄, _⟩) F₄ X T (cb_drop N₄ fun p hp => ?_) (List.mem_cons_of_mem _ hc5) ho5 hoC (upds_word _ _ _) (upds_rest _ _ _) hys (by omega) a3 (fun p hp => ?_) fun h₅ tk₅ ys' F₅ N₅ hI5 => ?_
    · rcases List.mem_cons.mp hp with rfl | hp
      · exact List.mem_cons_of_mem _ List.mem_cons_self
      · rcases List.mem_cons.mp hp with rfl | hp
        · exact List.mem_cons_of_mem _ (List.mem_cons_of_mem _ List.mem_cons_self)
        · rcases List.mem_cons.mp hp with rfl | hp
          · exact List.mem_cons_self
          · exact List.mem_cons_of_mem _ (List.mem_cons_of_mem _ (List.mem_cons_of_mem _ hp))
    · rcases List.mem_cons.mp hp with rfl | hp
      · exact hDI
      · exact (offn p hp).2
    · refine ⟨h₅, tk₅, oC', _, (D, LCg.lst ys') :: news, rfl, F₅, cb_drop N₅ fun p hp => ?_, hoC, fun p hp => ?_, ys', rfl, ?_⟩
      · rcases List.mem_cons.mp hp with rfl | hp
        · exact List.mem_cons_of_mem _ (List.mem_cons_of_mem _ List.mem_cons_self)
        · rcases List.mem_cons.mp hp with rfl | hp
          · exact List.mem_cons_self
          · rcases List.mem_cons.mp hp with rfl | hp
            · exact List.mem_cons_of_mem _ List.mem_cons_self
            · exact List.mem_cons_of_mem _ (List.mem_cons_of_mem _ (List.mem_cons_of_mem _ hp))
      · rcases List.mem_cons.mp hp with rfl | hp
        · exact off₄ (D, LCg.lst ys) List.mem_cons_self
        · exact off₄ p (List.mem_cons_of_mem _ hp)
      · rw [List.take_add_one, hR, Option.toList_some, pickR_snoc]
        exact hI5
  · obtain ⟨rfl, h', tk', m', oC', nw, rfl, F', hC', N', off', ys, rfl, hys⟩ := hr
    rw [List.size_toArray, hS.length, List.take_length] at hys
    exact ⟨rfl, h', tk', m', oC', _, rfl, F', hC', N', off', fun h'' tk'' F'' N'' => h D h'' tk'' ys F'' N'' (fun p hp => (offn p hp).2) hys⟩
end
end
section
local macro_rules | `(tactic| walk_at "own reset") => `(tactic| skip)
theorem resetL81 : True := by (k_with_none; w_top off; first | (walk1; done) | trivial)
local macro_rules | `(tactic| walk_at "own reset") => `(tactic| skip)
theorem resetL82 : True := by (w_top off; first | (walk1; done) | trivial)
end
section
local macro_rules | `(tactic| walk_at "ct_enter") => `(tactic| (refine' enterF ?k1 ?k2 ?k3 ?k4 ?k5 ?kA ?kF ?kK ?k6 ?k7 ?k8 ?k9 ?kB ?kR ?_ ?c5 ?c2 ?c3 ?c4; (case kA => exact rfl); (case kF => exact rfl); (case kK => assumption); (case k1 => k_asm); (case k2 => k_asm); (case k3 => k_asm); (case k4 => k_asm); (case k5 => k_asm); (case k6 => k_is); (case k7 => k_is); (case k8 => ktr_room); (case k9 => first | exact BindsTo.of_eq rfl | (refine' kp_binds ?kx ?ke; (case kx => k_in); (case ke => exact fun _ => rfl))); (case c5 => decide); (case kB => exact locs rfl); (case c2 => exact rfl); (case c3 => exact rfl); (case c4 => exact rfl); (case kR => assumption); k_whole; intro g' L' h' F' N' B' X' T'; (try dsimp only); (try k_fold)))
local macro_rules | `(tactic| walk_at "ct_leave") => `(tactic| (change LeaveG _ _ _ _ _; refine' LeaveG.intro ?F ?N ?P; (case P => walk_at "ct_out"); (case F => k_asm); (case N => exact cb_drop (by assumption) (by kcj_all))))
local macro_rules | `(tactic| walk_at "ct_use") => `(tactic| ((case B => k_asm); (case F => k_asm); (case X => k_asm); (case N => k_asm); (case T => k_asm); (case hk => first | exact rfl | assumption); (case hd => ktr_room); (case hu => ktr_units)))
local macro_rules | `(tactic| walk_at "mem_any") => `(tactic| first | assumption | exact List.mem_cons_self | (refine List.mem_cons_of_mem _ ?_; walk_at "mem_any"))
noncomputable def SmallN (n : Nat) : Prop := n ≤ 24
theorem range_small {n : Nat} (h : SmallN n) : Builtin.Range.small 0 (n : Int) 1 = true := by unfold SmallN at h; exact small_one (by decide) (by decide) (by omega) (by omega)
theorem range_size (n : Nat) : Builtin.Range.rangeSize 0 (n : Int) 1 = (n : Int) := by rw [rangeSize_nat]; simp
theorem small_24 {n : Nat} (h : SmallN n) : n ≤ 2 ^ 24 := Nat.le_trans h (by decide)
section
local macro_rules | `(tactic| walk_at "eval ListComp") => `(tactic| (k_here; k_dflt (refine' test_comp ?F ?X ?T ?N ?hsl ?hm ?htu ?hS ?hn ?hc5 ?ho5 ?_; (case F => k_asm); (case X => k_asm); (case T => k_asm); (case N => k_asm); (case hsl => assumption); (case hm => walk_at "mem_any"); (case htu => assumption); (case hS => assumption); (case hn => assumption); (case hc5 => exact List.mem_cons_self); (case ho5 => assumption)); intro D h' tk' vs F' N' off hI'))
local macro_rules | `(tactic| walk_at "eval Name") => `(tactic| (k_here; (with_reducible show wpAny _ _ (eval (Expr.Name (Str.ofString "share") _) _) _ _ _); k_dflt (refine' nameX_L ?F ?hv ?_ ?a1 ?a2 ?a3; (case F => k_asm); (case hv => assumption); (case a1 => exact rfl); (case a2 => exact rfl); (case a3 => decide))))
local macro_rules | `(tactic| walk_at "call type:range") => `(tactic| (k_here; (with_reducible show wpAny _ _ (call (Value.type "range") [Value.int _ _]) _ _ _); k_dflt (refine' range1_rows ?F ?N ?_; (case F => k_asm); (case N => k_asm)); k_whole; intro h' tk' t1 u1 v1 R' F' N' kp'; clear kp'))
local macro_rules | `(tactic| walk_at "call type:list") => `(tactic| (k_here; (with_reducible show wpAny _ _ (call (Value.type "list") [Value.ref _]) _ _ _); k_dflt (refine' kll_range ?hh ?F ?N ?hr ?hs ?hz ?hn ?_; (case hh => exact rfl); (case F => k_asm); (case N => k_asm); (case hr => assumption); (case hs => exact range_small (by assumption)); (case hz => exact range_size _); (case hn => exact small_24 (by assumption))); k_whole; intro D us c h' tk' F' N' l1 hI'))
variable {w : World} {mean : ExcName → Option Value} {mg mb : Str → Option Value} {E : Value → Shared → Prop} {s : Shared} {g : Heap} {L a : Addr} {ccd : Value} {c1 c2 c3 c4 c5 : Addr} {m : Str → Option Value} {dp un : Nat} {gd : Option (List Code)} {more : List (Str × Const)} {outer : List Env} {A₀ : Around} {base : Heap} {news : List (Addr × Obj)}
theorem for_turn {o5 : Obj} {sl : Addr} {sv : List Value} {Rs : List (Str × Int)} {o : Str} {to tsh : Tok} {sh : Nat} {tups nw : List (Addr × Obj)} {Q : Flow → Shared → Prop}
    (F : Fr g L s.heap m) (X : (Mine.hd.heap_39 w.params).In g) (T : Top Mine.hd.view_39 (looseW Mine.hd.view_39 [Str.ofString "bisect_right"]) mean mg mb g) (hu : un + 100 < cLine) (N : News g L s.heap ((c5, o5) :: nw))
    (hsl : m (Str.ofString "seen") = some (.ref sl)) (hm : (sl, LCg.lst sv) ∈ nw) (htu' : ∀ p ∈ tups, p ∈ nw) (hS : Paired (SeenV tups) sv Rs) (hn : Rs.length ≤ 50) (ho5 : o5.data = .cell (some (.str o to)))
    (hsh : m (Str.ofString "share") = some (.int (sh : Int) tsh)) (h24 : SmallN sh) (hpick : pickR Rs o = rangeKs 0 sh)
    (h : ∀ h' tk', Fr g L h' m → News g L h' ((c5, o5) :: nw) → Q .next { s with heap := h', toks := tk' }) :
    wpAny (model PySem.Challenge.rw_wf0008_01.row.prog w) (lawTop dp un gd more L a ccd c1 c2 c3 c4 c5 outer) (execs forBody (lawEnv more L a ccd c1 c2 c3 c4 c5)) Q E s := by
  have htu : ∀ p ∈ tups, p ∈ (c5, o5) :: nw := fun p hp => List.mem_cons_of_mem _ (htu' p hp)
  dsimp only [forBody, Got.it]
  k_steps
  · rename News g L _ (_ :: _ :: (c5, o5) :: nw) => N₁
    exact h _ _ (by k_asm) (cb_drop N₁ fun p hp => List.mem_cons_of_mem _ (List.mem_cons_of_mem _ hp))
theorem for_stmt {x5 : Option Value} {o5 : Obj} {sl lo : Addr} {sv ov : List Value} {os : List Str} {Rs : List (Str × Int)} {tsh : Tok} {sh : Nat} {tups rest : List (Addr × Obj)} {Q : Flow → Shared → Prop}
    (F : Fr g L s.heap m) (X : (Mine.hd.heap_39 w.params).In g) (T : Top Mine.hd.view_39 (looseW Mine.hd.view_39 [Str.ofString "bisect_right"]) mean mg mb g) (hu : un + 100 < cLine) (N : News g L s.heap ((c5, o5) :: rest)) (off5 : ∀ p ∈ rest, p.1 ≠ c5)
    (hsl : m (Str.ofString "seen") = some (.ref sl)) (hm : (sl, LCg.lst sv) ∈ rest) (htu : ∀ p ∈ tups, p ∈ rest) (hS : Paired (SeenV tups) sv Rs) (hn : Rs.length ≤ 50) (ho5 : o5.data = .cell x5)
    (hlo : m (Str.ofString "orders") = some (.ref lo)) (hmo : (lo, LCg.lst ov) ∈ rest) (hO : Paired StrV ov os)
    (hsh : m (Str.ofString "share") = some (.int (sh : Int) tsh)) (h24 : SmallN sh) (hpick : ∀ o ∈ os, pickR Rs o = rangeKs 0 sh)
    (h : ∀ h' tk' o5', Fr g L h' m → News g L h' ((c5, o5') :: rest) → Q .next { s with heap := h', toks := tk' })
    (hE : PassesOwn (model PySem.Challenge.rw_wf0008_01.row.prog w) (lawTop dp un gd more L a ccd c1 c2 c3 c4 c5 outer) (lawEnv more L a ccd c1 c2 c3 c4 c5) E) :
    wpAny (model PySem.Challenge.rw_wf0008_01.row.prog w) (lawTop dp un gd more L a ccd c1 c2 c3 c4 c5 outer) (exec forStmt (lawEnv more L a ccd c1 c2 c3 c4 c5)) Q E s := by
  refine For_unr (env := lawEnv more L a ccd c1 c2 c3 c4 c5) g ?_ (by intro _; rfl) hE
  refine nameX_L F hlo ?_ rfl rfl (by decide)
  refine pyIter_src F N (List.mem_cons_of_mem _ hmo) fun I h₁ F₁ N₁ lt₁ => ?_
  have hlI : lo ≠ I := Nat.ne_of_lt (lt₁ _ (List.mem_cons_of_mem _ hmo))
  have h5I : c5 ≠ I := Nat.ne_of_lt (lt₁ _ List.mem_cons_self)
  have h5l : lo ≠ c5 := off5 _ hmo
  have zI := N₁ (I, litI lo 0) List.mem_cons_self
  have zl := N₁ (lo, LCg.lst ov) (List.mem_cons_of_mem _ (List.mem_cons_of_mem _ hmo))
  refine ⟨I, [I, lo], [I], ov.length, fun i v => ov[i]? = some v, fun i h => h.IsListIter I lo i ∧ h.IsList lo ov.toArray, m, (c5, o5) :: rest, rfl, ?_, ?_, ?_, ?_, ?_, F₁, fun p hp => N₁ p (List.mem_cons_of_mem _ hp), ?_, ?_⟩
  · have W := Walks.list (prog := PySem.Challenge.rw_wf0008_01.row.prog) (w := w) (A := lawTop dp un gd more L a ccd c1 c2 c3 c4 c5 outer) rfl I lo hlI ov.toArray
    rw [List.size_toArray] at W
    simpa using W
  · intro hmem
    rcases List.mem_cons.mp hmem with e | e
    · exact zI.2.1 e.symm
    · exact zl.2.1 (List.mem_singleton.mp e).symm
  · intro b hb
    rw [List.mem_singleton.mp hb]
    exact zI.2.2
  · intro p hp q
    exact Nat.ne_of_lt (lt₁ p hp) (List.mem_singleton.mp q)
  · exact ⟨⟨_, zI.1, rfl, rfl⟩, ⟨_, zl.1, rfl, _, rfl⟩⟩
  · intro i s' v Q' _ hq
    exact wpAny_of_eq (a := ()) rfl hq
  · have key : ∀ k i o5 x5, o5.data = .cell x5 → Unr PySem.Challenge.rw_wf0008_01.row.prog w (lawTop dp un gd more L a ccd c1 c2 c3 c4 c5 outer) E g (lawEnv more L a ccd c1 c2 c3 c4 c5) (.Name (Str.ofString "order") ⟨90, 8, 90, 13⟩) forBody Q (fun i v => ov[i]? = some v) [I, lo] { s with heap := h₁ } k i m ((c5, o5) :: rest) := by
      intro k
      induction k with
      | zero =>
        intro i o5 x5 ho
        exact Unr.zero fun h' tk F' N' => h h' tk o5 F' N'
      | succ k ih =>
        intro i o5 x5 ho
        refine Unr.succ fun v h₂ tk₂ own hv hown F₂ N₂ => ?_
        obtain ⟨o, hoo, to, rfl⟩ := Paired.get hO hv
        have z5 := N₂ (c5, o5) (List.mem_append_right _ List.mem_cons_self)
        have ho1 : ∀ p ∈ own, p.1 ≠ c5 := fun p hp q => by
          have := hown p hp
          rw [q] at this
          rcases List.mem_cons.mp this with e | e
          · exact h5I e
          · exact h5l (List.mem_singleton.mp e).symm
        refine wpAny_assign_Name (wpAny_storeName_cell rfl rfl rfl ⟨o5, z5.1, ho⟩ fun h₃ hv₃ hs₃ => ?_)
        obtain ⟨o6, ho6, hd6⟩ := hv₃
        have F₃ := F₂.change hs₃ z5.2.1 z5.2.2
        have N₃ := N₂.setIn ho1 off5 hs₃ ho6
        refine for_turn (nw := own ++ rest) (s := ⟨h₃, _, _, _, _⟩) F₃ X T hu (cb_drop N₃ fun p hp => ?_) hsl (List.mem_append_right _ hm) (fun p hp => List.mem_append_right _ (htu p hp)) hS hn hd6 hsh h24 (hpick o (List.mem_of_getElem? hoo)) fun h₄ tk₄ F₄ N₄ => ?_
        · rcases List.mem_cons.mp hp with rfl | hp
          · exact List.mem_append_right _ List.mem_cons_self
          · rcases List.mem_append.mp hp with hp | hp
            · exact List.mem_append_left _ hp
            · exact List.mem_append_right _ (List.mem_cons_of_mem _ hp)
        · refine LoopStep3.next (LoopStep2.intro (news₂ := (c5, o6) :: rest) F₄ (cb_drop N₄ fun p hp => ?_) rfl (ih (i + 1) o6 _ hd6))
          rcases List.mem_append.mp hp with hp | hp
          · exact List.mem_cons_of_mem _ (List.mem_append_left _ hp)
          · rcases List.mem_cons.mp hp with rfl | hp
            · exact List.mem_cons_self
            · exact List.mem_cons_of_mem _ (List.mem_append_right _ hp)
    exact key _ 0 o5 x5 ho5
end
end
section
local macro_rules | `(tactic| walk_at "own reset") => `(tactic| skip)
theorem resetM11 : True := by (k_with_none; w_top off; first | (walk1; done) | trivial)
local macro_rules | `(tactic| walk_at "own reset") => `(tactic| skip)
theorem resetM12 : True := by (w_top off; first | (walk1; done) | trivial)
end
section
local macro_rules | `(tactic| walk_at "ct_enter") => `(tactic| (refine' enterF ?k1 ?k2 ?k3 ?k4 ?k5 ?kA ?kF ?kK ?k6 ?k7 ?k8 ?k9 ?kB ?kR ?_ ?c5 ?c2 ?c3 ?c4; (case kA => exact rfl); (case kF => exact rfl); (case kK => assumption); (case k1 => k_asm); (case k2 => k_asm); (case k3 => k_asm); (case k4 => k_asm); (case k5 => k_asm); (case k6 => k_is); (case k7 => k_is); (case k8 => ktr_room); (case k9 => first | exact BindsTo.of_eq rfl | (refine' kp_binds ?kx ?ke; (case kx => k_in); (case ke => exact fun _ => rfl))); (case c5 => decide); (case kB => exact locs rfl); (case c2 => exact rfl); (case c3 => exact rfl); (case c4 => exact rfl); (case kR => assumption); k_whole; intro g' L' h' F' N' B' X' T'; (try dsimp only); (try k_fold)))
local macro_rules | `(tactic| walk_at "ct_leave") => `(tactic| (change LeaveG _ _ _ _ _; refine' LeaveG.intro ?F ?N ?P; (case P => walk_at "ct_out"); (case F => k_asm); (case N => exact cb_drop (by assumption) (by kcj_all))))
local macro_rules | `(tactic| walk_at "ct_use") => `(tactic| ((case B => k_asm); (case F => k_asm); (case X => k_asm); (case N => k_asm); (case T => k_asm); (case hk => first | exact rfl | assumption); (case hd => ktr_room); (case hu => ktr_units)))
local macro_rules | `(tactic| walk_at "mem_any") => `(tactic| first | assumption | exact List.mem_cons_self | (refine List.mem_cons_of_mem _ ?_; walk_at "mem_any"))
theorem four_of {vs : List Value} {zs : List Str} (h : Paired StrV vs zs) (hl : zs.length = 4) (hz : ∀ z ∈ zs, z ∈ abc) :
    ∃ z1 z2 z3 z4 t1 t2 t3 t4, vs = [.str z1 t1, .str z2 t2, .str z3 t3, .str z4 t4] ∧ z1 ∈ abc ∧ z2 ∈ abc ∧ z3 ∈ abc ∧ z4 ∈ abc := by
  cases h with
  | nil => cases hl
  | cons h1 h =>
  cases h with
  | nil => cases hl
  | cons h2 h =>
  cases h with
  | nil => cases hl
  | cons h3 h =>
  cases h with
  | nil => cases hl
  | cons h4 h =>
  cases h with
  | cons h5 h => simp at hl
  | nil =>
  obtain ⟨t1, rfl⟩ := h1
  obtain ⟨t2, rfl⟩ := h2
  obtain ⟨t3, rfl⟩ := h3
  obtain ⟨t4, rfl⟩ := h4
  exact ⟨_, _, _, _, t1, t2, t3, t4, rfl, hz _ (by simp), hz _ (by simp), hz _ (by simp), hz _ (by simp)⟩
/-- a word of four letters -/
noncomputable def Four (S : Str) : Prop := ∃ z1 z2 z3 z4, S = Txt.join (Str.ofString "") [z1, z2, z3, z4] ∧ z1 ∈ abc ∧ z2 ∈ abc ∧ z3 ∈ abc ∧ z4 ∈ abc
theorem abc_len {z : Str} (h : z ∈ abc) : z.length = 1 := by
  rw [abc_strs] at h
  rcases List.mem_cons.mp h with rfl | h
  · rfl
  · rcases List.mem_cons.mp h with rfl | h
    · rfl
    · rw [List.mem_singleton.mp h]; rfl
section
variable {prog : Program} {w : World} {A : Around} {E : Value → Shared → Prop} {s : Shared} {g : Heap} {L D : Addr} {news : List (Addr × Obj)}
theorem join4 {z1 z2 z3 z4 : Str} {t1 t2 t3 t4 t0 : Tok} {Q : Value → Shared → Prop} (N : News g L s.heap news) (hm : (D, LCg.lst [.str z1 t1, .str z2 t2, .str z3 t3, .str z4 t4]) ∈ news) (h1 : z1 ∈ abc) (h2 : z2 ∈ abc) (h3 : z3 ∈ abc) (h4 : z4 ∈ abc)
    (h : ∀ S t k, Four S → Q (.str S t) { s with toks := k }) : wpAny (model prog w) A (call (.builtin "str.join") [.str (Str.ofString "") t0, .ref D]) Q E s := by
  have hi : StrsAre (([.str z1 t1, .str z2 t2, .str z3 t3, .str z4 t4] : List Value).toArray).toList [z1, z2, z3, z4] := .cons _ _ (.cons _ _ (.cons _ _ (.cons _ _ .nil)))
  have hlen : (([z1, z2, z3, z4] : List Str).map (·.length)).sum + ([z1, z2, z3, z4] : List Str).length * (Str.ofString "").length ≤ 16777216 := by
    have e : (Str.ofString "").length = 0 := rfl
    rw [e]
    simp [abc_len h1, abc_len h2, abc_len h3, abc_len h4]
  exact join_list (N.isList hm) hi hlen fun t' k => h _ t' k ⟨z1, z2, z3, z4, rfl, h1, h2, h3, h4⟩
end
noncomputable def AllNe : List (Addr × Obj) → Addr → Prop
  | [], _ => True
  | p :: r, D => (@Ne Nat p.1 D) ∧ AllNe r D
theorem allNe_of {news : List (Addr × Obj)} {D : Addr} (h : ∀ p ∈ news, p.1 ≠ D) : AllNe news D := by
  induction news with
  | nil => trivial
  | cons p r ih => exact ⟨h p List.mem_cons_self, ih fun q hq => h q (List.mem_cons_of_mem _ hq)⟩
theorem use_same {w : World} {mean : ExcName → Option Value} {mg mb : Str → Option Value} {f : Addr} {dd uu : Nat} {vs : List Value} {l : Addr} {ol : Obj} {news : List (Addr × Obj)} {Out : Value → Prop}
    {dp un : Nat} {gd : Option (List Code)} {cn : Str} {cs : Scope} {a : Addr} {ccd : Value} {cl : List (Str × Addr)} {outer : List Env} {A₀ : Around} {base h₀ : Heap} {L : Addr} {m : Str → Option Value} {s : Shared} {Q E : Value → Shared → Prop}
    (C : Ct w mean mg mb f dd uu vs [(l, ol)] (fun v new => Out v ∧ new = [(l, ol)]))
    (B : Below A₀ base outer h₀) (F : Fr h₀ L s.heap m) (X : (Mine.hd.heap_39 w.params).In h₀) (N : News h₀ L s.heap news) (T : Top Mine.hd.view_39 (looseW Mine.hd.view_39 [Str.ofString "bisect_right"]) mean mg mb h₀) (hk : cs.kind = .function)
    (hd : dp + dd < recursionLimit) (hu : un + uu < cLine) (hl : (l, ol) ∈ news)
    (k : ∀ r h' tk', Fr h₀ L h' m → News h₀ L h' news → Out r → Q r { s with heap := h', toks := tk' }) :
    wpAny (model PySem.Challenge.rw_wf0008_01.row.prog w) (ktrTop dp un gd cn cs L a ccd cl outer) (call (.ref f) vs) Q E s := by
  classical
  refine use_ct (rest := news.filter fun p => decide (p.1 ≠ l)) C B F X N T hk hd hu (List.forall_mem_cons.mpr ⟨hl, List.forall_mem_nil _⟩) (fun p hp => (List.mem_filter.mp hp).1) (fun p hp => ?_) fun r new h' tk' F' N' _ out => ?_
  · exact List.forall_mem_cons.mpr ⟨of_decide_eq_true (List.mem_filter.mp hp).2, List.forall_mem_nil _⟩
  · obtain ⟨out, rfl⟩ := out
    refine k r h' tk' F' (cb_drop N' fun p hp => ?_) out
    by_cases e : p.1 = l
    · have h1 := (N p hp).1
      have h2 := (N _ hl).1
      rw [e] at h1
      rw [h1] at h2
      obtain ⟨b, o⟩ := p
      dsimp only at e h2
      cases h2
      subst e
      exact List.mem_append_left _ List.mem_cons_self
    · exact List.mem_append_right _ (List.mem_filter.mpr ⟨hp, decide_eq_true e⟩)
end
section
local macro_rules | `(tactic| walk_at "own reset") => `(tactic| skip)
theorem resetP21 : True := by (k_with_none; w_top off; first | (walk1; done) | trivial)
local macro_rules | `(tactic| walk_at "own reset") => `(tactic| skip)
theorem resetP22 : True := by (w_top off; first | (walk1; done) | trivial)
end
section
local macro_rules | `(tactic| walk_at "ct_enter") => `(tactic| (refine' enterF ?k1 ?k2 ?k3 ?k4 ?k5 ?kA ?kF ?kK ?k6 ?k7 ?k8 ?k9 ?kB ?kR ?_ ?c5 ?c2 ?c3 ?c4; (case kA => exact rfl); (case kF => exact rfl); (case kK => assumption); (case k1 => k_asm); (case k2 => k_asm); (case k3 => k_asm); (case k4 => k_asm); (case k5 => k_asm); (case k6 => k_is); (case k7 => k_is); (case k8 => ktr_room); (case k9 => first | exact BindsTo.of_eq rfl | (refine' kp_binds ?kx ?ke; (case kx => k_in); (case ke => exact fun _ => rfl))); (case c5 => decide); (case kB => exact locs rfl); (case c2 => exact rfl); (case c3 => exact rfl); (case c4 => exact rfl); (case kR => assumption); k_whole; intro g' L' h' F' N' B' X' T'; (try dsimp only); (try k_fold)))
local macro_rules | `(tactic| walk_at "ct_leave") => `(tactic| (change LeaveG _ _ _ _ _; refine' LeaveG.intro ?F ?N ?P; (case P => walk_at "ct_out"); (case F => k_asm); (case N => exact cb_drop (by assumption) (by kcj_all))))
local macro_rules | `(tactic| walk_at "ct_use") => `(tactic| ((case B => k_asm); (case F => k_asm); (case X => k_asm); (case N => k_asm); (case T => k_asm); (case hk => first | exact rfl | assumption); (case hd => ktr_room); (case hu => ktr_units)))
local macro_rules | `(tactic| walk_at "mem_any") => `(tactic| first | assumption | exact List.mem_cons_self | (refine List.mem_cons_of_mem _ ?_; walk_at "mem_any"))
theorem hiO_len : ∀ (k n : Nat), n < 64 ^ k → (hiO n).length ≤ k
  | 0, n, h => by
    have : n = 0 := by simpa using h
    subst this; rw [hiO_zero]; exact Nat.le_refl _
  | k + 1, n, h => by
    by_cases h0 : n = 0
    · subst h0; rw [hiO_zero]; exact Nat.zero_le _
    · rw [hiO_pos h0, List.length_append]
      have h1 : n / 64 < 64 ^ k := Nat.div_lt_of_lt_mul (by rw [Nat.pow_succ] at h; omega)
      have := hiO_len k (n / 64) h1
      simp only [List.length_cons, List.length_nil]
      omega
theorem octs_len (k n : Nat) (h : n < 64 ^ (k + 1)) : (octs n).length ≤ k + 1 := by
  unfold octs
  rw [List.length_append]
  have h1 : n / 64 < 64 ^ k := Nat.div_lt_of_lt_mul (by rw [Nat.pow_succ] at h; omega)
  have := hiO_len k (n / 64) h1
  simp only [List.length_cons, List.length_nil]
  omega
theorem gfold_bound : ∀ (l : List Int) (g M : Int), (∀ c ∈ l, 0 ≤ c ∧ c < 10 ^ 6) → 0 ≤ g → g < M → 1000 ≤ M → 0 ≤ l.foldl (fun g c => g * 1000 + c) g ∧ l.foldl (fun g c => g * 1000 + c) g < M * 2000 ^ l.length
  | [], g, M, _, h0, h1, _ => by simp; exact ⟨h0, h1⟩
  | c :: l, g, M, hc, h0, h1, h2 => by
    obtain ⟨a, b⟩ := hc c List.mem_cons_self
    have := gfold_bound l (g * 1000 + c) (M * 2000) (fun x hx => hc x (List.mem_cons_of_mem _ hx)) (by omega) (by omega) (by omega)
    rw [List.foldl_cons, List.length_cons, Int.pow_succ, Int.mul_comm (2000 ^ l.length) 2000, ← Int.mul_assoc]
    exact this
theorem gfold_ok {l : List Int} (hc : ∀ c ∈ l, 0 ≤ c ∧ c < 10 ^ 6) (hl : l.length ≤ 12) : 0 ≤ gfold l ∧ (octs (gfold l).toNat).length ≤ 26 := by
  have h := gfold_bound l 29007 29008 hc (by decide) (by decide) (by decide)
  have h0 : 0 ≤ gfold l := h.1
  refine ⟨h0, octs_len 25 _ ?_⟩
  have h2 : gfold l < 29008 * 2000 ^ l.length := h.2
  have h3 : (2000 : Int) ^ l.length ≤ 2000 ^ 12 := by
    have : (2000 : Nat) ^ l.length ≤ 2000 ^ 12 := Nat.pow_le_pow_right (by decide) hl
    exact_mod_cast this
  have h4 : (29008 : Int) * 2000 ^ 12 < 64 ^ 26 := by decide
  have h5 : gfold l < 64 ^ 26 := by
    have : (29008 : Int) * 2000 ^ l.length ≤ 29008 * 2000 ^ 12 := Int.mul_le_mul_of_nonneg_left h3 (by decide)
    omega
  have h6 : ((gfold l).toNat : Int) < ((64 ^ 26 : Nat) : Int) := by rw [Int.toNat_of_nonneg h0]; exact_mod_cast h5
  exact_mod_cast h6
noncomputable def fct : Nat → Int
  | 0 => 1
  | n + 1 => (n + 1 : Nat) * fct n
theorem step_mod (N K r : Int) (h : 0 < N) : (N * K + r).fmod N = r.fmod N := by
  rw [Int.add_comm, Int.add_mul_fmod_self_left]
theorem step_div (N K r : Int) (h : 0 < N) : (N * K + r).fdiv N = K + r.fdiv N := by
  rw [Int.add_comm, Int.add_mul_fdiv_left _ _ (by omega), Int.add_comm]
theorem readF_lin : ∀ (n : Nat) (a b c P q r : Int) (run : Str), 0 ≤ a → 0 ≤ b → 0 ≤ c → a + b + c = n → 0 ≤ r →
    readF n a b c (fct n * (P * q) + r) run = ((readF n a b c r run).1, fct a.toNat * fct b.toNat * fct c.toNat * (P * q) + (readF n a b c r run).2)
  | 0, a, b, c, P, q, r, run, ha, hb, hc, hn, hr => by
    have h1 : a = 0 := by omega
    have h2 : b = 0 := by omega
    have h3 : c = 0 := by omega
    subst h1 h2 h3
    simp [readF, fct]
  | n + 1, a, b, c, P, q, r, run, ha, hb, hc, hn, hr => by
    have hN : 0 < a + b + c := by omega
    have e : fct (n + 1) * (P * q) + r = (a + b + c) * (fct n * (P * q)) + r := by
      rw [fct, hn, Int.mul_assoc]
    have em := step_mod (a + b + c) (fct n * (P * q)) r hN
    have ed := step_div (a + b + c) (fct n * (P * q)) r hN
    have hm0 := Int.fmod_nonneg_of_pos r hN
    have hm1 := Int.fmod_lt_of_pos r hN
    have hq0 := Int.fdiv_nonneg hr (Int.le_of_lt hN)
    rw [e, readF, readF, em, ed]
    have split : ∀ (x : Int), 0 < x → ∀ (D : Int), (fct n * (P * q) + D) * x = fct n * ((P * x) * q) + D * x := fun x _ D => by
      rw [Int.add_mul]
      congr 1
      rw [Int.mul_assoc, Int.mul_assoc, Int.mul_assoc, Int.mul_comm q x]
    have fsucc : ∀ x : Int, 0 < x → fct x.toNat = x * fct (x + -1).toNat := fun x hx => by
      obtain ⟨k, hk⟩ : ∃ k : Nat, x = (k : Int) + 1 := ⟨(x - 1).toNat, by omega⟩
      subst hk
      have e1 : ((k : Int) + 1).toNat = k + 1 := by omega
      have e2 : ((k : Int) + 1 + -1).toNat = k := by omega
      rw [e1, e2, fct]
      push_cast
      rfl
    by_cases c1 : r.fmod (a + b + c) < a
    · simp only [if_pos c1]
      have hxa : 0 < a := by omega
      have h1 := readF_lin n (a + -1) b c (P * a) q (r.fdiv (a + b + c) * a + r.fmod (a + b + c) - 0) (run ++ Str.ofString "a") (by omega) hb hc (by omega) (by have := Int.mul_nonneg hq0 ha; omega)
      have e3 : (fct n * (P * q) + r.fdiv (a + b + c)) * a + r.fmod (a + b + c) - 0 = fct n * (P * a * q) + (r.fdiv (a + b + c) * a + r.fmod (a + b + c) - 0) := by rw [split a hxa]; omega
      rw [e3, h1, fsucc a hxa]
      congr 2
      ac_rfl
    · simp only [if_neg c1]
      by_cases c2 : r.fmod (a + b + c) < a + b
      · simp only [if_pos c2]
        have hxb : 0 < b := by omega
        have h1 := readF_lin n a (b + -1) c (P * b) q (r.fdiv (a + b + c) * b + r.fmod (a + b + c) - a) (run ++ Str.ofString "b") ha (by omega) hc (by omega) (by have := Int.mul_nonneg hq0 hb; omega)
        have e3 : (fct n * (P * q) + r.fdiv (a + b + c)) * b + r.fmod (a + b + c) - a = fct n * (P * b * q) + (r.fdiv (a + b + c) * b + r.fmod (a + b + c) - a) := by rw [split b hxb]; omega
        rw [e3, h1, fsucc b hxb]
        congr 2
        ac_rfl
      · simp only [if_neg c2]
        have hxc : 0 < c := by omega
        have h1 := readF_lin n a b (c + -1) (P * c) q (r.fdiv (a + b + c) * c + r.fmod (a + b + c) - (a + b)) (run ++ Str.ofString "c") ha hb (by omega) (by omega) (by have := Int.mul_nonneg hq0 hc; omega)
        have e3 : (fct n * (P * q) + r.fdiv (a + b + c)) * c + r.fmod (a + b + c) - (a + b) = fct n * (P * c * q) + (r.fdiv (a + b + c) * c + r.fmod (a + b + c) - (a + b)) := by rw [split c hxc]; omega
        rw [e3, h1, fsucc c hxc]
        congr 2
        ac_rfl
end
section
local macro_rules | `(tactic| walk_at "own reset") => `(tactic| skip)
theorem resetP31 : True := by (k_with_none; w_top off; first | (walk1; done) | trivial)
local macro_rules | `(tactic| walk_at "own reset") => `(tactic| skip)
theorem resetP32 : True := by (w_top off; first | (walk1; done) | trivial)
end
section
local macro_rules | `(tactic| walk_at "ct_enter") => `(tactic| (refine' enterF ?k1 ?k2 ?k3 ?k4 ?k5 ?kA ?kF ?kK ?k6 ?k7 ?k8 ?k9 ?kB ?kR ?_ ?c5 ?c2 ?c3 ?c4; (case kA => exact rfl); (case kF => exact rfl); (case kK => assumption); (case k1 => k_asm); (case k2 => k_asm); (case k3 => k_asm); (case k4 => k_asm); (case k5 => k_asm); (case k6 => k_is); (case k7 => k_is); (case k8 => ktr_room); (case k9 => first | exact BindsTo.of_eq rfl | (refine' kp_binds ?kx ?ke; (case kx => k_in); (case ke => exact fun _ => rfl))); (case c5 => decide); (case kB => exact locs rfl); (case c2 => exact rfl); (case c3 => exact rfl); (case c4 => exact rfl); (case kR => assumption); k_whole; intro g' L' h' F' N' B' X' T'; (try dsimp only); (try k_fold)))
local macro_rules | `(tactic| walk_at "ct_leave") => `(tactic| (change LeaveG _ _ _ _ _; refine' LeaveG.intro ?F ?N ?P; (case P => walk_at "ct_out"); (case F => k_asm); (case N => exact cb_drop (by assumption) (by kcj_all))))
local macro_rules | `(tactic| walk_at "ct_use") => `(tactic| ((case B => k_asm); (case F => k_asm); (case X => k_asm); (case N => k_asm); (case T => k_asm); (case hk => first | exact rfl | assumption); (case hd => ktr_room); (case hu => ktr_units)))
local macro_rules | `(tactic| walk_at "mem_any") => `(tactic| first | assumption | exact List.mem_cons_self | (refine List.mem_cons_of_mem _ ?_; walk_at "mem_any"))
noncomputable abbrev cnt (S n : Str) : Int := Txt.count S n
noncomputable def shareOf (S : Str) : Nat := 24 / (ordN S 4).length
noncomputable def okS (S : Str) : Bool :=
  let ca := cnt S (Str.ofString "a")
  let cb := cnt S (Str.ofString "b")
  let cc := cnt S (Str.ofString "c")
  let Rs := seenRs ca cb cc 24
  decide (ca + cb + cc = 4) && decide (fct ca.toNat * fct cb.toNat * fct cc.toNat = (shareOf S : Int)) && decide (shareOf S ≤ 24) && decide (0 < (ordN S 4).length) && (ordN S 4).all fun o => decide (pickR Rs o = rangeKs 0 (shareOf S))
noncomputable def ctOf (a b c : Int) (n : Str) : Int := if n = Str.ofString "a" then a else if n = Str.ofString "b" then b else c
noncomputable def ordC (a b c : Int) : Nat → List Str
  | 0 => [Str.ofString ""]
  | k + 1 => (ordC a b c k).flatMap fun o => (abc.filter fun n => decide (Txt.count o n < ctOf a b c n)).map fun n => o ++ n
theorem ctOf_abc (S : Str) : ∀ n ∈ abc, ctOf (cnt S (Str.ofString "a")) (cnt S (Str.ofString "b")) (cnt S (Str.ofString "c")) n = Txt.count S n := fun n hn => by
  unfold ctOf
  rcases List.mem_cons.mp hn with rfl | hn
  · rw [if_pos rfl]
  · rcases List.mem_cons.mp hn with rfl | hn
    · rw [if_neg str_ba, if_pos rfl]
    · rw [List.mem_singleton.mp hn, if_neg str_ca, if_neg str_cb]
theorem ordN_C (S : Str) : ∀ k, ordN S k = ordC (cnt S (Str.ofString "a")) (cnt S (Str.ofString "b")) (cnt S (Str.ofString "c")) k
  | 0 => rfl
  | k + 1 => by
    rw [ordN, ordC, ordN_C S k]
    have hf : (fun o => ordOne S o abc) = fun o => (abc.filter fun n => decide (Txt.count o n < ctOf (cnt S (Str.ofString "a")) (cnt S (Str.ofString "b")) (cnt S (Str.ofString "c")) n)).map fun n => o ++ n := by
      funext o
      unfold ordOne
      rw [List.filter_congr fun n hn => by rw [← ctOf_abc S n hn]]
    unfold ordStep
    rw [hf]
noncomputable def okC (t : Int × Int × Int) : Bool :=
  let os := ordC t.1 t.2.1 t.2.2 4
  let Rs := seenRs t.1 t.2.1 t.2.2 24
  decide (t.1 + t.2.1 + t.2.2 = 4) && decide (fct t.1.toNat * fct t.2.1.toNat * fct t.2.2.toNat = ((24 / os.length : Nat) : Int)) && decide (24 / os.length ≤ 24) && decide (0 < os.length) && os.all fun o => decide (pickR Rs o = rangeKs 0 (24 / os.length))
noncomputable def fours : List (Int × Int × Int) := [(4, 0, 0), (0, 4, 0), (0, 0, 4), (3, 1, 0), (3, 0, 1), (1, 3, 0), (0, 3, 1), (1, 0, 3), (0, 1, 3), (2, 2, 0), (2, 0, 2), (0, 2, 2), (2, 1, 1), (1, 2, 1), (1, 1, 2)]
theorem fours_ok : ∀ t ∈ fours, okC t = true :=
  List.forall_mem_cons.mpr ⟨by decide +kernel, List.forall_mem_cons.mpr ⟨by decide +kernel, List.forall_mem_cons.mpr ⟨by decide +kernel, List.forall_mem_cons.mpr ⟨by decide +kernel, List.forall_mem_cons.mpr ⟨by decide +kernel, List.forall_mem_cons.mpr ⟨by decide +kernel, List.forall_mem_cons.mpr ⟨by decide +kernel, List.forall_mem_cons.mpr ⟨by decide +kernel, List.forall_mem_cons.mpr ⟨by decide +kernel, List.forall_mem_cons.mpr ⟨by decide +kernel, List.forall_mem_cons.mpr ⟨by decide +kernel, List.forall_mem_cons.mpr ⟨by decide +kernel, List.forall_mem_cons.mpr ⟨by decide +kernel, List.forall_mem_cons.mpr ⟨by decide +kernel, List.forall_mem_cons.mpr ⟨by decide +kernel, List.forall_mem_nil _⟩⟩⟩⟩⟩⟩⟩⟩⟩⟩⟩⟩⟩⟩⟩
noncomputable abbrev cnts (S : Str) : Int × Int × Int := (cnt S (Str.ofString "a"), cnt S (Str.ofString "b"), cnt S (Str.ofString "c"))
theorem words_in : (abc.all fun z1 => abc.all fun z2 => abc.all fun z3 => abc.all fun z4 => decide (cnts (Txt.join (Str.ofString "") [z1, z2, z3, z4]) ∈ fours)) = true := by decide +kernel
theorem four_ok {S : Str} (h : Four S) : okS S = true := by
  obtain ⟨z1, z2, z3, z4, e, h1, h2, h3, h4⟩ := h
  have hm := of_decide_eq_true (List.all_eq_true.mp (List.all_eq_true.mp (List.all_eq_true.mp (List.all_eq_true.mp words_in z1 h1) z2 h2) z3 h3) z4 h4)
  rw [← e] at hm
  have ok := fours_ok _ hm
  unfold okS shareOf
  rw [ordN_C]
  exact ok
theorem cnt_nonneg (S n : Str) : 0 ≤ cnt S n := by unfold cnt Txt.count; exact Int.natCast_nonneg _
structure LawOk (S : Str) : Prop where
  sum : cnt S (Str.ofString "a") + cnt S (Str.ofString "b") + cnt S (Str.ofString "c") = 4
  share : fct (cnt S (Str.ofString "a")).toNat * fct (cnt S (Str.ofString "b")).toNat * fct (cnt S (Str.ofString "c")).toNat = (shareOf S : Int)
  small : SmallN (shareOf S)
  pos : 0 < (ordN S 4).length
  pick : ∀ o ∈ ordN S 4, pickR (seenRs (cnt S (Str.ofString "a")) (cnt S (Str.ofString "b")) (cnt S (Str.ofString "c")) 24) o = rangeKs 0 (shareOf S)
theorem lawOk {S : Str} (h : Four S) : LawOk S := by
  have h := four_ok h
  unfold okS at h
  simp only [Bool.and_eq_true, decide_eq_true_eq, List.all_eq_true] at h
  exact ⟨h.1.1.1.1, h.1.1.1.2, h.1.1.2, h.1.2, h.2⟩
theorem law_great {S : Str} (h : Four S) {x : Int} (hx : 0 ≤ x) :
    readR (cnt S (Str.ofString "a")) (cnt S (Str.ofString "b")) (cnt S (Str.ofString "c")) x =
      ((readR (cnt S (Str.ofString "a")) (cnt S (Str.ofString "b")) (cnt S (Str.ofString "c")) (x.fmod 24)).1, x.fdiv 24 * (shareOf S : Int) + (readR (cnt S (Str.ofString "a")) (cnt S (Str.ofString "b")) (cnt S (Str.ofString "c")) (x.fmod 24)).2) := by
  have k := lawOk h
  have e4 : (cnt S (Str.ofString "a") + cnt S (Str.ofString "b") + cnt S (Str.ofString "c")).toNat = 4 := by rw [k.sum]; rfl
  have hr : 0 ≤ x.fmod 24 := Int.fmod_nonneg_of_pos _ (by decide)
  have hx' : x = fct 4 * (1 * x.fdiv 24) + x.fmod 24 := by
    have := Int.mul_fdiv_add_fmod x 24
    have e : fct 4 = 24 := by decide
    rw [e, Int.one_mul]
    exact this.symm
  have := readF_lin 4 (cnt S (Str.ofString "a")) (cnt S (Str.ofString "b")) (cnt S (Str.ofString "c")) 1 (x.fdiv 24) (x.fmod 24) (Str.ofString "") (cnt_nonneg _ _) (cnt_nonneg _ _) (cnt_nonneg _ _) (by rw [k.sum]; rfl) hr
  unfold readR
  rw [e4]
  conv => lhs; rw [hx']
  rw [this, k.share, Int.one_mul, Int.mul_comm]
end
section
local macro_rules | `(tactic| walk_at "own reset") => `(tactic| skip)
theorem resetM41 : True := by (k_with_none; w_top off; first | (walk1; done) | trivial)
local macro_rules | `(tactic| walk_at "own reset") => `(tactic| skip)
theorem resetM42 : True := by (w_top off; first | (walk1; done) | trivial)
end
section
local macro_rules | `(tactic| walk_at "ct_enter") => `(tactic| (refine' enterF ?k1 ?k2 ?k3 ?k4 ?k5 ?kA ?kF ?kK ?k6 ?k7 ?k8 ?k9 ?kB ?kR ?_ ?c5 ?c2 ?c3 ?c4; (case kA => exact rfl); (case kF => exact rfl); (case kK => assumption); (case k1 => k_asm); (case k2 => k_asm); (case k3 => k_asm); (case k4 => k_asm); (case k5 => k_asm); (case k6 => k_is); (case k7 => k_is); (case k8 => ktr_room); (case k9 => first | exact BindsTo.of_eq rfl | (refine' kp_binds ?kx ?ke; (case kx => k_in); (case ke => exact fun _ => rfl))); (case c5 => decide); (case kB => exact locs rfl); (case c2 => exact rfl); (case c3 => exact rfl); (case c4 => exact rfl); (case kR => assumption); k_whole; intro g' L' h' F' N' B' X' T'; (try dsimp only); (try k_fold)))
local macro_rules | `(tactic| walk_at "ct_leave") => `(tactic| (change LeaveG _ _ _ _ _; refine' LeaveG.intro ?F ?N ?P; (case P => walk_at "ct_out"); (case F => k_asm); (case N => exact cb_drop (by assumption) (by kcj_all))))
local macro_rules | `(tactic| walk_at "ct_use") => `(tactic| ((case B => k_asm); (case F => k_asm); (case X => k_asm); (case N => k_asm); (case T => k_asm); (case hk => first | exact rfl | assumption); (case hd => ktr_room); (case hu => ktr_units)))
local macro_rules | `(tactic| walk_at "mem_any") => `(tactic| first | assumption | exact List.mem_cons_self | (refine List.mem_cons_of_mem _ ?_; walk_at "mem_any"))
theorem strOk_app {a b : Str} (ha : PyData.strOk a = true) (hb : PyData.strOk b = true) : PyData.strOk (a ++ b) = true := by
  unfold PyData.strOk at *
  rw [Str.cps_append, Array.all_append, ha, hb]
  rfl
theorem readF_ok : ∀ (n : Nat) (a b c x : Int) (r : Str), PyData.strOk r = true → PyData.strOk (readF n a b c x r).1 = true
  | 0, _, _, _, _, _, h => h
  | n + 1, a, b, c, x, r, h => by
    rw [readF]
    split
    · exact readF_ok n _ _ _ _ _ (strOk_app h (by decide +kernel))
    · split
      · exact readF_ok n _ _ _ _ _ (strOk_app h (by decide +kernel))
      · exact readF_ok n _ _ _ _ _ (strOk_app h (by decide +kernel))
theorem readR_ok (a b c x : Int) : PyData.strOk (readR a b c x).1 = true := readF_ok _ _ _ _ _ _ (by decide +kernel)
section
variable {prog : Program} {w : World} {A : Around} {E : Value → Shared → Prop} {s : Shared} {g : Heap} {L b : Addr} {x y : Value} {news : List (Addr × Obj)} {value slice : Expr} {u : Tok} {Q : Value → Shared → Prop}
theorem item_tup0 (N : News g L s.heap news) (hm : (b, tup2 x y) ∈ news) (h : Q x s) (hs : subscripted slice false (.ref b) (.int 0 u) = operate [.ref b, .int 0 u] (getItem (.ref b) (.int 0 u))) :
    wpAny (model prog w) A (subscriptTail value slice (.ref b) (.int 0 u)) Q E s :=
  item_tupleT (l := [x, y]) (j := 0) ⟨_, N.get hm, rfl, _, rfl⟩ (by decide) (by decide) rfl rfl h hs
theorem item_tup1 (N : News g L s.heap news) (hm : (b, tup2 x y) ∈ news) (h : Q y s) (hs : subscripted slice false (.ref b) (.int 1 u) = operate [.ref b, .int 1 u] (getItem (.ref b) (.int 1 u))) :
    wpAny (model prog w) A (subscriptTail value slice (.ref b) (.int 1 u)) Q E s :=
  item_tupleT (l := [x, y]) (j := 1) ⟨_, N.get hm, rfl, _, rfl⟩ (by decide) (by decide) rfl rfl h hs
theorem tup_same {D D' : Addr} {r : Str} {x : Int} {t1 t2 u1 u2 : Tok} (ok : PyData.strOk r = true) (N : News g L s.heap ((D', tup2 (.str r u1) (.int x u2)) :: (D, tup2 (.str r t1) (.int x t2)) :: news)) (hu : A.units + 64 < cLine) (h : Q (.bool true) s) :
    wpAny (model prog w) A (compareOp .Eq (.ref D) (.ref D')) Q E s := by
  refine eq_dataH (reads_tuple_at (News.get N (List.mem_cons_of_mem _ List.mem_cons_self)) rfl rfl (.cons (Reads.str _ _) (.cons (Reads.int _ _) .nil))) (reads_tuple_at (News.get N List.mem_cons_self) rfl rfl (.cons (Reads.str _ _) (.cons (Reads.int _ _) .nil))) ?_ ?_ hu ?_
  · simp [SeqAt.shaped, PyData.canLay0, PyData.canLayAll0, PyData.depth, PyData.depthAll, ok]
  · simp [SeqAt.shaped, PyData.canLay0, PyData.canLayAll0, PyData.depth, PyData.depthAll, ok]
  · simpa [PyData.eqv, PyData.eqvAll] using h
theorem mul_small {a : Int} {sh : Nat} {t u : Tok} (h24 : SmallN sh) (h : Q (.int (a * (sh : Int)) s.toks) { s with toks := s.toks + 1 }) : wpAny (model prog w) A (binaryOp .Mult (.int a t) (.int (sh : Int) u)) Q E s :=
  PyProof.Rows.mul_int h (PySem.IntMulOk.of_right (PySem.intBits_le_64 (by unfold SmallN at h24; omega) (by unfold SmallN at h24; omega)))
end
section
variable {w : World} {mean : ExcName → Option Value} {mg mb : Str → Option Value} {E : Value → Shared → Prop} {s : Shared} {g : Heap} {L a : Addr} {ccd : Value} {c1 c2 c3 c4 c5 : Addr} {m : Str → Option Value} {dp un : Nat} {gd : Option (List Code)} {more : List (Str × Const)} {outer : List Env} {A₀ : Around} {base : Heap}
local macro_rules | `(tactic| walk_at "eval Name") => `(tactic| (k_here; k_dflt (refine' nameX_L ?F ?hv ?_ ?a1 ?a2 ?a3; (case F => k_asm); (case hv => assumption); (case a1 => exact rfl); (case a2 => exact rfl); (case a3 => decide))))
local macro_rules | `(tactic| walk_at "subscriptTail") => `(tactic| (k_here; (with_reducible show wpAny _ _ (subscriptTail _ _ (Value.ref _) (Value.int (Int.fmod _ _) _)) _ _ _); k_dflt (refine' item_listL ?hl ?h0 ?hf ?hx ?_; (case hl => exact News.isList (by k_asm) (by walk_at "mem_any")); (case h0 => assumption); (case hf => omega); (case hx => assumption))))
local macro_rules | `(tactic| walk_at "subscriptTail") => `(tactic| (k_here; (with_reducible show wpAny _ _ (subscriptTail _ _ (Value.ref _) (Value.int 0 _)) _ _ _); k_dflt (refine' item_tup0 ?N ?hm ?_ ?hs; (case N => k_asm); (case hm => walk_at "mem_any"); (case hs => rfl))))
local macro_rules | `(tactic| walk_at "subscriptTail") => `(tactic| (k_here; (with_reducible show wpAny _ _ (subscriptTail _ _ (Value.ref _) (Value.int 1 _)) _ _ _); k_dflt (refine' item_tup1 ?N ?hm ?_ ?hs; (case N => k_asm); (case hm => walk_at "mem_any"); (case hs => rfl))))
local macro_rules | `(tactic| walk_at "binaryOp Mult int int") => `(tactic| (k_here; k_dflt (refine' mul_small ?h24 ?_; (case h24 => assumption))))
theorem ret_stmt {sl b : Addr} {sv : List Value} {R : Str × Int} {gr : Int} {sh : Nat} {tg tsh t1 t2 u1 u2 : Tok} {nw : List (Addr × Obj)} {Q : Flow → Shared → Prop}
    (F : Fr g L s.heap m) (X : (Mine.hd.heap_39 w.params).In g) (T : Top Mine.hd.view_39 (looseW Mine.hd.view_39 [Str.ofString "bisect_right"]) mean mg mb g) (hu : un + 100 < cLine) (N : News g L s.heap nw)
    (hrun : m (Str.ofString "run") = some (.str R.1 t1)) (hkept : m (Str.ofString "kept") = some (.int (gr.fdiv 24 * (sh : Int) + R.2) t2))
    (hsl : m (Str.ofString "seen") = some (.ref sl)) (hm : (sl, LCg.lst sv) ∈ nw) (hg : m (Str.ofString "great") = some (.int gr tg)) (hsh : m (Str.ofString "share") = some (.int (sh : Int) tsh)) (h24 : SmallN sh)
    (ok : PyData.strOk R.1 = true) (h0 : 0 ≤ gr.fmod 24) (h1 : gr.fmod 24 < 24) (hk : sv[(gr.fmod 24).toNat]? = some (.ref b)) (hb : (b, tupR R u1 u2) ∈ nw)
    (h : ∀ h' tk' m' news', Fr g L h' m' → News g L h' news' → Q (.ret (.bool true)) { s with heap := h', toks := tk' }) :
    wpAny (model PySem.Challenge.rw_wf0008_01.row.prog w) (lawTop dp un gd more L a ccd c1 c2 c3 c4 c5 outer) (execs [retStmt] (lawEnv more L a ccd c1 c2 c3 c4 c5)) Q E s := by
  k_steps
  rename News g L _ (_ :: _ :: nw) => N2
  refine tup_same ok N2 (by units_room) ?_
  exact h _ _ _ _ (by k_asm) N2
end
end
section
local macro_rules | `(tactic| walk_at "own reset") => `(tactic| skip)
theorem resetM3t1 : True := by (k_with_none; w_top off; first | (walk1; done) | trivial)
local macro_rules | `(tactic| walk_at "own reset") => `(tactic| skip)
theorem resetM3t2 : True := by (w_top off; first | (walk1; done) | trivial)
end
section
local macro_rules | `(tactic| walk_at "ct_enter") => `(tactic| (refine' enterF ?k1 ?k2 ?k3 ?k4 ?k5 ?kA ?kF ?kK ?k6 ?k7 ?k8 ?k9 ?kB ?kR ?_ ?c5 ?c2 ?c3 ?c4; (case kA => exact rfl); (case kF => exact rfl); (case kK => assumption); (case k1 => k_asm); (case k2 => k_asm); (case k3 => k_asm); (case k4 => k_asm); (case k5 => k_asm); (case k6 => k_is); (case k7 => k_is); (case k8 => ktr_room); (case k9 => first | exact BindsTo.of_eq rfl | (refine' kp_binds ?kx ?ke; (case kx => k_in); (case ke => exact fun _ => rfl))); (case c5 => decide); (case kB => exact locs rfl); (case c2 => exact rfl); (case c3 => exact rfl); (case c4 => exact rfl); (case kR => assumption); k_whole; intro g' L' h' F' N' B' X' T'; (try dsimp only); (try k_fold)))
local macro_rules | `(tactic| walk_at "ct_leave") => `(tactic| (change LeaveG _ _ _ _ _; refine' LeaveG.intro ?F ?N ?P; (case P => walk_at "ct_out"); (case F => k_asm); (case N => exact cb_drop (by assumption) (by kcj_all))))
local macro_rules | `(tactic| walk_at "ct_use") => `(tactic| ((case B => k_asm); (case F => k_asm); (case X => k_asm); (case N => k_asm); (case T => k_asm); (case hk => first | exact rfl | assumption); (case hd => ktr_room); (case hu => ktr_units)))
local macro_rules | `(tactic| walk_at "mem_any") => `(tactic| first | assumption | exact List.mem_cons_self | (refine List.mem_cons_of_mem _ ?_; walk_at "mem_any"))
section
variable {prog : Program} {w : World} {A : Around} {E : Value → Shared → Prop} {s : Shared} {h₀ : Heap} {L l : Addr} {m : Str → Option Value} {news : List (Addr × Obj)}
theorem iter_src {vs : List Value} {k : Nat} {Q : Value → Shared → Prop} (F : Fr h₀ L s.heap m) (N : News h₀ L s.heap news) (hm : (l, listOf vs.toArray k) ∈ news)
    (h : ∀ I h', Fr h₀ L h' m → News h₀ L h' ((I, litI l 0) :: news) → (∀ p ∈ news, @LT.lt Nat _ p.1 I) → Q (.ref I) { s with heap := h' }) : wpAny (model prog w) A (call (.builtin "iter") [.ref l]) Q E s := by
  refine call_function_entry (by decide +kernel) (by decide +kernel) kdk_entry_iter (kdk_args_iter _) ?_
  unfold Builtin.«iter»
  refine wpAny_bind (m := someArgs "iter" 1 2 _) (wpAny_of_eq (a := [Value.ref l]) (by first | rfl | kernel_rfl!) ?_)
  show wpAny _ _ (pyIter (.ref l) >>= _) _ _ _
  refine wpAny_bind (pyIter_src F N hm fun I h' F' N' lt => ?_)
  exact wpAny_pure ⟨_, rfl, h I h' F' N' lt⟩
end
theorem use_tape1 {w : World} {mean : ExcName → Option Value} {mg mb : Str → Option Value} {f : Addr} {dd uu : Nat} {vs : List Value} {I l : Addr} {oI oI' ol : Obj} {q : Addr × Obj} {r : List (Addr × Obj)} {Out : Value → Prop}
    {dp un : Nat} {gd : Option (List Code)} {cn : Str} {cs : Scope} {a : Addr} {ccd : Value} {cl : List (Str × Addr)} {outer : List Env} {A₀ : Around} {base h₀ : Heap} {L : Addr} {m : Str → Option Value} {s : Shared} {Q E : Value → Shared → Prop}
    (C : Ct w mean mg mb f dd uu vs [(I, oI), (l, ol)] (fun v new => Out v ∧ new = [(I, oI'), (l, ol)]))
    (B : Below A₀ base outer h₀) (F : Fr h₀ L s.heap m) (X : (Mine.hd.heap_39 w.params).In h₀) (N : News h₀ L s.heap (q :: (I, oI) :: r)) (T : Top Mine.hd.view_39 (looseW Mine.hd.view_39 [Str.ofString "bisect_right"]) mean mg mb h₀) (hk : cs.kind = .function)
    (hd : dp + dd < recursionLimit) (hu : un + uu < cLine) (hl : (l, ol) ∈ r) (hq : q.1 ≠ I) (hdis : ∀ p ∈ r, p.1 ≠ I)
    (k : ∀ v h' tk', Fr h₀ L h' m → News h₀ L h' ((I, oI') :: q :: r) → Out v → Q v { s with heap := h', toks := tk' }) :
    wpAny (model PySem.Challenge.rw_wf0008_01.row.prog w) (ktrTop dp un gd cn cs L a ccd cl outer) (call (.ref f) vs) Q E s :=
  use_tape (rest := q :: r) C B F X N T hk hd hu (List.mem_cons_of_mem _ List.mem_cons_self) (List.mem_cons_of_mem _ (List.mem_cons_of_mem _ hl)) (fun p hp => by
    rcases List.mem_cons.mp hp with rfl | hp
    · exact List.mem_cons_self
    · exact List.mem_cons_of_mem _ (List.mem_cons_of_mem _ hp)) (List.forall_mem_cons.mpr ⟨hq, hdis⟩) k
theorem news_swap {g h : Heap} {L : Addr} {p q : Addr × Obj} {r : List (Addr × Obj)} (N : News g L h (q :: p :: r)) : News g L h (p :: q :: r) := cb_drop N fun x hx => by
  rcases List.mem_cons.mp hx with rfl | hx
  · exact List.mem_cons_of_mem _ List.mem_cons_self
  · rcases List.mem_cons.mp hx with rfl | hx
    · exact List.mem_cons_self
    · exact List.mem_cons_of_mem _ (List.mem_cons_of_mem _ hx)
section
local macro_rules | `(tactic| walk_at "all_any") => `(tactic| first | assumption | exact List.forall_mem_nil _ | (refine' List.forall_mem_cons.mpr ⟨?a, ?b⟩; (case a => k_ne); (case b => walk_at "all_any")))
local macro_rules | `(tactic| walk_at "updF_any") => `(tactic| first | (refine' UpdF.head ?a; (case a => walk_at "all_any")) | (refine' UpdF.tail ?a ?b; (case a => k_ne); (case b => walk_at "updF_any")))
local macro_rules | `(tactic| walk_at "storeName") => `(tactic| (k_here; k_dflt (refine' storeX_C ?F ?N ?c ?U ?d ?_ ?a ?b; (case a => rfl); (case b => rfl); (case F => k_asm); (case N => k_asm); (case c => rfl); (case U => walk_at "updF_any"); (case d => k_asm); k_whole); intro h' o' F' N' d'; (try dsimp only at N')))
local macro_rules | `(tactic| walk_at "eval ListComp") => `(tactic| (k_here; k_dflt (refine' tape_comp ?B ?F ?X ?T ?hd ?hu ?N ?htl ?hm ?hI ?hpos ?hlen ?hall ?_; (case B => k_asm); (case F => k_asm); (case X => k_asm); (case T => k_asm); (case N => k_asm); (case hd => omega); (case hu => omega); (case htl => with_unfolding_all rfl); (case hm => walk_at "mem_any"); (case hI => assumption); (case hpos => assumption); (case hlen => assumption); (case hall => assumption)); k_whole; intro D h' tk' vs F' N' off hI'))
local macro_rules | `(tactic| walk_at "eval DictComp") => `(tactic| (k_here; k_dflt (refine' prof_comp ?B ?F ?X ?T ?hd ?hu ?N ?offI ?hlt ?hc3 ?ho3 ?hltI ?hI ?htns ?h0 ?hR ?_; (case B => k_asm); (case F => k_asm); (case X => k_asm); (case T => k_asm); (case N => k_asm); (case hd => omega); (case hu => omega); (case ho3 => assumption); (case hI => assumption); (case hlt => walk_at "mem_any"); (case hc3 => walk_at "mem_any"); (case offI => walk_at "all_any"); (case hltI => (try dsimp only); omega); (case htns => assumption); (case h0 => assumption); (case hR => assumption)); k_whole; intro P oP h' tk' F' N' off hne hT'; (have q3 := allNe_of off); (simp only [AllNe] at q3); clear off))
local macro_rules | `(tactic| walk_at "call ref") => `(tactic| (k_here; (with_reducible show wpAny _ _ (call (Value.ref 30) [Value.ref _]) _ _ _); k_dflt (refine' use_tape1 (ct_tape ?hIl ?hJ ?hx ?h0 ?hR) ?B ?F ?X ?N ?T ?hk ?hd ?hu ?hl ?hq ?hdis ?_; (case N => k_asm); (case B => k_asm); (case F => k_asm); (case X => k_asm); (case T => k_asm); (case hk => exact rfl); (case hd => omega); (case hu => omega); (case hJ => assumption); (case hx => assumption); (case h0 => assumption); (case hR => assumption); (case hl => walk_at "mem_any"); (case hIl => (try dsimp only); omega); (case hq => k_ne); (case hdis => walk_at "all_any")); k_whole; intro r h' tk' F' N' out; obtain ⟨t', e1⟩ := out; subst e1; (try dsimp only)))
local macro_rules | `(tactic| walk_at "call ref") => `(tactic| (k_here; (with_reducible show wpAny _ _ (call (Value.ref 65) [Value.ref _, Value.int _ _]) _ _ _); k_dflt (refine' use_read ?hT ?ha ?hb ?hc ?h4 ?hx ?B ?F ?X ?N ?TT ?hk ?hd ?hu ?hm ?_; (case N => k_asm); (case B => k_asm); (case F => k_asm); (case X => k_asm); (case TT => k_asm); (case hk => exact rfl); (case hd => omega); (case hu => omega); (case hT => assumption); (case ha => exact cnt_nonneg _ _); (case hb => exact cnt_nonneg _ _); (case hc => exact cnt_nonneg _ _); (case h4 => assumption); (case hx => assumption); (case hm => walk_at "mem_any")); k_whole; intro D t1 t2 h' tk' F' N' off; (have q4 := allNe_of off); (simp only [AllNe] at q4); clear off; (try dsimp only)))
local macro_rules | `(tactic| walk_at "exec Assign cons ListComp") => `(tactic| (k_here; k_dflt (refine' seen_stmt ?B ?F ?X ?T ?hd ?hu ?N ?hnI ?hlt ?hc3 ?ho3 ?hc4 ?ho4 ?hP ?hT ?ha ?hb ?hc ?h4 ?hltI ?hI ?hx ?hR ?_; (case N => exact news_swap (by k_asm)); (case B => k_asm); (case F => k_asm); (case X => k_asm); (case T => k_asm); (case hd => omega); (case hu => omega); (case hc3 => walk_at "mem_any"); (case ho3 => assumption); (case hc4 => walk_at "mem_any"); (case ho4 => assumption); (case hI => assumption); (case hx => assumption); (case hR => assumption); (case hlt => walk_at "mem_any"); (case hP => walk_at "mem_any"); (case hT => assumption); (case ha => exact cnt_nonneg _ _); (case hb => exact cnt_nonneg _ _); (case hc => exact cnt_nonneg _ _); (case h4 => assumption); (case hltI => (try dsimp only); omega); (case hnI => walk_at "all_any")); k_whole; intro D ys tups h' tk' F' N' off offt hID hSeen))
variable {w : World} {mean : ExcName → Option Value} {mg mb : Str → Option Value} {E : Value → Shared → Prop} {s : Shared} {g : Heap} {L a : Addr} {ccd : Value} {c1 c2 c3 c4 c5 : Addr} {m₀ : Str → Option Value} {dp un : Nat} {gd : Option (List Code)} {more : List (Str × Const)} {outer : List Env} {A₀ : Around} {base : Heap}
theorem law_tail {tl : Addr} {tv : List Value} {kt : Nat} {gr : Int} {tg tS : Tok} {S : Str} {o2 o3 o4 o5 : Obj} {rest : List (Addr × Obj)} {x3 x4 x5 : Option Value} {tns : List Int} {Q : Flow → Shared → Prop}
    (hS : Four S) (hgr : 0 ≤ gr) (htns : tns = cnt S (Str.ofString "a") :: cnt S (Str.ofString "b") :: cnt S (Str.ofString "c") :: gr :: rangeKs 0 24) (hpos : ∀ x ∈ tns, 0 ≤ x) (hlen : ∀ x ∈ tns, (octs x.toNat).length ≤ 1000) (hall : (tfm tns).length ≤ 50000)
    (B : Below A₀ base outer g) (F : Fr g L s.heap (fun y => if y = Str.ofString "told" then some (.ref tl) else if y = Str.ofString "great" then some (.int gr tg) else m₀ y)) (X : (Mine.hd.heap_39 w.params).In g) (T : Top Mine.hd.view_39 (looseW Mine.hd.view_39 [Str.ofString "bisect_right"]) mean mg mb g) (hd : dp + 100 < recursionLimit) (hu : un + 100 < cLine)
    (N : News g L s.heap ((c5, o5) :: (c4, o4) :: (c3, o3) :: (c2, o2) :: rest)) (hI : IntsAre tv tns) (hm : (tl, listOf tv.toArray kt) ∈ rest)
    (d2 : o2.data = .cell (some (.str S tS))) (d3 : o3.data = .cell x3) (d4 : o4.data = .cell x4) (d5 : o5.data = .cell x5)
    (n54 : @Ne Nat c5 c4) (n53 : @Ne Nat c5 c3) (n52 : @Ne Nat c5 c2) (n43 : @Ne Nat c4 c3) (n42 : @Ne Nat c4 c2) (n32 : @Ne Nat c3 c2) (r5 : ∀ p ∈ rest, p.1 ≠ c5) (r4 : ∀ p ∈ rest, p.1 ≠ c4) (r3 : ∀ p ∈ rest, p.1 ≠ c3) (r2 : ∀ p ∈ rest, p.1 ≠ c2)
    (hE : PassesOwn (model PySem.Challenge.rw_wf0008_01.row.prog w) (lawTop dp un gd more L a ccd c1 c2 c3 c4 c5 outer) (lawEnv more L a ccd c1 c2 c3 c4 c5) E)
    (h : ∀ h' tk' m' news', Fr g L h' m' → News g L h' news' → Q (.ret (.bool true)) { s with heap := h', toks := tk' }) :
    wpAny (model PySem.Challenge.rw_wf0008_01.row.prog w) (lawTop dp un gd more L a ccd c1 c2 c3 c4 c5 outer) (execs tailStmts (lawEnv more L a ccd c1 c2 c3 c4 c5)) Q E s := by
  dsimp only [tailStmts, Got.it]
  have kk := lawOk hS
  have hx3 : tns[3]? = some gr := by rw [htns]; rfl
  have hlgr : (octs gr.toNat).length ≤ 1000 := hlen gr (by rw [htns]; simp)
  have hxs : ∀ j : Nat, j < 24 → tns[3 + 1 + j]? = some (j : Int) := fun j hj => by
    rw [htns, Nat.add_comm (3 + 1) j]
    show (rangeKs 0 24)[j]? = _
    unfold rangeKs
    rw [List.getElem?_map, List.getElem?_range hj]
    simp
  have h4 : cnt S (Str.ofString "a") + cnt S (Str.ofString "b") + cnt S (Str.ofString "c") ≤ 4 := Int.le_of_eq kk.sum
  k_steps
  rename News g L _ ((_, LCg.lst _) :: (c5, o5) :: (c4, o4) :: (c3, o3) :: (c2, o2) :: rest) => N1
  rename ∀ p ∈ (c5, o5) :: (c4, o4) :: (c3, o3) :: (c2, o2) :: rest, _ => off1
  rename IntsAre _ (tfm tns) => hI1
  rename Addr => lt
  refine iter_src (by k_asm) N1 List.mem_cons_self fun It h2 F2 N2 lt2 => ?_
  try dsimp only
  k_whole
  have q1 := allNe_of off1
  simp only [AllNe] at q1
  have q2 := allLt_of lt2
  simp only [AllLt] at q2
  have rI : ∀ p ∈ rest, p.1 ≠ It := fun p hp => Nat.ne_of_lt (lt2 p (by simp [hp]))
  clear off1
  repeat ((fail_if_success (with_reducible show wpAny _ _ (exec (Stmt.Assign [Expr.Name (Str.ofString "seen") _] _ _) _) _ _ _)); first | (k_unfold; (try dsimp only)) | walk1 | (dsimp only; walk1))
  k_here
  refine' seen_stmt ?B ?F ?X ?T ?hd ?hu ?N ?hnI ?hlt ?hc3 ?ho3 ?hc4 ?ho4 ?hP ?hT ?ha ?hb ?hc ?h4 ?hltI ?hI ?hx ?hR ?_
  case N => exact news_swap (by k_asm)
  case B => k_asm
  case F => k_asm
  case X => k_asm
  case T => k_asm
  case hd => omega
  case hu => omega
  case hc3 => walk_at "mem_any"
  case ho3 => assumption
  case hc4 => walk_at "mem_any"
  case ho4 => assumption
  case hI => assumption
  case hx => assumption
  case hR => assumption
  case hlt => walk_at "mem_any"
  case hP => walk_at "mem_any"
  case hT => assumption
  case ha => exact cnt_nonneg _ _
  case hb => exact cnt_nonneg _ _
  case hc => exact cnt_nonneg _ _
  case h4 => assumption
  case hltI => (try dsimp only); omega
  case hnI => walk_at "all_any"
  intro DS ys tups h8 tk8 F8 N8 off8 offt8 hID8 hSeen8
  have N9 : News g L h8 ((c5, o5) :: (c2, o2) :: (DS, LCg.lst ys) :: tups) := cb_drop N8 fun p hp => by
    rcases List.mem_cons.mp hp with rfl | hp
    · simp
    · rcases List.mem_cons.mp hp with rfl | hp
      · simp
      · rcases List.mem_cons.mp hp with rfl | hp
        · exact List.mem_cons_self
        · exact List.mem_cons_of_mem _ (List.mem_cons_of_mem _ (List.mem_append_left _ hp))
  have n5 : ∀ p ∈ tups, p.1 ≠ c5 := fun p hp e => (offt8 p hp).2.2 (c5, o5) (by simp) e.symm
  have n2 : ∀ p ∈ tups, p.1 ≠ c2 := fun p hp e => (offt8 p hp).2.2 (c2, o2) (by simp) e.symm
  have nS5 : DS ≠ c5 := fun e => off8 (c5, o5) (by simp) e.symm
  have nS2 : DS ≠ c2 := fun e => off8 (c2, o2) (by simp) e.symm
  clear N8 off8 offt8
  k_whole
  repeat ((fail_if_success (with_reducible show wpAny _ _ (call (Value.ref 70) _) _ _ _)); first | (k_unfold; (try dsimp only)) | walk1 | (dsimp only; walk1))
  refine use_ct (rest := (c5, o5) :: (c2, o2) :: (DS, LCg.lst ys) :: tups) ct_orders B (by k_asm) X N9 T rfl (by omega) (by omega) (fun p hp => nomatch hp) (fun p hp => hp) (fun p hp q hq => nomatch hq) fun r new h9 tk9 F9 N10 off9 out => ?_
  obtain ⟨DO, vo, rfl, rfl, hO⟩ := out
  have offO : ∀ p ∈ (c5, o5) :: (c2, o2) :: (DS, LCg.lst ys) :: tups, p.1 ≠ DO := off9 _ List.mem_cons_self
  clear off9
  k_whole
  try dsimp only
  repeat ((fail_if_success (with_reducible show wpAny _ _ (call (Value.builtin "len") _) _ _ _)); first | (k_unfold; (try dsimp only)) | walk1 | (dsimp only; walk1))
  have hlo : vo.toArray.size = (ordN S 4).length := by rw [List.size_toArray]; exact hO.length
  have hpos4 : (((ordN S 4).length : Nat) : Int) ≠ 0 := by have := kk.pos; omega
  have hle4 := ordN_len S 4
  have hshare : (24 : Int).fdiv ((ordN S 4).length : Nat) = (shareOf S : Int) := by
    rw [Int.fdiv_eq_ediv_of_nonneg _ (Int.natCast_nonneg _)]
    unfold shareOf
    exact (Int.natCast_ediv 24 _).symm
  rename News g L _ ((DO, LCg.lst vo) :: _) => N11
  refine PyProof.Rows.len_list (items := vo.toArray) (N11.isList List.mem_cons_self) (by rw [hlo]; have : (3 : Nat) ^ 4 = 81 := rfl; omega) ?_
  rw [hlo]
  k_whole
  try dsimp only
  repeat ((fail_if_success (with_reducible show wpAny _ _ (exec (Stmt.For _ _ _ _ _) _) _ _ _)); first | (k_unfold; (try dsimp only)) | walk1 | (dsimp only; walk1))
  rename News g L _ ([(DO, LCg.lst vo)] ++ _) => N12
  rename Fr g L _ _ => F12
  have N13 : News g L _ ((c5, o5) :: (DO, LCg.lst vo) :: (c2, o2) :: (DS, LCg.lst ys) :: tups) := cb_drop N12 fun p hp => by
    rcases List.mem_cons.mp hp with rfl | hp
    · simp
    · rcases List.mem_cons.mp hp with rfl | hp
      · simp
      · exact List.mem_cons_of_mem _ (List.mem_cons_of_mem _ hp)
  have hRl : (seenRs (cnt S (Str.ofString "a")) (cnt S (Str.ofString "b")) (cnt S (Str.ofString "c")) 24).length = 24 := by unfold seenRs; simp
  refine for_stmt (tups := tups) (os := ordN S 4) (sh := shareOf S) F12 X T hu N13 ?_ rfl (by simp) (fun p hp => by simp [hp]) hSeen8 (by rw [hRl]; decide) d5 rfl (by simp) hO (by rw [← hshare]; rfl) kk.small kk.pick (fun h13 tk13 o13 F13 N14 => ?_) hE
  · refine List.forall_mem_cons.mpr ⟨fun e => offO (c5, o5) (by simp) e.symm, List.forall_mem_cons.mpr ⟨fun e => n52 e.symm, List.forall_mem_cons.mpr ⟨nS5, n5⟩⟩⟩
  have h0 : 0 ≤ gr.fmod 24 := Int.fmod_nonneg_of_pos _ (by decide)
  have h1 : gr.fmod 24 < 24 := Int.fmod_lt_of_pos _ (by decide)
  have hlt : (gr.fmod 24).toNat < ys.length := by rw [hSeen8.length, hRl]; omega
  obtain ⟨R, hR, b, u1, u2, eb, hb⟩ := Paired.get hSeen8 (List.getElem?_eq_getElem hlt)
  have eR : R = readR (cnt S (Str.ofString "a")) (cnt S (Str.ofString "b")) (cnt S (Str.ofString "c")) (gr.fmod 24) := by
    unfold seenRs at hR
    rw [List.getElem?_map, List.getElem?_range (by omega)] at hR
    have e := Option.some.inj hR
    dsimp only at e
    rw [Int.toNat_of_nonneg h0] at e
    exact e.symm
  have hgt := law_great hS hgr
  rw [← eR] at hgt
  refine ret_stmt (R := R) (b := b) (sv := ys) (u1 := u1) (u2 := u2) (sh := shareOf S) F13 X T hu N14 (by rw [show R.1 = _ from (congrArg Prod.fst hgt).symm]; rfl) (by rw [show gr.fdiv 24 * (shareOf S : Int) + R.2 = _ from (congrArg Prod.snd hgt).symm]; rfl) rfl (by simp) rfl (by rw [← hshare]; rfl) kk.small (by rw [eR]; exact readR_ok _ _ _ _) h0 h1 (by rw [List.getElem?_eq_getElem hlt, eb]) (by simp [hb]) h
end
end
section
local macro_rules | `(tactic| walk_at "own reset") => `(tactic| skip)
theorem resetM51 : True := by (k_with_none; w_top off; first | (walk1; done) | trivial)
local macro_rules | `(tactic| walk_at "own reset") => `(tactic| skip)
theorem resetM52 : True := by (w_top off; first | (walk1; done) | trivial)
end
section
local macro_rules | `(tactic| walk_at "ct_enter") => `(tactic| (refine' enterF ?k1 ?k2 ?k3 ?k4 ?k5 ?kA ?kF ?kK ?k6 ?k7 ?k8 ?k9 ?kB ?kR ?_ ?c5 ?c2 ?c3 ?c4; (case kA => exact rfl); (case kF => exact rfl); (case kK => assumption); (case k1 => k_asm); (case k2 => k_asm); (case k3 => k_asm); (case k4 => k_asm); (case k5 => k_asm); (case k6 => k_is); (case k7 => k_is); (case k8 => ktr_room); (case k9 => first | exact BindsTo.of_eq rfl | (refine' kp_binds ?kx ?ke; (case kx => k_in); (case ke => exact fun _ => rfl))); (case c5 => decide); (case kB => exact locs rfl); (case c2 => exact rfl); (case c3 => exact rfl); (case c4 => exact rfl); (case kR => assumption); k_whole; intro g' L' h' F' N' B' X' T'; (try dsimp only); (try k_fold)))
local macro_rules | `(tactic| walk_at "ct_leave") => `(tactic| (change LeaveG _ _ _ _ _; refine' LeaveG.intro ?F ?N ?P; (case P => walk_at "ct_out"); (case F => k_asm); (case N => exact cb_drop (by assumption) (by kcj_all))))
local macro_rules | `(tactic| walk_at "ct_use") => `(tactic| ((case B => k_asm); (case F => k_asm); (case X => k_asm); (case N => k_asm); (case T => k_asm); (case hk => first | exact rfl | assumption); (case hd => ktr_room); (case hu => ktr_units)))
local macro_rules | `(tactic| walk_at "mem_any") => `(tactic| first | assumption | exact List.mem_cons_self | (refine List.mem_cons_of_mem _ ?_; walk_at "mem_any"))
theorem tfm_len : ∀ (ns : List Int), (∀ x ∈ ns, (octs x.toNat).length ≤ 26) → (tfm ns).length ≤ 26 * ns.length
  | [], _ => by simp [tfm]
  | x :: r, h => by
    have h1 := tfm_len r fun y hy => h y (List.mem_cons_of_mem _ hy)
    have h2 := h x List.mem_cons_self
    unfold tfm at h1 ⊢
    rw [List.flatMap_cons, List.length_append, List.length_cons]
    omega
theorem octs_small {x : Int} (h0 : 0 ≤ x) (h : x < 64) : (octs x.toNat).length ≤ 26 := by
  have := octs_len 0 x.toNat (by omega)
  omega
noncomputable abbrev lawTns (S : Str) (gr : Int) : List Int := cnt S (Str.ofString "a") :: cnt S (Str.ofString "b") :: cnt S (Str.ofString "c") :: gr :: rangeKs 0 24
theorem lawTns_ok {S : Str} {gr : Int} (hS : Four S) (hgr : 0 ≤ gr) (hg : (octs gr.toNat).length ≤ 26) : ∀ x ∈ lawTns S gr, 0 ≤ x ∧ (octs x.toNat).length ≤ 26 := by
  have k := (lawOk hS).sum
  have ha := cnt_nonneg S (Str.ofString "a")
  have hb := cnt_nonneg S (Str.ofString "b")
  have hc := cnt_nonneg S (Str.ofString "c")
  refine List.forall_mem_cons.mpr ⟨⟨ha, octs_small ha (by omega)⟩, List.forall_mem_cons.mpr ⟨⟨hb, octs_small hb (by omega)⟩, List.forall_mem_cons.mpr ⟨⟨hc, octs_small hc (by omega)⟩, List.forall_mem_cons.mpr ⟨⟨hgr, hg⟩, fun x hx => ?_⟩⟩⟩⟩
  unfold rangeKs at hx
  obtain ⟨j, hj, rfl⟩ := List.mem_map.mp hx
  have := List.mem_range.mp hj
  have h1 : (j : Int) < 24 := by omega
  exact ⟨by omega, octs_small (by omega) (by omega)⟩
section
variable {w : World} {mean : ExcName → Option Value} {mg mb : Str → Option Value} {E : Value → Shared → Prop} {s : Shared} {g : Heap} {L a : Addr} {ccd : Value} {c1 c2 c3 c4 c5 : Addr} {m₀ : Str → Option Value} {dp un : Nat} {gd : Option (List Code)} {more : List (Str × Const)} {outer : List Env} {A₀ : Around} {base : Heap}
theorem law_end {tl : Addr} {tv : List Value} {kt : Nat} {l : List Int} {tg tS : Tok} {S : Str} {o2 o3 o4 o5 : Obj} {news : List (Addr × Obj)} {x3 x4 x5 : Option Value} {Q : Flow → Shared → Prop}
    (hS : Four S) (hl : l.length ≤ 12) (hc : ∀ c ∈ l, 0 ≤ c ∧ c < 10 ^ 6)
    (B : Below A₀ base outer g) (F : Fr g L s.heap (fun y => if y = Str.ofString "told" then some (.ref tl) else if y = Str.ofString "great" then some (.int (gfold l) tg) else m₀ y)) (X : (Mine.hd.heap_39 w.params).In g) (T : Top Mine.hd.view_39 (looseW Mine.hd.view_39 [Str.ofString "bisect_right"]) mean mg mb g) (hd : dp + 100 < recursionLimit) (hu : un + 100 < cLine)
    (N : News g L s.heap ((tl, listOf tv.toArray kt) :: news)) (hI : IntsAre tv (abc.map (fun n => (Txt.count S n : Int)) ++ [gfold l] ++ rangeKs 0 24))
    (m5 : (c5, o5) ∈ news) (m4 : (c4, o4) ∈ news) (m3 : (c3, o3) ∈ news) (m2 : (c2, o2) ∈ news)
    (d2 : o2.data = .cell (some (.str S tS))) (d3 : o3.data = .cell x3) (d4 : o4.data = .cell x4) (d5 : o5.data = .cell x5)
    (n54 : @Ne Nat c5 c4) (n53 : @Ne Nat c5 c3) (n52 : @Ne Nat c5 c2) (n43 : @Ne Nat c4 c3) (n42 : @Ne Nat c4 c2) (n32 : @Ne Nat c3 c2) (r5 : @Ne Nat tl c5) (r4 : @Ne Nat tl c4) (r3 : @Ne Nat tl c3) (r2 : @Ne Nat tl c2)
    (hE : PassesOwn (model PySem.Challenge.rw_wf0008_01.row.prog w) (lawTop dp un gd more L a ccd c1 c2 c3 c4 c5 outer) (lawEnv more L a ccd c1 c2 c3 c4 c5) E)
    (h : ∀ h' tk' m' news', Fr g L h' m' → News g L h' news' → Q (.ret (.bool true)) { s with heap := h', toks := tk' }) :
    wpAny (model PySem.Challenge.rw_wf0008_01.row.prog w) (lawTop dp un gd more L a ccd c1 c2 c3 c4 c5 outer) (execs tailStmts (lawEnv more L a ccd c1 c2 c3 c4 c5)) Q E s := by
  obtain ⟨hgr, hg⟩ := gfold_ok hc hl
  have ok := lawTns_ok hS hgr hg
  have one : ∀ {c : Addr}, @Ne Nat tl c → ∀ p ∈ [(tl, (listOf tv.toArray kt : Obj))], p.1 ≠ c := fun hne p hp e => by
    rw [List.mem_singleton.mp hp] at e
    exact hne e
  refine law_tail (tns := lawTns S (gfold l)) (rest := [(tl, listOf tv.toArray kt)]) hS hgr rfl (fun x hx => (ok x hx).1) (fun x hx => Nat.le_trans (ok x hx).2 (by decide)) ?_ B F X T hd hu
    (cb_drop N (List.forall_mem_cons.mpr ⟨List.mem_cons_of_mem _ m5, List.forall_mem_cons.mpr ⟨List.mem_cons_of_mem _ m4, List.forall_mem_cons.mpr ⟨List.mem_cons_of_mem _ m3, List.forall_mem_cons.mpr ⟨List.mem_cons_of_mem _ m2, List.forall_mem_cons.mpr ⟨List.mem_cons_self, List.forall_mem_nil _⟩⟩⟩⟩⟩))
    hI List.mem_cons_self d2 d3 d4 d5 n54 n53 n52 n43 n42 n32 (one r5) (one r4) (one r3) (one r2) hE h
  refine Nat.le_trans (tfm_len _ fun x hx => (ok x hx).2) ?_
  have : (lawTns S (gfold l)).length = 28 := by
    show (_ :: _ :: _ :: _ :: rangeKs 0 24).length = 28
    unfold rangeKs
    simp
  rw [this]
  decide
end
theorem drawn_ok (ns : List Int) : ∀ c ∈ List.map (fun k' : Int => k'.fmod (10 ^ Int.toNat 6)) (List.take 12 ns), 0 ≤ c ∧ c < 10 ^ 6 := fun c hc => by
  obtain ⟨x, _, rfl⟩ := List.mem_map.mp hc
  have e : (10 : Int) ^ Int.toNat 6 = 1000000 := by decide
  rw [e]
  exact ⟨Int.fmod_nonneg_of_pos _ (by decide), Int.fmod_lt_of_pos _ (by decide)⟩
theorem drawn_len (ns : List Int) : (List.map (fun k' : Int => k'.fmod (10 ^ Int.toNat 6)) (List.take 12 ns)).length ≤ 12 := by
  rw [List.length_map, List.length_take]; exact Nat.min_le_left _ _
end
section
local macro_rules | `(tactic| walk_at "own reset") => `(tactic| skip)
theorem resetM21 : True := by (k_with_none; w_top off; first | (walk1; done) | trivial)
local macro_rules | `(tactic| walk_at "own reset") => `(tactic| skip)
theorem resetM22 : True := by (w_top off; first | (walk1; done) | trivial)
end
section
local macro_rules | `(tactic| walk_at "ct_enter") => `(tactic| (refine' enterF ?k1 ?k2 ?k3 ?k4 ?k5 ?kA ?kF ?kK ?k6 ?k7 ?k8 ?k9 ?kB ?kR ?_ ?c5 ?c2 ?c3 ?c4; (case kA => exact rfl); (case kF => exact rfl); (case kK => assumption); (case k1 => k_asm); (case k2 => k_asm); (case k3 => k_asm); (case k4 => k_asm); (case k5 => k_asm); (case k6 => k_is); (case k7 => k_is); (case k8 => ktr_room); (case k9 => first | exact BindsTo.of_eq rfl | (refine' kp_binds ?kx ?ke; (case kx => k_in); (case ke => exact fun _ => rfl))); (case c5 => decide); (case kB => exact locs rfl); (case c2 => exact rfl); (case c3 => exact rfl); (case c4 => exact rfl); (case kR => assumption); k_whole; intro g' L' h' F' N' B' X' T'; (try dsimp only); (try k_fold)))
local macro_rules | `(tactic| walk_at "ct_leave") => `(tactic| (change LeaveG _ _ _ _ _; refine' LeaveG.intro ?F ?N ?P; (case P => walk_at "ct_out"); (case F => k_asm); (case N => exact cb_drop (by assumption) (by kcj_all))))
local macro_rules | `(tactic| walk_at "ct_use") => `(tactic| ((case B => k_asm); (case F => k_asm); (case X => k_asm); (case N => k_asm); (case T => k_asm); (case hk => first | exact rfl | assumption); (case hd => ktr_room); (case hu => ktr_units)))
local macro_rules | `(tactic| walk_at "mem_any") => `(tactic| first | assumption | exact List.mem_cons_self | (refine List.mem_cons_of_mem _ ?_; walk_at "mem_any"))
local macro_rules | `(tactic| walk_at "call type:list") => `(tactic| (k_here; (with_reducible show wpAny _ _ (call (Value.type "list") [Value.ref _]) _ _ _); k_dflt (refine' kll_range (n := 24) ?hh ?F ?N ?hr ?hs ?hz ?hn ?_; (case hh => exact rfl); (case F => k_asm); (case N => k_asm); (case hr => assumption); (case hs => decide); (case hz => decide); (case hn => decide)); k_whole; intro D us c h' tk' F' N' l1 hI'; (try k_lt l1)))
local macro_rules | `(tactic| walk_at "eval ListComp") => `(tactic| (k_here; k_dflt (refine' told_comp ?F ?X ?T ?N ?hc2 ?ho2 ?_; (case F => k_asm); (case X => k_asm); (case T => k_asm); (case N => k_asm); (case ho2 => assumption); (case hc2 => walk_at "mem_any")); k_whole; intro D h' tk' vs F' N' off hI'; replace off := allNe_of off; (try simp only [AllNe, and_true] at off)))
local macro_rules | `(tactic| walk_at "call builtin:str.join") => `(tactic| (k_here; k_dflt (refine' join4 ?N ?hm ?h1 ?h2 ?h3 ?h4 ?_; (case N => k_asm); (case hm => walk_at "mem_any"); (case h1 => assumption); (case h2 => assumption); (case h3 => assumption); (case h4 => assumption)); k_whole; intro S tS k hS4))
local macro_rules | `(tactic| walk_at "call ref") => `(tactic| (k_here; (with_reducible show wpAny _ _ (call (Value.ref 58) [Value.ref _]) _ _ _); k_dflt (refine' use_same (ct_great ?hI ?hn) ?B ?F ?X ?N ?T ?hk ?hd ?hu ?hl ?_; (case hI => assumption); (case hn => (rw [List.length_map, List.length_take]; exact Nat.le_trans (Nat.min_le_left _ _) (by decide))); walk_at "ct_use"; (case hl => walk_at "mem_any")); k_whole; intro r h' tk' F' N' out; obtain ⟨t', e1⟩ := out; subst e1))
local macro_rules | `(tactic| walk_at "eval ListComp") => `(tactic| (k_here; k_dflt (refine' calls_comp ?B ?F ?X ?T ?N ?hd ?hu ?hm ?hc1 ?ho1 ?hI ?hl ?_; (case B => k_asm); (case F => k_asm); (case X => k_asm); (case T => k_asm); (case N => k_asm); (case hd => ktr_room); (case hu => ktr_units); (case ho1 => assumption); (case hI => assumption); (case hm => walk_at "mem_any"); (case hc1 => walk_at "mem_any"); (case hl => (rw [List.length_map, List.length_take]; exact Nat.min_le_left _ _))); k_whole; intro D h' tk' vs zs F' N' off hP hlen hz; (obtain ⟨z1, z2, z3, z4, t1, t2, t3, t4, e1, hz1, hz2, hz3, hz4⟩ := four_of hP hlen hz); subst e1; clear hP hlen hz; replace off := allNe_of off; (try simp only [AllNe, and_true] at off)))
theorem holds : PySem.Challenge.rw_wf0008_01.Holds := Mine.hd (by
  w_strict (
  k_go0
  (all_goals try k_fold)
  repeat ((fail_if_success (with_reducible show wpAny _ _ (execs (Stmt.Assign [Expr.Name (Str.ofString "tape") _] _ _ :: _) _) _ _ _)); first | (k_unfold; (try dsimp only)) | walk1 | (dsimp only; walk1))
  k_here
  k_dflt (refine' law_end ?hS ?hl ?hc ?B ?F ?X ?T ?hd ?hu ?N ?hI ?m5 ?m4 ?m3 ?m2 ?d2 ?d3 ?d4 ?d5 ?n54 ?n53 ?n52 ?n43 ?n42 ?n32 ?r5 ?r4 ?r3 ?r2 ?hE ?hQ)
  case B => k_asm
  case F => k_asm
  case X => k_asm
  case T => k_asm
  case N => k_asm
  case hS => assumption
  case hI => assumption
  case hl => exact drawn_len _
  case hc => exact drawn_ok _
  case hd => ktr_room
  case hu => ktr_units
  case m5 => walk_at "mem_any"
  case m4 => walk_at "mem_any"
  case m3 => walk_at "mem_any"
  case m2 => walk_at "mem_any"
  case d2 => assumption
  case d3 => assumption
  case d4 => assumption
  case d5 => assumption
  case n54 => omega
  case n53 => omega
  case n52 => omega
  case n43 => omega
  case n42 => omega
  case n32 => omega
  case r5 => omega
  case r4 => omega
  case r3 => omega
  case r2 => omega
  case hE => walk_at "PassesOwn"
  intro h9 tk9 m9 news9 F9 N9
  k_steps))
end
end Mine
theorem PySem.Challenge.cw_wf0008_01_holds : PySem.Challenge.rw_wf0008_01.Holds := by
  exact Mine.holds
