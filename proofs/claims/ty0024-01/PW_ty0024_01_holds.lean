import PyProof.Rows.All
import Wide.All
import OpenK.AllK
import Wide.FinOn
import PySem.Challenge.RW_ty0024_01
open PySem PySem.W PySem.Spec PySem.Calls PyProof.Rows
set_option Elab.async false
set_option maxRecDepth 100000
set_option compiler.extract_closed false
namespace Mine
section
theorem both {A B C : Prop} (_ : A) (_ : C) (b : B) : B := b
set_option maxRecDepth 1000000 in
set_option maxHeartbeats 80000000 in
/-- the looks at the law, one small check each -/
theorem ws_said : PySem.Challenge.rw_ty0024_01.wellSaid = true := by
  refine (congrFun PySem.W.Fast.te9446332074065402090 _).trans ?_
  delta PySem.W.Fast.tw9446332074065402090
  repeat' (first | with_reducible refine look_both ?_ ?_ | delta PySem.W.Fast.tw17960256430627541270 | delta PySem.W.Fast.tw2436336058641802641 | delta PySem.W.Fast.tw12908688711261696721)
  all_goals as_aux_lemma => kernel_rfl
set_option maxRecDepth 1000000 in
set_option maxHeartbeats 80000000 in
/-- the head: what is to be shown of the top's run in each world, what is left to walk, and that both are enough. The goals hl and hc stand ahead of k_head, which fills their names -/
noncomputable def hd : (P : World → Prop) ×' (T : Prop) ×' ((∀ w, P w) → T → PySem.Challenge.rw_ty0024_01.Holds) := by
  refine' @PSigma.mk (World → Prop) (fun P => (T : Prop) ×' ((∀ w, P w) → T → PySem.Challenge.rw_ty0024_01.Holds)) ?P (@PSigma.mk Prop (fun T => (∀ w, ?P w) → T → PySem.Challenge.rw_ty0024_01.Holds) ?T ?f)
  case f =>
    intro l c
    refine' holds_law ws_said ?g
    intro said
    refine' both ?hl ?hc ?main
    case main =>
      k_head
      case hw => w_witness2
    case hc => exact c
    case hl => exact l
set_option maxRecDepth 1000000 in
set_option maxHeartbeats 80000000 in
/-- the top's run, where the world's one row says no -/
theorem top_no (w : World) : hd.1 (w.withFollow "special-get-raises" false) := by
  delta hd
  show Option.map _ _ = some _
  unfold openEnds fencedOpening
  delta topFrom
  simp only [PySem.W.Fast.te14364793385576792824, PySem.W.Fast.te14082659384304107361, PySem.W.Fast.te4187177175401517315]
  kernel_rfl
set_option maxRecDepth 1000000 in
set_option maxHeartbeats 80000000 in
/-- the top's run, where the world's one row says yes -/
theorem top_yes (w : World) : hd.1 (w.withFollow "special-get-raises" true) := by
  delta hd
  show Option.map _ _ = some _
  unfold openEnds fencedOpening
  delta topFrom
  simp only [PySem.W.Fast.te14364793385576792824, PySem.W.Fast.te14082659384304107361, PySem.W.Fast.te4187177175401517315]
  kernel_rfl
theorem top_any (w : World) : hd.1 w := byRow2 (P := hd.1) "special-get-raises" top_no top_yes w
end
theorem flush0 : True := by first | (w_top off; k_with_none; walk1; done) | trivial
section
theorem upto {m : Nat} {P : Int → Prop} (h : ∀ k : Fin (m + 1), P (k.val : Int)) {n : Int} (h0 : 0 ≤ n) (h1 : n ≤ m) : P n := by
  have e : ((n.toNat : Nat) : Int) = n := Int.toNat_of_nonneg h0
  have l : n.toNat < m + 1 := by omega
  have := h ⟨n.toNat, l⟩
  rwa [show (((⟨n.toNat, l⟩ : Fin (m + 1)).val : Nat) : Int) = n from e] at this
noncomputable def aT (D : Nat) (l : List Env) : Around := { handled := none, depth := D, frames := some l, guards := none, units := D - 300 }
theorem aT_depth (D : Nat) (l : List Env) : (aT D l).depth = D := rfl
theorem aT_units (D : Nat) (l : List Env) : (aT D l).units = D - 300 := rfl

theorem weak {α : Type} {M : Model} {A A' : Around} {t : Sem α} {Q : α → Shared → Prop} {E : Value → Shared → Prop} {s : Shared} (hh : A'.handled = A.handled) (hd : A'.depth ≤ A.depth)
    (hf : A.frames = A'.frames) (hg : A.guards = none) (hu : A'.units ≤ A.units) (h : wpAny M A t Q E s) : wpAny M A' t Q E s :=
  fun Γ p hΓ => h Γ p ⟨hΓ.1.trans hh, Nat.le_trans hΓ.2.1 hd, fun l e => hΓ.2.2.1 l (hf ▸ e), fun g e => (by rw [hg] at e; cases e), Nat.le_trans hΓ.2.2.2.2 hu⟩

/-- a pure call of the def at f: from every heap where Pre holds it comes back with a value, every old object as it was, and Post -/
noncomputable def Call (w : World) (D : Nat) (f : Addr) (args : List Value) (Pre : Heap → Prop) (Post : Heap → Heap → Value → Prop) : Prop :=
  ∀ (p : Program) (loose : List Str) (mean : ExcName → Option Value) (mg mb : Str → Option Value) (A : Around) (base : Heap) (l : List Env) (s : Shared) (Q E : Value → Shared → Prop),
    A.handled = none → A.depth ≤ D → A.units ≤ D - 300 → Below A base l s.heap → (Mine.hd.heap_1 w.params).In s.heap → Top p loose mean mg mb s.heap → Pre s.heap →
    (∀ v h' tk, s.heap.StaysIn h' → Post s.heap h' v → Q v { s with heap := h', toks := tk }) → wpAny (model PySem.Challenge.rw_ty0024_01.row.toRowW.prog w) A (call (.ref f) args) Q E s

/-- what is left to show at a def's end -/
noncomputable def Done (g : Heap) (s : Shared) (Post : Heap → Heap → Value → Prop) (v : Value) (s' : Shared) : Prop :=
  ∃ h' tk, s' = { s with heap := h', toks := tk } ∧ g.StaysIn h' ∧ Post g h' v
theorem Done.intro {g : Heap} {s : Shared} {Post : Heap → Heap → Value → Prop} {v : Value} {h' : Heap} {tk : Nat} {L : Addr} {m : Str → Option Value} (F : Fr g L h' m) (p : Post g h' v) : Done g s Post v { s with heap := h', toks := tk } :=
  ⟨h', tk, rfl, F.keep, p⟩

/-- what a call hands back, told by a name -/
inductive IsI (n : Int) (g h : Heap) (v : Value) : Prop
  | mk (t : Tok) (e : v = .int n t) : IsI n g h v
inductive IsSt (x : Str) (g h : Heap) (v : Value) : Prop
  | mk (t : Tok) (e : v = .str x t) : IsSt x g h v
inductive IsBy (x : Array UInt8) (g h : Heap) (v : Value) : Prop
  | mk (t : Tok) (e : v = .bytes x t) : IsBy x g h v
inductive IsBl (P : Prop) (g h : Heap) (v : Value) : Prop
  | mk (r : Bool) (e : v = .bool r) (i : r = true ↔ P) : IsBl P g h v
theorem enter {w : World} {D f : Nat} {args : List Value} {Pre : Heap → Prop} {Post : Heap → Heap → Value → Prop}
    {name qual : Str} {params : Arguments} {body : List Stmt} {scope : Scope} {dV kV doc pm cdv ct oc : Value} {an od : Option Addr} {osl : Array (Option Value)} {binds : List (Str × Value)}
    (ho : (Mine.hd.heap_1 w.params).lookup f = some ⟨oc, od, .func (fnOf name qual params body scope dV kV doc pm an cdv ct), osl⟩) (hcd : codeIn (Mine.hd.heap_1 w.params) cdv qual = true)
    (hD : D < recursionLimit)
    (hbind : bindArgs (fnOf name qual params body scope dV kV doc pm an cdv ct) ⟨args, []⟩ = pure binds) (hloc : ∀ y ∈ binds, scope.names.lookup y.1 = some .local)
    (hcell : ∀ x ∈ scope.names, x.2 ≠ .cell)
    (h : ∀ (p : Program) (loose : List Str) (mean : ExcName → Option Value) (mg mb : Str → Option Value) (base : Heap) (l : List Env) (g : Heap) (L : Addr) (h₁ : Heap) (s : Shared) (tk : Nat), g.objs.size ≤ L →
      Fr g L h₁ (fun y => binds.reverse.lookup y) → News g L h₁ [] → Below (aT D l) base l g → (Mine.hd.heap_1 w.params).In g → Top p loose mean mg mb g → Pre g →
      wpAny (model PySem.Challenge.rw_ty0024_01.row.toRowW.prog w) ((aT D l).deeper (envOf qual scope L f cdv)) (execs body (envOf qual scope L f cdv))
        (fun fl s' => Done g s Post (match fl with | .ret v => v | _ => .none) s') (fun _ _ => False) { s with heap := h₁, toks := tk })
    (hco : scope.isCoroutine = false := by rfl) (hgen : scope.isGenerator = false := by rfl) (hk : scope.kind = .function := by rfl) : Call w D f args Pre Post := by
  intro p loose mean mg mb A base l s Q E hh hd hu B X T hp ret
  refine weak (A := aT D l) hh hd (by rw [B.stack]; rfl) rfl hu ?_
  refine wpAny_call ?_
  refine codeAny_call_def (fd := fnOf name qual params body scope dV kV doc pm an cdv ct) (body := body) (binds := binds) hD (X _ _ ho) rfl T.nolimit (codeRec_of X hcd) rfl (BindsTo.of_eq hbind) hcell hloc (fun h₁ hns hk₁ => ?_) hco hgen hk
  refine wpAny_mono (h p loose mean mg mb base l s.heap s.heap.objs.size h₁ s _ (Nat.le_refl _) ⟨hns, hk₁, Nat.le_refl _⟩ News.nil ⟨rfl, B.stays, B.frames⟩ X T hp) (fun fl s' hl => ?_) fun _ _ y => y.elim
  obtain ⟨h', tk, rfl, st, po⟩ := hl
  exact ret _ h' tk st po

theorem enterC {w : World} {D f : Nat} {args : List Value} {Pre : Heap → Prop} {Post : Heap → Heap → Value → Prop}
    {name qual : Str} {params : Arguments} {body : List Stmt} {scope : Scope} {dV kV doc pm cdv ct oc : Value} {an od : Option Addr} {osl : Array (Option Value)} {binds : List (Str × Value)}
    (ho : (Mine.hd.heap_1 w.params).lookup f = some ⟨oc, od, .func (fnOf name qual params body scope dV kV doc pm an cdv ct), osl⟩) (hcd : codeIn (Mine.hd.heap_1 w.params) cdv qual = true)
    (hD : D < recursionLimit)
    (hbind : bindArgs (fnOf name qual params body scope dV kV doc pm an cdv ct) ⟨args, []⟩ = pure binds)
    (hkind : (binds.all fun y => scope.names.lookup y.1 == some .local || scope.names.lookup y.1 == some .cell) = true)
    (hnd : ((cellsFrom 0 scope.names []).map (·.1)).Nodup)
    (h : ∀ (p : Program) (loose : List Str) (mean : ExcName → Option Value) (mg mb : Str → Option Value) (base : Heap) (l : List Env) (g : Heap) (L : Addr) (h₁ : Heap) (s : Shared) (tk : Nat) (cells : List (Addr × Obj)), g.objs.size ≤ L →
      Fr g L h₁ (bindL (envOfC qual scope L f cdv).kindOf binds fun _ => none) → News g L h₁ cells →
      CellsAre (bindC (envOfC qual scope L f cdv).kindOf binds fun _ => none) (cellsFrom (L + 1) scope.names []) cells → Below (aT D l) base l g → (Mine.hd.heap_1 w.params).In g → Top p loose mean mg mb g → Pre g →
      wpAny (model PySem.Challenge.rw_ty0024_01.row.toRowW.prog w) ((aT D l).deeper (envOfC qual scope L f cdv)) (execs body (envOfC qual scope L f cdv))
        (fun fl s' => Done g s Post (match fl with | .ret v => v | _ => .none) s') (fun _ _ => False) { s with heap := h₁, toks := tk })
    (hco : scope.isCoroutine = false := by rfl) (hgen : scope.isGenerator = false := by rfl) (hk : scope.kind = .function := by rfl) : Call w D f args Pre Post := by
  intro p loose mean mg mb A base l s Q E hh hd hu B X T hp ret
  refine weak (A := aT D l) hh hd (by rw [B.stack]; rfl) rfl hu ?_
  refine wpAny_call ?_
  refine codeAny_call_function hD (X _ _ ho) rfl hco hgen rfl (codeRec_of X hcd) ((BindsTo.of_eq hbind) _ _ _ _ ?_)
  refine wpAny_newFunctionEnv_cells hk (kindsX hkind _) fun env' he s' x => ?_
  subst he
  refine ⟨T.nolimit.keeps x.toInCall.keep, codeAny_func ?_⟩
  obtain ⟨h₁, tk, rfl, _⟩ := x.done
  have hk₁ := x.toInCall.keep
  obtain ⟨cells, NC, Y⟩ := Cl.news (h₀ := s.heap) (Nat.le_refl _) fun n c hm => ⟨x.cell n c (lookup_of_mem_nodup (cellsFrom_names scope.names 0 (s.heap.objs.size + 1) [] [] rfl ▸ hnd) hm), x.above n c hm⟩
  refine wpAny_mono (h p loose mean mg mb base l s.heap s.heap.objs.size h₁ s tk cells (Nat.le_refl _) ⟨x.toInCall.ns, hk₁, Nat.le_refl _⟩ NC Y ⟨rfl, B.stays, B.frames⟩ X T hp) (fun fl s' hl => ?_) fun _ _ y => y.elim
  obtain ⟨h', tk, rfl, st, po⟩ := hl
  exact ret _ h' tk st po

theorem Call.use {w : World} {D f : Nat} {args : List Value} {Pre : Heap → Prop} {Post : Heap → Heap → Value → Prop}
    {A₀ A : Around} {base h₀ : Heap} {outer : List Env} {L : Addr} {m : Str → Option Value} {env : Env} {news : List (Addr × Obj)} {p : Program} {loose : List Str} {mean : ExcName → Option Value} {mg mb : Str → Option Value} {s : Shared} {Q E : Value → Shared → Prop}
    (hh : A.handled = none) (hd : A.depth ≤ D) (hu : A.units ≤ D - 300) (hA : A.frames = some (env :: outer)) (hf : env.frame = some L) (hke : env.scope.kind = .function)
    (B : Below A₀ base outer h₀) (F : Fr h₀ L s.heap m) (X : (Mine.hd.heap_1 w.params).In h₀) (N : News h₀ L s.heap news) (T : Top p loose mean mg mb h₀)
    (hp : Pre s.heap) (C : Call w D f args Pre Post)
    (ret : ∀ v h' tk, Fr h₀ L h' m → News h₀ L h' news → s.heap.StaysIn h' → Post s.heap h' v → Q v { s with heap := h', toks := tk }) : wpAny (model PySem.Challenge.rw_ty0024_01.row.toRowW.prog w) A (call (.ref f) args) Q E s := by
  have B' := pushX B F hf hke
  refine C p loose mean mg mb A base (env :: outer) s Q E hh hd hu ⟨hA, B'.stays, B'.frames⟩ (X.keeps F.keep) (T.keeps F.keep) hp fun v h' tk st po => ?_
  exact ret v h' tk (F.after st) (fun p hp => ⟨st _ _ (N p hp).1, (N p hp).2⟩) st po

theorem Call.useI {w : World} {D : Nat} {f : Addr} {args : List Value} {Pre : Heap → Prop} {x : Int}
    {A₀ A : Around} {base h₀ : Heap} {outer : List Env} {L : Addr} {m : Str → Option Value} {env : Env} {news : List (Addr × Obj)} {p : Program} {loose : List Str} {mean : ExcName → Option Value} {mg mb : Str → Option Value} {s : Shared} {Q E : Value → Shared → Prop}
    (hh : A.handled = none) (hd : A.depth ≤ D) (hu : A.units ≤ D - 300) (hA : A.frames = some (env :: outer)) (hf : env.frame = some L) (hke : env.scope.kind = .function)
    (B : Below A₀ base outer h₀) (F : Fr h₀ L s.heap m) (X : (Mine.hd.heap_1 w.params).In h₀) (N : News h₀ L s.heap news) (T : Top p loose mean mg mb h₀)
    (hp : Pre s.heap) (C : Call w D f args Pre (IsI x))
    (ret : ∀ h' tk, Fr h₀ L h' m → News h₀ L h' news → ∀ t, Q (.int x t) { s with heap := h', toks := tk }) : wpAny (model PySem.Challenge.rw_ty0024_01.row.toRowW.prog w) A (call (.ref f) args) Q E s := by
  refine C.use hh hd hu hA hf hke B F X N T hp fun v h' tk F' N' _ po => ?_
  obtain ⟨t, rfl⟩ := po
  exact ret h' tk F' N' t
theorem Call.useSt {w : World} {D : Nat} {f : Addr} {args : List Value} {Pre : Heap → Prop} {x : Str}
    {A₀ A : Around} {base h₀ : Heap} {outer : List Env} {L : Addr} {m : Str → Option Value} {env : Env} {news : List (Addr × Obj)} {p : Program} {loose : List Str} {mean : ExcName → Option Value} {mg mb : Str → Option Value} {s : Shared} {Q E : Value → Shared → Prop}
    (hh : A.handled = none) (hd : A.depth ≤ D) (hu : A.units ≤ D - 300) (hA : A.frames = some (env :: outer)) (hf : env.frame = some L) (hke : env.scope.kind = .function)
    (B : Below A₀ base outer h₀) (F : Fr h₀ L s.heap m) (X : (Mine.hd.heap_1 w.params).In h₀) (N : News h₀ L s.heap news) (T : Top p loose mean mg mb h₀)
    (hp : Pre s.heap) (C : Call w D f args Pre (IsSt x))
    (ret : ∀ h' tk, Fr h₀ L h' m → News h₀ L h' news → ∀ t, Q (.str x t) { s with heap := h', toks := tk }) : wpAny (model PySem.Challenge.rw_ty0024_01.row.toRowW.prog w) A (call (.ref f) args) Q E s := by
  refine C.use hh hd hu hA hf hke B F X N T hp fun v h' tk F' N' _ po => ?_
  obtain ⟨t, rfl⟩ := po
  exact ret h' tk F' N' t
theorem Call.useBy {w : World} {D : Nat} {f : Addr} {args : List Value} {Pre : Heap → Prop} {x : Array UInt8}
    {A₀ A : Around} {base h₀ : Heap} {outer : List Env} {L : Addr} {m : Str → Option Value} {env : Env} {news : List (Addr × Obj)} {p : Program} {loose : List Str} {mean : ExcName → Option Value} {mg mb : Str → Option Value} {s : Shared} {Q E : Value → Shared → Prop}
    (hh : A.handled = none) (hd : A.depth ≤ D) (hu : A.units ≤ D - 300) (hA : A.frames = some (env :: outer)) (hf : env.frame = some L) (hke : env.scope.kind = .function)
    (B : Below A₀ base outer h₀) (F : Fr h₀ L s.heap m) (X : (Mine.hd.heap_1 w.params).In h₀) (N : News h₀ L s.heap news) (T : Top p loose mean mg mb h₀)
    (hp : Pre s.heap) (C : Call w D f args Pre (IsBy x))
    (ret : ∀ h' tk, Fr h₀ L h' m → News h₀ L h' news → ∀ t, Q (.bytes x t) { s with heap := h', toks := tk }) : wpAny (model PySem.Challenge.rw_ty0024_01.row.toRowW.prog w) A (call (.ref f) args) Q E s := by
  refine C.use hh hd hu hA hf hke B F X N T hp fun v h' tk F' N' _ po => ?_
  obtain ⟨t, rfl⟩ := po
  exact ret h' tk F' N' t

/-- a new object onto the ledger -/
theorem news_new {h₀ h h' : Heap} {L : Addr} {m : Str → Option Value} {news : List (Addr × Obj)} {r : Addr} {o : Obj} (F : Fr h₀ L h m) (N : News h₀ L h news) (st : h.StaysIn h') (hr : h.get? r = none) (ho : h'.get? r = some o) :
    News h₀ L h' ((r, o) :: news) ∧ ∀ p ∈ news, p.1 ≠ r := by
  refine ⟨fun p hp => ?_, fun p hp e => by have := (N p hp).1; rw [e, hr] at this; cases this⟩
  rcases List.mem_cons.mp hp with rfl | hp
  · refine ⟨ho, fun e => ?_, ?_⟩
    · obtain ⟨oL, _, _, hL, _⟩ := F.ns
      rw [← e, hr] at hL; cases hL
    · cases q : h₀.get? r with
      | none => rfl
      | some x => have := F.keep _ _ q; rw [hr] at this; cases this
  · exact ⟨st _ _ (N p hp).1, (N p hp).2⟩
end
theorem flush1 : True := by first | (w_top off; k_with_none; walk1; done) | trivial
section
theorem enterK {w : World} {D f C : Nat} {args : List Value} {Pre : Heap → Prop} {Post : Heap → Heap → Value → Prop}
    {name qual : Str} {params : Arguments} {body : List Stmt} {scope : Scope} {dV kV doc pm cdv ct oc : Value} {an od : Option Addr} {osl : Array (Option Value)} {binds : Addr → List (Str × Value)}
    (hm : makesIn (Mine.hd.heap_1 w.params) C = true) (hi : findIn (Mine.hd.heap_1 w.params) (.ref C) "__init__" = some (some (.ref f))) (hf : isFn (Mine.hd.heap_1 w.params) (.ref f) = true)
    (ho : (Mine.hd.heap_1 w.params).lookup f = some ⟨oc, od, .func (fnOf name qual params body scope dV kV doc pm an cdv ct), osl⟩) (hcd : codeIn (Mine.hd.heap_1 w.params) cdv qual = true)
    (hD : D + 2 < recursionLimit) (hD3 : 300 ≤ D)
    (hbind : ∀ x, bindArgs (fnOf name qual params body scope dV kV doc pm an cdv ct) ⟨.ref x :: args, []⟩ = pure (binds x)) (hloc : ∀ x, ∀ y ∈ binds x, scope.names.lookup y.1 = some .local)
    (hcell : ∀ x ∈ scope.names, x.2 ≠ .cell)
    (h : ∀ (p : Program) (loose : List Str) (mean : ExcName → Option Value) (mg mb : Str → Option Value) (base : Heap) (l : List Env) (g : Heap) (L : Addr) (h₁ : Heap) (s : Shared) (tk : Nat) (x dx : Addr), g.objs.size ≤ L → @Ne Nat x dx →
      Fr g L h₁ (fun y => (binds x).reverse.lookup y) → News g L h₁ [(x, instObj C dx), (dx, W.dictOf [] 0)] → Below (aT (D + 2) l) base l g → (Mine.hd.heap_1 w.params).In g → Top p loose mean mg mb g → Pre g →
      wpAny (model PySem.Challenge.rw_ty0024_01.row.toRowW.prog w) ((aT (D + 2) l).deeper (envOf qual scope L f cdv)) (execs body (envOf qual scope L f cdv))
        (fun fl s' => fl = .next ∧ Done g s Post (.ref x) s') (fun _ _ => False) { s with heap := h₁, toks := tk })
    (hco : scope.isCoroutine = false := by rfl) (hgen : scope.isGenerator = false := by rfl) (hk : scope.kind = .function := by rfl) : Call w D C args Pre Post := by
  intro p loose mean mg mb A base l s Q E hh hd hu B X T hp ret
  refine weak (A := aT D l) hh hd (by rw [B.stack]; rfl) rfl hu ?_
  refine wpAny_call ?_
  obtain ⟨hs, gg, dd, tt, os⟩ := s
  have st2 : hs.StaysIn ((hs.push emptyDict).push (instObj C hs.objs.size)) := fun b o e => Heap.get?_push_of_some _ (Heap.get?_push_of_some _ e)
  refine make_core (makes_of X hm) (looks_findIn X hi) (fun self => bind_fn X self (beq_iff_eq.mp hf)) (.inl rfl) ?_
  refine codeAny_call_def (fd := fnOf name qual params body scope dV kV doc pm an cdv ct) (body := body) (binds := binds (hs.objs.size + 1)) (by rw [depth_under_make]; exact Nat.lt_of_le_of_lt (Nat.le_succ _) hD) (X.keeps st2 _ _ ho) rfl (T.keeps st2).nolimit (codeRec_of (X.keeps st2) hcd) rfl (BindsTo.of_eq (hbind _)) hcell (hloc _) (fun h₁ hns hk₁ => ?_) hco hgen hk
  refine weak (A := (aT (D + 2) l).deeper (envOf qual scope ((hs.push emptyDict).push (instObj C hs.objs.size)).objs.size f cdv)) rfl ?_ ?_ rfl ?_ ?_
  · simp only [depth_deeper, depth_under_make, aT_depth]; omega
  · rfl
  · simp only [units_deeper, units_under_make, aT_units]; omega
  have hk₂ : hs.StaysIn h₁ := fun b o e => hk₁ _ _ (st2 _ _ e)
  have sz : ((hs.push emptyDict).push (instObj C hs.objs.size)).objs.size = hs.objs.size + 2 := by rw [Heap.size_push, Heap.size_push]
  have hx : ((hs.push emptyDict).push (instObj C hs.objs.size)).get? (hs.objs.size + 1) = some (instObj C hs.objs.size) := by heap_get
  have hdx : ((hs.push emptyDict).push (instObj C hs.objs.size)).get? hs.objs.size = some emptyDict := Heap.get?_push_of_some _ (Heap.get?_push_size _ rfl)
  have none_of : ∀ b, hs.objs.size ≤ b → hs.get? b = none := fun b hb => by
    cases e : hs.get? b with
    | none => rfl
    | some o => exact absurd (Heap.lt_size e) (Nat.not_lt.mpr hb)
  refine wpAny_mono (h p loose mean mg mb base l hs ((hs.push emptyDict).push (instObj C hs.objs.size)).objs.size h₁ ⟨hs, gg, dd, tt, os⟩ _ (hs.objs.size + 1) hs.objs.size (by rw [sz]; omega) (Nat.succ_ne_self _) ⟨hns, hk₂, by rw [sz]; omega⟩ ?_ ⟨rfl, B.stays, B.frames⟩ X T hp) (fun fl s' hl => ?_) fun _ _ y => y.elim
  · intro q hq
    rcases List.mem_cons.mp hq with rfl | hq
    · exact ⟨hk₁ _ _ hx, (by rw [sz]; exact Nat.ne_of_lt (Nat.lt_succ_self _)), none_of _ (Nat.le_succ _)⟩
    · rw [List.mem_singleton.mp hq]
      exact ⟨hk₁ _ _ hdx, (by rw [sz]; exact Nat.ne_of_lt (Nat.lt_succ_of_lt (Nat.lt_succ_self _))), none_of _ (Nat.le_refl _)⟩
  · obtain ⟨rfl, h', tk, rfl, st, po⟩ := hl
    exact ⟨rfl, ret _ h' tk st po⟩
end
theorem flush2 : True := by first | (w_top off; k_with_none; walk1; done) | trivial
section
noncomputable def But (S : List Addr) (g h : Heap) : Prop := ∀ b o, b ∉ S → g.get? b = some o → h.get? b = some o
theorem But.refl (S : List Addr) (g : Heap) : But S g g := fun _ _ _ e => e
theorem But.trans {S : List Addr} {g h k : Heap} (x : But S g h) (y : But S h k) : But S g k := fun b o n e => y b o n (x b o n e)
theorem But.then {S : List Addr} {g h k : Heap} (x : But S g h) (y : h.StaysIn k) : But S g k := fun b o n e => y b o (x b o n e)
theorem But.mono {S T : List Addr} {g h : Heap} (x : But S g h) (m : ∀ b, b ∈ S → b ∈ T) : But T g h := fun b o n e => x b o (fun q => n (m b q)) e

noncomputable abbrev tests (ifs : List Expr) (env : Env) : Sem Bool := forIn ifs true fun c r => if r = true then do let ok ← isTrue c env (eval c env); pure (ForInStep.yield ok) else pure (ForInStep.yield r)

theorem compTurn_last {elt target iter : Expr} {gens : List Comprehension} {ifs : List Expr} {scope : Scope} {pos : Pos} {it acc : Value} {env : Env} {d : Nat}
    (hg : gens[d]? = some ⟨target, iter, ifs, 0⟩) (hg' : gens[d + 1]? = none) :
    compTurn (.ListComp elt gens scope pos) d it acc env = (do
      standAt iter.pos
      match ← pyNext it with
      | none => pure (.done .next)
      | some v =>
        letOwnedTupleGo target it v
        assign target env v
        let mut ok := true
        for c in ifs do
          if ok then ok ← isTrue c env (eval c env)
        if ok then
          (do let _ ← call (.builtin "list.append") [acc, ← eval elt env])
        again (.compLoop (.ListComp elt gens scope pos) d it acc env)) := by
  unfold compTurn
  simp only [hg, hg']
  rfl

theorem compTurn_mid {elt target iter : Expr} {gens : List Comprehension} {g' : Comprehension} {scope : Scope} {pos : Pos} {it acc : Value} {env : Env} {d : Nat}
    (hg : gens[d]? = some ⟨target, iter, [], 0⟩) (hg' : gens[d + 1]? = some g') (ha : g'.is_async = 0) :
    compTurn (.ListComp elt gens scope pos) d it acc env = (do
      standAt iter.pos
      match ← pyNext it with
      | none => pure (.done .next)
      | some v =>
        letOwnedTupleGo target it v
        assign target env v
        let x ← eval g'.iter env
        standAt g'.iter.pos
        let x ← foldedSetIterable g'.iter env x
        let _ ← runOwn (.compStart (.ListComp elt gens scope pos) (d + 1) (← holding [x] (pyIter x)) acc env) env
        again (.compLoop (.ListComp elt gens scope pos) d it acc env)) := by
  unfold compTurn
  simp only [hg, hg', ha]
  rfl

section
variable {prog : Program} {w : World} {A : Around} {E : Value → Shared → Prop} {R : Result → Shared → Prop} {s : Shared}

theorem compLoop_last {elt target iter : Expr} {gens : List Comprehension} {ifs : List Expr} {scope : Scope} {pos : Pos} {it acc : Value} {env : Env} {d : Nat} (I : Nat → Shared → Prop)
    (hg : gens[d]? = some ⟨target, iter, ifs, 0⟩) (hg' : gens[d + 1]? = none)
    (turn : ∀ n s, I n s → wpAny (model prog w) A (pyNext it) (fun r s₁ => match r with
      | none => R (.ok .next) s₁
      | some v => wpAny (model prog w) A (letOwnedTupleGo target it v) (fun _ s₁' => wpAny (model prog w) A (assign target env v) (fun _ s₂ =>
          wpAny (model prog w) A (tests ifs env) (fun ok s₃ =>
            if ok = true then wpAny (model prog w) A (eval elt env) (fun x s₄ =>
              wpAny (model prog w) A (call (.builtin "list.append") [acc, x]) (fun _ s₅ => ∃ m, m < n ∧ I m s₅) (fun _ _ => False) s₄) (fun _ _ => False) s₃
            else ∃ m, m < n ∧ I m s₃) (fun _ _ => False) s₂) (fun _ _ => False) s₁') (fun _ _ => False) s₁) (fun _ _ => False) s)
    (n : Nat) (h : I n s) :
    codeAny (model prog w) A (.compLoop (.ListComp elt gens scope pos) d it acc env) R s := by
  refine codeAny_loop rfl I (fun n s hI => ?_) n h
  show wpAny _ A ((compTurn (.ListComp elt gens scope pos) d it acc env).onRaise (fun x => do noteFrame x env; theTreesLotGoes x)) _ _ s
  refine wpAny_noted ?_
  rw [compTurn_last hg hg']
  refine wpAny_bind (wpAny_standAt (wpAny_bind (wpAny_mono (turn n s hI) (fun r s₁ h₁ => ?_) fun _ _ h' => h'.elim)))
  cases r with
  | none => exact wpAny_pure h₁
  | some v =>
    refine wpAny_bind (wpAny_mono h₁ (fun _ s₁' h₁' => ?_) fun _ _ h' => h'.elim)
    refine wpAny_bind (wpAny_mono h₁' (fun _ s₂ h₂ => wpAny_bind (wpAny_mono h₂ (fun ok s₃ h₃ => ?_) fun _ _ h' => h'.elim)) fun _ _ h' => h'.elim)
    cases ok with
    | false => exact wpAny_pure ⟨rfl, h₃⟩
    | true =>
      exact wpAny_bind (wpAny_bind (wpAny_mono h₃ (fun x s₄ h₄ => wpAny_bind (wpAny_mono h₄ (fun _ s₅ h₅ => wpAny_pure (wpAny_pure ⟨rfl, h₅⟩)) fun _ _ h' => h'.elim)) fun _ _ h' => h'.elim))

theorem compLoop_mid {elt target iter : Expr} {gens : List Comprehension} {g' : Comprehension} {scope : Scope} {pos : Pos} {it acc : Value} {env : Env} {d : Nat} (I : Nat → Shared → Prop)
    (hg : gens[d]? = some ⟨target, iter, [], 0⟩) (hg' : gens[d + 1]? = some g') (ha : g'.is_async = 0)
    (hs : ∀ x, foldedSetIterable g'.iter env x = pure x)
    (turn : ∀ n s, I n s → wpAny (model prog w) A (pyNext it) (fun r s₁ => match r with
      | none => R (.ok .next) s₁
      | some v => wpAny (model prog w) A (letOwnedTupleGo target it v) (fun _ s₁' => wpAny (model prog w) A (assign target env v) (fun _ s₂ =>
          wpAny (model prog w) A (eval g'.iter env) (fun x s₃ => wpAny (model prog w) A (pyIter x) (fun it' s₄ =>
            codeAny (model prog w) A (.compStart (.ListComp elt gens scope pos) (d + 1) it' acc env) (fun r s₅ => match r with | .ok _ => ∃ m, m < n ∧ I m s₅ | .error _ => False) s₄) (fun _ _ => False) s₃) (fun _ _ => False) s₂)
             (fun _ _ => False) s₁') (fun _ _ => False) s₁) (fun _ _ => False) s)
    (n : Nat) (h : I n s) :
    codeAny (model prog w) A (.compLoop (.ListComp elt gens scope pos) d it acc env) R s := by
  refine codeAny_loop rfl I (fun n s hI => ?_) n h
  show wpAny _ A ((compTurn (.ListComp elt gens scope pos) d it acc env).onRaise (fun x => do noteFrame x env; theTreesLotGoes x)) _ _ s
  refine wpAny_noted ?_
  rw [compTurn_mid hg hg' ha]
  refine wpAny_bind (wpAny_standAt (wpAny_bind (wpAny_mono (turn n s hI) (fun r s₁ h₁ => ?_) fun _ _ h' => h'.elim)))
  cases r with
  | none => exact wpAny_pure h₁
  | some v =>
    refine wpAny_bind (wpAny_mono h₁ (fun _ s₁' h₁' => ?_) fun _ _ h' => h'.elim)
    refine wpAny_bind (wpAny_mono h₁' (fun _ s₂ h₂ => wpAny_bind (wpAny_mono h₂ (fun x s₃ h₃ => ?_) fun _ _ h' => h'.elim)) fun _ _ h' => h'.elim)
    refine wpAny_bind (wpAny_standAt (wpAny_bind (wpAny_of_eq (hs x) ?_)))
    refine wpAny_bind (wpAny_holding (wpAny_mono h₃ (fun it' s₄ h₄ => ?_) fun _ _ h' => h'.elim))
    refine wpAny_bind ?_
    unfold runOwn
    refine wpAny_onRaise ?_
    refine wpAny_run (codeAny_mono h₄ fun r s₅ hr => ?_)
    cases r with
    | ok f => exact wpAny_pure ⟨rfl, hr⟩
    | error e => exact hr.elim

theorem compStart_d {elt target iter : Expr} {ifs : List Expr} {gens : List Comprehension} {scope : Scope} {pos : Pos} {it acc : Value} {env : Env} {d : Nat} (hg : gens[d]? = some ⟨target, iter, ifs, 0⟩)
    (h0 : codeAny (model prog w) A (.compLoop (.ListComp elt gens scope pos) d it acc env) R s)
    (h : wpAny (model prog w) A (pyIter it) (fun it' s' => codeAny (model prog w) A (.compLoop (.ListComp elt gens scope pos) d it' acc env) R s') (fun _ _ => False) s) :
    codeAny (model prog w) A (.compStart (.ListComp elt gens scope pos) d it acc env) R s := by
  refine codeAny_of_tree ?_
  show wpAny _ _ ((compStart (.ListComp elt gens scope pos) d it acc env).onRaise (fun x => do noteFrame x env; standAt theWindowsPlace)) _ _ s
  refine wpAny_notedAt ?_
  unfold compStart
  simp only [clausesOf, hg]
  show wpAny _ _ (ask >>= _) _ _ s
  refine wpAny_bind (wpAny_askSetting (wpAny_ite ?_))
  split
  · first
      | exact wpAny_bind (wpAny_pure (wpAny_pure (And.intro rfl h0)))
      | exact wpAny_pure (And.intro rfl h0)
  · refine wpAny_bind (wpAny_rule ?_)
    refine wpAny_bind (wpAny_standAt (wpAny_bind (wpAny_mono h (fun it' s' h' => wpAny_pure (And.intro rfl h')) fun _ _ x => x.elim)))
end
end
theorem flush3 : True := by first | (w_top off; k_with_none; walk1; done) | trivial
section
/-- kept by frame and ledger -/
noncomputable def Kp (h₀ : Heap) (news : List (Addr × Obj)) (b : Addr) : Prop := (∃ o, h₀.get? b = some o) ∨ ∃ o, (b, o) ∈ news
theorem Kp.get {h₀ h h' : Heap} {L : Addr} {m m' : Str → Option Value} {news all all' : List (Addr × Obj)} {b : Addr} {o : Obj} (k : Kp h₀ news b) (F : Fr h₀ L h m) (F' : Fr h₀ L h' m') (N : News h₀ L h all) (N' : News h₀ L h' all')
    (s : ∀ p ∈ news, p ∈ all) (s' : ∀ p ∈ news, p ∈ all') (e : h.get? b = some o) : h'.get? b = some o := by
  rcases k with ⟨q, hq⟩ | ⟨q, hq⟩
  · have := F.keep _ _ hq; rw [e] at this; rw [Option.some.inj this]; exact F'.keep _ _ hq
  · have := (N _ (s _ hq)).1; rw [show h.get? b = _ from e] at this; rw [Option.some.inj this]; exact (N' _ (s' _ hq)).1

/-- a turn's end: frame and ledger as they were, and Q -/
noncomputable def TurnEnd (h₀ : Heap) (L : Addr) (m : Str → Option Value) (s : Shared) (all : List (Addr × Obj)) (Q : Prop) (s' : Shared) : Prop :=
  ∃ h' tk, s' = { s with heap := h', toks := tk } ∧ Fr h₀ L h' m ∧ News h₀ L h' all ∧ Q
theorem TurnEnd.intro {h₀ : Heap} {L : Addr} {m : Str → Option Value} {s : Shared} {all all' : List (Addr × Obj)} {Q : Prop} {h' : Heap} {tk : Nat} (F : Fr h₀ L h' m) (N : News h₀ L h' all') (sub : ∀ p ∈ all, p ∈ all') (q : Q) :
    TurnEnd h₀ L m s all Q { s with heap := h', toks := tk } := ⟨h', tk, rfl, F, fun p hp => N p (sub p hp), q⟩

section
variable {prog : Program} {w : World} {A : Around} {R : Result → Shared → Prop} {s : Shared} {h₀ : Heap} {L : Addr} {m : Str → Option Value}

theorem news_ext {h h' : Heap} {all : List (Addr × Obj)} {b : Addr} (N : News h₀ L h all) (k : ∀ c o, c ≠ b → h.get? c = some o → h'.get? c = some o) (off : ∀ p ∈ all, p.1 ≠ b) : News h₀ L h' all :=
  fun p hp => ⟨k _ _ (off p hp) (N p hp).1, (N p hp).2⟩
theorem fr_ext {h h' : Heap} {b : Addr} (F : Fr h₀ L h m) (k : ∀ c o, c ≠ b → h.get? c = some o → h'.get? c = some o) (hL : L ≠ b) (hb : h₀.get? b = none) : Fr h₀ L h' m :=
  ⟨F.ns.at' fun o e => k L o hL e, fun c o e => k c o (fun q => by rw [q, hb] at e; cases e) (F.keep c o e), F.above⟩

/-- the last clause of a list comprehension, over a walk: Acc says what the list holds behind i items -/
theorem last_walk {elt iter : Expr} {x : Str} {px : Pos} {gens : List Comprehension} {ifs : List Expr} {scope : Scope} {pos : Pos} {I D C : Addr} {cenv : Env} {d : Nat} {fp : List Addr} {n : Nat} {P : Nat → Value → Prop} {St : Nat → Heap → Prop}
    (Acc : Nat → List Value → Prop) {ys₀ : List Value} {m₀ : Str → Option Value} {news : List (Addr × Obj)}
    (hg : gens[d]? = some ⟨.Name x px, iter, ifs, 0⟩) (hg' : gens[d + 1]? = none)
    (W : Walks prog w A I fp [I] n P St) (hC : cenv.locals = C) (hx : cenv.kindOf x = some .local) (hp : (cenv.scope.kind == .class || (cenv.scope.kind == .module && cenv.locals != cenv.globals)) = false)
    (hfp : ∀ b ∈ fp, b = I ∨ Kp h₀ news b) (hIo : ∀ i h, St i h → ∃ o, h.get? I = some o)
    (hDI : D ≠ I) (hCI : C ≠ I) (hDC : D ≠ C) (hIL : L ≠ I) (hDL : L ≠ D) (hCL : L ≠ C) (hI₀ : h₀.get? I = none) (hD₀ : h₀.get? D = none) (hC₀ : h₀.get? C = none) (off : LCg.Off3 I C D news) (lim : ∀ i ys, Acc i ys → ys.length ≤ sizeLine)
    (h0 : Acc 0 ys₀) (hst : St 0 s.heap) (F₀ : Fr h₀ L s.heap m) (N₀ : News h₀ L s.heap news) (hD : s.heap.get? D = some (LCg.lst ys₀)) (hCn : s.heap.Ns C m₀)
    (turn : ∀ i v ys oI oC m₂ h tk, i < n → P i v → Acc i ys → Fr h₀ L h m → News h₀ L h ((I, oI) :: (C, oC) :: (D, LCg.lst ys) :: news) → LCg.NsObj oC m₂ → m₂ x = some v → (∀ z, z ≠ x → m₂ z = m₀ z) →
      wpAny (model prog w) A (tests ifs cenv) (fun ok s₃ =>
        if ok = true then wpAny (model prog w) A (eval elt cenv) (fun y s₄ => TurnEnd h₀ L m s ((I, oI) :: (C, oC) :: (D, LCg.lst ys) :: news) (Acc (i + 1) (ys ++ [y])) s₄) (fun _ _ => False) s₃
        else TurnEnd h₀ L m s ((I, oI) :: (C, oC) :: (D, LCg.lst ys) :: news) (Acc (i + 1) ys) s₃) (fun _ _ => False) { s with heap := h, toks := tk })
    (done : ∀ h tk ys m', Acc n ys → Fr h₀ L h m → News h₀ L h ((D, LCg.lst ys) :: news) → h.Ns C m' → (∀ z, z ≠ x → m' z = m₀ z) → R (.ok .next) { s with heap := h, toks := tk }) :
    codeAny (model prog w) A (.compLoop (.ListComp elt gens scope pos) d (.ref I) (.ref D) cenv) R s := by
  have hIf : I ∈ fp := W.sub I (List.mem_singleton.mpr rfl)
  have off' := off.mem
  have nfI : ∀ {b : Addr}, Kp h₀ news b → b ≠ I := fun {b} k e => by
    rcases k with ⟨o, q⟩ | ⟨o, q⟩
    · rw [e, hI₀] at q; cases q
    · exact (off' _ q).1 e
  have nfC : ∀ {b : Addr}, Kp h₀ news b → b ≠ C := fun {b} k e => by
    rcases k with ⟨o, q⟩ | ⟨o, q⟩
    · rw [e, hC₀] at q; cases q
    · exact (off' _ q).2.1 e
  have nfD : ∀ {b : Addr}, Kp h₀ news b → b ≠ D := fun {b} k e => by
    rcases k with ⟨o, q⟩ | ⟨o, q⟩
    · rw [e, hD₀] at q; cases q
    · exact (off' _ q).2.2 e
  refine compLoop_last (fun k s' => ∃ h tk i ys m', s' = { s with heap := h, toks := tk } ∧ i ≤ n ∧ k = n + 1 - i ∧ Acc i ys ∧ St i h ∧ Fr h₀ L h m ∧ News h₀ L h ((D, LCg.lst ys) :: news) ∧ h.Ns C m' ∧ (∀ z, z ≠ x → m' z = m₀ z)) hg hg' ?_ (n + 1)
    ⟨s.heap, s.toks, 0, ys₀, m₀, rfl, Nat.zero_le _, rfl, h0, hst, F₀, fun p hp => (by
      rcases List.mem_cons.mp hp with rfl | hp
      · exact ⟨hD, Ne.symm hDL, hD₀⟩
      · exact N₀ p hp), hCn, fun _ _ => rfl⟩
  rintro k s' ⟨h, tk, i, ys, m', rfl, hi, rfl, hacc, hSt, F, N, hn, hm⟩
  have offA : ∀ p ∈ (D, LCg.lst ys) :: news, p.1 ≠ I ∧ p.1 ≠ C := fun p hp => by
    rcases List.mem_cons.mp hp with rfl | hp
    · exact ⟨hDI, hDC⟩
    · exact ⟨(off' p hp).1, (off' p hp).2.1⟩
  by_cases hlt : i < n
  · refine W.item i _ _ _ hlt hSt fun v h₂ tk₂ hPv hst₂ hk₂ => ?_
    refine wpAny_pure ?_
    have k₂ : ∀ c o, c ≠ I → h.get? c = some o → h₂.get? c = some o := fun c o nc e => hk₂ c o (by simpa using nc) e
    have F₂ := fr_ext F k₂ hIL hI₀
    have N₂ := news_ext N k₂ fun p hp => (offA p hp).1
    refine wpAny_assign_Name (wpAny_storeName_local hx (hC.symm ▸ (hn.at' fun o e => k₂ C o hCI e)) (fun h₃ hn₃ hs₃ => ?_) hp)
    rw [hC] at hn₃ hs₃
    have k₃ : ∀ c o, c ≠ C → h₂.get? c = some o → h₃.get? c = some o := fun c o nc e => hs₃.extBut c o nc e
    have F₃ := fr_ext F₂ k₃ hCL hC₀
    have N₃ := news_ext N₂ k₃ fun p hp => (offA p hp).2
    have hst₃ : St (i + 1) h₃ := W.frame _ _ _ hst₂ fun b hb o e => k₃ b o (fun q => by
      rcases hfp b hb with e | e
      · exact hCI (q ▸ e)
      · exact nfC e q) e
    obtain ⟨oI, heI⟩ := hIo _ _ hst₃
    obtain ⟨oC, heC, hoC⟩ := LCg.ns_obj hn₃
    have N₃' : News h₀ L h₃ ((I, oI) :: (C, oC) :: (D, LCg.lst ys) :: news) := fun p hp => by
      rcases List.mem_cons.mp hp with rfl | hp
      · exact ⟨heI, Ne.symm hIL, hI₀⟩
      · rcases List.mem_cons.mp hp with rfl | hp
        · exact ⟨heC, Ne.symm hCL, hC₀⟩
        · exact N₃ p hp
    have stay : ∀ h' , Fr h₀ L h' m → News h₀ L h' ((I, oI) :: (C, oC) :: (D, LCg.lst ys) :: news) → St (i + 1) h' := fun h' F' N' => W.frame _ _ _ hst₃ fun b hb o e => by
      rcases hfp b hb with q | q
      · subst q; rw [heI] at e; cases e; exact (N' _ (.head _)).1
      · exact q.get F₃ F' N₃' N' (fun p hp => .tail _ (.tail _ (.tail _ hp))) (fun p hp => .tail _ (.tail _ (.tail _ hp))) e
    refine wpAny_mono (turn i v ys oI oC _ h₃ _ hlt hPv hacc F₃ N₃' hoC (by simp) (fun z hz => by simp [hz, hm z hz])) (fun ok s₃ h₃' => ?_) fun _ _ e => e
    cases ok with
    | false =>
      simp only [Bool.false_eq_true, if_false] at h₃' ⊢
      obtain ⟨h4, tk4, rfl, F4, N4, rest⟩ := h₃'
      exact ⟨n + 1 - (i + 1), by omega, h4, tk4, i + 1, ys, _, rfl, hlt, rfl, rest, stay _ F4 N4, F4, fun p hp => N4 p (.tail _ (.tail _ hp)), hoC.ns (N4 (C, oC) (.tail _ (.head _))).1, fun z hz => by simp [hz, hm z hz]⟩
    | true =>
      simp only [if_true] at h₃' ⊢
      refine wpAny_mono h₃' (fun y s₄ h₄ => ?_) fun _ _ e => e
      obtain ⟨h5, tk5, rfl, F5, N5, acc'⟩ := h₄
      have e5 := (N5 (D, LCg.lst ys) (.tail _ (.tail _ (.head _)))).1
      have l5 := lim _ _ acc'
      rw [List.length_append, List.length_singleton] at l5
      refine append_at (hsz := by show ys.toArray.size ≤ sizeLine; rw [List.size_toArray]; omega) e5 fun h₆ hs₆ hD₆ => ?_
      have k₆ : ∀ c o, c ≠ D → h5.get? c = some o → h₆.get? c = some o := fun c o nc e => hs₆.extBut c o nc e
      have st5 := stay _ F5 N5
      refine ⟨n + 1 - (i + 1), by omega, h₆, tk5, i + 1, ys ++ [y], (fun z => if z = x then some v else m' z), rfl, hlt, rfl, acc', W.frame _ _ _ st5 fun b hb o e => k₆ b o (fun q => ?_) e,
        fr_ext F5 k₆ hDL hD₀, fun p hp => ?_, (hoC.ns (N5 (C, oC) (.tail _ (.head _))).1).sameBut hs₆ (Ne.symm hDC), fun z hz => by simp [hz, hm z hz]⟩
      · rcases hfp b hb with e | e
        · exact hDI (q ▸ e)
        · exact nfD e q
      · rcases List.mem_cons.mp hp with rfl | hp
        · exact ⟨hD₆.trans (congrArg some (LCg.lst_snoc ys y)), Ne.symm hDL, hD₀⟩
        · exact ⟨k₆ _ _ (off' p hp).2.2 (N5 p (.tail _ (.tail _ (.tail _ hp)))).1, (N5 p (.tail _ (.tail _ (.tail _ hp)))).2⟩
  · obtain rfl : i = n := Nat.le_antisymm hi (Nat.not_lt.mp hlt)
    refine W.done _ _ _ hSt fun h₂ tk₂ hk₂ => ?_
    have k₂ : ∀ c o, c ≠ I → h.get? c = some o → h₂.get? c = some o := fun c o nc e => hk₂ c o (by simpa using nc) e
    exact done h₂ tk₂ ys m' hacc (fr_ext F k₂ hIL hI₀) (news_ext N k₂ fun p hp => (offA p hp).1) (hn.at' fun o e => k₂ C o hCI e) hm
end
end
theorem flush4 : True := by first | (w_top off; k_with_none; walk1; done) | trivial
section
/-- what a clause goes over: n items, P tells them -/
inductive Src (h₀ : Heap) (news : List (Addr × Obj)) (h : Heap) : Value → Nat → (Nat → Value → Prop) → Prop
  | listB {ax its} : h₀.IsList ax its → Src h₀ news h (.ref ax) its.size (fun i v => its[i]? = some v)
  | listN {ax its k} : (ax, ({ cls := .type "list", data := .seq its k } : Obj)) ∈ news → Src h₀ news h (.ref ax) its.size (fun i v => its[i]? = some v)
  | tupB {ax its} : IsTup h₀ ax its → Src h₀ news h (.ref ax) its.size (fun i v => its[i]? = some v)
  | tupN {ax its k} : (ax, ({ cls := .type "tuple", data := .seq its k } : Obj)) ∈ news → Src h₀ news h (.ref ax) its.size (fun i v => its[i]? = some v)
  | range {r a b t u v n} : IsRange h r a b 1 t u v → Builtin.Range.small a b 1 = true → Builtin.Range.rangeSize a b 1 = ((n : Nat) : Int) → Src h₀ news h (.ref r) n (fun i v => ∃ t, v = .int (a + (i : Int)) t)

section
variable {prog : Program} {w : World} {A : Around} {E : Value → Shared → Prop} {s : Shared} {h₀ : Heap} {L : Addr} {m : Str → Option Value} {news : List (Addr × Obj)}

theorem src_list {ax : Addr} {its : Array Value} {Q : Value → Shared → Prop} (hl : s.heap.IsList ax its) (kp : Kp h₀ news ax) (hh : A.handled = none)
    (k : ∀ h fp St, s.heap.StaysIn h → h.objs.size = s.heap.objs.size + 1 → Walks prog w A s.heap.objs.size fp [s.heap.objs.size] its.size (fun i v => its[i]? = some v) St → (∀ b ∈ fp, b = s.heap.objs.size ∨ Kp h₀ news b) → (∀ i h, St i h → ∃ o, h.get? s.heap.objs.size = some o) → St 0 h → Q (.ref s.heap.objs.size) { s with heap := h }) :
    wpAny (model prog w) A (pyIter (.ref ax)) Q E s := by
  have hlt : ax < s.heap.objs.size := by obtain ⟨_, e, _⟩ := hl; exact Heap.lt_size e
  refine wpAny_pyIter_list hl ?_
  refine k _ _ _ (fun b o e => Heap.get?_push_of_some _ e) (Heap.size_push _ _) (Walks.list hh s.heap.objs.size ax (Nat.ne_of_lt hlt) its) (fun b hb => ?_) (fun i h st => by obtain ⟨o, e, _⟩ := st.1; exact ⟨o, e⟩) ⟨⟨_, Heap.get?_push_size _ rfl, rfl, rfl⟩, hl.push _⟩
  rcases List.mem_cons.mp hb with rfl | hb
  · exact .inl rfl
  · rw [List.mem_singleton.mp hb]; exact .inr kp
theorem src_tup {ax : Addr} {its : Array Value} {Q : Value → Shared → Prop} (hl : s.heap.IsTuple ax its) (kp : Kp h₀ news ax) (hh : A.handled = none)
    (k : ∀ h fp St, s.heap.StaysIn h → h.objs.size = s.heap.objs.size + 1 → Walks prog w A s.heap.objs.size fp [s.heap.objs.size] its.size (fun i v => its[i]? = some v) St → (∀ b ∈ fp, b = s.heap.objs.size ∨ Kp h₀ news b) → (∀ i h, St i h → ∃ o, h.get? s.heap.objs.size = some o) → St 0 h → Q (.ref s.heap.objs.size) { s with heap := h }) :
    wpAny (model prog w) A (pyIter (.ref ax)) Q E s := by
  have hlt : ax < s.heap.objs.size := by obtain ⟨_, e, _⟩ := hl; exact Heap.lt_size e
  refine wpAny_pyIter_tuple hl ?_
  refine k _ _ _ (fun b o e => Heap.get?_push_of_some _ e) (Heap.size_push _ _) (Walks.tuple hh s.heap.objs.size ax (Nat.ne_of_lt hlt) its) (fun b hb => ?_) (fun i h st => by obtain ⟨o, e, _⟩ := st.1; exact ⟨o, e⟩) ⟨⟨_, Heap.get?_push_size _ rfl, rfl, rfl⟩, hl.at fun o e => Heap.get?_push_of_some _ e⟩
  rcases List.mem_cons.mp hb with rfl | hb
  · exact .inl rfl
  · rw [List.mem_singleton.mp hb]; exact .inr kp

theorem src_iter {xv : Value} {n : Nat} {P : Nat → Value → Prop} {Q : Value → Shared → Prop} (S : Src h₀ news s.heap xv n P) (F : Fr h₀ L s.heap m) (N : News h₀ L s.heap news) (hh : A.handled = none)
    (k : ∀ h fp St, s.heap.StaysIn h → h.objs.size = s.heap.objs.size + 1 → Walks prog w A s.heap.objs.size fp [s.heap.objs.size] n P St → (∀ b ∈ fp, b = s.heap.objs.size ∨ Kp h₀ news b) → (∀ i h, St i h → ∃ o, h.get? s.heap.objs.size = some o) → St 0 h → Q (.ref s.heap.objs.size) { s with heap := h }) :
    wpAny (model prog w) A (pyIter xv) Q E s := by
  cases S with
  | @listB ax its hl =>
    have kp : Kp h₀ news ax := by obtain ⟨o, e, _⟩ := id hl; exact .inl ⟨o, e⟩
    exact src_list (hl.at fun o e => F.keep _ o e) kp hh k
  | @listN ax its kk hm => exact src_list ⟨_, (N _ hm).1, rfl, kk, rfl⟩ (.inr ⟨_, hm⟩) hh k
  | @tupB ax its hl =>
    have kp : Kp h₀ news ax := by obtain ⟨o, e, _⟩ := id hl; exact .inl ⟨o, e⟩
    refine src_tup (its := its) ?_ kp hh k
    obtain ⟨o, e, r⟩ := hl
    exact ⟨o, F.keep _ _ e, r⟩
  | @tupN ax its kk hm => exact src_tup ⟨_, (N _ hm).1, rfl, kk, rfl⟩ (.inr ⟨_, hm⟩) hh k
  | @range r a b t u v n hr hsm hn =>
    refine wpAny_pyIter_range hr hsm ?_
    refine k _ _ _ (fun b o e => Heap.get?_push_of_some _ e) (Heap.size_push _ _) (LCg.range_walks hh a n) (fun b hb => .inl (List.mem_singleton.mp hb)) (fun i h st => ⟨_, st⟩) ?_
    show IsRangeIter _ _ _ _ _
    rw [hn]; simpa using Heap.get?_push_size _ rfl

theorem block {elt target iter : Expr} {ifs : List Expr} {gens : List Comprehension} {scope : Scope} {cl : List (Str × Addr)} {pos : Pos} {env : Env} {I : Addr} {RR : Value → Addr → Result → Shared → Prop} {fp : List Addr} {n : Nat} {P : Nat → Value → Prop} {St : Nat → Heap → Prop}
    (hg : gens[0]? = some ⟨target, iter, ifs, 0⟩)
    (W : Walks prog w A I fp [I] n P St) (hst : St 0 s.heap) (hcell : ∀ y ∈ scope.names, y.2 ≠ .cell) (hkind : scope.kind = .function)
    (inner : ∀ D C h₁ tk, s.heap.StaysIn h₁ → h₁.get? D = some (LCg.lst []) → h₁.Ns C (fun _ => none) → s.heap.objs.size ≤ D → s.heap.objs.size ≤ C → D ≠ C → St 0 h₁ →
      codeAny (model prog w) A (.compLoop (.ListComp elt gens scope pos) 0 (.ref I) (.ref D) (compEnvC scope cl C env)) (RR (.ref D) C) { s with heap := h₁, toks := tk }) :
    wpAny (model prog w) A (newList []) (fun acc s₃ => wpAny (model prog w) A (newFunctionEnv scope env.globals cl [] env.qual none .none (some env)) (fun cenv s₄ =>
      codeAny (model prog w) A (.compStart (.ListComp elt gens scope pos) 0 (.ref I) acc { cenv with scope := relabel scope env }) (RR acc cenv.locals) s₄) E s₃) E s := by
  refine wpAny_newObj_type (wpAny_newFunctionEnv hcell (by intro y hy; simp at hy) (fun h₁ hns₁ hsb₁ => ?_) hkind)
  dsimp only at hns₁ hsb₁ ⊢
  generalize hH2 : s.heap.push { cls := .type "list", dict := none, data := .seq ([] : List Value).toArray } = H2 at hns₁ hsb₁ ⊢
  have hC : H2.objs.size = s.heap.objs.size + 1 := by rw [← hH2, Heap.size_push]
  have hDC : s.heap.objs.size ≠ H2.objs.size := by rw [hC]; exact Nat.ne_of_lt (Nat.lt_succ_self _)
  have old : ∀ b o, s.heap.get? b = some o → h₁.get? b = some o := fun b o e => hsb₁.extBut b o (by rw [hC]; exact Nat.ne_of_lt (Nat.lt_succ_of_lt (Heap.lt_size e))) (Heap.get?_push_of_some _ (hH2 ▸ Heap.get?_push_of_some _ e))
  have hacc : h₁.get? s.heap.objs.size = some (LCg.lst []) := hsb₁.extBut _ _ hDC (Heap.get?_push_of_some _ (hH2 ▸ Heap.get?_push_size _ rfl))
  have hst₁ : St 0 h₁ := W.frame _ _ _ hst fun b _ o e => old b o e
  have loop := inner s.heap.objs.size H2.objs.size h₁ (s.toks + ([] : List (Str × Value)).length) old hacc hns₁ (Nat.le_refl _) (by rw [hC]; exact Nat.le_succ _) hDC hst₁
  exact compStart_d hg loop (W.self 0 _ _ _ hst₁ loop)

theorem fresh_at {h : Heap} {b : Addr} (hb : h.objs.size ≤ b) : h.get? b = none := by
  cases e : h.get? b with
  | none => rfl
  | some o => exact absurd (Heap.lt_size e) (Nat.not_lt.mpr hb)
theorem fresh_in (F : Fr h₀ L s.heap m) {b : Addr} (hb : s.heap.objs.size ≤ b) : h₀.get? b = none ∧ L ≠ b := by
  refine ⟨?_, fun e => absurd (F.ns.lt) (Nat.not_lt.mpr (e ▸ hb))⟩
  cases e : h₀.get? b with
  | none => rfl
  | some o => have := F.keep _ _ e; rw [fresh_at hb] at this; cases this
end

section
variable {prog : Program} {w : World} {A : Around} {E : Value → Shared → Prop} {s : Shared} {env : Env} {h₀ : Heap} {L : Addr} {m : Str → Option Value}

/-- one clause's turn -/
noncomputable def Turn (prog : Program) (w : World) (A : Around) (h₀ : Heap) (L : Addr) (m : Str → Option Value) (elt : Expr) (ifs : List Expr) (cenv : Env) (s₁ : Shared) (all : List (Addr × Obj)) (yes : Value → Prop) (no : Prop) (h : Heap) (tk : Nat) : Prop :=
  wpAny (model prog w) A (tests ifs cenv) (fun ok s₃ =>
    if ok = true then wpAny (model prog w) A (eval elt cenv) (fun y s₄ => TurnEnd h₀ L m s₁ all (yes y) s₄) (fun _ _ => False) s₃
    else TurnEnd h₀ L m s₁ all no s₃) (fun _ _ => False) { s₁ with heap := h, toks := tk }

/-- one clause; Fin tells what is asked behind it -/
inductive Lc1 (prog : Program) (w : World) (A : Around) (h₀ : Heap) (L : Addr) (m : Str → Option Value) (elt : Expr) (x : Str) (ifs : List Expr) (scope : Scope) (cl : List (Str × Addr)) (env : Env) (s₁ : Shared) (xv : Value) (Fin : Shared → Addr → Prop → List (Addr × Obj) → List Value → Prop) : Prop
  | mk (n : _) (P : _) (Acc : Nat → List Value → Prop) (news : _)
    (h1 : Src h₀ news s₁.heap xv n P)
    (h2 : A.handled = none)
    (h3 : Fr h₀ L s₁.heap m)
    (h4 : News h₀ L s₁.heap news)
    (h5 : ∀ i ys, Acc i ys → ys.length ≤ sizeLine)
    (h6 : Acc 0 [])
    (h7 : ∀ i v ys I oI C oC D m₂ h tk, i < n → P i v → Acc i ys → Fr h₀ L h m → News h₀ L h ((I, oI) :: (C, oC) :: (D, LCg.lst ys) :: news) → LCg.Off3 I C D news → ((@Ne Nat I C) ∧ (@Ne Nat I D) ∧ (@Ne Nat C D)) → LCg.NsObj oC m₂ → m₂ x = some v →
      Turn prog w A h₀ L m elt ifs (compEnvC scope cl C env) s₁ ((I, oI) :: (C, oC) :: (D, LCg.lst ys) :: news) (fun y => Acc (i + 1) (ys ++ [y])) (Acc (i + 1) ys) h tk)
    (h8 : ∀ D ys, Fin s₁ D (Acc n ys) news ys) : Lc1 prog w A h₀ L m elt x ifs scope cl env s₁ xv Fin

theorem lc1_core {elt iter : Expr} {x : Str} {px : Pos} {ifs : List Expr} {scope : Scope} {cl : List (Str × Addr)} {pos : Pos} {use : Option (Value → Sem Unit)} {Q : Value → Shared → Prop}
    (hclos : closureFor scope env = pure cl) (hcell : ∀ y ∈ scope.names, y.2 ≠ .cell) (hkind : scope.kind = .function)
    (hnames : ∀ y ∈ scope.names, y.2 = .local → scope.names.lookup y.1 = some .local) (hx : scope.names.lookup x = some .local)
    (h : wpAny (model prog w) A (eval iter env) (fun xv s₁ => Lc1 prog w A h₀ L m elt x ifs scope cl env s₁ xv (fun s₁ D acc news ys => acc → ∀ C m' h tk, C ≠ D → h₀.get? C = none → h₀.get? D = none → L ≠ C → L ≠ D → Fr h₀ L h m → News h₀ L h ((D, LCg.lst ys) :: news) → (∀ p ∈ news, p.1 ≠ D ∧ p.1 ≠ C) → h.Ns C m' →
      compPost (model prog w) A E use Q (.ref D) C (.ok .next) { s₁ with heap := h, toks := tk })) E s)
    (hs : ∀ x, foldedSetIterable iter env x = pure x := by intro _; rfl) :
    wpAny (model prog w) A (comprehension (.ListComp elt [⟨.Name x px, iter, ifs, 0⟩] scope pos) scope env (firstIterPos [⟨.Name x px, iter, ifs, 0⟩] pos) (newList []) false (eval iter env) use) Q E s := by
  refine wpAny_comprehension_free (use := use) rfl hs hclos hkind hnames (wpAny_mono h (fun xv s₁ h₁ => ?_) fun _ _ e => e)
  obtain ⟨n, P, Acc, news, S, hh, F, N, lim, a0, turn, done⟩ := h₁
  refine src_iter S F N hh fun h₂ fp St st₂ sz₂ W hfp hIo hst => ?_
  refine block (gens := [⟨.Name x px, iter, ifs, 0⟩]) rfl W hst hcell hkind fun D C h₁ tk st₁ hD hC hDl hCl hDC hst₁ => ?_
  have hDl' : s₁.heap.objs.size + 1 ≤ D := by simpa [sz₂] using hDl
  have hCl' : s₁.heap.objs.size + 1 ≤ C := by simpa [sz₂] using hCl
  obtain ⟨hI₀, hIL⟩ := fresh_in F (Nat.le_refl s₁.heap.objs.size)
  obtain ⟨hD₀, hDL⟩ := fresh_in F (Nat.le_of_succ_le hDl')
  obtain ⟨hC₀, hCL⟩ := fresh_in F (Nat.le_of_succ_le hCl')
  have old : s₁.heap.StaysIn h₁ := fun b o e => st₁ b o (st₂ b o e)
  have F₁ : Fr h₀ L h₁ m := F.after old
  have N₁ : News h₀ L h₁ news := fun p hp => ⟨old _ _ (N p hp).1, (N p hp).2⟩
  have hDI : D ≠ s₁.heap.objs.size := fun e => absurd (e ▸ hDl') (Nat.not_succ_le_self _)
  have hCI : C ≠ s₁.heap.objs.size := fun e => absurd (e ▸ hCl') (Nat.not_succ_le_self _)
  have lt : ∀ p ∈ news, p.1 < s₁.heap.objs.size := fun p hp => Heap.lt_size (N p hp).1
  have ltD : ∀ p ∈ news, p.1 ≠ D := fun p hp e => absurd (Nat.lt_of_lt_of_le (Nat.lt_succ_of_lt (lt p hp)) (e ▸ hDl')) (Nat.lt_irrefl _)
  have ltC : ∀ p ∈ news, p.1 ≠ C := fun p hp e => absurd (Nat.lt_of_lt_of_le (Nat.lt_succ_of_lt (lt p hp)) (e ▸ hCl')) (Nat.lt_irrefl _)
  have off : LCg.Off3 s₁.heap.objs.size C D news := LCg.Off3.of fun p hp => ⟨Nat.ne_of_lt (lt p hp), ltC p hp, ltD p hp⟩
  refine last_walk (s := { s₁ with heap := h₁, toks := tk }) (h₀ := h₀) (L := L) (m := m) (news := news) Acc rfl rfl W rfl (lookup_relabel_local hx) (by simp [compEnvC, relabel, hkind]) hfp hIo hDI hCI hDC hIL hDL hCL hI₀ hD₀ hC₀ off lim a0 hst₁ F₁ N₁ hD hC ?_ ?_
  · intro i v ys oI oC m₂ h tk' hi hP hacc F' N' hoC hm _
    exact turn i v ys _ oI C oC D m₂ h tk' hi hP hacc F' N' off ⟨Ne.symm hCI, Ne.symm hDI, Ne.symm hDC⟩ hoC hm
  · intro h tk' ys m' hacc F' N' hn _
    exact done D ys hacc C m' h tk' (Ne.symm hDC) hC₀ hD₀ hCL hDL F' N' (fun p hp => ⟨ltD p hp, ltC p hp⟩) hn

theorem lc1_eval {elt iter : Expr} {x : Str} {px : Pos} {ifs : List Expr} {scope : Scope} {cl : List (Str × Addr)} {pos : Pos} {Q : Value → Shared → Prop}
    (hclos : closureFor scope env = pure cl) (hcell : ∀ y ∈ scope.names, y.2 ≠ .cell) (hkind : scope.kind = .function)
    (hnames : ∀ y ∈ scope.names, y.2 = .local → scope.names.lookup y.1 = some .local) (hx : scope.names.lookup x = some .local)
    (h : wpAny (model prog w) A (eval iter env) (fun xv s₁ => Lc1 prog w A h₀ L m elt x ifs scope cl env s₁ xv (fun s₁ D acc news ys => acc → ∀ h tk, Fr h₀ L h m → News h₀ L h ((D, LCg.lst ys) :: news) → LCg.Off1 D news → Q (.ref D) { s₁ with heap := h, toks := tk })) E s)
    (hs : ∀ x, foldedSetIterable iter env x = pure x := by intro _; rfl) :
    wpAny (model prog w) A (eval (.ListComp elt [⟨.Name x px, iter, ifs, 0⟩] scope pos) env) Q E s := by
  rw [eval_ListComp]
  refine lc1_core (h₀ := h₀) (L := L) (m := m) (use := none) hclos hcell hkind hnames hx (wpAny_mono h (fun xv s₁ h₁ => ?_) fun _ _ e => e) hs
  obtain ⟨n, P, Acc, news, S, hh, F, N, lim, a0, turn, done⟩ := h₁
  refine ⟨n, P, Acc, news, S, hh, F, N, lim, a0, turn, fun D ys hacc C m' h tk hCD hC₀ hD₀ hCL hDL F' N' off hn => ?_⟩
  refine ⟨m', hn, fun h'' hs'' => ?_⟩
  refine done D ys hacc h'' tk (F'.change hs'' (Ne.symm hCL) hC₀) (fun p hp => ?_) (off1 off)
  refine ⟨hs''.extBut _ _ ?_ (N' p hp).1, (N' p hp).2⟩
  rcases List.mem_cons.mp hp with rfl | hp
  · exact Ne.symm hCD
  · exact (off p hp).2
where
  off1 {D C : Addr} : ∀ {l : List (Addr × Obj)}, (∀ p ∈ l, p.1 ≠ D ∧ p.1 ≠ C) → LCg.Off1 D l
    | [], _ => trivial
    | p :: _, h => ⟨(h p (.head _)).1, off1 fun q hq => h q (.tail _ hq)⟩

theorem lc1_assign {elt iter : Expr} {x y : Str} {px py : Pos} {ifs : List Expr} {scope : Scope} {cl : List (Str × Addr)} {pos spos : Pos} {Q : Flow → Shared → Prop} (hLe : env.locals = L)
    (hsw : swapsWith (.ListComp elt [⟨.Name x px, iter, ifs, 0⟩] scope pos) (some (.Name y py)) spos.line env = pure true)
    (hclos : closureFor scope env = pure cl) (hcell : ∀ y ∈ scope.names, y.2 ≠ .cell) (hkind : scope.kind = .function)
    (hnames : ∀ y ∈ scope.names, y.2 = .local → scope.names.lookup y.1 = some .local) (hx : scope.names.lookup x = some .local)
    (hy : env.kindOf y = some .local) (hp : (env.scope.kind == .class || (env.scope.kind == .module && env.locals != env.globals)) = false)
    (h : wpAny (model prog w) A (eval iter env) (fun xv s₁ => Lc1 prog w A h₀ L m elt x ifs scope cl env s₁ xv (fun s₁ D acc news ys => acc → ∀ h tk, Fr h₀ L h (fun z => if z = y then some (.ref D) else m z) → News h₀ L h ((D, LCg.lst ys) :: news) → LCg.Off1 D news →
      Q .next { s₁ with heap := h, toks := tk })) E s)
    (hs : ∀ x, foldedSetIterable iter env x = pure x := by intro _; rfl) :
    wpAny (model prog w) A (exec (.Assign [.Name y py] (.ListComp elt [⟨.Name x px, iter, ifs, 0⟩] scope pos) spos) env) Q E s := by
  subst hLe
  rw [exec_Assign_Name_used _ _ _ _ hsw]
  refine wpAny_bind (wpAny_standAt (wpAny_bind ?_))
  show wpAny _ A (do let _ ← comprehension (.ListComp elt [⟨.Name x px, iter, ifs, 0⟩] scope pos) scope env _ (newList []) false (eval iter env) (some (assign (.Name y py) env))) _ _ s
  refine wpAny_bind (wpAny_mono (lc1_core (h₀ := h₀) (L := env.locals) (m := m) (use := some (assign (.Name y py) env)) (Q := fun _ s' => Q .next s') hclos hcell hkind hnames hx (wpAny_mono h (fun xv s₁ h₁ => ?_) fun _ _ e => e) hs) (fun _ s' hq => wpAny_pure (wpAny_pure hq)) fun _ _ e => e)
  obtain ⟨n, P, Acc, news, S, hh, F, N, lim, a0, turn, done⟩ := h₁
  refine ⟨n, P, Acc, news, S, hh, F, N, lim, a0, turn, fun D ys hacc C m' h tk hCD hC₀ hD₀ hCL hDL F' N' off hn => ?_⟩
  show wpAny _ A (assign (.Name y py) env (.ref D)) _ _ _
  have hL₀ : h₀.get? env.locals = none := Heap.get?_none_of_le F'.above
  refine wpAny_assign_Name (wpAny_storeName_local hy F'.ns (fun h₂ hn₂ hs₂ => ?_) hp)
  have F₂ : Fr h₀ env.locals h₂ (fun z => if z = y then some (.ref D) else m z) := ⟨hn₂, fun b o e => hs₂.extBut b o (fun q => by rw [show b = env.locals from q, hL₀] at e; cases e) (F'.keep b o e), F'.above⟩
  refine ⟨m', hn.sameBut hs₂ (Ne.symm hCL), fun h'' hs'' => ?_⟩
  refine done D ys hacc h'' _ (F₂.change hs'' (Ne.symm hCL) hC₀) (fun p hp => ?_) (lc1_eval.off1 off)
  have z : h₂.get? p.1 = some p.2 := hs₂.extBut _ _ (N' p hp).2.1 (N' p hp).1
  refine ⟨hs''.extBut _ _ ?_ z, (N' p hp).2⟩
  rcases List.mem_cons.mp hp with rfl | hp
  · exact Ne.symm hCD
  · exact (off p hp).2
end
end
theorem flush5 : True := by first | (w_top off; k_with_none; walk1; done) | trivial
section
section
variable {prog : Program} {w : World} {A : Around} {E : Value → Shared → Prop} {s : Shared} {env : Env} {h₀ : Heap} {L : Addr} {m : Str → Option Value}

/-- the inner clause, behind its iterable -/
inductive Inner (prog : Program) (w : World) (A : Around) (h₀ : Heap) (L : Addr) (m : Str → Option Value) (elt : Expr) (x₁ x₂ : Str) (ifs : List Expr) (cenv : Env) (s : Shared) (v₁ : Value) (news : List (Addr × Obj)) (I : Addr) (oI : Obj) (C : Addr) (oC : Obj) (D : Addr) (ys : List Value) (out : List Value → Prop) (xv : Value) (s₂ : Shared) : Prop
  | mk (h₂ : _) (tk₂ : _) (extra : _) (n : _) (P : _) (Acc : Nat → List Value → Prop)
    (h1 : s₂ = { s with heap := h₂, toks := tk₂ })
    (h2 : Fr h₀ L h₂ m)
    (h3 : News h₀ L h₂ ((I, oI) :: (C, oC) :: (D, LCg.lst ys) :: (extra ++ news)))
    (h4 : LCg.Off3 I C D (extra ++ news))
    (h5 : Src h₀ ((I, oI) :: (extra ++ news)) h₂ xv n P)
    (h6 : ∀ i ys, Acc i ys → ys.length ≤ sizeLine)
    (h7 : Acc 0 ys)
    (h8 : ∀ ys', Acc n ys' → out ys')
    (h9 : ∀ j v₂ ys₂ I₂ oI₂ oC₂ m₂ h tk, j < n → P j v₂ → Acc j ys₂ → Fr h₀ L h m → News h₀ L h ((I₂, oI₂) :: (C, oC₂) :: (D, LCg.lst ys₂) :: (I, oI) :: (extra ++ news)) → LCg.Off3 I₂ C D ((I, oI) :: (extra ++ news)) → ((@Ne Nat I₂ C) ∧ (@Ne Nat I₂ D) ∧ (@Ne Nat C D)) →
      LCg.NsObj oC₂ m₂ → m₂ x₂ = some v₂ → m₂ x₁ = some v₁ →
      Turn prog w A h₀ L m elt ifs cenv s ((I₂, oI₂) :: (C, oC₂) :: (D, LCg.lst ys₂) :: (I, oI) :: (extra ++ news)) (fun y => Acc (j + 1) (ys₂ ++ [y])) (Acc (j + 1) ys₂) h tk) : Inner prog w A h₀ L m elt x₁ x₂ ifs cenv s v₁ news I oI C oC D ys out xv s₂

/-- two clauses, the first over a walk, without a test -/
theorem mid_walk {R : Result → Shared → Prop} {elt iter iter₂ : Expr} {x₁ x₂ : Str} {px px₂ : Pos} {ifs : List Expr} {scope : Scope} {pos : Pos} {I D C : Addr} {cenv : Env} {fp : List Addr} {n : Nat} {P : Nat → Value → Prop} {St : Nat → Heap → Prop}
    (Acc : Nat → List Value → Prop) {ys₀ : List Value} {m₀ : Str → Option Value} {news : List (Addr × Obj)}
    (hh : A.handled = none) (W : Walks prog w A I fp [I] n P St) (hC : cenv.locals = C) (hx : cenv.kindOf x₁ = some .local) (hx₂ : cenv.kindOf x₂ = some .local) (hx12 : x₁ ≠ x₂) (hp : (cenv.scope.kind == .class || (cenv.scope.kind == .module && cenv.locals != cenv.globals)) = false)
    (hs : ∀ x, foldedSetIterable iter₂ cenv x = pure x)
    (hfp : ∀ b ∈ fp, b = I ∨ Kp h₀ news b) (hIo : ∀ i h, St i h → ∃ o, h.get? I = some o)
    (hDI : D ≠ I) (hCI : C ≠ I) (hDC : D ≠ C) (hIL : L ≠ I) (hDL : L ≠ D) (hCL : L ≠ C) (hI₀ : h₀.get? I = none) (hD₀ : h₀.get? D = none) (hC₀ : h₀.get? C = none) (off : LCg.Off3 I C D news) (lim : ∀ i ys, Acc i ys → ys.length ≤ sizeLine)
    (h0 : Acc 0 ys₀) (hst : St 0 s.heap) (F₀ : Fr h₀ L s.heap m) (N₀ : News h₀ L s.heap news) (hD : s.heap.get? D = some (LCg.lst ys₀)) (hCn : s.heap.Ns C m₀)
    (turn : ∀ i v ys oI oC m₂ h tk, i < n → P i v → Acc i ys → Fr h₀ L h m → News h₀ L h ((I, oI) :: (C, oC) :: (D, LCg.lst ys) :: news) → LCg.NsObj oC m₂ → m₂ x₁ = some v →
      wpAny (model prog w) A (eval iter₂ cenv) (Inner prog w A h₀ L m elt x₁ x₂ ifs cenv s v news I oI C oC D ys (Acc (i + 1))) (fun _ _ => False) { s with heap := h, toks := tk })
    (done : ∀ h tk ys m', Acc n ys → Fr h₀ L h m → News h₀ L h ((D, LCg.lst ys) :: news) → h.Ns C m' → R (.ok .next) { s with heap := h, toks := tk }) :
    codeAny (model prog w) A (.compLoop (.ListComp elt [⟨.Name x₁ px, iter, [], 0⟩, ⟨.Name x₂ px₂, iter₂, ifs, 0⟩] scope pos) 0 (.ref I) (.ref D) cenv) R s := by
  have hIf : I ∈ fp := W.sub I (List.mem_singleton.mpr rfl)
  have off' := off.mem
  have nfC : ∀ {b : Addr}, Kp h₀ news b → b ≠ C := fun {b} k e => by
    rcases k with ⟨o, q⟩ | ⟨o, q⟩
    · rw [e, hC₀] at q; cases q
    · exact (off' _ q).2.1 e
  refine compLoop_mid (fun k s' => ∃ h tk i ys m', s' = { s with heap := h, toks := tk } ∧ i ≤ n ∧ k = n + 1 - i ∧ Acc i ys ∧ St i h ∧ Fr h₀ L h m ∧ News h₀ L h ((D, LCg.lst ys) :: news) ∧ h.Ns C m') rfl rfl rfl hs ?_ (n + 1)
    ⟨s.heap, s.toks, 0, ys₀, m₀, rfl, Nat.zero_le _, rfl, h0, hst, F₀, fun p hp => (by
      rcases List.mem_cons.mp hp with rfl | hp
      · exact ⟨hD, Ne.symm hDL, hD₀⟩
      · exact N₀ p hp), hCn⟩
  rintro k s' ⟨h, tk, i, ys, m', rfl, hi, rfl, hacc, hSt, F, N, hn⟩
  have offA : ∀ p ∈ (D, LCg.lst ys) :: news, p.1 ≠ I ∧ p.1 ≠ C := fun p hp => by
    rcases List.mem_cons.mp hp with rfl | hp
    · exact ⟨hDI, hDC⟩
    · exact ⟨(off' p hp).1, (off' p hp).2.1⟩
  by_cases hlt : i < n
  · refine W.item i _ _ _ hlt hSt fun v h₂ tk₂ hPv hst₂ hk₂ => ?_
    refine wpAny_pure ?_
    have k₂ : ∀ c o, c ≠ I → h.get? c = some o → h₂.get? c = some o := fun c o nc e => hk₂ c o (by simpa using nc) e
    have F₂ := fr_ext F k₂ hIL hI₀
    have N₂ := news_ext N k₂ fun p hp => (offA p hp).1
    refine wpAny_assign_Name (wpAny_storeName_local hx (hC.symm ▸ (hn.at' fun o e => k₂ C o hCI e)) (fun h₃ hn₃ hs₃ => ?_) hp)
    rw [hC] at hn₃ hs₃
    have k₃ : ∀ c o, c ≠ C → h₂.get? c = some o → h₃.get? c = some o := fun c o nc e => hs₃.extBut c o nc e
    have F₃ := fr_ext F₂ k₃ hCL hC₀
    have N₃ := news_ext N₂ k₃ fun p hp => (offA p hp).2
    have hst₃ : St (i + 1) h₃ := W.frame _ _ _ hst₂ fun b hb o e => k₃ b o (fun q => by
      rcases hfp b hb with e | e
      · exact hCI (q ▸ e)
      · exact nfC e q) e
    obtain ⟨oI, heI⟩ := hIo _ _ hst₃
    obtain ⟨oC, heC, hoC⟩ := LCg.ns_obj hn₃
    have N₃' : News h₀ L h₃ ((I, oI) :: (C, oC) :: (D, LCg.lst ys) :: news) := fun p hp => by
      rcases List.mem_cons.mp hp with rfl | hp
      · exact ⟨heI, Ne.symm hIL, hI₀⟩
      · rcases List.mem_cons.mp hp with rfl | hp
        · exact ⟨heC, Ne.symm hCL, hC₀⟩
        · exact N₃ p hp
    refine wpAny_mono (turn i v ys oI oC _ h₃ _ hlt hPv hacc F₃ N₃' hoC (by simp)) (fun xv s₃ h₃' => ?_) fun _ _ e => e
    obtain ⟨h₄, tk₄, extra, n₂, P₂, Acc₂, rfl, F₄, N₄, off₄, S₂, lim₂, a0₂, out₂, turn₂⟩ := h₃'
    have off4 := off₄.mem
    have N₄I : News h₀ L h₄ ((I, oI) :: (extra ++ news)) := fun p hp => by
      rcases List.mem_cons.mp hp with rfl | hp
      · exact N₄ _ (.head _)
      · exact N₄ p (.tail _ (.tail _ (.tail _ hp)))
    refine src_iter S₂ F₄ N₄I hh fun h₅ fp₂ St₂ st₅ sz₅ W₂ hfp₂ hIo₂ hst₂' => ?_
    have lt4 : ∀ p ∈ (I, oI) :: (C, oC) :: (D, LCg.lst ys) :: (extra ++ news), p.1 < h₄.objs.size := fun p hp => Heap.lt_size (N₄ p hp).1
    obtain ⟨hI2₀, hI2L⟩ := fresh_in (s := { s with heap := h₄, toks := tk₄ }) F₄ (Nat.le_refl h₄.objs.size)
    have F₅ : Fr h₀ L h₅ m := F₄.after st₅
    have N₅ : News h₀ L h₅ ((I, oI) :: (C, oC) :: (D, LCg.lst ys) :: (extra ++ news)) := fun p hp => ⟨st₅ _ _ (N₄ p hp).1, (N₄ p hp).2⟩
    have eI2 : ∀ p ∈ (I, oI) :: (C, oC) :: (D, LCg.lst ys) :: (extra ++ news), p.1 ≠ h₄.objs.size := fun p hp => Nat.ne_of_lt (lt4 p hp)
    have hCI2 := eI2 (C, oC) (.tail _ (.head _))
    have hDI2 := eI2 (D, LCg.lst ys) (.tail _ (.tail _ (.head _)))
    have N₅' : News h₀ L h₅ ((I, oI) :: (extra ++ news)) := fun p hp => by
      rcases List.mem_cons.mp hp with rfl | hp
      · exact N₅ _ (.head _)
      · exact N₅ p (.tail _ (.tail _ (.tail _ hp)))
    have offI : LCg.Off3 h₄.objs.size C D ((I, oI) :: (extra ++ news)) := LCg.Off3.of fun p hp => by
      rcases List.mem_cons.mp hp with rfl | hp
      · exact ⟨eI2 _ (.head _), Ne.symm hCI, Ne.symm hDI⟩
      · exact ⟨eI2 p (.tail _ (.tail _ (.tail _ hp))), (off4 p hp).2⟩
    have hCn₅ : h₅.Ns C _ := hoC.ns (N₅ (C, oC) (.tail _ (.head _))).1
    have inner : codeAny (model prog w) A (.compLoop (.ListComp elt [⟨.Name x₁ px, iter, [], 0⟩, ⟨.Name x₂ px₂, iter₂, ifs, 0⟩] scope pos) (0 + 1) (.ref h₄.objs.size) (.ref D) cenv)
        (fun r s₅ => match r with | .ok _ => ∃ m_1, m_1 < n + 1 - i ∧ ∃ h tk i ys m', s₅ = { s with heap := h, toks := tk } ∧ i ≤ n ∧ m_1 = n + 1 - i ∧ Acc i ys ∧ St i h ∧ Fr h₀ L h m ∧ News h₀ L h ((D, LCg.lst ys) :: news) ∧ h.Ns C m' | .error _ => False) { s with heap := h₅, toks := tk₄ } := by
      refine last_walk (s := { s with heap := h₅, toks := tk₄ }) (h₀ := h₀) (L := L) (m := m) (news := (I, oI) :: (extra ++ news)) Acc₂ rfl rfl W₂ hC hx₂ hp hfp₂ hIo₂ hDI2 hCI2 hDC hI2L hDL hCL hI2₀ hD₀ hC₀ offI lim₂ a0₂ hst₂' F₅ N₅' (N₅ (D, LCg.lst ys) (.tail _ (.tail _ (.head _)))).1 hCn₅ ?_ ?_
      · intro j v₂ ys₂ oI₂ oC₂ m₂ h₆ tk₆ hj hP₂ ha₂ F₆ N₆ hoC₂ hm₂ hmz
        exact turn₂ j v₂ ys₂ _ oI₂ oC₂ m₂ h₆ tk₆ hj hP₂ ha₂ F₆ N₆ offI ⟨Ne.symm hCI2, Ne.symm hDI2, Ne.symm hDC⟩ hoC₂ hm₂ (by rw [hmz x₁ hx12]; simp)
      · intro h₆ tk₆ ys₆ m₆ ha₆ F₆ N₆ hn₆ _
        refine ⟨n + 1 - (i + 1), by omega, h₆, tk₆, i + 1, ys₆, m₆, rfl, hlt, rfl, out₂ _ ha₆, W.frame _ _ _ hst₃ fun b hb o e => ?_, F₆, fun p hp => ?_, hn₆⟩
        · rcases hfp b hb with q | q
          · subst q; rw [heI] at e; cases e; exact (N₆ _ (.tail _ (.head _))).1
          · exact q.get F₃ F₆ N₃' N₆ (fun p hp => .tail _ (.tail _ (.tail _ hp))) (fun p hp => .tail _ (.tail _ (List.mem_append_right _ hp))) e
        · rcases List.mem_cons.mp hp with rfl | hp
          · exact N₆ _ (.head _)
          · exact N₆ p (.tail _ (.tail _ (List.mem_append_right _ hp)))
    exact compStart_d (gens := [⟨.Name x₁ px, iter, [], 0⟩, ⟨.Name x₂ px₂, iter₂, ifs, 0⟩]) rfl inner (W₂.self 0 _ _ _ hst₂' inner)
  · obtain rfl : i = n := Nat.le_antisymm hi (Nat.not_lt.mp hlt)
    refine W.done _ _ _ hSt fun h₂ tk₂ hk₂ => ?_
    have k₂ : ∀ c o, c ≠ I → h.get? c = some o → h₂.get? c = some o := fun c o nc e => hk₂ c o (by simpa using nc) e
    exact done h₂ tk₂ ys m' hacc (fr_ext F k₂ hIL hI₀) (news_ext N k₂ fun p hp => (offA p hp).1) (hn.at' fun o e => k₂ C o hCI e)

/-- two clauses assigned to a local name -/
inductive Lc2 (prog : Program) (w : World) (A : Around) (h₀ : Heap) (L : Addr) (m : Str → Option Value) (elt iter₂ : Expr) (x₁ x₂ : Str) (ifs : List Expr) (scope : Scope) (cl : List (Str × Addr)) (env : Env) (s₁ : Shared) (xv : Value) (Fin : Shared → Addr → Prop → List (Addr × Obj) → List Value → Prop) : Prop
  | mk (n : _) (P : _) (Acc : Nat → List Value → Prop) (news : _)
    (h1 : Src h₀ news s₁.heap xv n P)
    (h2 : A.handled = none)
    (h3 : Fr h₀ L s₁.heap m)
    (h4 : News h₀ L s₁.heap news)
    (h5 : ∀ i ys, Acc i ys → ys.length ≤ sizeLine)
    (h6 : Acc 0 [])
    (h7 : ∀ i v ys I oI C oC D m₂ h tk, i < n → P i v → Acc i ys → Fr h₀ L h m → News h₀ L h ((I, oI) :: (C, oC) :: (D, LCg.lst ys) :: news) → LCg.Off3 I C D news → ((@Ne Nat I C) ∧ (@Ne Nat I D) ∧ (@Ne Nat C D)) → LCg.NsObj oC m₂ → m₂ x₁ = some v →
      wpAny (model prog w) A (eval iter₂ (compEnvC scope cl C env)) (Inner prog w A h₀ L m elt x₁ x₂ ifs (compEnvC scope cl C env) s₁ v news I oI C oC D ys (Acc (i + 1))) (fun _ _ => False) { s₁ with heap := h, toks := tk })
    (h8 : ∀ D ys, Fin s₁ D (Acc n ys) news ys) : Lc2 prog w A h₀ L m elt iter₂ x₁ x₂ ifs scope cl env s₁ xv Fin

theorem lc2_assign {elt iter iter₂ : Expr} {x₁ x₂ y : Str} {px px₂ py : Pos} {ifs : List Expr} {scope : Scope} {cl : List (Str × Addr)} {pos spos : Pos} {Q : Flow → Shared → Prop} (hLe : env.locals = L)
    (hsw : swapsWith (.ListComp elt [⟨.Name x₁ px, iter, [], 0⟩, ⟨.Name x₂ px₂, iter₂, ifs, 0⟩] scope pos) (some (.Name y py)) spos.line env = pure true)
    (hclos : closureFor scope env = pure cl) (hcell : ∀ y ∈ scope.names, y.2 ≠ .cell) (hkind : scope.kind = .function)
    (hnames : ∀ y ∈ scope.names, y.2 = .local → scope.names.lookup y.1 = some .local) (hx : scope.names.lookup x₁ = some .local) (hx₂ : scope.names.lookup x₂ = some .local) (hx12 : x₁ ≠ x₂)
    (hy : env.kindOf y = some .local) (hp : (env.scope.kind == .class || (env.scope.kind == .module && env.locals != env.globals)) = false)
    (h : wpAny (model prog w) A (eval iter env) (fun xv s₁ => Lc2 prog w A h₀ L m elt iter₂ x₁ x₂ ifs scope cl env s₁ xv (fun s₁ D acc news ys => acc → ∀ h tk, Fr h₀ L h (fun z => if z = y then some (.ref D) else m z) → News h₀ L h ((D, LCg.lst ys) :: news) → LCg.Off1 D news →
      Q .next { s₁ with heap := h, toks := tk })) E s)
    (hs : ∀ x, foldedSetIterable iter env x = pure x := by intro _; rfl) (hs₂ : ∀ env x, foldedSetIterable iter₂ env x = pure x := by intro _ _; rfl) :
    wpAny (model prog w) A (exec (.Assign [.Name y py] (.ListComp elt [⟨.Name x₁ px, iter, [], 0⟩, ⟨.Name x₂ px₂, iter₂, ifs, 0⟩] scope pos) spos) env) Q E s := by
  subst hLe
  rw [exec_Assign_Name_used _ _ _ _ hsw]
  refine wpAny_bind (wpAny_standAt (wpAny_bind ?_))
  show wpAny _ A (do let _ ← comprehension (.ListComp elt [⟨.Name x₁ px, iter, [], 0⟩, ⟨.Name x₂ px₂, iter₂, ifs, 0⟩] scope pos) scope env _ (newList []) false (eval iter env) (some (assign (.Name y py) env))) _ _ s
  refine wpAny_bind (wpAny_mono (wpAny_comprehension_free (use := some (assign (.Name y py) env)) (Q := fun _ s' => Q .next s') rfl hs hclos hkind hnames
    (wpAny_mono h (fun xv s₁ h₁ => ?_) fun _ _ e => e)) (fun _ s' hq => wpAny_pure (wpAny_pure hq)) fun _ _ e => e)
  obtain ⟨n, P, Acc, news, S, hh, F, N, lim, a0, turn, done⟩ := h₁
  refine src_iter S F N hh fun h₂ fp St st₂ sz₂ W hfp hIo hst => ?_
  refine block (gens := [⟨.Name x₁ px, iter, [], 0⟩, ⟨.Name x₂ px₂, iter₂, ifs, 0⟩]) rfl W hst hcell hkind fun D C h₁ tk st₁ hD hC hDl hCl hDC hst₁ => ?_
  have hDl' : s₁.heap.objs.size + 1 ≤ D := by simpa [sz₂] using hDl
  have hCl' : s₁.heap.objs.size + 1 ≤ C := by simpa [sz₂] using hCl
  obtain ⟨hI₀, hIL⟩ := fresh_in F (Nat.le_refl s₁.heap.objs.size)
  obtain ⟨hD₀, hDL⟩ := fresh_in F (Nat.le_of_succ_le hDl')
  obtain ⟨hC₀, hCL⟩ := fresh_in F (Nat.le_of_succ_le hCl')
  have old : s₁.heap.StaysIn h₁ := fun b o e => st₁ b o (st₂ b o e)
  have F₁ : Fr h₀ env.locals h₁ m := F.after old
  have N₁ : News h₀ env.locals h₁ news := fun p hp => ⟨old _ _ (N p hp).1, (N p hp).2⟩
  have hDI : D ≠ s₁.heap.objs.size := fun e => absurd (e ▸ hDl') (Nat.not_succ_le_self _)
  have hCI : C ≠ s₁.heap.objs.size := fun e => absurd (e ▸ hCl') (Nat.not_succ_le_self _)
  have lt : ∀ p ∈ news, p.1 < s₁.heap.objs.size := fun p hp => Heap.lt_size (N p hp).1
  have ltD : ∀ p ∈ news, p.1 ≠ D := fun p hp e => absurd (Nat.lt_of_lt_of_le (Nat.lt_succ_of_lt (lt p hp)) (e ▸ hDl')) (Nat.lt_irrefl _)
  have ltC : ∀ p ∈ news, p.1 ≠ C := fun p hp e => absurd (Nat.lt_of_lt_of_le (Nat.lt_succ_of_lt (lt p hp)) (e ▸ hCl')) (Nat.lt_irrefl _)
  have off : LCg.Off3 s₁.heap.objs.size C D news := LCg.Off3.of fun p hp => ⟨Nat.ne_of_lt (lt p hp), ltC p hp, ltD p hp⟩
  refine mid_walk (s := { s₁ with heap := h₁, toks := tk }) (h₀ := h₀) (L := env.locals) (m := m) (news := news) Acc hh W rfl (lookup_relabel_local hx) (lookup_relabel_local hx₂) hx12 (by simp [compEnvC, relabel, hkind]) (fun x => hs₂ _ x) hfp hIo hDI hCI hDC hIL hDL hCL hI₀ hD₀ hC₀ off lim a0 hst₁ F₁ N₁ hD hC ?_ ?_
  · intro i v ys oI oC m₂ h tk' hi hP hacc F' N' hoC hm
    refine wpAny_mono (turn i v ys _ oI C oC D m₂ h tk' hi hP hacc F' N' off ⟨Ne.symm hCI, Ne.symm hDI, Ne.symm hDC⟩ hoC hm) (fun xv s₂ hI => ?_) fun _ _ e => e
    obtain ⟨h₂, tk₂, extra, n₂, P₂, Acc₂, e1, e2, e3, e4, e5, e6, e7, e8, e9⟩ := hI
    exact ⟨h₂, tk₂, extra, n₂, P₂, Acc₂, e1, e2, e3, e4, e5, e6, e7, e8, e9⟩
  · intro h tk' ys m' hacc F' N' hn
    have off2 : ∀ p ∈ news, p.1 ≠ D ∧ p.1 ≠ C := fun p hp => ⟨ltD p hp, ltC p hp⟩
    show wpAny _ A (assign (.Name y py) env (.ref D)) _ _ _
    have hL₀ : h₀.get? env.locals = none := Heap.get?_none_of_le F'.above
    refine wpAny_assign_Name (wpAny_storeName_local hy F'.ns (fun h₂ hn₂ hs₂ => ?_) hp)
    have F₂ : Fr h₀ env.locals h₂ (fun z => if z = y then some (.ref D) else m z) := ⟨hn₂, fun b o e => hs₂.extBut b o (fun q => by rw [show b = env.locals from q, hL₀] at e; cases e) (F'.keep b o e), F'.above⟩
    refine ⟨m', hn.sameBut hs₂ (Ne.symm hCL), fun h'' hs'' => ?_⟩
    refine done D ys hacc h'' _ (F₂.change hs'' (Ne.symm hCL) hC₀) (fun p hp => ?_) (lc1_eval.off1 off2)
    have z : h₂.get? p.1 = some p.2 := hs₂.extBut _ _ (N' p hp).2.1 (N' p hp).1
    refine ⟨hs''.extBut _ _ ?_ z, (N' p hp).2⟩
    rcases List.mem_cons.mp hp with rfl | hp
    · exact hDC
    · exact (off2 p hp).2
end
end
theorem flush6 : True := by first | (w_top off; k_with_none; walk1; done) | trivial
section
noncomputable def Stop (P : Prop) : Prop := P
section
variable {prog : Program} {w : World} {A : Around} {E : Value → Shared → Prop} {s : Shared} {env : Env} {h₀ : Heap} {L : Addr} {m : Str → Option Value}
theorem lc1S {elt iter : Expr} {x : Str} {px : Pos} {ifs : List Expr} {scope : Scope} {cl : List (Str × Addr)} {pos : Pos} {Q : Value → Shared → Prop} (_F₀ : Fr h₀ L s.heap m)
    (hclos : closureFor scope env = pure cl) (hcell : ∀ y ∈ scope.names, y.2 ≠ .cell) (hkind : scope.kind = .function)
    (hnames : ∀ y ∈ scope.names, y.2 = .local → scope.names.lookup y.1 = some .local) (hx : scope.names.lookup x = some .local)
    (h : wpAny (model prog w) A (eval iter env) (fun xv s₁ => Stop (Lc1 prog w A h₀ L m elt x ifs scope cl env s₁ xv (fun s₁ D acc news ys => acc → ∀ h tk, Fr h₀ L h m → News h₀ L h ((D, LCg.lst ys) :: news) → LCg.Off1 D news → Q (.ref D) { s₁ with heap := h, toks := tk }))) E s)
    (hs : ∀ x, foldedSetIterable iter env x = pure x := by intro _; rfl) :
    wpAny (model prog w) A (eval (.ListComp elt [⟨.Name x px, iter, ifs, 0⟩] scope pos) env) Q E s := lc1_eval hclos hcell hkind hnames hx h hs
theorem lc1SA {elt iter : Expr} {x y : Str} {px py : Pos} {ifs : List Expr} {scope : Scope} {cl : List (Str × Addr)} {pos spos : Pos} {Q : Flow → Shared → Prop} (_F₀ : Fr h₀ L s.heap m) (hLe : env.locals = L)
    (hsw : swapsWith (.ListComp elt [⟨.Name x px, iter, ifs, 0⟩] scope pos) (some (.Name y py)) spos.line env = pure true)
    (hclos : closureFor scope env = pure cl) (hcell : ∀ y ∈ scope.names, y.2 ≠ .cell) (hkind : scope.kind = .function)
    (hnames : ∀ y ∈ scope.names, y.2 = .local → scope.names.lookup y.1 = some .local) (hx : scope.names.lookup x = some .local)
    (hy : env.kindOf y = some .local) (hp : (env.scope.kind == .class || (env.scope.kind == .module && env.locals != env.globals)) = false)
    (h : wpAny (model prog w) A (eval iter env) (fun xv s₁ => Stop (Lc1 prog w A h₀ L m elt x ifs scope cl env s₁ xv (fun s₁ D acc news ys => acc → ∀ h tk, Fr h₀ L h (fun z => if z = y then some (.ref D) else m z) → News h₀ L h ((D, LCg.lst ys) :: news) → LCg.Off1 D news →
      Q .next { s₁ with heap := h, toks := tk }))) E s)
    (hs : ∀ x, foldedSetIterable iter env x = pure x := by intro _; rfl) :
    wpAny (model prog w) A (exec (.Assign [.Name y py] (.ListComp elt [⟨.Name x px, iter, ifs, 0⟩] scope pos) spos) env) Q E s := lc1_assign hLe hsw hclos hcell hkind hnames hx hy hp h hs
theorem lc2SA {elt iter iter₂ : Expr} {x₁ x₂ y : Str} {px px₂ py : Pos} {ifs : List Expr} {scope : Scope} {cl : List (Str × Addr)} {pos spos : Pos} {Q : Flow → Shared → Prop} (_F₀ : Fr h₀ L s.heap m) (hLe : env.locals = L)
    (hsw : swapsWith (.ListComp elt [⟨.Name x₁ px, iter, [], 0⟩, ⟨.Name x₂ px₂, iter₂, ifs, 0⟩] scope pos) (some (.Name y py)) spos.line env = pure true)
    (hclos : closureFor scope env = pure cl) (hcell : ∀ y ∈ scope.names, y.2 ≠ .cell) (hkind : scope.kind = .function)
    (hnames : ∀ y ∈ scope.names, y.2 = .local → scope.names.lookup y.1 = some .local) (hx : scope.names.lookup x₁ = some .local) (hx₂ : scope.names.lookup x₂ = some .local) (hx12 : x₁ ≠ x₂)
    (hy : env.kindOf y = some .local) (hp : (env.scope.kind == .class || (env.scope.kind == .module && env.locals != env.globals)) = false)
    (h : wpAny (model prog w) A (eval iter env) (fun xv s₁ => Stop (Lc2 prog w A h₀ L m elt iter₂ x₁ x₂ ifs scope cl env s₁ xv (fun s₁ D acc news ys => acc → ∀ h tk, Fr h₀ L h (fun z => if z = y then some (.ref D) else m z) → News h₀ L h ((D, LCg.lst ys) :: news) → LCg.Off1 D news →
      Q .next { s₁ with heap := h, toks := tk }))) E s)
    (hs : ∀ x, foldedSetIterable iter env x = pure x := by intro _; rfl) (hs₂ : ∀ env x, foldedSetIterable iter₂ env x = pure x := by intro _ _; rfl) :
    wpAny (model prog w) A (exec (.Assign [.Name y py] (.ListComp elt [⟨.Name x₁ px, iter, [], 0⟩, ⟨.Name x₂ px₂, iter₂, ifs, 0⟩] scope pos) spos) env) Q E s := lc2_assign hLe hsw hclos hcell hkind hnames hx hx₂ hx12 hy hp h hs hs₂
end
end
theorem flush7 : True := by first | (w_top off; k_with_none; walk1; done) | trivial
section
noncomputable def txt (l : List Nat) : Str := ⟨l.toArray⟩
theorem txt_append (a b : List Nat) : txt a ++ txt b = txt (a ++ b) := by
  show (⟨a.toArray ++ b.toArray⟩ : Str) = ⟨(a ++ b).toArray⟩
  rw [List.append_toArray]
theorem txt_length (a : List Nat) : (txt a).length = a.length := by simp [txt, Str.length]
theorem txt_inj {a b : List Nat} (h : txt a = txt b) : a = b := by
  have := congrArg (fun s : Str => s.cps.toList) h
  simpa [txt] using this
theorem lit_blank : Str.ofString " " = txt [32] := by decide +kernel
theorem lit_tab : Str.ofString "\t" = txt [9] := by decide +kernel
theorem lit_x : Str.ofString "x" = txt [120] := by decide +kernel
theorem lit_empty : Str.ofString "" = txt [] := by decide +kernel

noncomputable def blanks (n : Int) : Str := txt (List.replicate n.toNat 32)
theorem mul_blanks (n : Int) : Txt.mul (Str.ofString " ") n = blanks n := by
  rw [lit_blank]
  unfold Txt.mul blanks
  split
  · rename_i h
    rw [show n.toNat = 0 by omega]; rfl
  · split
    · rename_i h1 h2
      simp [txt_length] at h2
      subst h2; rfl
    · generalize n.toNat = k
      show _ = _
      have aux : ∀ (k : Nat) (acc : Array Nat), (List.replicate k (txt [32]).cps).foldl (· ++ ·) acc = acc ++ (List.replicate k 32).toArray := by
        intro k
        induction k with
        | zero => intro acc; simp
        | succ k ih => intro acc; rw [List.replicate_succ, List.foldl_cons, ih, List.replicate_succ]; apply Array.ext'; simp [txt]
      show (⟨_⟩ : Str) = ⟨_⟩
      rw [aux]; simp
theorem blanks_length (n : Int) : (blanks n).length = n.toNat := by simp [blanks, txt_length]

/-- one row's text -/
noncomputable def cellCodes (r : Int) : List Nat := List.replicate r.toNat 32 ++ [9]
noncomputable def leadCodes (ns : List Int) (b : Int) : List Nat := ns.flatMap cellCodes ++ (List.replicate b.toNat 32 ++ [120])
noncomputable def leadStr (ns : List Int) (b : Int) : Str := txt (leadCodes ns b)
noncomputable def cellStr (r : Int) : Str := blanks r ++ Str.ofString "\t"
theorem cellStr_eq (r : Int) : cellStr r = txt (cellCodes r) := by rw [cellStr, lit_tab, blanks, txt_append]; rfl

theorem join_empty (ss : List (List Nat)) : Txt.join (Str.ofString "") (ss.map txt) = txt ss.flatten := by
  show Builtin.Str.glued _ _ = _
  rw [StrLaws.glued_eq_join, lit_empty]
  induction ss with
  | nil => rfl
  | cons a r ih =>
    cases r with
    | nil => simp [Str.join]
    | cons b r =>
      rw [List.map_cons, List.map_cons]
      show txt a ++ txt [] ++ Str.join (txt []) (txt b :: r.map txt) = _
      rw [← List.map_cons, ih, txt_append, txt_append]
      simp

theorem lead_eq (ns : List Int) (b : Int) : Txt.join (Str.ofString "") (ns.map cellStr) ++ blanks b ++ Str.ofString "x" = leadStr ns b := by
  have e : ns.map cellStr = (ns.map cellCodes).map txt := by rw [List.map_map]; exact List.map_congr_left fun r _ => cellStr_eq r
  rw [e, join_empty, blanks, lit_x, txt_append, txt_append, leadStr, leadCodes, List.append_assoc, List.flatMap_def]

section
variable {prog : Program} {w : World} {A : Around} {E : Value → Shared → Prop} {s : Shared} {h₀ : Heap} {L : Addr} {news : List (Addr × Obj)}
theorem mul_bl {n : Int} {t u : Tok} {Q : Value → Shared → Prop} (h0 : 0 ≤ n) (h1 : n ≤ 10000) (h : ∀ t' k, Q (.str (blanks n) t') { s with toks := k }) :
    wpAny (model prog w) A (binaryOp .Mult (.str (Str.ofString " ") t) (.int n u)) Q E s := by
  refine SB.mul (mulOk_of 1 10000 (by decide +kernel) (by omega) (by omega) (by decide) (by decide)) fun t' k => ?_
  rw [mul_blanks]; exact h t' k
theorem add_ss {x y : Str} {t u : Tok} {Q : Value → Shared → Prop} (hsz : x.length + y.length ≤ 16777216) (h : ∀ t' k, Q (.str (x ++ y) t') { s with toks := k }) :
    wpAny (model prog w) A (binaryOp .Add (.str x t) (.str y u)) Q E s := SB.add h (by rw [PySem.sizeLine_eq]; exact hsz)
theorem join_L {D : Addr} {ys : List Value} {n : Nat} {ss : List Str} {x : Str} {t : Tok} {Q : Value → Shared → Prop} (N : News h₀ L s.heap news) (hm : (D, ({ cls := .type "list", data := .seq ys.toArray n } : Obj)) ∈ news)
    (hi : StrsAre ys ss) (hsep : x.length ≤ 16) (hw : (ss.map (·.length)).sum + ss.length ≤ 1048576) (h : ∀ t' k, Q (.str (Txt.join x ss) t') { s with toks := k }) :
    wpAny (model prog w) A (call (.builtin "str.join") [.str x t, .ref D]) Q E s := join_listW ⟨_, (N _ hm).1, rfl, n, rfl⟩ (by simpa using hi) hsep hw h
end
theorem sum_cells : ∀ (ns : List Int), (∀ x ∈ ns, 0 ≤ x ∧ x ≤ 64) → ((ns.map cellStr).map (·.length)).sum ≤ 65 * ns.length
  | [], _ => by simp
  | a :: r, h => by
    have ih := sum_cells r fun x hx => h x (.tail _ hx)
    have ha := h a (.head _)
    simp only [List.map_cons, List.sum_cons, List.length_cons]
    have : (cellStr a).length = a.toNat + 1 := by rw [cellStr_eq, txt_length]; simp [cellCodes]
    rw [this]; omega
theorem join_cells_len (ns : List Int) (h : ∀ x ∈ ns, 0 ≤ x ∧ x ≤ 64) : (Txt.join (Str.ofString "") (ns.map cellStr)).length ≤ 65 * ns.length := by
  show (Builtin.Str.glued _ _).length ≤ _
  rw [StrLaws.glued_eq_join]
  refine Nat.le_trans (StrLaws.join_length_le _ _) ?_
  have := sum_cells ns h
  rw [lit_empty, txt_length]
  simp only [List.length_nil, Nat.mul_zero, Nat.add_zero]
  exact this
end
theorem flush8 : True := by first | (w_top off; k_with_none; walk1; done) | trivial
section
theorem ints_get {vs : List Value} {ns : List Int} (hI : IntsAre vs ns) {k : Int} (h0 : 0 ≤ k) (h1 : k < ns.length) : ∃ t, vs[k.toNat]? = some (.int (ns.getD k.toNat 0) t) := by
  have hlt : k.toNat < ns.length := by omega
  obtain ⟨t, ht⟩ := hI.get k.toNat ns[k.toNat] (by simp [hlt])
  exact ⟨t, by rw [ht]; simp [hlt]⟩
section
variable {prog : Program} {w : World} {A : Around} {E : Value → Shared → Prop} {s : Shared} {h₀ : Heap} {L : Addr} {m : Str → Option Value} {news : List (Addr × Obj)} {t : Addr} {vs : List Value} {cs : List Int} {k : Int} {u : Tok}
theorem t_len {Q : Value → Shared → Prop} (F : Fr h₀ L s.heap m) (hT : IsTup h₀ t vs.toArray) (hI : IntsAre vs cs) (hfit : cs.length ≤ 1000000) (h : ∀ tk k, Q (.int cs.length tk) { s with toks := k }) :
    wpAny (model prog w) A (call (.builtin "len") [.ref t]) Q E s := by
  have hl := hI.length
  exact len_tuple (F.tup hT) (by rw [List.size_toArray]; omega) (by rw [List.size_toArray, hl]; exact h _ _)
theorem t_at {value slice : Expr} {Q : Value → Shared → Prop} (F : Fr h₀ L s.heap m) (hT : IsTup h₀ t vs.toArray) (hI : IntsAre vs cs) (hfit : cs.length ≤ 1000000) (h0 : 0 ≤ k) (h1 : k < cs.length) (h : ∀ tk, Q (.int (cs.getD k.toNat 0) tk) s)
    (hs : subscripted slice false (.ref t) (.int k u) = operate [.ref t, .int k u] (getItem (.ref t) (.int k u)) := by with_unfolding_all rfl) :
    wpAny (model prog w) A (subscriptTail value slice (.ref t) (.int k u)) Q E s := by
  obtain ⟨tk, ht⟩ := ints_get hI h0 h1
  have hl := hI.length
  refine item_tupleT (F.tup hT) (by omega) (by omega) (j := k.toNat) ?_ ht (h tk) hs
  unfold seqIndex?
  simp only [show ¬ k < 0 by omega, if_false]
  rw [if_pos (by simp; omega)]
theorem l_at {value slice : Expr} {Q : Value → Shared → Prop} (hl : s.heap.IsList t vs.toArray) (hI : IntsAre vs cs) (hfit : cs.length ≤ 1000000) (h0 : 0 ≤ k) (h1 : k < cs.length) (h : ∀ tk, Q (.int (cs.getD k.toNat 0) tk) s)
    (hs : subscripted slice false (.ref t) (.int k u) = operate [.ref t, .int k u] (getItem (.ref t) (.int k u)) := by with_unfolding_all rfl) :
    wpAny (model prog w) A (subscriptTail value slice (.ref t) (.int k u)) Q E s := by
  obtain ⟨tk, ht⟩ := ints_get hI h0 h1
  exact tail_any hl.typeIs slot_list_getitem.lookup (wpAny_getItem_list hl h0 (by omega) (by simpa using ht) (h tk)) hs
theorem news_list (N : News h₀ L s.heap news) {n : Nat} (hm : (t, ({ cls := .type "list", data := .seq vs.toArray n } : Obj)) ∈ news) : s.heap.IsList t vs.toArray := ⟨_, (N _ hm).1, rfl, n, rfl⟩
theorem base_list (F : Fr h₀ L s.heap m) (hl : h₀.IsList t vs.toArray) : s.heap.IsList t vs.toArray := hl.at fun o e => F.keep _ o e
end
noncomputable def extN (n : Nat) (us : List Value) : Nat := if us.length = 0 then n else n + 1
section
variable {prog : Program} {w : World} {A : Around} {E : Value → Shared → Prop} {s : Shared} {h₀ : Heap} {L D b : Addr} {m : Str → Option Value} {news news' : List (Addr × Obj)} {us us2 : List Value} {n n2 : Nat}
theorem ext_L {Q : Value → Shared → Prop} (F : Fr h₀ L s.heap m) (N : News h₀ L s.heap news) (hb : (b, W.listOf us2.toArray n2) ∈ news)
    (U : Upd D (W.listOf us.toArray n) (W.listOf (us ++ us2).toArray (extN n us2)) news news') (hz : us.length ≤ 100000) (hz2 : us2.length ≤ 100000)
    (h : ∀ h', Fr h₀ L h' m → News h₀ L h' news' → Q .none { s with heap := h' }) : wpAny (model prog w) A (call (.builtin "list.extend") [.ref D, .ref b]) Q E s := by
  obtain ⟨pre, post, rfl, rfl, a, c⟩ := U.split
  have z := N (D, W.listOf us.toArray n) (List.mem_append.mpr (.inr (.head _)))
  refine call_meets PySem.F.slot_list_extend ⟨_, z.1, rfl⟩ PySem.F.entry_list_extend (PySem.F.args_list_extend_2 _ _) (PySem.AutoSeq1.list_extend_list_list_0 D us.toArray n b us2.toArray n2 ?_ (by rw [PySem.sizeLine_eq, List.size_toArray]; omega) (by rw [PySem.sizeLine_eq, List.size_toArray, List.size_toArray]; omega))
    ⟨z.1, (N _ hb).1, h _ (F.change (Heap.SameBut.update ..) z.2.1 z.2.2) ?_⟩
  · intro hc
    rw [Bool.and_eq_true] at hc
    have := hc.2
    unfold Builtin.List.listTooLong at this
    rw [decide_eq_true_eq, PySem.sizeLine_eq, List.size_toArray, List.size_toArray] at this
    omega
  · unfold extN
    by_cases h0 : us2.length = 0
    · rw [if_pos h0]
      exact kl_turn0 (fun x => x ++ us2.toArray) N a c (by simp) (by simp [List.length_eq_zero_iff.mp h0])
    · rw [if_neg h0]
      exact kl_turn (fun x => x ++ us2.toArray) N a c (by simp) (by rw [List.size_toArray, List.size_toArray, List.length_append]; omega)
end
theorem small_len {a : Nat} (h : a ≤ 7) : a ≤ 100000 := Nat.le_trans h (by decide)
theorem idx_ne {k : Int} : ∀ {ns : List Int} {j : Nat}, j < ns.idxOf k → ns[j]? = some k → False
  | [], _, _, e => by simp at e
  | n :: r, j, h, e => by
    rw [List.idxOf_cons] at h
    by_cases q : n = k
    · subst q; simp at h
    · have e' : (n == k) = false := by simpa using q
      rw [e'] at h
      simp only [cond_false, Bool.false_eq_true, if_false] at h
      cases j with
      | zero => simp at e; exact q e
      | succ j => exact idx_ne (Nat.lt_of_succ_lt_succ h) (by simpa using e)
theorem ints_rm {k : Int} : ∀ {us : List Value} {ns : List Int}, IntsAre us ns → k ∈ ns → IntsAre (us.eraseIdx (ns.idxOf k)) (ns.erase k)
  | _, _, .nil, h => nomatch h
  | _, _, .cons n t (vs := vs) (ns := ns) r, h => by
    by_cases e : n = k
    · subst e
      simpa using r
    · have hk : k ∈ ns := by
        rcases List.mem_cons.mp h with q | q
        · exact absurd q.symm e
        · exact q
      have e' : (n == k) = false := by simpa using e
      rw [List.idxOf_cons, List.erase_cons, e']
      simp only [cond_false, Bool.false_eq_true, if_false, List.eraseIdx_cons_succ]
      exact .cons n t (ints_rm r hk)
section
variable {prog : Program} {w : World} {A : Around} {E : Value → Shared → Prop} {s : Shared} {h₀ : Heap} {L D b : Addr} {m : Str → Option Value} {news news' : List (Addr × Obj)} {us us2 : List Value} {n n2 : Nat} {ns : List Int} {k : Int} {t : Tok}
theorem rm_L {Q : Value → Shared → Prop} (F : Fr h₀ L s.heap m) (N : News h₀ L s.heap news) (hI : IntsAre us ns) (hk : k ∈ ns) (hz : ns.length ≤ 100000)
    (U : Upd D (W.listOf us.toArray n) (W.listOf (us.eraseIdx (ns.idxOf k)).toArray (n + 1)) news news')
    (h : ∀ h', Fr h₀ L h' m → News h₀ L h' news' → Q .none { s with heap := h' }) : wpAny (model prog w) A (call (.builtin "list.remove") [.ref D, .int k t]) Q E s := by
  obtain ⟨pre, post, rfl, rfl, a, c⟩ := U.split
  have z := N (D, W.listOf us.toArray n) (List.mem_append.mpr (.inr (.head _)))
  have hl := hI.length
  have hlt : ns.idxOf k < us.length := by rw [hl]; exact List.idxOf_lt_length_of_mem hk
  have hat : us[ns.idxOf k]? = some (.int k (0 : Nat)) ∨ ∃ t', us[ns.idxOf k]? = some (.int k t') := by
    right
    exact hI.get _ k (by rw [List.getElem?_eq_getElem (hl ▸ hlt)]; simp)
  have hat' : ∃ t', us[ns.idxOf k]? = some (.int k t') := hat.elim (fun e => ⟨_, e⟩) id
  refine call_meets PySem.F.slot_list_remove ⟨_, z.1, rfl⟩ PySem.F.entry_list_remove (PySem.F.args_list_remove_2 _ _) (MeetsSeq.list_remove D us.toArray n (.int k t) (isInt k) (fun y hy => eq_isInt k t hI y (by simpa using hy)) (ns.idxOf k) (by simpa using hlt) ?_ ?_ (by rw [PySem.sizeLine_eq, List.size_toArray]; omega))
    ⟨z.1, h _ (F.change (Heap.SameBut.update ..) z.2.1 z.2.2) (kl_turn (fun xs => xs.eraseIdxIfInBounds (ns.idxOf k)) N a c ?_ ?_)⟩
  · obtain ⟨t', e⟩ := hat'
    rw [List.getElem?_eq_getElem hlt] at e
    simp only [List.getElem_toArray]
    rw [Option.some.inj e]
    simp [isInt]
  · intro j hj hlt'
    have hj' : j < us.length := by simpa using hj
    obtain ⟨n', t', e1, e2⟩ := hI.at j us[j] (by simp [hj'])
    simp only [List.getElem_toArray]
    rw [e1]
    have hne : n' ≠ k := fun e => by
      have : ns[j]? = some k := by rw [e2, e]
      exact idx_ne hlt' this
    simp [isInt, hne]
  · simp [Array.eraseIdxIfInBounds, hlt]
  · rw [List.size_toArray, List.size_toArray, List.length_eraseIdx, if_pos hlt]; omega
end
section
variable {prog : Program} {w : World} {A : Around} {E : Value → Shared → Prop} {s : Shared} {h₀ : Heap} {L D : Addr} {m : Str → Option Value} {news news' : List (Addr × Obj)} {us : List Value} {n : Nat} {x : Value}
theorem app_L {Q : Value → Shared → Prop} (F : Fr h₀ L s.heap m) (N : News h₀ L s.heap news) (U : Upd D (W.listOf us.toArray n) (W.listOf (us ++ [x]).toArray (n + 1)) news news') (hz : us.length ≤ 100000)
    (h : ∀ h', Fr h₀ L h' m → News h₀ L h' news' → Q .none { s with heap := h' }) : wpAny (model prog w) A (call (.builtin "list.append") [.ref D, x]) Q E s := by
  refine append_K F N (its := us.toArray) (n := n) (x := x) (news' := news') ?_ h (by rw [PySem.sizeLine_eq, List.size_toArray]; omega)
  rw [List.push_toArray]; exact U
end
theorem hi_elim {P : Prop} {h₀ h : Heap} {L b : Addr} {news : List (Addr × Obj)} {us : List Value} {n : Nat} {ns : List Int} (_N : News h₀ L h news) (_hm : (b, W.listOf us.toArray n) ∈ news) (hi : IntsAre us ns) (k : IntsAre us ns → P) : P := k hi
/-- a new list of ints -/
inductive NewInts (rs : List Int) (g h : Heap) (v : Value) : Prop
  | mk (r : _) (us : _) (n : _)
    (h1 : v = .ref r)
    (h2 : g.get? r = none)
    (h3 : h.get? r = some (W.listOf us.toArray n))
    (h4 : IntsAre us rs) : NewInts rs g h v
section
variable {h₀ h h' : Heap} {L r : Addr} {m : Str → Option Value} {news : List (Addr × Obj)} {o : Obj}
theorem off1_of' {I : Addr} : ∀ {l : List (Addr × Obj)}, (∀ p ∈ l, p.1 ≠ I) → LCg.Off1 I l
  | [], _ => trivial
  | _ :: _, h => ⟨h _ (.head _), off1_of' fun p hp => h p (.tail _ hp)⟩
theorem news_add (F : Fr h₀ L h m) (st : h.StaysIn h') (N : News h₀ L h' news) (hr : h.get? r = none) (ho : h'.get? r = some o) : News h₀ L h' ((r, o) :: news) := fun p hp => by
  rcases List.mem_cons.mp hp with rfl | hp
  · refine ⟨ho, fun e => ?_, ?_⟩
    · obtain ⟨oL, _, _, hL, _⟩ := F.ns
      rw [← e, hr] at hL; cases hL
    · cases q : h₀.get? r with
      | none => rfl
      | some x => have := F.keep _ _ q; rw [hr] at this; cases this
  · exact N p hp
theorem news_off (N : News h₀ L h news) (hr : h.get? r = none) : LCg.Off1 r news := off1_of' fun p hp e => by have := (N p hp).1; rw [e, hr] at this; cases this
end
theorem Call.useInts {w : World} {D : Nat} {f : Addr} {args : List Value} {Pre : Heap → Prop} {rs : List Int}
    {A₀ A : Around} {base h₀ : Heap} {outer : List Env} {L : Addr} {m : Str → Option Value} {env : Env} {news : List (Addr × Obj)} {p : Program} {loose : List Str} {mean : ExcName → Option Value} {mg mb : Str → Option Value} {s : Shared} {Q E : Value → Shared → Prop}
    (hh : A.handled = none) (hd : A.depth ≤ D) (hu : A.units ≤ D - 300) (hA : A.frames = some (env :: outer)) (hf : env.frame = some L) (hke : env.scope.kind = .function)
    (B : Below A₀ base outer h₀) (F : Fr h₀ L s.heap m) (X : (Mine.hd.heap_1 w.params).In h₀) (N : News h₀ L s.heap news) (T : Top p loose mean mg mb h₀)
    (hp : Pre s.heap) (C : Call w D f args Pre (NewInts rs))
    (ret : ∀ h' tk, Fr h₀ L h' m → ∀ r us n, IntsAre us rs → News h₀ L h' ((r, W.listOf us.toArray n) :: news) → LCg.Off1 r news → Q (.ref r) { s with heap := h', toks := tk }) : wpAny (model PySem.Challenge.rw_ty0024_01.row.toRowW.prog w) A (call (.ref f) args) Q E s := by
  refine C.use hh hd hu hA hf hke B F X N T hp fun v h' tk F' N' st po => ?_
  obtain ⟨r, us, n, rfl, hr, ho, hi⟩ := po
  exact ret h' tk F' r us n hi (news_add F st N' hr ho) (news_off N hr)
theorem map_k {m : Str → Option Value} (ps : List (Str × Value)) (h : ∀ p ∈ ps, m p.1 = some p.2) : m = kstB m ps := by
  funext z
  exact (kstB_eq h fun _ => rfl).symm
theorem map_k1 {m : Str → Option Value} {a0 : Str} {v0 : Value} (h : ∀ p ∈ [(a0, v0)], m p.1 = some p.2) : m = fun z => if z = a0 then some v0 else m z := (map_k _ h).trans rfl
theorem map_k2 {m : Str → Option Value} {a0 a1 : Str} {v0 v1 : Value} (h : ∀ p ∈ [(a0, v0), (a1, v1)], m p.1 = some p.2) : m = fun z => if z = a0 then some v0 else if z = a1 then some v1 else m z := (map_k _ h).trans rfl
theorem map_k3 {m : Str → Option Value} {a0 a1 a2 : Str} {v0 v1 v2 : Value} (h : ∀ p ∈ [(a0, v0), (a1, v1), (a2, v2)], m p.1 = some p.2) : m = fun z => if z = a0 then some v0 else if z = a1 then some v1 else if z = a2 then some v2 else m z := (map_k _ h).trans rfl
theorem map_k4 {m : Str → Option Value} {a0 a1 a2 a3 : Str} {v0 v1 v2 v3 : Value} (h : ∀ p ∈ [(a0, v0), (a1, v1), (a2, v2), (a3, v3)], m p.1 = some p.2) : m = fun z => if z = a0 then some v0 else if z = a1 then some v1 else if z = a2 then some v2 else if z = a3 then some v3 else m z := (map_k _ h).trans rfl
theorem map_k5 {m : Str → Option Value} {a0 a1 a2 a3 a4 : Str} {v0 v1 v2 v3 v4 : Value} (h : ∀ p ∈ [(a0, v0), (a1, v1), (a2, v2), (a3, v3), (a4, v4)], m p.1 = some p.2) : m = fun z => if z = a0 then some v0 else if z = a1 then some v1 else if z = a2 then some v2 else if z = a3 then some v3 else if z = a4 then some v4 else m z := (map_k _ h).trans rfl
theorem map_k6 {m : Str → Option Value} {a0 a1 a2 a3 a4 a5 : Str} {v0 v1 v2 v3 v4 v5 : Value} (h : ∀ p ∈ [(a0, v0), (a1, v1), (a2, v2), (a3, v3), (a4, v4), (a5, v5)], m p.1 = some p.2) : m = fun z => if z = a0 then some v0 else if z = a1 then some v1 else if z = a2 then some v2 else if z = a3 then some v3 else if z = a4 then some v4 else if z = a5 then some v5 else m z := (map_k _ h).trans rfl
theorem map_k7 {m : Str → Option Value} {a0 a1 a2 a3 a4 a5 a6 : Str} {v0 v1 v2 v3 v4 v5 v6 : Value} (h : ∀ p ∈ [(a0, v0), (a1, v1), (a2, v2), (a3, v3), (a4, v4), (a5, v5), (a6, v6)], m p.1 = some p.2) : m = fun z => if z = a0 then some v0 else if z = a1 then some v1 else if z = a2 then some v2 else if z = a3 then some v3 else if z = a4 then some v4 else if z = a5 then some v5 else if z = a6 then some v6 else m z := (map_k _ h).trans rfl
theorem map_k8 {m : Str → Option Value} {a0 a1 a2 a3 a4 a5 a6 a7 : Str} {v0 v1 v2 v3 v4 v5 v6 v7 : Value} (h : ∀ p ∈ [(a0, v0), (a1, v1), (a2, v2), (a3, v3), (a4, v4), (a5, v5), (a6, v6), (a7, v7)], m p.1 = some p.2) : m = fun z => if z = a0 then some v0 else if z = a1 then some v1 else if z = a2 then some v2 else if z = a3 then some v3 else if z = a4 then some v4 else if z = a5 then some v5 else if z = a6 then some v6 else if z = a7 then some v7 else m z := (map_k _ h).trans rfl
theorem map_k9 {m : Str → Option Value} {a0 a1 a2 a3 a4 a5 a6 a7 a8 : Str} {v0 v1 v2 v3 v4 v5 v6 v7 v8 : Value} (h : ∀ p ∈ [(a0, v0), (a1, v1), (a2, v2), (a3, v3), (a4, v4), (a5, v5), (a6, v6), (a7, v7), (a8, v8)], m p.1 = some p.2) : m = fun z => if z = a0 then some v0 else if z = a1 then some v1 else if z = a2 then some v2 else if z = a3 then some v3 else if z = a4 then some v4 else if z = a5 then some v5 else if z = a6 then some v6 else if z = a7 then some v7 else if z = a8 then some v8 else m z := (map_k _ h).trans rfl
end
theorem flush9 : True := by first | (w_top off; k_with_none; walk1; done) | trivial
section
/-- a turn of a for goes on -/
noncomputable def ForNext (h₀ : Heap) (L : Addr) (s : Shared) (I : Addr) (oI : Obj) (J : (Str → Option Value) → List (Addr × Obj) → Prop) (s' : Shared) : Prop :=
  ∃ h' tk m' news', s' = { s with heap := h', toks := tk } ∧ Fr h₀ L h' m' ∧ News h₀ L h' ((I, oI) :: news') ∧ LCg.Off1 I news' ∧ J m' news'
theorem ForNext.intro {h₀ : Heap} {L : Addr} {s : Shared} {I : Addr} {oI : Obj} {J : (Str → Option Value) → List (Addr × Obj) → Prop} {h' : Heap} {tk : Nat} {m' : Str → Option Value} {all : List (Addr × Obj)} (F : Fr h₀ L h' m') (N : News h₀ L h' all)
    (news' : List (Addr × Obj)) (sub : ∀ p ∈ (I, oI) :: news', p ∈ all) (off : LCg.Off1 I news') (j : J m' news') : ForNext h₀ L s I oI J { s with heap := h', toks := tk } := ⟨h', tk, m', news', rfl, F, fun p hp => N p (sub p hp), off, j⟩
noncomputable def ForEnd (h₀ : Heap) (L : Addr) (s : Shared) (I : Addr) (oI : Obj) (J : (Str → Option Value) → List (Addr × Obj) → Prop) (Q : Flow → Shared → Prop) (f : Flow) (s' : Shared) : Prop :=
  match f with
  | .ret v => Q (.ret v) s'
  | .brk => Q .next s'
  | _ => ForNext h₀ L s I oI J s'
theorem off1_mem {I : Addr} : ∀ {l : List (Addr × Obj)}, LCg.Off1 I l → ∀ p ∈ l, p.1 ≠ I
  | [], _, _, h => nomatch h
  | _ :: _, x, p, h => by
    rcases List.mem_cons.mp h with rfl | h
    · exact x.1
    · exact off1_mem x.2 p h
theorem off1_of {I : Addr} : ∀ {l : List (Addr × Obj)}, (∀ p ∈ l, p.1 ≠ I) → LCg.Off1 I l
  | [], _ => trivial
  | _ :: _, h => ⟨h _ (.head _), off1_of fun p hp => h p (.tail _ hp)⟩

section
variable {prog : Program} {w : World} {A : Around} {E : Value → Shared → Prop} {s : Shared} {env : Env} {h₀ : Heap} {L : Addr}

theorem for_walk {x : Str} {px : Pos} {body orelse : List Stmt} {I : Addr} {fp : List Addr} {n : Nat} {P : Nat → Value → Prop} {St : Nat → Heap → Prop} {Q : Flow → Shared → Prop} {m₀ : Str → Option Value} {news₀ : List (Addr × Obj)}
    (J : Nat → (Str → Option Value) → List (Addr × Obj) → Prop)
    (W : Walks prog w A I fp [I] n P St) (hfp : ∀ b ∈ fp, b = I ∨ (∃ o, h₀.get? b = some o) ∨ ∃ o, ∀ i m news, J i m news → (b, o) ∈ news) (hIo : ∀ i h, St i h → ∃ o, h.get? I = some o)
    (hI₀ : h₀.get? I = none) (hIL : L ≠ I) (hst : St 0 s.heap) (F₀ : Fr h₀ L s.heap m₀) (N₀ : News h₀ L s.heap news₀) (off₀ : ∀ p ∈ news₀, p.1 ≠ I) (hj : J 0 m₀ news₀)
    (turn : ∀ i v m news oI h tk, i < n → P i v → J i m news → Fr h₀ L h m → News h₀ L h ((I, oI) :: news) → LCg.Off1 I news →
      wpAny (model prog w) A (storeName env x v) (fun _ s₂ => wpAny (model prog w) A (execs body env) (ForEnd h₀ L s I oI (J (i + 1)) Q) (fun _ _ => False) s₂) (fun _ _ => False) { s with heap := h, toks := tk })
    (done : ∀ m news h tk, J n m news → Fr h₀ L h m → News h₀ L h news → wpAny (model prog w) A (execs orelse env) (fun f s₃ => Q f s₃) (fun _ _ => False) { s with heap := h, toks := tk }) :
    codeAny (model prog w) A (.forLoop (.Name x px) (.ref I) body orelse env) (fun r s' => match r with | .ok f => Q f s' | .error e => cameBackBy (model prog w) A env E e s') s := by
  refine codeAny_forLoop_any (fun k s' => ∃ h tk i m news, s' = { s with heap := h, toks := tk } ∧ i ≤ n ∧ k = n + 1 - i ∧ St i h ∧ Fr h₀ L h m ∧ News h₀ L h news ∧ (∀ p ∈ news, p.1 ≠ I) ∧ J i m news) ?_ (n + 1)
    ⟨s.heap, s.toks, 0, m₀, news₀, rfl, Nat.zero_le _, rfl, hst, F₀, N₀, off₀, hj⟩
  rintro k s' ⟨h, tk, i, m, news, rfl, hi, rfl, hSt, F, N, off, hJ⟩
  by_cases hlt : i < n
  · refine W.item i _ _ _ hlt hSt fun v h₂ tk₂ hPv hst₂ hk₂ => ?_
    refine wpAny_pure ?_
    have k₂ : ∀ c o, c ≠ I → h.get? c = some o → h₂.get? c = some o := fun c o nc e => hk₂ c o (by simpa using nc) e
    have F₂ := fr_ext F k₂ hIL hI₀
    have N₂ := news_ext N k₂ off
    obtain ⟨oI, heI⟩ := hIo _ _ hst₂
    have N₂' : News h₀ L h₂ ((I, oI) :: news) := fun p hp => by
      rcases List.mem_cons.mp hp with rfl | hp
      · exact ⟨heI, Ne.symm hIL, hI₀⟩
      · exact N₂ p hp
    refine wpAny_assign_Name ?_
    refine wpAny_mono (turn i v m news oI h₂ tk₂ hlt hPv hJ F₂ N₂' (off1_of off)) (fun _ s₂ h₂' => ?_) fun _ _ e => e.elim
    refine wpAny_mono h₂' (fun f s₃ h₃ => ?_) fun _ _ e => e.elim
    have fin : ForNext h₀ L s I oI (J (i + 1)) s₃ → ∃ m_1, m_1 < n + 1 - i ∧ ∃ h tk i m news, s₃ = { s with heap := h, toks := tk } ∧ i ≤ n ∧ m_1 = n + 1 - i ∧ St i h ∧ Fr h₀ L h m ∧ News h₀ L h news ∧ (∀ p ∈ news, p.1 ≠ I) ∧ J i m news := by
      rintro ⟨h', tk', m', news', rfl, F', N', off', hJ'⟩
      refine ⟨n + 1 - (i + 1), by omega, h', tk', i + 1, m', news', rfl, hlt, rfl, W.frame _ _ _ hst₂ fun b hb o e => ?_, F', fun p hp => N' p (.tail _ hp), off1_mem off', hJ'⟩
      rcases hfp b hb with q | ⟨o', q⟩ | ⟨o', q⟩
      · subst q; rw [heI] at e; cases e; exact (N' _ (.head _)).1
      · have := F₂.keep _ _ q; rw [e] at this; rw [Option.some.inj this]; exact F'.keep _ _ q
      · have := (N₂' _ (.tail _ (q _ _ _ hJ))).1; rw [show h₂.get? b = _ from e] at this; rw [Option.some.inj this]; exact (N' _ (.tail _ (q _ _ _ hJ'))).1
    cases f with
    | ret v => exact h₃
    | brk => exact h₃
    | next => exact fin h₃
    | cont => exact fin h₃
  · obtain rfl : i = n := Nat.le_antisymm hi (Nat.not_lt.mp hlt)
    refine W.done _ _ _ hSt fun h₂ tk₂ hk₂ => ?_
    have k₂ : ∀ c o, c ≠ I → h.get? c = some o → h₂.get? c = some o := fun c o nc e => hk₂ c o (by simpa using nc) e
    exact wpAny_mono (done m news h₂ tk₂ hJ (fr_ext F k₂ hIL hI₀) (news_ext N k₂ off)) (fun _ _ e => e) fun _ _ e => e.elim

noncomputable def SeqAt (h : Heap) (b : Addr) : Prop := (∃ its, h.IsList b its) ∨ ∃ its, h.IsTuple b its
theorem range_noseq {h : Heap} {r : Addr} {a b c : Int} {t u v : Tok} (x : IsRange h r a b c t u v) (y : SeqAt h r) : False := by
  have x' : h.get? r = some _ := x
  rcases y with ⟨_, o, e, hc, _⟩ | ⟨_, o, e, hc, _⟩
  · rw [x'] at e; cases e; exact absurd (show Value.type "range" = Value.type "list" from hc) (by decide)
  · rw [x'] at e; cases e; exact absurd (show Value.type "range" = Value.type "tuple" from hc) (by decide)
/-- what is asked of a for behind its iterable -/
inductive Fo (prog : Program) (w : World) (A : Around) (h₀ : Heap) (L : Addr) (env : Env) (x : Str) (body orelse : List Stmt) (Q : Flow → Shared → Prop) (s₁ : Shared) (xv : Value) : Prop
  | mk (n : _) (P : _) (m₀ : _) (news₀ : _) (J : Nat → (Str → Option Value) → List (Addr × Obj) → Prop)
    (h1 : Src h₀ news₀ s₁.heap xv n P)
    (h2 : A.handled = none)
    (h3 : Fr h₀ L s₁.heap m₀)
    (h4 : News h₀ L s₁.heap news₀)
    (h5 : J 0 m₀ news₀)
    (h6 : ∀ b, xv = .ref b → SeqAt s₁.heap b → (∃ o, h₀.get? b = some o) ∨ ∃ o, ∀ i m news, J i m news → (b, o) ∈ news)
    (h7 : ∀ i v m news I oI h tk, i < n → P i v → J i m news → Fr h₀ L h m → News h₀ L h ((I, oI) :: news) → LCg.Off1 I news →
      wpAny (model prog w) A (storeName env x v) (fun _ s₂ => wpAny (model prog w) A (execs body env) (ForEnd h₀ L s₁ I oI (J (i + 1)) Q) (fun _ _ => False) s₂) (fun _ _ => False) { s₁ with heap := h, toks := tk })
    (h8 : ∀ m news h tk, J n m news → Fr h₀ L h m → News h₀ L h news → wpAny (model prog w) A (execs orelse env) (fun f s₃ => Q f s₃) (fun _ _ => False) { s₁ with heap := h, toks := tk }) : Fo prog w A h₀ L env x body orelse Q s₁ xv

theorem for_src {iter : Expr} {x : Str} {px pos : Pos} {body orelse : List Stmt} {Q : Flow → Shared → Prop} {m : Str → Option Value} (_F₀ : Fr h₀ L s.heap m)
    (h : wpAny (model prog w) A (eval iter env) (fun xv s₁ => Stop (Fo prog w A h₀ L env x body orelse Q s₁ xv)) E s) (hs : ∀ x, foldedSetIterable iter env x = pure x := by intro _; rfl) :
    wpAny (model prog w) A (exec (.For (.Name x px) iter body orelse pos) env) Q E s := by
  refine wpAny_For (wpAny_mono h (fun xv s₁ h₁ => ?_) fun _ _ e => e) hs
  unfold Stop at h₁
  obtain ⟨n, P, m₀, news₀, J, S, hh, F, N, hj, hfp₀, turn, done⟩ := h₁
  obtain ⟨hI₀, hIL⟩ := fresh_in F (Nat.le_refl s₁.heap.objs.size)
  have go : ∀ (h : Heap) (fp : List Addr) (St : Nat → Heap → Prop), s₁.heap.StaysIn h → Walks prog w A s₁.heap.objs.size fp [s₁.heap.objs.size] n P St → (∀ b ∈ fp, b = s₁.heap.objs.size ∨ (xv = .ref b ∧ SeqAt s₁.heap b)) → (∀ i h, St i h → ∃ o, h.get? s₁.heap.objs.size = some o) → St 0 h →
      codeAny (model prog w) A (.forLoop (.Name x px) (.ref s₁.heap.objs.size) body orelse env) (fun r s' => match r with | .ok f => Q f s' | .error e => cameBackBy (model prog w) A env E e s') { s₁ with heap := h } := by
    intro h fp St st W hfp hIo hst
    refine for_walk (s := { s₁ with heap := h }) (h₀ := h₀) (L := L) J W (fun b hb => ?_) hIo hI₀ hIL hst (F.after st) (fun p hp => ⟨st _ _ (N p hp).1, (N p hp).2⟩) (fun p hp => Nat.ne_of_lt (Heap.lt_size (N p hp).1)) hj ?_ ?_
    · rcases hfp b hb with e | e
      · exact .inl e
      · exact .inr (hfp₀ b e.1 e.2)
    · intro i v m news oI h tk hi hP hJ F' N' off
      exact turn i v m news _ oI h tk hi hP hJ F' N' off
    · intro m news h tk hJ F' N'
      exact done m news h tk hJ F' N'
  have one : ∀ {ax : Addr} {b : Addr}, SeqAt s₁.heap ax → b ∈ [s₁.heap.objs.size, ax] → b = s₁.heap.objs.size ∨ (Value.ref ax = .ref b ∧ SeqAt s₁.heap b) := fun {ax b} hq hb => by
    rcases List.mem_cons.mp hb with e | hb
    · exact .inl e
    · rw [List.mem_singleton.mp hb]; exact .inr ⟨rfl, hq⟩
  have lst : ∀ {ax : Addr} {its : Array Value}, xv = .ref ax → n = its.size → P = (fun i v => its[i]? = some v) → s₁.heap.IsList ax its → wpAny (model prog w) A (pyIter (.ref ax)) (fun it s₂ => codeAny (model prog w) A (.forLoop (.Name x px) it body orelse env) (fun r s' => match r with | .ok f => Q f s' | .error e => cameBackBy (model prog w) A env E e s') s₂) E s₁ := by
    rintro ax its rfl rfl rfl hl
    have hlt : ax < s₁.heap.objs.size := by obtain ⟨_, e, _⟩ := hl; exact Heap.lt_size e
    refine wpAny_pyIter_list hl (go _ _ _ (fun b o e => Heap.get?_push_of_some _ e) (Walks.list hh s₁.heap.objs.size ax (Nat.ne_of_lt hlt) its) (fun b hb => one (.inl ⟨_, hl⟩) hb) (fun i h st => by obtain ⟨o, e, _⟩ := st.1; exact ⟨o, e⟩) ⟨⟨_, Heap.get?_push_size _ rfl, rfl, rfl⟩, hl.push _⟩)
  have tup : ∀ {ax : Addr} {its : Array Value}, xv = .ref ax → n = its.size → P = (fun i v => its[i]? = some v) → s₁.heap.IsTuple ax its → wpAny (model prog w) A (pyIter (.ref ax)) (fun it s₂ => codeAny (model prog w) A (.forLoop (.Name x px) it body orelse env) (fun r s' => match r with | .ok f => Q f s' | .error e => cameBackBy (model prog w) A env E e s') s₂) E s₁ := by
    rintro ax its rfl rfl rfl hl
    have hlt : ax < s₁.heap.objs.size := by obtain ⟨_, e, _⟩ := hl; exact Heap.lt_size e
    refine wpAny_pyIter_tuple hl (go _ _ _ (fun b o e => Heap.get?_push_of_some _ e) (Walks.tuple hh s₁.heap.objs.size ax (Nat.ne_of_lt hlt) its) (fun b hb => one (.inr ⟨_, hl⟩) hb) (fun i h st => by obtain ⟨o, e, _⟩ := st.1; exact ⟨o, e⟩) ⟨⟨_, Heap.get?_push_size _ rfl, rfl, rfl⟩, hl.at fun o e => Heap.get?_push_of_some _ e⟩)
  cases S with
  | @listB ax its hl => exact lst rfl rfl rfl (hl.at fun o e => F.keep _ o e)
  | @listN ax its kk hm => exact lst rfl rfl rfl ⟨_, (N _ hm).1, rfl, kk, rfl⟩
  | @tupB ax its hl =>
    refine tup (its := its) rfl rfl rfl ?_
    obtain ⟨o, e, r⟩ := hl
    exact ⟨o, F.keep _ _ e, r⟩
  | @tupN ax its kk hm => exact tup rfl rfl rfl ⟨_, (N _ hm).1, rfl, kk, rfl⟩
  | @range r a b t u v n hr hsm hn =>
    refine wpAny_pyIter_range hr hsm ?_
    refine go _ _ _ (fun b o e => Heap.get?_push_of_some _ e) (LCg.range_walks hh a n) (fun b hb => .inl (List.mem_singleton.mp hb)) (fun i h st => ⟨_, st⟩) ?_
    show IsRangeIter _ _ _ _ _
    rw [hn]; simpa using Heap.get?_push_size _ rfl

/-- over a text's signs -/
inductive FoS (prog : Program) (w : World) (A : Around) (h₀ : Heap) (L : Addr) (env : Env) (x : Str) (body orelse : List Stmt) (Q : Flow → Shared → Prop) (s₁ : Shared) (xv : Value) : Prop
  | mk (t : _) (tk₀ : _) (m₀ : _) (news₀ : _) (J : Nat → (Str → Option Value) → List (Addr × Obj) → Prop)
    (h1 : xv = .str t tk₀)
    (h2 : A.handled = none)
    (h3 : Fr h₀ L s₁.heap m₀)
    (h4 : News h₀ L s₁.heap news₀)
    (h5 : J 0 m₀ news₀)
    (h6 : ∀ i c u m news I oI h tk, t.cps[i]? = some c → J i m news → Fr h₀ L h m → News h₀ L h ((I, oI) :: news) → LCg.Off1 I news →
      wpAny (model prog w) A (storeName env x (.str ⟨#[c]⟩ u)) (fun _ s₂ => wpAny (model prog w) A (execs body env) (ForEnd h₀ L s₁ I oI (J (i + 1)) Q) (fun _ _ => False) s₂) (fun _ _ => False) { s₁ with heap := h, toks := tk })
    (h7 : ∀ m news h tk, J t.cps.size m news → Fr h₀ L h m → News h₀ L h news → wpAny (model prog w) A (execs orelse env) (fun f s₃ => Q f s₃) (fun _ _ => False) { s₁ with heap := h, toks := tk }) : FoS prog w A h₀ L env x body orelse Q s₁ xv
theorem for_srcS {iter : Expr} {x : Str} {px pos : Pos} {body orelse : List Stmt} {Q : Flow → Shared → Prop} {m : Str → Option Value} (_F₀ : Fr h₀ L s.heap m)
    (h : wpAny (model prog w) A (eval iter env) (fun xv s₁ => Stop (FoS prog w A h₀ L env x body orelse Q s₁ xv)) E s) (hs : ∀ x, foldedSetIterable iter env x = pure x := by intro _; rfl) :
    wpAny (model prog w) A (exec (.For (.Name x px) iter body orelse pos) env) Q E s := by
  refine wpAny_For (wpAny_mono h (fun xv s₁ h₁ => ?_) fun _ _ e => e) hs
  unfold Stop at h₁
  obtain ⟨t, tk₀, m₀, news₀, J, rfl, hh, F, N, hj, turn, done⟩ := h₁
  obtain ⟨hI₀, hIL⟩ := fresh_in F (Nat.le_refl s₁.heap.objs.size)
  have go : ∀ (o : Obj) (St : Nat → Heap → Prop), Walks prog w A s₁.heap.objs.size [s₁.heap.objs.size] [s₁.heap.objs.size] t.cps.size (SignAt t) St → (∀ i h, St i h → ∃ o, h.get? s₁.heap.objs.size = some o) → St 0 (s₁.heap.push o) →
      codeAny (model prog w) A (.forLoop (.Name x px) (.ref s₁.heap.objs.size) body orelse env) (fun r s' => match r with | .ok f => Q f s' | .error e => cameBackBy (model prog w) A env E e s') { s₁ with heap := s₁.heap.push o } := by
    intro o St W hIo hst
    have st : s₁.heap.StaysIn (s₁.heap.push o) := fun b o e => Heap.get?_push_of_some _ e
    refine for_walk (s := { s₁ with heap := s₁.heap.push o }) (h₀ := h₀) (L := L) J W (fun b hb => .inl (List.mem_singleton.mp hb)) hIo hI₀ hIL hst (F.after st) (fun p hp => ⟨st _ _ (N p hp).1, (N p hp).2⟩) (fun p hp => Nat.ne_of_lt (Heap.lt_size (N p hp).1)) hj ?_ ?_
    · intro i v m news oI h tk _ hP hJ F' N' off
      obtain ⟨c, u, hc, rfl⟩ := hP
      exact turn i c u m news _ oI h tk hc hJ F' N' off
    · intro m news h tk hJ F' N'
      exact done m news h tk hJ F' N'
  cases ha : t.cps.all (· < 128)
  · exact wpAny_pyIter_wide ha (go _ _ (Walks.strWide hh _ t tk₀) (fun i h st => by obtain ⟨o, e, _⟩ := st; exact ⟨o, e⟩) ⟨_, Heap.get?_push_size _ rfl, rfl, rfl⟩)
  · exact wpAny_pyIter_ascii ha (go _ _ (Walks.strAscii hh _ t tk₀) (fun i h st => by obtain ⟨o, e, _⟩ := st; exact ⟨o, e⟩) ⟨_, Heap.get?_push_size _ rfl, rfl, rfl⟩)
end
end
theorem flush10 : True := by first | (w_top off; k_with_none; walk1; done) | trivial
section
noncomputable def WhNext (h₀ : Heap) (L : Addr) (s : Shared) (J : Nat → (Str → Option Value) → List (Addr × Obj) → Prop) (k : Nat) (s' : Shared) : Prop :=
  ∃ h' tk m' news' k', s' = { s with heap := h', toks := tk } ∧ Fr h₀ L h' m' ∧ News h₀ L h' news' ∧ k' < k ∧ J k' m' news'
theorem WhNext.intro {h₀ : Heap} {L : Addr} {s : Shared} {J : Nat → (Str → Option Value) → List (Addr × Obj) → Prop} {k : Nat} {h' : Heap} {tk : Nat} {m' : Str → Option Value} {all : List (Addr × Obj)} (F : Fr h₀ L h' m') (N : News h₀ L h' all)
    (news' : List (Addr × Obj)) (k' : Nat) (sub : ∀ p ∈ news', p ∈ all) (lt : k' < k) (j : J k' m' news') : WhNext h₀ L s J k { s with heap := h', toks := tk } := ⟨h', tk, m', news', k', rfl, F, fun p hp => N p (sub p hp), lt, j⟩
noncomputable def WhEnd (h₀ : Heap) (L : Addr) (s : Shared) (J : Nat → (Str → Option Value) → List (Addr × Obj) → Prop) (k : Nat) (Q : Flow → Shared → Prop) (f : Flow) (s' : Shared) : Prop :=
  match f with
  | .ret v => Q (.ret v) s'
  | .brk => Q .next s'
  | _ => WhNext h₀ L s J k s'

section
variable {prog : Program} {w : World} {A : Around} {E : Value → Shared → Prop} {s : Shared} {env : Env} {h₀ : Heap} {L : Addr}
inductive Wh (prog : Program) (w : World) (A : Around) (h₀ : Heap) (L : Addr) (env : Env) (test : Expr) (body orelse : List Stmt) (Q : Flow → Shared → Prop) (s : Shared) : Prop
  | mk (m₀ : _) (news₀ : _) (k₀ : _) (J : Nat → (Str → Option Value) → List (Addr × Obj) → Prop)
    (h1 : Fr h₀ L s.heap m₀)
    (h2 : News h₀ L s.heap news₀)
    (h3 : J k₀ m₀ news₀)
    (h4 : ∀ k m news h tk, J k m news → Fr h₀ L h m → News h₀ L h news →
      wpAny (model prog w) A (isTrue test env (eval test env)) (fun b s₂ => if b = true then wpAny (model prog w) A (execs body env) (WhEnd h₀ L s J k Q) (fun _ _ => False) s₂
        else wpAny (model prog w) A (execs orelse env) (fun f s₃ => Q f s₃) (fun _ _ => False) s₂) (fun _ _ => False) { s with heap := h, toks := tk }) : Wh prog w A h₀ L env test body orelse Q s
theorem while_src {test : Expr} {body orelse : List Stmt} {pos : Pos} {Q : Flow → Shared → Prop} {m : Str → Option Value} (_F₀ : Fr h₀ L s.heap m)
    (h : Stop (Wh prog w A h₀ L env test body orelse Q s)) : wpAny (model prog w) A (exec (.While test body orelse pos) env) Q E s := by
  obtain ⟨m₀, news₀, k₀, J, F, N, hj, turn⟩ := h
  refine wpAny_While ?_
  refine codeAny_whileLoop (fun k s' => ∃ h tk m news, s' = { s with heap := h, toks := tk } ∧ Fr h₀ L h m ∧ News h₀ L h news ∧ J k m news) ?_ k₀ ⟨s.heap, s.toks, m₀, news₀, rfl, F, N, hj⟩
  rintro k s' ⟨h, tk, m, news, rfl, F, N, hJ⟩
  refine wpAny_mono (turn k m news h tk hJ F N) (fun b s₂ h₂ => ?_) fun _ _ e => e.elim
  cases b with
  | false =>
    simp only [Bool.false_eq_true, if_false] at h₂ ⊢
    exact wpAny_mono h₂ (fun _ _ e => e) fun _ _ e => e.elim
  | true =>
    simp only [if_true] at h₂ ⊢
    refine wpAny_mono h₂ (fun f s₃ h₃ => ?_) fun _ _ e => e.elim
    have fin : WhNext h₀ L s J k s₃ → ∃ m_1, m_1 < k ∧ ∃ h tk m news, s₃ = { s with heap := h, toks := tk } ∧ Fr h₀ L h m ∧ News h₀ L h news ∧ J m_1 m news := by
      rintro ⟨h', tk', m', news', k', rfl, F', N', lt, hJ'⟩
      exact ⟨k', lt, h', tk', m', news', rfl, F', N', hJ'⟩
    cases f with
    | ret v => exact h₃
    | brk => exact h₃
    | next => exact fin h₃
    | cont => exact fin h₃
end
end
theorem flush11 : True := by first | (w_top off; k_with_none; walk1; done) | trivial
section
set_option maxHeartbeats 8000000

inductive RowsPost (g h : Heap) (v : Value) : Prop
  | mk (rs : List Int) (hn : NewInts rs g h v) (l1 : 5 ≤ rs.length) (l2 : rs.length ≤ 7) (hb : ∀ x ∈ rs, 1 ≤ x ∧ x ≤ 6) : RowsPost g h v
theorem rows_c (w : World) (l : Addr) (vs : List Value) (ns : List Int) (hI : IntsAre vs ns) (hlen : ns.length ≤ 21) :
   Call w 390 114 [.ref l] (fun h => h.IsList l vs.toArray) RowsPost := by
  have hfill : PySem.Challenge.rw_ty0024_01 = PySem.Challenge.rw_ty0024_01 ∧ Mine.hd.heap_1 = Mine.hd.heap_1 := by k_fill; exact ⟨rfl, rfl⟩
  clear hfill
  refine' enter (binds := [("numbers", .ref l)]) ?k1 ?k2 ?k3 ?k4 ?k5 ?k6 ?k7 ?k8 ?k9 ?k10
  case k1 => k_is
  case k2 => k_is
  case k3 => decide
  case k4 => exact rfl
  case k5 => exact locs rfl
  case k6 => decide
  case k8 => exact rfl
  case k9 => exact rfl
  case k10 => exact rfl
  intro p loose mean mg mb base lenv g L h₁ s tk hg F N B X T hp
  try k_fold
  k_with "pyIter ref" => k_state (fun pre items => items.length = 7) "sizes"
  k_steps
  refine Done.intro (by assumption) ⟨_, ⟨_, _, _, rfl, News.fresh (by assumption) (List.Mem.head _), News.get (by assumption) (List.Mem.head _), by assumption⟩, ?_, ?_, ?_⟩
  · simp only [List.length_map, List.length_take, kInv]; omega
  · simp only [List.length_map, List.length_take, kInv]; omega
  · intro x hx
    obtain ⟨k, _, rfl⟩ := List.mem_map.mp hx
    have h1 := Int.fmod_nonneg_of_pos k (b := 6) (by decide)
    have h2 := Int.fmod_lt_of_pos k (b := 6) (by decide)
    omega
end
theorem flush12 : True := by first | (w_top off; k_with_none; walk1; done) | trivial
local macro_rules | `(tactic| walk_at "call builtin:list.extend") => `(tactic| (k_here; (with_reducible show wpAny _ _ (call (Value.builtin _) [Value.ref _, Value.ref _]) _ _ _); k_dflt (refine' ext_L ?F ?N ?b ?U ?z ?y ?_; (case F => k_asm); (case N => k_asm); (case b => k_mem); (case U => k_upd); (case z => first | omega | exact Nat.le_of_ble_eq_true rfl); (case y => first | omega | exact Nat.le_of_ble_eq_true rfl)); intro h' F' N'; (try dsimp only at N'); (try k_sweep)))
local macro_rules | `(tactic| walk_at "call builtin:list.remove") => `(tactic| (k_here; (with_reducible show wpAny _ _ (call (Value.builtin _) [Value.ref _, Value.int _ _]) _ _ _); k_dflt (refine' rm_L ?F ?N ?i ?k ?z ?U ?_; (case F => k_asm); (case N => k_asm); (case U => k_upd); (case i => first | with_reducible assumption | exact ints_rm (by with_reducible assumption) (by with_reducible assumption)); (case k => with_reducible assumption); (case z => omega)); intro h' F' N'; (try dsimp only at N'); (try k_sweep)))
local macro_rules | `(tactic| walk_at "call builtin:list.append") => `(tactic| (k_here; (with_reducible show wpAny _ _ (call (Value.builtin _) [Value.ref _, _]) _ _ _); k_dflt (refine' app_L ?F ?N ?U ?z ?_; (case F => k_asm); (case N => k_asm); (case U => k_upd); (case z => first | omega | exact small_len (by assumption))); intro h' F' N'; (try dsimp only at N'); (try k_sweep)))
local macro_rules | `(tactic| k_room) => `(tactic| ((try simp only [depth_under_make, depth_under_kw, depth_in1, depth_deeper, depth_caller, aT_depth]); decide))
local macro_rules | `(tactic| walk_at $s:str) => `(tactic| k_extra $s)
section
set_option maxHeartbeats 8000000
theorem words1 : True := by
  k_with "eval ListComp" => (k_here; k_dflt (refine lc1S (by k_asm) (by with_unfolding_all rfl) (by decide) (by rfl) (by decide) (by rfl) ?_))
  k_with "exec Assign cons ListComp" => (k_here; (with_reducible show wpAny _ _ (exec (Stmt.Assign _ (Expr.ListComp _ [_] _ _) _) _) _ _ _); k_dflt (refine lc1SA (by k_asm) (by rfl) (by kernel_rfl) (by first | rfl | with_unfolding_all rfl) (by decide) (by rfl) (by decide) (by rfl) (by rfl) (by rfl) ?_))
  k_with "exec Assign cons ListComp" => (k_here; (with_reducible show wpAny _ _ (exec (Stmt.Assign _ (Expr.ListComp _ [_, _] _ _) _) _) _ _ _); k_dflt (refine lc2SA (by k_asm) (by rfl) (by kernel_rfl) (by first | rfl | with_unfolding_all rfl) (by decide) (by rfl) (by decide) (by rfl) (by rfl) (by decide) (by rfl) (by rfl) ?_))
  k_with "binaryOp Mult str int" => (k_here; k_dflt (refine mul_bl (by omega) (by omega) ?_); intro _ _ )
  k_with "binaryOp Add str str" => (k_here; k_dflt (refine add_ss (by (simp only [Str.length_append, blanks_length, txt_length, lit_blank, lit_tab, lit_x, lit_empty, List.length_cons, List.length_nil] at *; omega)) ?_); intro _ _ )
  k_with "call builtin:str.join" => (k_here; k_dflt (refine join_L (by k_asm) (by k_mem) (by k_asm) (by decide +kernel) (by k_asm) ?_); intro _ _ )
  k_with "call builtin:len" => (k_here; (with_reducible show wpAny _ _ (call (Value.builtin "len") [Value.ref _]) _ _ _); k_dflt (refine t_len (by k_asm) (by with_reducible assumption) (by with_reducible assumption) (by omega) ?_); intro _ _ )
  k_with "subscriptTail" => (k_here; (with_reducible show wpAny _ _ (subscriptTail _ _ (Value.ref _) (Value.int _ _)) _ _ _); k_dflt (refine t_at (by k_asm) (by with_reducible assumption) (by with_reducible assumption) (by omega) (by omega) (by omega) ?_); intro _ )
  k_with "subscriptTail" => (k_here; (with_reducible show wpAny _ _ (subscriptTail _ _ (Value.ref _) (Value.int _ _)) _ _ _); k_dflt (refine l_at (by exact news_list (by k_asm) (by k_mem)) (by with_reducible assumption) (by omega) (by omega) (by omega) ?_); intro _ )
  k_with "ForEnd" => (dsimp only [ForEnd])
  k_with "WhEnd" => (dsimp only [WhEnd])
  trivial
/-- the counting -/
structure Wst where
  n : Int
  b : Int
  nt : Int
  cnt : List Int
noncomputable def fit (cnt : List Int) (b : Int) : List Int := if cnt.length ≤ b then cnt ++ List.replicate (b - cnt.length + 1).toNat 0 else cnt
noncomputable def bump (cnt : List Int) (b : Int) : List Int := (fit cnt b).set b.toNat ((fit cnt b).getD b.toNat 0 + 1)
noncomputable def wstep (st : Wst) (c : Nat) : Wst := if c = 32 then ⟨st.n + 1, st.b + 1, st.nt, st.cnt⟩ else ⟨st.n + 1, 0, st.nt + 1, bump st.cnt st.b⟩
noncomputable def wfold (l : List Nat) : Wst := l.foldl wstep ⟨0, 0, 0, []⟩
theorem wfold_snoc (l : List Nat) (c : Nat) : wfold (l ++ [c]) = wstep (wfold l) c := by unfold wfold; rw [List.foldl_append]; rfl
theorem fit_len (cnt : List Int) (b : Int) (h0 : 0 ≤ b) : b < ((fit cnt b).length : Int) ∧ ((fit cnt b).length : Int) ≤ max (cnt.length : Int) (b + 1) := by
  unfold fit
  split
  · rw [List.length_append, List.length_replicate]; omega
  · omega
noncomputable def Winv (st : Wst) (k : Nat) : Prop := st.n = k ∧ 0 ≤ st.b ∧ st.b ≤ k ∧ 0 ≤ st.nt ∧ st.nt ≤ k ∧ (st.cnt.length : Int) ≤ k
theorem wstep_inv {st : Wst} {k : Nat} (h : Winv st k) (c : Nat) : Winv (wstep st c) (k + 1) := by
  unfold Winv at h ⊢
  rw [wstep]
  have hf := fit_len st.cnt st.b h.2.1
  split
  · dsimp only; omega
  · simp only [bump, List.length_set]; omega
theorem fold_inv : ∀ (l : List Nat) (st : Wst) (k : Nat), Winv st k → Winv (l.foldl wstep st) (k + l.length)
  | [], _, _, h => h
  | c :: r, st, k, h => by
    have := fold_inv r (wstep st c) (k + 1) (wstep_inv h c)
    rw [List.length_cons, show k + (r.length + 1) = k + 1 + r.length by omega]
    exact this
theorem wfold_inv (l : List Nat) : Winv (wfold l) l.length := by
  have := fold_inv l ⟨0, 0, 0, []⟩ 0 (by unfold Winv; decide)
  rwa [Nat.zero_add] at this
theorem row_codes {ns : List Int} {b : Int} {c : Nat} (h : c ∈ ns.flatMap cellCodes ++ List.replicate b.toNat 32) : c = 32 ∨ c = 9 := by
  rcases List.mem_append.mp h with h | h
  · obtain ⟨r, _, h⟩ := List.mem_flatMap.mp h
    unfold cellCodes at h
    rcases List.mem_append.mp h with h | h
    · exact .inl (List.eq_of_mem_replicate h)
    · exact .inr (List.mem_singleton.mp h)
  · exact .inl (List.eq_of_mem_replicate h)
noncomputable def preCodes (ns : List Int) (b : Int) : List Nat := ns.flatMap cellCodes ++ List.replicate b.toNat 32
theorem lead_pre (ns : List Int) (b : Int) : leadCodes ns b = preCodes ns b ++ [120] := by unfold leadCodes preCodes; rw [List.append_assoc]
/-- the state behind i signs -/
noncomputable def wat (pre : List Nat) (i : Nat) : Wst := wfold (pre.take i)
theorem wat_succ {pre : List Nat} {i c : Nat} (h : pre[i]? = some c) : wat pre (i + 1) = wstep (wat pre i) c := by
  unfold wat; rw [List.take_add_one, h, Option.toList_some, wfold_snoc]
theorem wat_inv (pre : List Nat) (i : Nat) (h : i ≤ pre.length) : Winv (wat pre i) i := by
  have := wfold_inv (pre.take i)
  rwa [List.length_take, Nat.min_eq_left h] at this
theorem code_at {pre : List Nat} {i c : Nat} (h : (pre ++ [120])[i]? = some c) : (i < pre.length ∧ pre[i]? = some c) ∨ (i = pre.length ∧ c = 120) := by
  by_cases hi : i < pre.length
  · rw [List.getElem?_append_left hi] at h; exact .inl ⟨hi, h⟩
  · rw [List.getElem?_append_right (Nat.not_lt.mp hi)] at h
    have h0 : i - pre.length = 0 := by
      cases e : i - pre.length with
      | zero => rfl
      | succ k => rw [e] at h; simp at h
    rw [h0] at h
    exact .inr ⟨by omega, by simpa using h.symm⟩
noncomputable abbrev rawObj (w : World) (ns : List Int) (b0 : Int) (t0 tkr : Tok) : Obj := W.dictOf [{ hash := PyData.keyHash w.params (Str.ofString "raw"), key := Value.str (Str.ofString "raw") tkr, val := Value.str (leadStr ns b0) t0 }] 1
theorem wstep_32 (st : Wst) : wstep st 32 = ⟨st.n + 1, st.b + 1, st.nt, st.cnt⟩ := rfl
theorem wstep_9 (st : Wst) : wstep st 9 = ⟨st.n + 1, 0, st.nt + 1, bump st.cnt st.b⟩ := rfl
/-- a Whitespace -/
structure WsD where
  x : Addr
  dx : Addr
  nx : Addr
  cx : Addr
  raw : Str
  n : Int
  nt : Int
  b : Int
  cs : List Int
  us : List Value
  si : Bool
  t0 : Tok
  t1 : Tok
  t2 : Tok
  t3 : Tok
  t4 : Tok
  t5 : Tok
  t6 : Tok
  t7 : Tok
  t8 : Tok
noncomputable def WsD.In (w : World) (d : WsD) (h : Heap) : Prop := h.get? d.x = some (instObj 98 d.dx) ∧
  h.get? d.dx = some (W.dictOf [{ hash := PyData.keyHash w.params (Str.ofString "raw"), key := Value.str (Str.ofString "raw") d.t0, val := Value.str d.raw d.t1 },
    { hash := PyData.keyHash w.params (Str.ofString "n"), key := Value.str (Str.ofString "n") d.t2, val := Value.int d.n d.t3 },
    { hash := PyData.keyHash w.params (Str.ofString "nt"), key := Value.str (Str.ofString "nt") d.t4, val := Value.int d.nt d.t5 },
    { hash := PyData.keyHash w.params (Str.ofString "norm"), key := Value.str (Str.ofString "norm") d.t6, val := Value.ref d.nx },
    { hash := PyData.keyHash w.params (Str.ofString "is_simple"), key := Value.str (Str.ofString "is_simple") d.t7, val := Value.bool d.si }] 5) ∧
  h.get? d.nx = some { cls := Value.type "tuple", data := Data.seq #[Value.ref d.cx, Value.int d.b d.t8] } ∧
  h.get? d.cx = some { cls := Value.type "tuple", data := Data.seq d.us.toArray } ∧ IntsAre d.us d.cs
noncomputable def WsD.New (d : WsD) (g : Heap) : Prop := g.get? d.x = none ∧ g.get? d.dx = none ∧ g.get? d.nx = none ∧ g.get? d.cx = none
theorem bump_hi {cnt : List Int} {b : Int} (h : (cnt.length : Int) ≤ b) : bump cnt b = (cnt ++ (List.replicate (b - cnt.length + 1).toNat [0]).flatten).set b.toNat ((cnt ++ (List.replicate (b - cnt.length + 1).toNat [0]).flatten).getD b.toNat 0 + 1) := by
  unfold bump fit; rw [if_pos h, List.flatten_replicate_singleton]
theorem bump_lo {cnt : List Int} {b : Int} (h : ¬(cnt.length : Int) ≤ b) : bump cnt b = cnt.set b.toNat (cnt.getD b.toNat 0 + 1) := by
  unfold bump fit; rw [if_neg h]
theorem news_ne {h₀ h : Heap} {L a b : Addr} {news : List (Addr × Obj)} {o1 o2 : Obj} (N : News h₀ L h news) (h1 : (a, o1) ∈ news) (h2 : (b, o2) ∈ news) (hne : (o1.cls == o2.cls) = false) : @Ne Nat a b := fun e => by
  have e1 := (N _ h1).1
  have e2 := (N _ h2).1
  rw [show a = b from e] at e1
  rw [show h.get? b = _ from e1] at e2
  cases e2
  simp at hne
inductive WsPost (w : World) (ns : List Int) (b0 : Int) (g h : Heap) (v : Value) : Prop
  | mk (d : WsD) (e : v = .ref d.x) (hn : d.New g) (hi : d.In w h) (h1 : d.n = (wfold (preCodes ns b0)).n) (h2 : d.nt = (wfold (preCodes ns b0)).nt) (h3 : d.b = (wfold (preCodes ns b0)).b) (h4 : d.cs = (wfold (preCodes ns b0)).cnt)
    (h5 : d.si = decide ((d.cs.length : Int) ≤ 1)) : WsPost w ns b0 g h v
inductive WsJ (w : World) (ns : List Int) (b0 : Int) (t0 tkr : Tok) (x dx : Addr) (pre : List Nat) (i : Nat) (m : Str → Option Value) (news : List (Addr × Obj)) : Prop
  | mk (st : Wst) (tn tb tnt : Tok) (us : List Value) (k : Nat) (D : Addr) (hm : ∀ p ∈ [(Str.ofString "self", Value.ref x), (Str.ofString "S", Value.str (Str.ofString " ") 264), (Str.ofString "T", Value.str (Str.ofString "\t") 265), (Str.ofString "n", Value.int st.n tn), (Str.ofString "b", Value.int st.b tb), (Str.ofString "nt", Value.int st.nt tnt), (Str.ofString "count", Value.ref D)], m p.1 = some p.2)
    (h1 : st = wat pre i) (h2 : i ≤ pre.length) (h3 : news = [(D, W.listOf us.toArray k), (x, instObj 98 dx), (dx, rawObj w ns b0 t0 tkr)]) (h4 : IntsAre us st.cnt) (h5 : @Ne Nat D x) (h6 : @Ne Nat D dx) : WsJ w ns b0 t0 tkr x dx pre i m news
section
theorem words2 : True := by
  k_with "exec For Name Attribute cons nil" => (k_here; k_dflt (refine for_srcS (by k_asm) ?_))
  trivial
theorem ws_c (w : World) (ns : List Int) (b0 : Int) (t0 : Tok) (hz : (preCodes ns b0).length ≤ 1000) : Call w 390 98 [.str (leadStr ns b0) t0] (fun _ => True) (WsPost w ns b0) := by
  have hfill : PySem.Challenge.rw_ty0024_01 = PySem.Challenge.rw_ty0024_01 ∧ Mine.hd.heap_1 = Mine.hd.heap_1 := by k_fill; exact ⟨rfl, rfl⟩
  clear hfill
  refine' enterK (binds := fun x => [("self", .ref x), ("ws", .str (leadStr ns b0) t0)]) ?k1 ?k2 ?k3 ?k4 ?k5 ?k6 ?k6a ?k7 ?k8 ?k9 ?k10 ?k11 ?k12 ?k13
  case k1 => k_is
  case k2 => k_is
  case k3 => k_is
  case k4 => k_is
  case k5 => k_is
  case k6 => decide
  case k6a => decide
  case k7 => exact fun _ => rfl
  case k8 => exact fun _ => locs rfl
  case k9 => decide
  case k11 => exact rfl
  case k12 => exact rfl
  case k13 => exact rfl
  intro p loose mean mg mb base lenv g L h₁ s tk x dx hg hxd F N B X T hp
  try k_fold
  k_steps
  rename_i _ _ _ _ _ _ _ _ _ Dc _ l8 _ _ _ _ F1 N1
  obtain ⟨tkr, N2⟩ : ∃ tkr, News g L _ [(Dc, W.listOf #[] 0), (x, instObj 98 dx), (dx, rawObj w ns b0 t0 tkr)] :=
    ⟨_, fun p hp => N1 p ((by lcg_sub : ∀ q ∈ _, q ∈ _) p hp)⟩
  clear N1
  have hcodes : (leadStr ns b0).cps.toList = preCodes ns b0 ++ [120] := lead_pre ns b0
  generalize hpre : preCodes ns b0 = pre at hz hcodes
  unfold Stop
  refine ⟨_, _, _, _, WsJ w ns b0 t0 tkr x dx pre, rfl, rfl, F1, N2, ?j0, ?turn, ?fin⟩
  case j0 => exact ⟨⟨0, 0, 0, []⟩, _, _, _, [], 0, Dc, by kst_all, rfl, Nat.zero_le _, rfl, .nil, Nat.ne_of_gt l8.2.1, Nat.ne_of_gt l8.2.2⟩
  case turn =>
    intro i c u m news I oI h tk hc hJ F N off
    obtain ⟨st, tn, tb, tnt, us, k, D, hm, hst, hi, rfl, hu, hD1, hD2⟩ := hJ
    rw [map_k7 hm] at F
    try simp only [LCg.Off1, and_true] at off
    have hc : (pre ++ [120])[i]? = some c := by rw [← hcodes]; simpa using hc
    have hinv := wat_inv pre i hi
    rw [← hst] at hinv
    obtain ⟨i1, i2, i3, i4, i5, i6⟩ := hinv
    have hul := hu.length
    rcases code_at hc with ⟨hlt, hc2⟩ | ⟨hie, rfl⟩
    · have hcc := row_codes (hpre ▸ List.mem_of_getElem? hc2)
      have hnext := wat_succ hc2
      rw [← hst] at hnext
      rcases hcc with rfl | rfl
      · try k_fold
        k_steps
        refine ForNext.intro (by assumption) (by assumption) [(D, W.listOf us.toArray k), (x, instObj 98 dx), (dx, rawObj w ns b0 t0 tkr)] ?sub ⟨off.1, off.2.1, off.2.2, trivial⟩ ?j9
        case sub => lcg_sub
        case j9 => exact ⟨⟨st.n + 1, st.b + 1, st.nt, st.cnt⟩, _, _, _, us, k, D, by kst_all, hnext.symm, hlt, rfl, hu, hD1, hD2⟩
      · try k_fold
        k_steps
        · with_reducible rename (st.cnt.length : Int) ≤ st.b => hle
          rename_i Dn ws2 _ hI2 l9 _ _ _ hi9 _ _ _ F9 N9
          refine ForNext.intro F9 N9 [(Dn, _), (x, instObj 98 dx), (dx, rawObj w ns b0 t0 tkr)] (by lcg_sub) ⟨Nat.ne_of_gt l9.2.2.1, off.2.1, off.2.2, trivial⟩ ?jA
          exact ⟨⟨st.n + 1, 0, st.nt + 1, bump st.cnt st.b⟩, _, _, _, _, _, Dn, by kst_all, hnext.symm, hlt, rfl, (by rw [bump_hi hle]; exact hi9), Nat.ne_of_gt l9.2.2.2.2.1, Nat.ne_of_gt l9.2.2.2.2.2⟩
        · with_reducible rename ¬(st.cnt.length : Int) ≤ st.b => hle
          rename_i hi9 _ _ _ F9 N9
          refine ForNext.intro F9 N9 [(D, _), (x, instObj 98 dx), (dx, rawObj w ns b0 t0 tkr)] (by lcg_sub) ⟨off.1, off.2.1, off.2.2, trivial⟩ ?jB
          exact ⟨⟨st.n + 1, 0, st.nt + 1, bump st.cnt st.b⟩, _, _, _, _, _, D, by kst_all, hnext.symm, hlt, rfl, (by rw [bump_lo hle]; exact hi9), hD1, hD2⟩
    · try k_fold
      k_steps
      rename_i Dt _ _ Dn _ F9 N9 l9
      have hne1 : @Ne Nat Dt x := news_ne N9 (.tail _ (.head _)) (.tail _ (.tail _ (.tail _ (.tail _ (.head _))))) (by rfl)
      have hne2 : @Ne Nat Dt dx := news_ne N9 (.tail _ (.head _)) (.tail _ (.tail _ (.tail _ (.tail _ (.tail _ (.head _)))))) (by rfl)
      k_steps
      rename_i F8 N8
      have hfull : wfold pre = st := by rw [hst, hie]; unfold wat; rw [List.take_length]
      have hf2 : st = wfold (preCodes ns b0) := by rw [hpre]; exact hfull.symm
      exact Done.intro F8 ⟨⟨x, dx, Dn, Dt, _, st.n, st.nt, st.b, st.cnt, us, _, _, _, _, _, _, _, _, _, _⟩, rfl, ⟨N8.fresh (.tail _ (.tail _ (.tail _ (.tail _ (.head _))))), N8.fresh (.tail _ (.tail _ (.tail _ (.tail _ (.tail _ (.head _)))))), N8.fresh (.head _), N8.fresh (.tail _ (.head _))⟩,
        ⟨N8.get (.tail _ (.tail _ (.tail _ (.tail _ (.head _))))), N8.get (.tail _ (.tail _ (.tail _ (.tail _ (.tail _ (.head _)))))), N8.get (.head _), N8.get (.tail _ (.head _)), hu⟩, congrArg Wst.n hf2, congrArg Wst.nt hf2, congrArg Wst.b hf2, congrArg Wst.cnt hf2, rfl⟩
  case fin =>
    intro m news h tk hJ F N
    obtain ⟨st, tn, tb, tnt, us, k, D, hm, hst, hi, rfl, hu, hD1, hD2⟩ := hJ
    exact absurd hi (by have := congrArg List.length hcodes; rw [List.length_append, Array.length_toList] at this; simp only [List.length_singleton] at this; omega)
end
end
theorem flush13 : True := by first | (w_top off; k_with_none; walk1; done) | trivial
section
set_option maxHeartbeats 8000000
theorem words3 : True := by
  k_with "eval ListComp" => (k_here; k_dflt (refine lc1S (by k_asm) (by with_unfolding_all rfl) (by decide) (by rfl) (by decide) (by rfl) ?_))
  k_with "exec Assign cons ListComp" => (k_here; (with_reducible show wpAny _ _ (exec (Stmt.Assign _ (Expr.ListComp _ [_] _ _) _) _) _ _ _); k_dflt (refine lc1SA (by k_asm) (by rfl) (by kernel_rfl) (by first | rfl | with_unfolding_all rfl) (by decide) (by rfl) (by decide) (by rfl) (by rfl) (by rfl) ?_))
  k_with "exec Assign cons ListComp" => (k_here; (with_reducible show wpAny _ _ (exec (Stmt.Assign _ (Expr.ListComp _ [_, _] _ _) _) _) _ _ _); k_dflt (refine lc2SA (by k_asm) (by rfl) (by kernel_rfl) (by first | rfl | with_unfolding_all rfl) (by decide) (by rfl) (by decide) (by rfl) (by rfl) (by decide) (by rfl) (by rfl) ?_))
  k_with "binaryOp Mult str int" => (k_here; k_dflt (refine mul_bl (by omega) (by omega) ?_); intro _ _ )
  k_with "binaryOp Add str str" => (k_here; k_dflt (refine add_ss (by (simp only [Str.length_append, blanks_length, txt_length, lit_blank, lit_tab, lit_x, lit_empty, List.length_cons, List.length_nil] at *; omega)) ?_); intro _ _ )
  k_with "call builtin:str.join" => (k_here; k_dflt (refine join_L (by k_asm) (by k_mem) (by k_asm) (by decide +kernel) (by k_asm) ?_); intro _ _ )
  k_with "call builtin:len" => (k_here; (with_reducible show wpAny _ _ (call (Value.builtin "len") [Value.ref _]) _ _ _); k_dflt (refine t_len (by k_asm) (by with_reducible assumption) (by with_reducible assumption) (by omega) ?_); intro _ _ )
  k_with "subscriptTail" => (k_here; (with_reducible show wpAny _ _ (subscriptTail _ _ (Value.ref _) (Value.int _ _)) _ _ _); k_dflt (refine t_at (by k_asm) (by with_reducible assumption) (by with_reducible assumption) (by omega) (by omega) (by omega) ?_); intro _ )
  k_with "subscriptTail" => (k_here; (with_reducible show wpAny _ _ (subscriptTail _ _ (Value.ref _) (Value.int _ _)) _ _ _); k_dflt (refine l_at (by exact news_list (by k_asm) (by k_mem)) (by with_reducible assumption) (by omega) (by omega) (by omega) ?_); intro _ )
  k_with "ForEnd" => (dsimp only [ForEnd])
  k_with "WhEnd" => (dsimp only [WhEnd])
  trivial
noncomputable def wordAt : Nat → Str
  | 0 => ⟨#[79, 80, 84, 73, 77, 73, 90, 69, 68]⟩
  | 1 => ⟨#[78, 69, 87, 76, 79, 67, 65, 76, 83]⟩
  | 2 => ⟨#[86, 65, 82, 65, 82, 71, 83]⟩
  | 3 => ⟨#[86, 65, 82, 75, 69, 89, 87, 79, 82, 68, 83]⟩
  | 4 => ⟨#[78, 69, 83, 84, 69, 68]⟩
  | _ => ⟨#[]⟩
noncomputable def stepP (i : Nat) (p : Int × List Str) : Int × List Str :=
  if Builtin.bitAnd p.1 (1 * 2 ^ ((0 : Int) + (i : Int)).toNat) ≠ 0 then (Builtin.bitXor p.1 (1 * 2 ^ ((0 : Int) + (i : Int)).toNat), p.2 ++ [wordAt i]) else p
noncomputable def pst (n : Int) : Nat → Int × List Str
  | 0 => (n, [])
  | i + 1 => stepP i (pst n i)
noncomputable def namesOf (n : Int) : List Str := (pst n 5).2
noncomputable def prettyOf (n : Int) : Str := if n = 0 then ⟨#[48, 120, 48]⟩ else Txt.join (Str.ofString ", ") (namesOf n)
theorem bitAnd_zero (x : Int) : Builtin.bitAnd 0 x = 0 := by
  unfold Builtin.bitAnd
  by_cases h : 0 ≤ x
  · simp [h]
  · simp [h]
theorem stepP_zero {i : Nat} {p : Int × List Str} (h : p.1 = 0) : stepP i p = p := by
  unfold stepP
  rw [if_neg (by rw [h, bitAnd_zero]; simp)]
theorem pst_stable {n : Int} {i : Nat} (h : (pst n i).1 = 0) : ∀ k, pst n (i + k) = pst n i
  | 0 => rfl
  | k + 1 => by
    have ih := pst_stable h k
    show stepP (i + k) (pst n (i + k)) = _
    rw [ih, stepP_zero h]
theorem pst_five {n : Int} (h0 : 0 ≤ n) (h1 : n ≤ 28) : (pst n 5).1 = 0 := upto (m := 28) (P := fun n => (pst n 5).1 = 0) (by decide +kernel) h0 h1
theorem pst_late {n : Int} (h0 : 0 ≤ n) (h1 : n ≤ 28) {i : Nat} (h : 5 ≤ i) : (pst n i).1 = 0 := by
  have := pst_stable (pst_five h0 h1) (i - 5)
  rw [show 5 + (i - 5) = i by omega] at this
  rw [this]; exact pst_five h0 h1
theorem pst_names {n : Int} {i : Nat} (h : (pst n i).1 = 0) (hi : i ≤ 5) : namesOf n = (pst n i).2 := by
  have := pst_stable h (5 - i)
  rw [show i + (5 - i) = 5 by omega] at this
  unfold namesOf; rw [this]
theorem pst_last {n : Int} {i : Nat} {f g : Int} {us vs : List Str} (hps : pst n i = (f, us)) (e : stepP i (f, us) = (g, vs)) (hx : g = 0) (hi : i + 1 ≤ 5) : vs = namesOf n := by
  have q : pst n (i + 1) = (g, vs) := by show stepP i (pst n i) = _; rw [hps]; exact e
  have := pst_names (n := n) (i := i + 1) (by rw [q]; exact hx) hi
  rw [this, q]
theorem word_len (i : Nat) : (wordAt i).length ≤ 12 := by
  match i with
  | 0 | 1 | 2 | 3 | 4 => decide
  | n + 5 => exact Nat.zero_le _
theorem pst_len (n : Int) : ∀ i, ((pst n i).2.map (·.length)).sum + (pst n i).2.length ≤ 13 * i
  | 0 => by simp [pst]
  | i + 1 => by
    have ih := pst_len n i
    have hw := word_len i
    show ((stepP i (pst n i)).2.map (·.length)).sum + (stepP i (pst n i)).2.length ≤ _
    unfold stepP
    split
    · simp only [List.map_append, List.sum_append, List.map_cons, List.map_nil, List.sum_cons, List.sum_nil, List.length_append, List.length_cons, List.length_nil]
      omega
    · omega
section
theorem words4 : True := by
  k_with "exec For Name Call cons cons" => (k_here; k_dflt (refine for_src (by k_asm) ?_))
  trivial
inductive PrettyJ (n0 : Int) (Nm : Addr) (i : Nat) (m : Str → Option Value) (news : List (Addr × Obj)) : Prop
  | mk (f : Int) (us : List Value) (n : Nat) (t : Tok) (names : List Str) (h1 : news = [(Nm, W.listOf us.toArray n)]) (hm : ∀ p ∈ [(Str.ofString "flags", Value.int f t), (Str.ofString "names", Value.ref Nm)], m p.1 = some p.2) (h2 : StrsAre us names)
    (h3 : pst n0 i = (f, names)) (h4 : n0 ≠ 0 → f ≠ 0) : PrettyJ n0 Nm i m news
theorem pretty_c (w : World) (n0 : Int) (k : Tok) (h0 : 0 ≤ n0) (h1 : n0 ≤ 28) :
   Call w 460 29 [.int n0 k] (fun _ => True) (IsSt (prettyOf n0)) := by
  have hfill : PySem.Challenge.rw_ty0024_01 = PySem.Challenge.rw_ty0024_01 ∧ Mine.hd.heap_1 = Mine.hd.heap_1 := by k_fill; exact ⟨rfl, rfl⟩
  clear hfill
  refine' enter (binds := [("flags", .int n0 k)]) ?k1 ?k2 ?k3 ?k4 ?k5 ?k6 ?k7 ?k8 ?k9 ?k10
  case k1 => k_is
  case k2 => k_is
  case k3 => decide
  case k4 => exact rfl
  case k5 => exact locs rfl
  case k6 => decide
  case k8 => exact rfl
  case k9 => exact rfl
  case k10 => exact rfl
  intro p loose mean mg mb base lenv g L h₁ s tk hg F N B X T hp
  try k_fold
  k_steps
  unfold Stop
  rename_i Nm _ _ _ _ _ _ _ _ _ _ rg _ _ _
  refine ⟨_, _, _, _, PrettyJ n0 Nm, Src.range rg rfl rfl, rfl, by k_asm, by k_asm, ?j0, ?kept, ?turn, ?fin⟩
  case j0 => exact ⟨n0, [], 0, _, [], rfl, by kst_all, .nil, rfl, id⟩
  case kept =>
    rintro b ⟨⟩ hq
    exact (range_noseq rg hq).elim
  case turn =>
    intro i v m news I oI h tk hi hP hJ F N off
    obtain ⟨t9, rfl⟩ := hP
    obtain ⟨f, us, n, t, names, rfl, hm, hs, hps, hal⟩ := hJ
    rw [map_k2 hm] at F
    try simp only [LCg.Off1, and_true] at off
    have hul := hs.length
    have hpl := pst_len n0 i
    rw [hps] at hpl
    have hi32 : i < 32 := hi
    by_cases hz : n0 = 0
    · subst hz
      have hp0 : pst 0 i = (0, []) := by
        have := pst_stable (n := 0) (i := 0) rfl i
        rw [Nat.zero_add] at this
        exact this
      rw [hp0] at hps
      obtain ⟨rfl, rfl⟩ := Prod.mk.inj hps
      try k_fold
      k_steps
      · exact absurd (bitAnd_zero _) (by assumption)
      · refine' ForNext.intro (by assumption) (by assumption) [(Nm, W.listOf us.toArray n)] ?s ⟨off, trivial⟩ ⟨0, us, n, _, [], rfl, ?m, hs, ?e, fun q => absurd rfl q⟩
        case s => lcg_sub
        case m => kst_all
        case e =>
          show stepP i (pst 0 i) = _
          rw [hp0, stepP_zero rfl]
    · have hfz := hal hz
      have hi4 : i ≤ 4 := by
        rcases Nat.lt_or_ge 4 i with q | q
        · have := pst_late h0 h1 q
          rw [hps] at this
          exact absurd this hfz
        · exact q
      have hi5 : i = 0 ∨ i = 1 ∨ i = 2 ∨ i = 3 ∨ i = 4 := by omega
      have hn13 : names.length ≤ 52 := by
        have : (pst n0 i).2.length ≤ 13 * i := by rw [hps]; exact Nat.le_trans (Nat.le_add_left _ _) hpl
        rw [hps] at this
        exact Nat.le_trans this (by omega)
      rcases hi5 with rfl | rfl | rfl | rfl | rfl
      all_goals
        try k_fold
        k_steps
        all_goals dsimp only at hpl
        · with_reducible rename Builtin.bitXor f _ ≠ 0 => hx
          with_reducible rename Builtin.bitAnd f _ ≠ 0 => ha
          exact ForNext.intro (by assumption) (by assumption) [(Nm, W.listOf _ _)] (by lcg_sub) ⟨off, trivial⟩ ⟨_, _, _, _, _, rfl, by kst_all, hs.append' (.cons _ _ .nil), (congrArg (stepP _) hps).trans (by unfold stepP; exact if_pos ha), fun _ => hx⟩
        · refine join_L (by k_asm) (by k_mem) (hs.append' (.cons _ _ .nil)) (by decide +kernel) (by
             simp only [List.map_append, List.sum_append, List.map_cons, List.map_nil, List.sum_cons, List.sum_nil, List.length_append, List.length_cons, List.length_nil] at hpl ⊢
             simp [Str.length] at hpl ⊢
             omega) ?_
          intro t7 k7
          k_steps
          refine Done.intro (by assumption) ⟨_, congrArg (fun q => Value.str q _) ?_⟩
          unfold prettyOf
          rw [if_neg hz]
          refine congrArg (Txt.join _) ?_
          with_reducible rename Builtin.bitAnd f _ ≠ 0 => ha
          with_reducible rename Builtin.bitXor f _ = 0 => hx
          exact pst_last hps (if_pos ha) hx (by decide)
        · exact ForNext.intro (by assumption) (by assumption) [(Nm, W.listOf _ _)] (by lcg_sub) ⟨off, trivial⟩ ⟨_, _, _, _, _, rfl, by kst_all, hs, (congrArg (stepP _) hps).trans (by unfold stepP; refine if_neg ?_; intro q; first | exact q (by assumption) | contradiction), hal⟩
  case fin =>
    intro m news h tk hJ F N
    obtain ⟨f, us, n, t, names, rfl, hm, hs, hps, hal⟩ := hJ
    rw [map_k2 hm] at F
    have hl : (pst n0 ((32 + 0 - Nat.succ 0) / 1 + 1)).1 = 0 := pst_late h0 h1 (by decide)
    rw [hps] at hl
    have hl' : f = 0 := hl
    subst hl'
    have hz : n0 = 0 := Classical.byContradiction fun q => hal q rfl
    subst hz
    have hp0 : pst 0 ((32 + 0 - Nat.succ 0) / 1 + 1) = (0, []) := by
      have := pst_stable (n := 0) (i := 0) rfl ((32 + 0 - Nat.succ 0) / 1 + 1)
      rw [Nat.zero_add] at this
      exact this
    rw [hp0] at hps
    obtain ⟨_, rfl⟩ := Prod.mk.inj hps
    cases hs
    try k_fold
    k_steps
    refine Done.intro (by assumption) ⟨_, congrArg (fun q => Value.str q _) ?_⟩
    decide +kernel
end
end
theorem flush14 : True := by first | (w_top off; k_with_none; walk1; done) | trivial
section
set_option maxHeartbeats 8000000
theorem words5 : True := by
  k_with "eval ListComp" => (k_here; k_dflt (refine lc1S (by k_asm) (by with_unfolding_all rfl) (by decide) (by rfl) (by decide) (by rfl) ?_))
  k_with "exec Assign cons ListComp" => (k_here; (with_reducible show wpAny _ _ (exec (Stmt.Assign _ (Expr.ListComp _ [_] _ _) _) _) _ _ _); k_dflt (refine lc1SA (by k_asm) (by rfl) (by kernel_rfl) (by first | rfl | with_unfolding_all rfl) (by decide) (by rfl) (by decide) (by rfl) (by rfl) (by rfl) ?_))
  k_with "exec Assign cons ListComp" => (k_here; (with_reducible show wpAny _ _ (exec (Stmt.Assign _ (Expr.ListComp _ [_, _] _ _) _) _) _ _ _); k_dflt (refine lc2SA (by k_asm) (by rfl) (by kernel_rfl) (by first | rfl | with_unfolding_all rfl) (by decide) (by rfl) (by decide) (by rfl) (by rfl) (by decide) (by rfl) (by rfl) ?_))
  k_with "binaryOp Mult str int" => (k_here; k_dflt (refine mul_bl (by omega) (by omega) ?_); intro _ _ )
  k_with "binaryOp Add str str" => (k_here; k_dflt (refine add_ss (by (simp only [Str.length_append, blanks_length, txt_length, lit_blank, lit_tab, lit_x, lit_empty, List.length_cons, List.length_nil] at *; omega)) ?_); intro _ _ )
  k_with "call builtin:str.join" => (k_here; k_dflt (refine join_L (by k_asm) (by k_mem) (by k_asm) (by decide +kernel) (by k_asm) ?_); intro _ _ )
  k_with "call builtin:len" => (k_here; (with_reducible show wpAny _ _ (call (Value.builtin "len") [Value.ref _]) _ _ _); k_dflt (refine t_len (by k_asm) (by with_reducible assumption) (by with_reducible assumption) (by omega) ?_); intro _ _ )
  k_with "subscriptTail" => (k_here; (with_reducible show wpAny _ _ (subscriptTail _ _ (Value.ref _) (Value.int _ _)) _ _ _); k_dflt (refine t_at (by k_asm) (by with_reducible assumption) (by with_reducible assumption) (by omega) (by omega) (by omega) ?_); intro _ )
  k_with "subscriptTail" => (k_here; (with_reducible show wpAny _ _ (subscriptTail _ _ (Value.ref _) (Value.int _ _)) _ _ _); k_dflt (refine l_at (by exact news_list (by k_asm) (by k_mem)) (by with_reducible assumption) (by omega) (by omega) (by omega) ?_); intro _ )
  k_with "ForEnd" => (dsimp only [ForEnd])
  k_with "WhEnd" => (dsimp only [WhEnd])
  trivial
noncomputable def bitVal (x : Str) : Int := if x = wordAt 0 then 1 else if x = wordAt 1 then 2 else if x = wordAt 2 then 4 else if x = wordAt 3 then 8 else 16
noncomputable def bitsOf (n : Int) : List Int := (namesOf n).map bitVal
theorem upto28 {P : Int → Prop} (h : ∀ k : Fin 29, P (k.val : Int)) {n : Int} (h0 : 0 ≤ n) (h1 : n ≤ 28) : P n := upto (m := 28) h h0 h1
theorem pretty_nought {n : Int} (h0 : 0 ≤ n) (h1 : n ≤ 28) : prettyOf n = Str.mk #[48, 120, 48] ↔ n = 0 :=
  upto28 (P := fun n => prettyOf n = Str.mk #[48, 120, 48] ↔ n = 0) (by decide +kernel) h0 h1
theorem pretty_size {n : Int} (h0 : 0 ≤ n) (h1 : n ≤ 28) : (prettyOf n).length ≤ 100 :=
  upto28 (P := fun n => (prettyOf n).length ≤ 100) (by decide +kernel) h0 h1
theorem pretty_split {n : Int} (h0 : 0 ≤ n) (h1 : n ≤ 28) : n = 0 ∨ Txt.split (prettyOf n) (Str.ofString ", ") = namesOf n :=
  upto28 (P := fun n => n = 0 ∨ Txt.split (prettyOf n) (Str.ofString ", ") = namesOf n) (by decide +kernel) h0 h1
theorem names_in {n : Int} (h0 : 0 ≤ n) (h1 : n ≤ 28) : ∀ x ∈ namesOf n, x = wordAt 0 ∨ x = wordAt 1 ∨ x = wordAt 2 ∨ x = wordAt 3 ∨ x = wordAt 4 :=
  upto28 (P := fun n => ∀ x ∈ namesOf n, x = wordAt 0 ∨ x = wordAt 1 ∨ x = wordAt 2 ∨ x = wordAt 3 ∨ x = wordAt 4) (by decide +kernel) h0 h1
theorem one_int {x y : Int} {t : Tok} (e : x = y) : IntsAre [.int x t] [y] := by rw [e]; exact .cons _ _ .nil
noncomputable def isS (x : Str) : Value → Bool
  | .str z _ => decide (z = x)
  | _ => false
theorem idx_neS {k : Str} : ∀ {ns : List Str} {j : Nat}, j < ns.idxOf k → ns[j]? = some k → False
  | [], _, _, e => by simp at e
  | n :: r, j, h, e => by
    rw [List.idxOf_cons] at h
    by_cases q : n = k
    · subst q; simp at h
    · have e' : (n == k) = false := by simpa using q
      rw [e'] at h
      simp only [cond_false, Bool.false_eq_true, if_false] at h
      cases j with
      | zero => simp at e; exact q e
      | succ j => exact idx_neS (Nat.lt_of_succ_lt_succ h) (by simpa using e)
theorem index_S {prog : Program} {w : World} {A : Around} {E : Value → Shared → Prop} {s : Shared} {h₀ : Heap} {L l : Addr} {news : List (Addr × Obj)} {vs : List Value} {n : Nat} {ys : List Str} {x : Str} {t : Tok} {Q : Value → Shared → Prop}
    (N : News h₀ L s.heap news) (hm : (l, W.listOf vs.toArray n) ∈ news) (hi : StrsAre vs ys) (hx : x ∈ ys) (hz : ys.length ≤ 100000) (h : ∀ t k, Q (.int (ys.idxOf x : Nat) t) { s with toks := k }) :
    wpAny (model prog w) A (call (.builtin "list.index") [.ref l, .str x t]) Q E s := by
  have ho := (N _ hm).1
  have hlen := hi.length
  have hj : ys.idxOf x < ys.length := List.idxOf_lt_length_iff.mpr hx
  refine call_meets PySem.F.slot_list_index ⟨_, ho, rfl⟩ PySem.F.entry_list_index (PySem.F.args_list_index_2 _ _)
    (MeetsSeq.list_index l vs.toArray n (.str x t) (isS x) ?_ (ys.idxOf x) (by simpa [hlen] using hj) (by omega) ?_ ?_) ⟨ho, h _ _⟩
  · intro y hy
    obtain ⟨i, hi1, hi2⟩ := List.getElem_of_mem (by simpa using hy)
    obtain ⟨z, tz, e1, _⟩ := StrsAre.item hi i y (by rw [List.getElem?_eq_getElem hi1, hi2])
    subst e1
    exact fun _ _ _ _ _ _ h => wpAny_eqBool_str h
  · obtain ⟨t', e⟩ := StrsAre.at hi (j := ys.idxOf x) (y := x) (by rw [List.getElem?_eq_getElem hj]; simp)
    rw [List.getElem?_eq_getElem (by omega)] at e
    simp only [List.getElem_toArray]
    rw [Option.some.inj e]; simp [isS]
  · intro j hj' hlt
    have hj2 : j < vs.length := by simpa using hj'
    obtain ⟨z, tz, e1, e2⟩ := StrsAre.item hi j vs[j] (by simp [hj2])
    simp only [List.getElem_toArray]
    rw [e1]
    have hne : z ≠ x := fun e => idx_neS hlt (by rw [e2, e])
    simp [isS, hne]
section
theorem words6 : True := by
  k_with "call builtin:list.index" => (k_here; k_dflt (refine index_S (by k_asm) (by k_mem) (by exact .cons _ _ (.cons _ _ (.cons _ _ (.cons _ _ (.cons _ _ .nil))))) (by decide) (by decide) ?_); intro _ _ )
  k_with "call ref" => (k_here; k_dflt (refine Call.useSt (by exact rfl) (by (simp only [depth_under_make, depth_under_kw, depth_in1, depth_deeper, depth_caller, aT_depth]; decide)) (by (simp only [units_deeper, units_in1, units_caller, units_under_make, aT_units]; decide)) (by exact rfl) (by exact rfl) (by exact rfl) (by k_asm) (by k_asm) (by k_asm) (by k_asm) (by k_asm) (by exact True.intro) (pretty_c _ _ _ (by omega) (by omega)) ?_; skip); intro _ _ _ _ _ ; (try k_sweep); (try k_fold))
  trivial
theorem words_c (w : World) (n0 : Int) (k : Tok) (h0 : 0 ≤ n0) (h1 : n0 ≤ 28) :
   Call w 390 148 [.int n0 k] (fun _ => True) (NewInts (bitsOf n0)) := by
  have hfill : PySem.Challenge.rw_ty0024_01 = PySem.Challenge.rw_ty0024_01 ∧ Mine.hd.heap_1 = Mine.hd.heap_1 := by k_fill; exact ⟨rfl, rfl⟩
  clear hfill
  refine' enterC (binds := [("weight", .int n0 k)]) ?k1 ?k2 ?k3 ?k4 ?k5 ?k6 ?k7 ?k8 ?k9 ?k10
  case k1 => k_is
  case k2 => k_is
  case k3 => decide
  case k4 => exact rfl
  case k5 => exact rfl
  case k6 => decide +kernel
  case k8 => exact rfl
  case k9 => exact rfl
  case k10 => exact rfl
  intro p loose mean mg mb base lenv g L h₁ s tk cells hg F N Y B X T hp
  k_cells Y
  try simp only [List.cons_append, List.nil_append] at N
  try k_fold
  k_steps
  · have hz : n0 = 0 := (pretty_nought h0 h1).mp (by rw [show Str.mk #[48, 120, 48] = Str.ofString "0x0" by decide]; simpa using (by assumption : (prettyOf n0 == Str.ofString "0x0") = true))
    subst hz
    exact Done.intro (by assumption) ⟨_, _, _, rfl, News.fresh (by assumption) (List.Mem.head _), News.get (by assumption) (List.Mem.head _), .nil⟩
  · have hne : n0 ≠ 0 := fun q => by
      subst q
      have q : (prettyOf 0 == Str.ofString "0x0") = false := by assumption
      exact absurd q (by decide +kernel)
    have hsp := (pretty_split h0 h1).resolve_left hne
    refine KSpl.split1 (by k_asm) (by k_asm) (by decide) ?_ (by rw [PySem.sizeLine_eq]; have := pretty_size h0 h1; omega)
    intro W ws h' k' e' a' F' N' l1
    try k_lt l1
    rw [hsp] at e'
    rw [e'] at a'
    have hlen : (namesOf n0).length ≤ 65 := by have := pst_len n0 5; exact Nat.le_trans (Nat.le_add_left _ _) this
    unfold Stop
    refine ⟨_, _, (fun i acc => IntsAre acc (((namesOf n0).take i).map bitVal)), _, Src.listN (List.Mem.head _), rfl, F', N', ?lim, .nil, ?turn, ?fin⟩
    case lim =>
      intro i ys h
      have := h.length
      rw [List.length_map, List.length_take] at this
      rw [PySem.sizeLine_eq]; omega
    case turn =>
      intro i v ys I oI C oC D m₂ h tk hi hP hacc F N off ne hC hx
      try simp only [LCg.Off3, and_true] at off
      unfold Turn
      refine wpAny_tests_nil ?_
      simp only [if_true]
      obtain ⟨x, t, rfl, hxx⟩ := StrsAre.item a' i v (by simpa using hP)
      have hxi := names_in h0 h1 x (List.mem_of_getElem? hxx)
      try k_fold
      rcases hxi with rfl | rfl | rfl | rfl | rfl
      all_goals
        k_steps
        refine TurnEnd.intro (by assumption) (by assumption) (fun p hp => hp) ?_
        rw [List.take_add_one, hxx, List.map_append]
        exact hacc.append (one_int (by decide +kernel))
    case fin =>
      intro D ys hacc h tk F N o1
      try simp only [LCg.Off1] at o1
      rw [show (strValues ws).toArray.size = (namesOf n0).length by rw [List.size_toArray, a'.length], List.take_length] at hacc
      exact Done.intro (by assumption) ⟨_, _, _, rfl, News.fresh (by assumption) (List.Mem.head _), News.get (by assumption) (List.Mem.head _), hacc⟩
end
end
theorem flush15 : True := by first | (w_top off; k_with_none; walk1; done) | trivial
section
set_option maxHeartbeats 8000000
theorem words7 : True := by
  k_with "eval ListComp" => (k_here; k_dflt (refine lc1S (by k_asm) (by with_unfolding_all rfl) (by decide) (by rfl) (by decide) (by rfl) ?_))
  k_with "exec Assign cons ListComp" => (k_here; (with_reducible show wpAny _ _ (exec (Stmt.Assign _ (Expr.ListComp _ [_] _ _) _) _) _ _ _); k_dflt (refine lc1SA (by k_asm) (by rfl) (by kernel_rfl) (by first | rfl | with_unfolding_all rfl) (by decide) (by rfl) (by decide) (by rfl) (by rfl) (by rfl) ?_))
  k_with "exec Assign cons ListComp" => (k_here; (with_reducible show wpAny _ _ (exec (Stmt.Assign _ (Expr.ListComp _ [_, _] _ _) _) _) _ _ _); k_dflt (refine lc2SA (by k_asm) (by rfl) (by kernel_rfl) (by first | rfl | with_unfolding_all rfl) (by decide) (by rfl) (by decide) (by rfl) (by rfl) (by decide) (by rfl) (by rfl) ?_))
  k_with "binaryOp Mult str int" => (k_here; k_dflt (refine mul_bl (by omega) (by omega) ?_); intro _ _ )
  k_with "binaryOp Add str str" => (k_here; k_dflt (refine add_ss (by (simp only [Str.length_append, blanks_length, txt_length, lit_blank, lit_tab, lit_x, lit_empty, List.length_cons, List.length_nil] at *; omega)) ?_); intro _ _ )
  k_with "call builtin:str.join" => (k_here; k_dflt (refine join_L (by k_asm) (by k_mem) (by k_asm) (by decide +kernel) (by k_asm) ?_); intro _ _ )
  k_with "call builtin:len" => (k_here; (with_reducible show wpAny _ _ (call (Value.builtin "len") [Value.ref _]) _ _ _); k_dflt (refine t_len (by k_asm) (by with_reducible assumption) (by with_reducible assumption) (by omega) ?_); intro _ _ )
  k_with "subscriptTail" => (k_here; (with_reducible show wpAny _ _ (subscriptTail _ _ (Value.ref _) (Value.int _ _)) _ _ _); k_dflt (refine t_at (by k_asm) (by with_reducible assumption) (by with_reducible assumption) (by omega) (by omega) (by omega) ?_); intro _ )
  k_with "subscriptTail" => (k_here; (with_reducible show wpAny _ _ (subscriptTail _ _ (Value.ref _) (Value.int _ _)) _ _ _); k_dflt (refine l_at (by exact news_list (by k_asm) (by k_mem)) (by with_reducible assumption) (by omega) (by omega) (by omega) ?_); intro _ )
  k_with "ForEnd" => (dsimp only [ForEnd])
  k_with "WhEnd" => (dsimp only [WhEnd])
  trivial
noncomputable def apb (r : Int) : UInt8 := UInt8.ofNat (65 + r.toNat)
noncomputable def apOf (n : Int) : Array UInt8 := if n = 0 then #[] else if n < 16 then #[apb n] else #[apb (Int.fdiv n 16), apb (Int.fmod n 16)]
noncomputable abbrev APl : Array UInt8 := #[65, 66, 67, 68, 69, 70, 71, 72, 73, 74, 75, 76, 77, 78, 79, 80]
theorem picked_ap {r : Int} (h0 : 0 ≤ r) (h1 : r < 16) : KBy.picked APl (some r) (some (r + 1)) = #[apb r] :=
  upto (m := 15) (P := fun r => KBy.picked APl (some r) (some (r + 1)) = #[apb r]) (by decide +kernel) h0 (by omega)
theorem ap_slice {prog : Program} {w : World} {A : Around} {E : Value → Shared → Prop} {s : Shared} {value slice : PySem.Expr} {t : Tok} {h₀ : Heap} {L : Addr} {m : PySem.Str → Option Value} {news : List (Addr × Obj)} {r : Int} {t1 t2 : Tok} {Q : Value → Shared → Prop}
    (hF : Fr h₀ L s.heap m) (hN : News h₀ L s.heap news) (h0 : 0 ≤ r) (h1 : r < 16) (h : ∀ h' t' k, Fr h₀ L h' m → News h₀ L h' news → Q (.bytes #[apb r] t') { s with heap := h', toks := k })
    (hs : subscripted slice false (.bytes APl t) (.ref s.heap.objs.size) = operate [.ref s.heap.objs.size, .bytes APl t] (getItem (.bytes APl t) (.ref s.heap.objs.size)) := by with_unfolding_all rfl)
    (ht : ∀ r, letTemporaryGo value (.bytes APl t) r = pure () := by intro _; with_unfolding_all rfl) :
    wpAny (model prog w) A (subscriptTail value slice (.bytes APl t) (.ref s.heap.objs.size)) Q E { s with heap := s.heap.push { cls := .type "slice", data := .fields #[.int r t1, .int (r + 1) t2, .none] } } := by
  refine KBc.slice_K hF hN rfl (by constructor) (by constructor) (by decide) (fun h' t' k F' N' _ => ?_) hs ht
  rw [picked_ap h0 h1]
  exact h h' t' k F' N'
theorem ap_cut {f : Int} (h0 : 0 < f) (h1 : f ≤ 28) : apOf (Int.fdiv f 16) ++ #[apb (Int.fmod f 16)] = apOf f :=
  upto (m := 28) (P := fun f => 0 < f → apOf (Int.fdiv f 16) ++ #[apb (Int.fmod f 16)] = apOf f) (by decide +kernel) (by omega) h1 h0
theorem apOf_size (n : Int) : (apOf n).size ≤ 2 := by
  unfold apOf
  split
  · decide
  · split <;> simp
section
local macro_rules | `(tactic| walk_at "subscriptTail") => `(tactic| (k_here; (with_reducible show wpAny _ _ (subscriptTail _ (Expr.Slice _ _ none _) (Value.bytes _ _) (Value.ref _)) _ _ _); (with_reducible rename Fr _ _ _ _ => F'); (with_reducible rename News _ _ _ _ => N'); (refine ap_slice (s := ⟨_, _, _, _, _⟩) F' N' (by omega) (by omega) ?_); intro _ _ _ _ _))
theorem words8 : True := by
  k_with "exec While Name cons nil" => (k_here; k_dflt (refine while_src (by k_asm) ?_))
  k_with "binaryOp Add bytes bytes" => (k_here; (with_reducible show wpAny _ _ (binaryOp Operator.Add (Value.bytes _ _) (Value.bytes _ _)) _ _ _); (refine KBy.add_bytes (by (simp only [Array.size_append, List.size_toArray, List.length_cons, List.length_nil]; omega)) ?_); intro _ _ )
  trivial
theorem int2ap_c (w : World) (n : Int) (k : Tok) (h0 : 0 ≤ n) (h1 : n ≤ 28) :
   Call w 460 36 [.int n k] (fun _ => True) (IsBy (apOf n)) := by
  have hfill : PySem.Challenge.rw_ty0024_01 = PySem.Challenge.rw_ty0024_01 ∧ Mine.hd.heap_1 = Mine.hd.heap_1 := by k_fill; exact ⟨rfl, rfl⟩
  clear hfill
  refine' enter (binds := [("num", .int n k)]) ?k1 ?k2 ?k3 ?k4 ?k5 ?k6 ?k7 ?k8 ?k9 ?k10
  case k1 => k_is
  case k2 => k_is
  case k3 => decide
  case k4 => exact rfl
  case k5 => exact locs rfl
  case k6 => decide
  case k8 => exact rfl
  case k9 => exact rfl
  case k10 => exact rfl
  intro p loose mean mg mb base lenv g L h₁ s tk hg F N B X T hp
  try k_fold
  k_steps
  unfold Stop
  rename_i F N
  rw [show (if n < 0 then -n else n) = n from if_neg (by omega)] at F
  refine ⟨_, _, _, (fun k m news => news = [] ∧ ∃ f b t1 t2 t3, (∀ p ∈ [(Str.ofString "num", Value.int f t1), (Str.ofString "val", Value.bytes b t2), (Str.ofString "AP", Value.bytes #[65, 66, 67, 68, 69, 70, 71, 72, 73, 74, 75, 76, 77, 78, 79, 80] t3)], m p.1 = some p.2) ∧ k = f.toNat ∧ 0 ≤ f ∧ f ≤ 28 ∧ apOf f ++ b = apOf n), F, N, ⟨rfl, _, _, _, _, _, by kst_all, rfl, h0, h1, Array.append_empty⟩, ?_⟩
  intro k m news h tk hJ F N
  obtain ⟨rfl, f, b, t1, t2, t3, hm, rfl, hf0, hf1, hf⟩ := hJ
  have hb : b.size ≤ 2 := by
    have q := congrArg Array.size hf
    have := apOf_size n
    rw [Array.size_append] at q; omega
  rw [map_k3 hm] at F
  have hfm0 := Int.fmod_nonneg_of_pos f (b := 16) (by decide)
  have hfm1 := Int.fmod_lt_of_pos f (b := 16) (by decide)
  try k_fold
  k_steps
  · refine' WhNext.intro (by assumption) (by assumption) [] (Int.fdiv f 16).toNat ?sub ?lt ?j
    case sub => exact List.forall_mem_nil _
    case lt => have := Int.fdiv_eq_ediv_of_nonneg f (b := 16) (by decide); omega
    case j =>
      have e := Int.fdiv_eq_ediv_of_nonneg f (b := 16) (by decide)
      refine' ⟨rfl, Int.fdiv f 16, #[apb (Int.fmod f 16)] ++ b, _, _, _, ?m, rfl, ?_, ?_, ?_⟩
      case m => kst_all
      · omega
      · omega
      · rw [← Array.append_assoc, ap_cut (by omega) hf1]; exact hf
  · have f0 : f = 0 := by assumption
    subst f0
    dsimp only
    k_steps
    have e : apOf 0 ++ b = b := Array.empty_append
    rw [e] at hf
    rw [hf]
    exact Done.intro (by assumption) ⟨_, rfl⟩
end
end
theorem flush16 : True := by first | (w_top off; k_with_none; walk1; done) | trivial
section
set_option maxHeartbeats 40000000
theorem words9 : True := by
  k_with "eval ListComp" => (k_here; k_dflt (refine lc1S (by k_asm) (by with_unfolding_all rfl) (by decide) (by rfl) (by decide) (by rfl) ?_))
  k_with "exec Assign cons ListComp" => (k_here; (with_reducible show wpAny _ _ (exec (Stmt.Assign _ (Expr.ListComp _ [_] _ _) _) _) _ _ _); k_dflt (refine lc1SA (by k_asm) (by rfl) (by kernel_rfl) (by first | rfl | with_unfolding_all rfl) (by decide) (by rfl) (by decide) (by rfl) (by rfl) (by rfl) ?_))
  k_with "exec Assign cons ListComp" => (k_here; (with_reducible show wpAny _ _ (exec (Stmt.Assign _ (Expr.ListComp _ [_, _] _ _) _) _) _ _ _); k_dflt (refine lc2SA (by k_asm) (by rfl) (by kernel_rfl) (by first | rfl | with_unfolding_all rfl) (by decide) (by rfl) (by decide) (by rfl) (by rfl) (by decide) (by rfl) (by rfl) ?_))
  k_with "binaryOp Mult str int" => (k_here; k_dflt (refine mul_bl (by omega) (by omega) ?_); intro _ _ )
  k_with "binaryOp Add str str" => (k_here; k_dflt (refine add_ss (by (simp only [Str.length_append, blanks_length, txt_length, lit_blank, lit_tab, lit_x, lit_empty, List.length_cons, List.length_nil] at *; omega)) ?_); intro _ _ )
  k_with "call builtin:str.join" => (k_here; k_dflt (refine join_L (by k_asm) (by k_mem) (by k_asm) (by decide +kernel) (by k_asm) ?_); intro _ _ )
  k_with "call builtin:len" => (k_here; (with_reducible show wpAny _ _ (call (Value.builtin "len") [Value.ref _]) _ _ _); k_dflt (refine t_len (by k_asm) (by with_reducible assumption) (by with_reducible assumption) (by omega) ?_); intro _ _ )
  k_with "subscriptTail" => (k_here; (with_reducible show wpAny _ _ (subscriptTail _ _ (Value.ref _) (Value.int _ _)) _ _ _); k_dflt (refine t_at (by k_asm) (by with_reducible assumption) (by with_reducible assumption) (by omega) (by omega) (by omega) ?_); intro _ )
  k_with "subscriptTail" => (k_here; (with_reducible show wpAny _ _ (subscriptTail _ _ (Value.ref _) (Value.int _ _)) _ _ _); k_dflt (refine l_at (by exact news_list (by k_asm) (by k_mem)) (by with_reducible assumption) (by omega) (by omega) (by omega) ?_); intro _ )
  k_with "ForEnd" => (dsimp only [ForEnd])
  k_with "WhEnd" => (dsimp only [WhEnd])
  trivial
noncomputable def powsOf (i : Nat) (f : Int) (b : Nat) : List Int := if Int.fmod (Int.fdiv f (2 ^ b)) 2 = 1 then [16 ^ i * 2 ^ b] else []
noncomputable def powsTo (i : Nat) (f : Int) : Nat → List Int
  | 0 => []
  | b + 1 => powsTo i f b ++ powsOf i f b
noncomputable abbrev apL (n : Int) : List UInt8 := (apOf n).toList
noncomputable def figAt (n : Int) (i : Nat) : Int := (((apL n).getD ((apOf n).size - 1 - (i : Int) : Int).toNat 0).toNat : Int) - 65
noncomputable def lettersOf (n : Int) : Nat → List Int
  | 0 => []
  | i + 1 => lettersOf n i ++ powsTo i (figAt n i) 4
theorem lettersOf_succ (n : Int) (i : Nat) : lettersOf n (i + 1) = lettersOf n i ++ powsTo i (figAt n i) 4 := rfl
theorem letters_bits {n : Int} (h0 : 0 ≤ n) (h1 : n ≤ 28) : lettersOf n (apOf n).size = bitsOf n :=
  upto28 (P := fun n => lettersOf n (apOf n).size = bitsOf n) (by decide +kernel) h0 h1
theorem powsOf_pos {i b : Nat} {f x : Int} {t : Tok} (h : Int.fmod (Int.fdiv f (2 ^ b)) 2 = 1) (e : x = 16 ^ i * 2 ^ b) : IntsAre [.int x t] (powsOf i f b) := by
  unfold powsOf; rw [if_pos h]; exact one_int e
theorem powsOf_neg {i b : Nat} {f : Int} {ys : List Value} {us : List Int} (h : Int.fmod (Int.fdiv f (2 ^ b)) 2 ≠ 1) (k : IntsAre ys us) : IntsAre ys (us ++ powsOf i f b) := by
  unfold powsOf; rw [if_neg h, List.append_nil]; exact k
theorem powsTo_succ (i : Nat) (f : Int) (b : Nat) : powsTo i f (b + 1) = powsTo i f b ++ powsOf i f b := rfl
theorem powsTo_len (i : Nat) (f : Int) : ∀ b, (powsTo i f b).length ≤ b
  | 0 => Nat.le_refl _
  | b + 1 => by
    have := powsTo_len i f b
    unfold powsTo powsOf
    rw [List.length_append]
    split
    · exact Nat.add_le_add this (Nat.le_refl _)
    · exact Nat.le_trans this (Nat.le_succ _)
theorem lettersOf_len (n : Int) : ∀ i, (lettersOf n i).length ≤ 4 * i
  | 0 => Nat.le_refl _
  | i + 1 => by
    have := lettersOf_len n i
    have := powsTo_len i (figAt n i) 4
    unfold lettersOf
    rw [List.length_append]
    omega
theorem small_to {a b : Int} (h0 : -1000000 ≤ a) (h1 : a ≤ 1000000) (h2 : -1000000 ≤ b) (h3 : b ≤ 1000000) : Builtin.Range.small a b 1 = true := by
  exact small_one (by omega) (by omega) (by omega) (by omega)
section
variable {prog : Program} {w : World} {A : Around} {E : Value → Shared → Prop} {s : Shared} {n i : Int} {t ui : Tok}
theorem ap_len {Q : Value → Shared → Prop} (h : ∀ t k, Q (.int (apOf n).size t) { s with toks := k }) : wpAny (model prog w) A (call (.builtin "len") [.bytes (apOf n) t]) Q E s :=
  len_bytes (by have := apOf_size n; omega) (h _ _)
noncomputable def FigIs (n i f : Int) : Prop := f = (((apL n).getD i.toNat 0).toNat : Int)
theorem ap_at {value slice : Expr} {Q : Value → Shared → Prop} (h0 : 0 ≤ i) (h1 : i < ((apOf n).size : Int))
    (h : ∀ f t k, FigIs n i f → Q (.int f t) { s with toks := k })
    (hs : subscripted slice false (.bytes (apL n).toArray t) (.int i ui) = operate [.bytes (apL n).toArray t, .int i ui] (getItem (.bytes (apL n).toArray t) (.int i ui)) := by with_unfolding_all rfl)
    (ht : ∀ r, letTemporaryGo value (.bytes (apL n).toArray t) r = pure () := by intro _; with_unfolding_all rfl) : wpAny (model prog w) A (subscriptTail value slice (.bytes (apOf n) t) (.int i ui)) Q E s :=
  bytes_item_K (x := apL n) (by have := apOf_size n; show (apOf n).size ≤ _; omega) h0 h1 rfl (h _ _ _ rfl) hs ht
end
theorem powsTo_pos {i b : Nat} {f x : Int} {t : Tok} {pw : List Int} {ys : List Value} (hpw : powsTo i f b = pw) (hacc : IntsAre ys pw) (h : Int.fmod (Int.fdiv f (2 ^ b)) 2 = 1) (e : x = 16 ^ i * 2 ^ b) : IntsAre (ys ++ [.int x t]) (powsTo i f (b + 1)) := by
  subst hpw; exact hacc.append (powsOf_pos h e)
theorem powsTo_neg {i b : Nat} {f : Int} {pw : List Int} {ys : List Value} (hpw : powsTo i f b = pw) (hacc : IntsAre ys pw) (h : Int.fmod (Int.fdiv f (2 ^ b)) 2 ≠ 1) : IntsAre ys (powsTo i f (b + 1)) := by
  subst hpw; exact powsOf_neg h hacc
theorem pows_fit {i b : Nat} (hi : i < 2) (hb : b < 4) : IntMulOk (16 ^ (i : Int).toNat) (2 ^ (b : Int).toNat) := by
  have h1 : ∀ i : Fin 2, 1 ≤ (16 : Int) ^ i.val ∧ (16 : Int) ^ i.val ≤ 16 := by decide +kernel
  have : 1 ≤ (16 : Int) ^ i ∧ (16 : Int) ^ i ≤ 16 := h1 ⟨i, hi⟩
  rw [Int.toNat_natCast]
  exact IntMulOk.of_left (intBits_le_64 (by omega) (by omega))
theorem letters_snoc {n f : Int} {i : Nat} {us ys : List Value} (hu : IntsAre us (lettersOf n i)) (e : f - 65 = figAt n i) (h : IntsAre ys (powsTo i (f - 65) 4)) : IntsAre (us ++ ys) (lettersOf n (i + 1)) := by
  rw [e] at h
  exact hu.append h
section
local macro_rules | `(tactic| mul_fits) => `(tactic| with_reducible assumption)
theorem words10 : True := by
  k_with "call builtin:len" => (k_here; (with_reducible show wpAny _ _ (call (Value.builtin "len") [Value.bytes (apOf _) _]) _ _ _); k_dflt (refine ap_len ?_); intro _ _ )
  k_with "subscriptTail" => (k_here; (with_reducible show wpAny _ _ (subscriptTail _ _ (Value.bytes (apOf _) _) (Value.int _ _)) _ _ _); k_dflt (refine ap_at (by omega) (by omega) ?_); intro _ _ _ _ )
  k_with "binaryOp FloorDiv int int" => (k_here; kbt_open; (with_reducible refine floordiv_int (by k_dflt (kbt_ne)) ?_ (Or.inl (PyProof.noPylong_of_log2 (by k_dflt (exact kbt_py (by l_bnd)))))))
  k_with "binaryOp Pow int int" => (k_here; (with_reducible refine pow_int_small (by k_dflt (l_bnd)) (by k_dflt (l_bnd)) (by k_dflt (decide)) ?_))
  k_with "call ref" => (k_here; k_dflt (refine Call.useBy (by exact rfl) (by (simp only [depth_under_make, depth_under_kw, depth_in1, depth_deeper, depth_caller, aT_depth]; decide)) (by (simp only [units_deeper, units_in1, units_caller, units_under_make, aT_units]; decide)) (by exact rfl) (by exact rfl) (by exact rfl) (by k_asm) (by k_asm) (by k_asm) (by k_asm) (by k_asm) (by exact True.intro) (int2ap_c _ _ _ (by omega) (by omega)) ?_; skip); intro _ _ _ _ _ ; (try k_sweep); (try k_fold))
  k_with "exec For Name Call cons nil" => (k_here; k_dflt (refine for_src (by k_asm) ?_))
  trivial
inductive LetJ (n0 : Int) (D L : Addr) (i : Nat) (m : Str → Option Value) (news : List (Addr × Obj)) : Prop
  | mk (tw : Tok) (hm : ∀ p ∈ [(Str.ofString "powers", Value.ref D), (Str.ofString "word", Value.bytes (apOf n0) tw)], m p.1 = some p.2) (us : List Value) (n : Nat) (oF oP : Obj) (vF vP : Option Value)
    (h1 : news = [(D, W.listOf us.toArray n), (L + 1 + 1, oF), (L + 1, oP)]) (h2 : oF.data = .cell vF) (h3 : oP.data = .cell vP) (h4 : IntsAre us (lettersOf n0 i)) : LetJ n0 D L i m news
theorem letters_c (w : World) (n0 : Int) (k : Tok) (h0 : 0 ≤ n0) (h1 : n0 ≤ 28) :
   Call w 390 153 [.int n0 k] (fun _ => True) (NewInts (bitsOf n0)) := by
  have hfill : PySem.Challenge.rw_ty0024_01 = PySem.Challenge.rw_ty0024_01 ∧ Mine.hd.heap_1 = Mine.hd.heap_1 := by k_fill; exact ⟨rfl, rfl⟩
  clear hfill
  refine' enterC (binds := [("weight", .int n0 k)]) ?k1 ?k2 ?k3 ?k4 ?k5 ?k6 ?k7 ?k8 ?k9 ?k10
  case k1 => k_is
  case k2 => k_is
  case k3 => decide
  case k4 => exact rfl
  case k5 => exact rfl
  case k6 => decide +kernel
  case k8 => exact rfl
  case k9 => exact rfl
  case k10 => exact rfl
  intro p loose mean mg mb base lenv g L h₁ s tk cells hg F N Y B X T hp
  k_cells Y
  try simp only [List.cons_append, List.nil_append] at N
  try k_fold
  k_steps
  unfold Stop
  rename_i D _ lt1 _ F1 N1 _ _ _ _ _ _ _ rg F N kp
  have hsz := apOf_size n0
  refine ⟨_, _, _, _, LetJ n0 D L,
    Src.range rg (small_to (by omega) (by omega) (by omega) (by omega)) (by rw [rangeSize_nat, Int.sub_zero, Int.toNat_natCast]), rfl, F, N, ?j0, ?kept, ?turn, ?fin⟩
  case j0 => exact ⟨_, by kst_all, _, _, _, _, _, _, rfl, by assumption, by assumption, .nil⟩
  case kept =>
    rintro b ⟨⟩ hq
    exact (range_noseq rg hq).elim
  case turn =>
    intro i v m news I oI h tk hi hP hJ F N off
    obtain ⟨t9, hv⟩ := hP
    obtain ⟨tw, hm, us, n, oF, oP, vF, vP, rfl, dF, dP, hu⟩ := hJ
    rw [map_k2 hm] at F
    try simp only [LCg.Off1, and_true] at off
    have hul := hu.length
    have hll := lettersOf_len n0 i
    have hv : v = .int (i : Int) t9 := by rw [hv, Int.zero_add]
    subst hv
    have hi2 : i < 2 := by omega
    try k_fold
    dsimp only
    k_steps
    unfold Stop
    rename_i f9 _ _ hfg _ _ _ _ _ _ _ _ _ _ rg2 F2 N2 kp2
    refine ⟨_, _, (fun b ys => IntsAre ys (powsTo i (f9 - 65) b) ∧ b ≤ 4), _, Src.range rg2 rfl rfl, rfl, F2, N2, ?lim, ⟨.nil, Nat.zero_le _⟩, ?turn2, ?fin2⟩
    case lim =>
      intro b ys h
      obtain ⟨h, hb⟩ := h
      have := h.length
      have := powsTo_len i (f9 - 65) b
      rw [PySem.sizeLine_eq]; omega
    case turn2 =>
      intro b v ys I2 oI2 C oC D2 m₂ h2 tk2 hb hP hacc F N off2 ne hC hx
      clear off2 ne off
      unfold Turn
      refine wpAny_tests_one ?_
      obtain ⟨t8, hv⟩ := hP
      have hb4 : b < 4 := hb
      have hv : v = .int (b : Int) t8 := by rw [hv, Int.zero_add]
      subst hv
      have hmq : IntMulOk (16 ^ (i : Int).toNat) (2 ^ (b : Int).toNat) := pows_fit hi2 hb4
      try k_fold
      dsimp only
      have hacc1 := hacc.1
      k_steps
      · exact TurnEnd.intro (by assumption) (by assumption) (fun p hp => hp) ⟨powsTo_pos rfl hacc1 (by assumption) rfl, hb4⟩
      · exact TurnEnd.intro (by assumption) (by assumption) (fun p hp => hp) ⟨powsTo_neg rfl hacc1 (by assumption), hb4⟩
    case fin2 =>
      intro Dc ys hacc h tk F N o1
      try simp only [LCg.Off1] at o1
      have hacc : IntsAre ys (powsTo i (f9 - 65) 4) := hacc.1
      have hyl := hacc.length
      have hpl := powsTo_len i (f9 - 65) 4
      have hz1 : us.length ≤ 100000 := by omega
      have hz2 : ys.length ≤ 100000 := by omega
      try k_fold
      k_steps
      have e9 : f9 - 65 = figAt n0 i := congrArg (fun x : Int => x - 65) hfg
      with_reducible rename _ = Data.cell (some (Value.int (i : Int) t9)) => dP9
      with_reducible rename _ = Data.cell (some (Value.int (f9 - 65) _)) => dF9
      refine ForNext.intro (by assumption) (by assumption) [(D, W.listOf (us ++ ys).toArray (extN n ys)), (L + 1 + 1, _), (L + 1, _)] ?sub ⟨off.1, off.2.1, off.2.2, trivial⟩ ⟨tw, ?m9, us ++ ys, extN n ys, _, _, _, _, rfl, dF9, dP9, ?u9⟩
      case sub => lcg_sub
      case m9 => kst_all
      case u9 => exact letters_snoc hu e9 hacc
  case fin =>
    intro m news h tk hJ F N
    obtain ⟨tw, hm, us, n, oF, oP, vF, vP, rfl, dF, dP, hu⟩ := hJ
    rw [map_k2 hm] at F
    try k_fold
    k_steps
    rw [letters_bits h0 h1] at hu
    exact Done.intro (by assumption) ⟨_, _, _, rfl, News.fresh (by assumption) (List.Mem.head _), News.get (by assumption) (List.Mem.head _), hu⟩
end
end
theorem flush17 : True := by first | (w_top off; k_with_none; walk1; done) | trivial
section
set_option maxHeartbeats 8000000
theorem words11 : True := by
  k_with "eval ListComp" => (k_here; k_dflt (refine lc1S (by k_asm) (by with_unfolding_all rfl) (by decide) (by rfl) (by decide) (by rfl) ?_))
  k_with "exec Assign cons ListComp" => (k_here; (with_reducible show wpAny _ _ (exec (Stmt.Assign _ (Expr.ListComp _ [_] _ _) _) _) _ _ _); k_dflt (refine lc1SA (by k_asm) (by rfl) (by kernel_rfl) (by first | rfl | with_unfolding_all rfl) (by decide) (by rfl) (by decide) (by rfl) (by rfl) (by rfl) ?_))
  k_with "exec Assign cons ListComp" => (k_here; (with_reducible show wpAny _ _ (exec (Stmt.Assign _ (Expr.ListComp _ [_, _] _ _) _) _) _ _ _); k_dflt (refine lc2SA (by k_asm) (by rfl) (by kernel_rfl) (by first | rfl | with_unfolding_all rfl) (by decide) (by rfl) (by decide) (by rfl) (by rfl) (by decide) (by rfl) (by rfl) ?_))
  k_with "binaryOp Mult str int" => (k_here; k_dflt (refine mul_bl (by omega) (by omega) ?_); intro _ _ )
  k_with "binaryOp Add str str" => (k_here; k_dflt (refine add_ss (by (simp only [Str.length_append, blanks_length, txt_length, lit_blank, lit_tab, lit_x, lit_empty, List.length_cons, List.length_nil] at *; omega)) ?_); intro _ _ )
  k_with "call builtin:str.join" => (k_here; k_dflt (refine join_L (by k_asm) (by k_mem) (by k_asm) (by decide +kernel) (by k_asm) ?_); intro _ _ )
  k_with "call builtin:len" => (k_here; (with_reducible show wpAny _ _ (call (Value.builtin "len") [Value.ref _]) _ _ _); k_dflt (refine t_len (by k_asm) (by with_reducible assumption) (by with_reducible assumption) (by omega) ?_); intro _ _ )
  k_with "subscriptTail" => (k_here; (with_reducible show wpAny _ _ (subscriptTail _ _ (Value.ref _) (Value.int _ _)) _ _ _); k_dflt (refine t_at (by k_asm) (by with_reducible assumption) (by with_reducible assumption) (by omega) (by omega) (by omega) ?_); intro _ )
  k_with "subscriptTail" => (k_here; (with_reducible show wpAny _ _ (subscriptTail _ _ (Value.ref _) (Value.int _ _)) _ _ _); k_dflt (refine l_at (by exact news_list (by k_asm) (by k_mem)) (by with_reducible assumption) (by omega) (by omega) (by omega) ?_); intro _ )
  k_with "ForEnd" => (dsimp only [ForEnd])
  k_with "WhEnd" => (dsimp only [WhEnd])
  trivial
theorem inst_base {h₀ h : Heap} {L x C dx : Addr} {m : Str → Option Value} {od : Obj} {sl : Array (Option Value)} (F : Fr h₀ L h m) (h1 : h₀.get? x = some (⟨.ref C, some dx, .plain, sl⟩ : Obj)) (h2 : h₀.get? dx = some od) :
    InstAt h x ⟨.ref C, some dx, .plain, sl⟩ C (some od) := ⟨F.keep _ _ h1, rfl, rfl, F.keep _ _ h2⟩
theorem int_eq {a b : Int} {t : Tok} (e : a = b) : Value.int a t = .int b t := by rw [e]
section
local macro_rules | `(tactic| k_inst) => `(tactic| (refine' inst_base ?N ?h1 ?h2; (case N => k_asm); (case h1 => with_reducible assumption); (case h2 => with_reducible assumption)))
noncomputable def runOf (d : WsD) : Int := max ((d.cs.length : Int) - 1) d.b
theorem run_c (w : World) (d : WsD) (hz : d.cs.length ≤ 1000) : Call w 400 60 [.ref d.x] (fun h => d.In w h) (IsI (runOf d)) := by
  obtain ⟨x, dx, nx, cx, raw, n, nt, b, cs, us, si, t0, t1, t2, t3, t4, t5, t6, t7, t8⟩ := d
  dsimp only at hz
  have hfill : PySem.Challenge.rw_ty0024_01 = PySem.Challenge.rw_ty0024_01 ∧ Mine.hd.heap_1 = Mine.hd.heap_1 := by k_fill; exact ⟨rfl, rfl⟩
  clear hfill
  refine' enter (binds := [("self", .ref x)]) ?k1 ?k2 ?k3 ?k4 ?k5 ?k6 ?k7 ?k8 ?k9 ?k10
  case k1 => k_is
  case k2 => k_is
  case k3 => decide
  case k4 => exact rfl
  case k5 => exact locs rfl
  case k6 => decide
  case k8 => exact rfl
  case k9 => exact rfl
  case k10 => exact rfl
  intro p loose mean mg mb base lenv g L h₁ s tk hg F N B X T hp
  try k_fold
  obtain ⟨hx, hdx, hnx, hcx, hcs⟩ := hp
  dsimp only at hx hdx hnx hcx hcs
  have tnx : IsTup g nx #[.ref cx, .int b t8] := ⟨_, hnx, rfl, _, rfl⟩
  have tcx : IsTup g cx us.toArray := ⟨_, hcx, rfl, _, rfl⟩
  k_steps
  refine Done.intro (by assumption) ⟨_, int_eq ?_⟩
  unfold runOf
  dsimp only
  rw [Int.max_def]
  split <;> split <;> omega
/-- the sum behind j of the columns from ts on -/
noncomputable def ilTo (cs : List Int) (ts : Int) : Nat → Int
  | 0 => 0
  | j + 1 => ilTo cs ts j + Int.fdiv (ts + j) ts * cs.getD (ts + j).toNat 0
theorem ilTo_succ (cs : List Int) (ts : Int) (j : Nat) : ilTo cs ts (j + 1) = ilTo cs ts j + Int.fdiv (ts + j) ts * cs.getD (ts + j).toNat 0 := rfl
noncomputable def indentOf (d : WsD) (ts : Int) : Int := d.b + ts * (ilTo d.cs ts ((d.cs.length : Int) - ts).toNat + d.nt)
theorem fdiv_small {a b : Int} (h0 : 0 ≤ a) (h1 : 1 ≤ b) (h2 : a ≤ 1000000) (y : Int) : IntMulOk (Int.fdiv a b) y := by
  have e : Int.fdiv a b = a / b := Int.fdiv_eq_ediv_of_nonneg a (by omega)
  have l1 : 0 ≤ a / b := Int.ediv_nonneg h0 (by omega)
  have l2 : a / b ≤ a := Int.ediv_le_self b h0
  rw [e]
  exact IntMulOk.of_left (intBits_le_64 (by omega) (by omega))
section
local macro_rules | `(tactic| mul_fits) => `(tactic| with_reducible assumption)
theorem words12 : True := by
  k_with "exec For Name Call cons nil" => (k_here; k_dflt (refine for_src (by k_asm) ?_))
  trivial
theorem indent_c (w : World) (d : WsD) (ts : Int) (tt : Tok) (hz : d.cs.length ≤ 1000) (h1 : 1 ≤ ts) (h2 : ts ≤ 1000) : Call w 400 67 [.ref d.x, .int ts tt] (fun h => d.In w h) (IsI (indentOf d ts)) := by
  obtain ⟨x, dx, nx, cx, raw, n, nt, b, cs, us, si, t0, t1, t2, t3, t4, t5, t6, t7, t8⟩ := d
  dsimp only at hz
  have hfill : PySem.Challenge.rw_ty0024_01 = PySem.Challenge.rw_ty0024_01 ∧ Mine.hd.heap_1 = Mine.hd.heap_1 := by k_fill; exact ⟨rfl, rfl⟩
  clear hfill
  refine' enter (binds := [("self", .ref x), ("tabsize", .int ts tt)]) ?k1 ?k2 ?k3 ?k4 ?k5 ?k6 ?k7 ?k8 ?k9 ?k10
  case k1 => k_is
  case k2 => k_is
  case k3 => decide
  case k4 => exact rfl
  case k5 => exact locs rfl
  case k6 => decide
  case k8 => exact rfl
  case k9 => exact rfl
  case k10 => exact rfl
  intro p loose mean mg mb base lenv g L h₁ s tk hg F N B X T hp
  try k_fold
  obtain ⟨hx, hdx, hnx, hcx, hcs⟩ := hp
  dsimp only at hx hdx hnx hcx hcs
  have tnx : IsTup g nx #[.ref cx, .int b t8] := ⟨_, hnx, rfl, _, rfl⟩
  have tcx : IsTup g cx us.toArray := ⟨_, hcx, rfl, _, rfl⟩
  k_steps
  unfold Stop
  with_reducible rename IsRange _ _ _ _ _ _ _ _ => rg
  refine ⟨_, _, _, _, (fun i m news => news = [] ∧ ∃ til, (∀ p ∈ [(Str.ofString "self", Value.ref x), (Str.ofString "tabsize", Value.int ts tt), (Str.ofString "count", Value.ref cx), (Str.ofString "trailing", Value.int b t8), (Str.ofString "il", Value.int (ilTo cs ts i) til)], m p.1 = some p.2)),
    Src.range rg (small_to (by omega) (by omega) (by omega) (by omega)) (rangeSize_nat _ _), rfl, by k_asm, by k_asm, ?j0, ?kept, ?turn, ?fin⟩
  case j0 => exact ⟨rfl, _, by kst_all⟩
  case kept =>
    rintro b ⟨⟩ hq
    exact (range_noseq rg hq).elim
  case turn =>
    intro i v m news I oI h tk hi hP hJ F N off
    obtain ⟨t9, rfl⟩ := hP
    obtain ⟨rfl, til, hm⟩ := hJ
    rw [map_k5 hm] at F
    have hlt : ts + (i : Int) < cs.length := by omega
    have hge : 0 ≤ ts + (i : Int) := by omega
    have hm1 := fdiv_small hge h1 (by omega) (cs.getD (ts + (i : Int)).toNat 0)
    dsimp only
    try k_fold
    k_steps
    refine ForNext.intro (by assumption) (by assumption) [] (by lcg_sub) trivial ?jA
    refine ⟨rfl, ?_⟩
    rw [ilTo_succ]
    exact ⟨_, by kst_all⟩
  case fin =>
    intro m news h tk hJ F N
    obtain ⟨rfl, til, hm⟩ := hJ
    rw [map_k5 hm] at F
    have hm1 : IntMulOk ts (ilTo cs ts ((cs.length : Int) - ts).toNat + nt) := IntMulOk.of_left (intBits_le_64 (by omega) (by omega))
    dsimp only
    try k_fold
    k_steps
    exact Done.intro (by assumption) ⟨_, rfl⟩
end
end
end
theorem flush18 : True := by first | (w_top off; k_with_none; walk1; done) | trivial
section
set_option maxHeartbeats 8000000
theorem words13 : True := by
  k_with "eval ListComp" => (k_here; k_dflt (refine lc1S (by k_asm) (by with_unfolding_all rfl) (by decide) (by rfl) (by decide) (by rfl) ?_))
  k_with "exec Assign cons ListComp" => (k_here; (with_reducible show wpAny _ _ (exec (Stmt.Assign _ (Expr.ListComp _ [_] _ _) _) _) _ _ _); k_dflt (refine lc1SA (by k_asm) (by rfl) (by kernel_rfl) (by first | rfl | with_unfolding_all rfl) (by decide) (by rfl) (by decide) (by rfl) (by rfl) (by rfl) ?_))
  k_with "exec Assign cons ListComp" => (k_here; (with_reducible show wpAny _ _ (exec (Stmt.Assign _ (Expr.ListComp _ [_, _] _ _) _) _) _ _ _); k_dflt (refine lc2SA (by k_asm) (by rfl) (by kernel_rfl) (by first | rfl | with_unfolding_all rfl) (by decide) (by rfl) (by decide) (by rfl) (by rfl) (by decide) (by rfl) (by rfl) ?_))
  k_with "binaryOp Mult str int" => (k_here; k_dflt (refine mul_bl (by omega) (by omega) ?_); intro _ _ )
  k_with "binaryOp Add str str" => (k_here; k_dflt (refine add_ss (by (simp only [Str.length_append, blanks_length, txt_length, lit_blank, lit_tab, lit_x, lit_empty, List.length_cons, List.length_nil] at *; omega)) ?_); intro _ _ )
  k_with "call builtin:str.join" => (k_here; k_dflt (refine join_L (by k_asm) (by k_mem) (by k_asm) (by decide +kernel) (by k_asm) ?_); intro _ _ )
  k_with "call builtin:len" => (k_here; (with_reducible show wpAny _ _ (call (Value.builtin "len") [Value.ref _]) _ _ _); k_dflt (refine t_len (by k_asm) (by with_reducible assumption) (by with_reducible assumption) (by omega) ?_); intro _ _ )
  k_with "subscriptTail" => (k_here; (with_reducible show wpAny _ _ (subscriptTail _ _ (Value.ref _) (Value.int _ _)) _ _ _); k_dflt (refine t_at (by k_asm) (by with_reducible assumption) (by with_reducible assumption) (by omega) (by omega) (by omega) ?_); intro _ )
  k_with "subscriptTail" => (k_here; (with_reducible show wpAny _ _ (subscriptTail _ _ (Value.ref _) (Value.int _ _)) _ _ _); k_dflt (refine l_at (by exact news_list (by k_asm) (by k_mem)) (by with_reducible assumption) (by omega) (by omega) (by omega) ?_); intro _ )
  k_with "ForEnd" => (dsimp only [ForEnd])
  k_with "WhEnd" => (dsimp only [WhEnd])
  trivial
theorem WsD.In.keep {w : World} {d : WsD} {g h : Heap} (x : d.In w g) (st : g.StaysIn h) : d.In w h := ⟨st _ _ x.1, st _ _ x.2.1, st _ _ x.2.2.1, st _ _ x.2.2.2.1, x.2.2.2.2⟩
noncomputable abbrev tripObj (a b c : Int) (ta tb tc : Tok) : Obj := { cls := Value.type "tuple", data := Data.seq #[.int a ta, .int b tb, .int c tc] }
/-- the members of a list are these triples -/
noncomputable def Trips (tl : List (Addr × Obj)) (us : List Value) (rows : List (Int × Int × Int)) : Prop :=
  us.length = rows.length ∧ ∀ (j : Nat) (r : Int × Int × Int), rows[j]? = some r → ∃ t ta tb tc, us[j]? = some (Value.ref t) ∧ (t, tripObj r.1 r.2.1 r.2.2 ta tb tc) ∈ tl
theorem Trips.nil (tl : List (Addr × Obj)) : Trips tl [] [] := ⟨rfl, fun _ _ h => by simp at h⟩
theorem Trips.mono {tl tl' : List (Addr × Obj)} {us rows} (x : Trips tl us rows) (h : ∀ p ∈ tl, p ∈ tl') : Trips tl' us rows :=
  ⟨x.1, fun j r e => by obtain ⟨t, ta, tb, tc, e1, e2⟩ := x.2 j r e; exact ⟨t, ta, tb, tc, e1, h _ e2⟩⟩
theorem Trips.snoc {tl : List (Addr × Obj)} {us rows} {t : Addr} {a b c : Int} {ta tb tc : Tok} (x : Trips tl us rows) : Trips ((t, tripObj a b c ta tb tc) :: tl) (us ++ [Value.ref t]) (rows ++ [(a, b, c)]) := by
  refine ⟨by simp [x.1], fun j r e => ?_⟩
  by_cases hj : j < rows.length
  · rw [List.getElem?_append_left hj] at e
    obtain ⟨t, ta, tb, tc, e1, e2⟩ := x.2 j r e
    exact ⟨t, ta, tb, tc, by rw [List.getElem?_append_left (by rw [x.1]; exact hj)]; exact e1, .tail _ e2⟩
  · rw [List.getElem?_append_right (Nat.not_lt.mp hj)] at e
    have h0 : j - rows.length = 0 := by
      cases q : j - rows.length with
      | zero => rfl
      | succ k => rw [q] at e; simp at e
    rw [h0] at e
    have e : (a, b, c) = r := by simpa using e
    subst e
    exact ⟨t, ta, tb, tc, by rw [List.getElem?_append_right (by rw [x.1]; exact Nat.not_lt.mp hj), x.1, h0]; rfl, .head _⟩
/-- the rows of a witness -/
noncomputable def witTo (d e : WsD) : Nat → List (Int × Int × Int)
  | 0 => []
  | i + 1 => witTo d e i ++ (if indentOf d (1 + i) ≠ indentOf e (1 + i) then [(1 + (i : Int), indentOf d (1 + i), indentOf e (1 + i))] else [])
theorem witTo_ne {d e : WsD} {i : Nat} (h : indentOf d (1 + i) ≠ indentOf e (1 + i)) : witTo d e (i + 1) = witTo d e i ++ [(1 + (i : Int), indentOf d (1 + i), indentOf e (1 + i))] := by rw [witTo, if_pos h]
theorem witTo_eq {d e : WsD} {i : Nat} (h : indentOf d (1 + i) = indentOf e (1 + i)) : witTo d e (i + 1) = witTo d e i := by rw [witTo, if_neg (fun q => q h), List.append_nil]
theorem witTo_len (d e : WsD) : ∀ i, (witTo d e i).length ≤ i
  | 0 => Nat.le_refl _
  | i + 1 => by
    have := witTo_len d e i
    rw [witTo, List.length_append]
    split
    · exact Nat.add_le_add this (Nat.le_refl _)
    · exact Nat.le_trans this (Nat.le_succ _)
noncomputable def witN (d e : WsD) : Nat := ((if runOf e > runOf d then runOf e else runOf d) + 1 + 1 - 1).toNat
/-- a new list of new triples -/
inductive NewTrips (rows : List (Int × Int × Int)) (g h : Heap) (v : Value) : Prop
  | mk (r : _) (us : _) (n : _) (tl : _)
    (h1 : v = .ref r)
    (h2 : g.get? r = none)
    (h3 : h.get? r = some (W.listOf us.toArray n))
    (h4 : Trips tl us rows)
    (h5 : ∀ p ∈ tl, h.get? p.1 = some p.2 ∧ g.get? p.1 = none) : NewTrips rows g h v
inductive WitJ (d e : WsD) (Da : Addr) (i : Nat) (m : Str → Option Value) (news : List (Addr × Obj)) : Prop
  | mk (us : List Value) (k : Nat) (tl : List (Addr × Obj)) (hm : ∀ p ∈ [(Str.ofString "self", Value.ref d.x), (Str.ofString "other", Value.ref e.x), (Str.ofString "a", Value.ref Da)], m p.1 = some p.2)
    (h1 : news = (Da, W.listOf us.toArray k) :: tl) (h2 : Trips tl us (witTo d e i)) (h3 : ∀ p ∈ tl, (@Ne Nat p.1 Da)) : WitJ d e Da i m news
theorem runOf_bound {d : WsD} (h1 : d.cs.length ≤ 100) (h2 : 0 ≤ d.b) (h3 : d.b ≤ 100) : 0 ≤ runOf d ∧ runOf d ≤ 100 := by
  unfold runOf; omega
section
local macro_rules | `(tactic| k_inst) => `(tactic| (refine' inst_base ?N ?h1 ?h2; (case N => k_asm); (case h1 => with_reducible assumption); (case h2 => with_reducible assumption)))
local macro_rules | `(tactic| k_all) => `(tactic| with_reducible assumption)
theorem words14 : True := by
  k_with "exec For Name Call cons nil" => (k_here; k_dflt (refine for_src (by k_asm) ?_))
  k_with "call ref" => (k_here; k_dflt (refine Call.useI (by exact rfl) (by (simp only [depth_under_make, depth_under_kw, depth_in1, depth_deeper, depth_caller, aT_depth]; decide)) (by (simp only [units_deeper, units_in1, units_caller, units_under_make, aT_units]; decide)) (by exact rfl) (by exact rfl) (by exact rfl) (by k_asm) (by k_asm) (by k_asm) (by k_asm) (by k_asm) (by exact WsD.In.keep (by with_reducible assumption) (Fr.keep (by k_asm))) (run_c _ _ (by with_reducible assumption)) ?_; skip); intro _ _ _ _ _ ; (try k_sweep); (try k_fold))
  k_with "call ref" => (k_here; k_dflt (refine Call.useI (by exact rfl) (by (simp only [depth_under_make, depth_under_kw, depth_in1, depth_deeper, depth_caller, aT_depth]; decide)) (by (simp only [units_deeper, units_in1, units_caller, units_under_make, aT_units]; decide)) (by exact rfl) (by exact rfl) (by exact rfl) (by k_asm) (by k_asm) (by k_asm) (by k_asm) (by k_asm) (by exact WsD.In.keep (by with_reducible assumption) (Fr.keep (by k_asm))) (indent_c _ _ _ _ (by with_reducible assumption) (by omega) (by omega)) ?_; skip); intro _ _ _ _ _ ; (try k_sweep); (try k_fold))
  trivial
theorem witness_c (w : World) (d e : WsD) (hz1 : d.cs.length ≤ 100) (hz2 : e.cs.length ≤ 100) (hb1 : 0 ≤ d.b) (hb2 : d.b ≤ 100) (hb3 : 0 ≤ e.b) (hb4 : e.b ≤ 100) :
   Call w 390 81 [.ref d.x, .ref e.x] (fun h => d.In w h ∧ e.In w h) (NewTrips (witTo d e (witN d e))) := by
  have hfill : PySem.Challenge.rw_ty0024_01 = PySem.Challenge.rw_ty0024_01 ∧ Mine.hd.heap_1 = Mine.hd.heap_1 := by k_fill; exact ⟨rfl, rfl⟩
  clear hfill
  refine' enter (binds := [("self", .ref d.x), ("other", .ref e.x)]) ?k1 ?k2 ?k3 ?k4 ?k5 ?k6 ?k7 ?k8 ?k9 ?k10
  case k1 => k_is
  case k2 => k_is
  case k3 => decide
  case k4 => exact rfl
  case k5 => exact locs rfl
  case k6 => decide
  case k8 => exact rfl
  case k9 => exact rfl
  case k10 => exact rfl
  intro p loose mean mg mb base lenv g L h₁ s tk hg F N B X T hp
  try k_fold
  obtain ⟨hd, he⟩ := hp
  obtain ⟨hx, hdx, hnx, hcx, hcs⟩ := id hd
  obtain ⟨kx, kdx, knx, kcx, kcs⟩ := id he
  have hzz1 : d.cs.length ≤ 1000 := Nat.le_trans hz1 (by decide)
  have hzz2 : e.cs.length ≤ 1000 := Nat.le_trans hz2 (by decide)
  have hr1 := runOf_bound hz1 hb1 hb2
  have hr2 := runOf_bound hz2 hb3 hb4
  k_steps
  unfold Stop
  with_reducible rename IsRange _ _ _ _ _ _ _ _ => rg
  with_reducible rename Fr _ _ _ _ => F1
  with_reducible rename News _ _ _ _ => N1
  rename_i Da _ _ _ _ _ _ _ _ _ _ _
  refine ⟨_, _, _, _, WitJ d e Da,
    Src.range rg (small_to (by decide) (by decide) (by split <;> omega) (by split <;> omega)) (rangeSize_nat _ _), rfl, F1, N1, ?j0, ?kept, ?turn, ?fin⟩
  case j0 => exact ⟨[], 0, [], by kst_all, rfl, Trips.nil _, fun _ h => nomatch h⟩
  case kept =>
    rintro b ⟨⟩ hq
    exact (range_noseq rg hq).elim
  case turn =>
    intro i v m news I oI h tk hi hP hJ F N off
    obtain ⟨t9, rfl⟩ := hP
    obtain ⟨us, k, tl, hm, rfl, ht, hne⟩ := hJ
    rw [map_k3 hm] at F
    try simp only [LCg.Off1] at off
    have hlt : 1 + (i : Int) ≤ 1000 := by
      have : i < 1000 := Nat.lt_of_lt_of_le hi (by split <;> omega)
      omega
    have hge : 1 ≤ 1 + (i : Int) := by omega
    have htl := ht.1
    have hwl := witTo_len d e i
    have hul : us.length ≤ 100000 := by omega
    dsimp only
    try k_fold
    k_steps
    · with_reducible rename indentOf _ _ ≠ _ => hne9
      rename_i Dn _ l9 _ F9 N9
      refine ForNext.intro F9 N9 ((Da, _) :: (Dn, _) :: tl) (List.forall_mem_cons.mpr ⟨.tail _ (.head _), List.forall_mem_cons.mpr ⟨.tail _ (.tail _ (.head _)), List.forall_mem_cons.mpr ⟨.head _, fun p hp => .tail _ (.tail _ (.tail _ hp))⟩⟩⟩) ⟨off.1, Nat.ne_of_gt l9.1, off.2⟩ ?jA
      refine ⟨us ++ [Value.ref Dn], k + 1, (Dn, _) :: tl, by kst_all, rfl, by rw [witTo_ne hne9]; exact ht.snoc, ?_⟩
      exact List.forall_mem_cons.mpr ⟨Nat.ne_of_gt l9.2.1, hne⟩
    · rename_i heq9
      refine ForNext.intro (by assumption) (by assumption) ((Da, _) :: tl) (List.forall_mem_cons.mpr ⟨.head _, List.forall_mem_cons.mpr ⟨.tail _ (.head _), fun p hp => .tail _ (.tail _ hp)⟩⟩) ⟨off.1, off.2⟩ ?jB
      exact ⟨us, k, tl, by kst_all, rfl, by rw [witTo_eq heq9]; exact ht, hne⟩
  case fin =>
    intro m news h tk hJ F N
    obtain ⟨us, k, tl, hm, rfl, ht, hne⟩ := hJ
    rw [map_k3 hm] at F
    dsimp only
    try k_fold
    k_steps
    exact Done.intro (by assumption) ⟨Da, us, k, tl, rfl, N.fresh (.head _), N.get (.head _), ht, fun p hp => ⟨N.get (.tail _ hp), N.fresh (.tail _ hp)⟩⟩
end
end
theorem flush19 : True := by first | (w_top off; k_with_none; walk1; done) | trivial
section
set_option maxHeartbeats 8000000
theorem words15 : True := by
  k_with "eval ListComp" => (k_here; k_dflt (refine lc1S (by k_asm) (by with_unfolding_all rfl) (by decide) (by rfl) (by decide) (by rfl) ?_))
  k_with "exec Assign cons ListComp" => (k_here; (with_reducible show wpAny _ _ (exec (Stmt.Assign _ (Expr.ListComp _ [_] _ _) _) _) _ _ _); k_dflt (refine lc1SA (by k_asm) (by rfl) (by kernel_rfl) (by first | rfl | with_unfolding_all rfl) (by decide) (by rfl) (by decide) (by rfl) (by rfl) (by rfl) ?_))
  k_with "exec Assign cons ListComp" => (k_here; (with_reducible show wpAny _ _ (exec (Stmt.Assign _ (Expr.ListComp _ [_, _] _ _) _) _) _ _ _); k_dflt (refine lc2SA (by k_asm) (by rfl) (by kernel_rfl) (by first | rfl | with_unfolding_all rfl) (by decide) (by rfl) (by decide) (by rfl) (by rfl) (by decide) (by rfl) (by rfl) ?_))
  k_with "binaryOp Mult str int" => (k_here; k_dflt (refine mul_bl (by omega) (by omega) ?_); intro _ _ )
  k_with "binaryOp Add str str" => (k_here; k_dflt (refine add_ss (by (simp only [Str.length_append, blanks_length, txt_length, lit_blank, lit_tab, lit_x, lit_empty, List.length_cons, List.length_nil] at *; omega)) ?_); intro _ _ )
  k_with "call builtin:str.join" => (k_here; k_dflt (refine join_L (by k_asm) (by k_mem) (by k_asm) (by decide +kernel) (by k_asm) ?_); intro _ _ )
  k_with "call builtin:len" => (k_here; (with_reducible show wpAny _ _ (call (Value.builtin "len") [Value.ref _]) _ _ _); k_dflt (refine t_len (by k_asm) (by with_reducible assumption) (by with_reducible assumption) (by omega) ?_); intro _ _ )
  k_with "subscriptTail" => (k_here; (with_reducible show wpAny _ _ (subscriptTail _ _ (Value.ref _) (Value.int _ _)) _ _ _); k_dflt (refine t_at (by k_asm) (by with_reducible assumption) (by with_reducible assumption) (by omega) (by omega) (by omega) ?_); intro _ )
  k_with "subscriptTail" => (k_here; (with_reducible show wpAny _ _ (subscriptTail _ _ (Value.ref _) (Value.int _ _)) _ _ _); k_dflt (refine l_at (by exact news_list (by k_asm) (by k_mem)) (by with_reducible assumption) (by omega) (by omega) (by omega) ?_); intro _ )
  k_with "ForEnd" => (dsimp only [ForEnd])
  k_with "WhEnd" => (dsimp only [WhEnd])
  trivial
noncomputable def goneL (joins : List Int) (size : Int) : List Int := joins.filter fun r => decide (2 * Int.fmod r size < size)
noncomputable def goneOf (joins : List Int) (size : Int) : Int := (goneL joins size).length
theorem goneL_snoc (l : List Int) (k size : Int) : goneL (l ++ [k]) size = goneL l size ++ (if 2 * Int.fmod k size < size then [k] else []) := by
  unfold goneL
  rw [List.filter_append]
  congr 1
  by_cases h : 2 * Int.fmod k size < size <;> simp [h]
noncomputable def cellOf (size r : Int) : Int := size * (Int.fdiv r size + 1)
noncomputable def colOf (rows : List Int) (behind size : Int) : Int := behind + (rows.map (cellOf size)).sum
noncomputable def dueTo (rows joins : List Int) (behind : Int) : Nat → List (Int × Int × Int)
  | 0 => []
  | i + 1 => dueTo rows joins behind i ++ (if 0 < goneOf joins (1 + i) then [(1 + (i : Int), colOf rows behind (1 + i), colOf rows behind (1 + i) - (1 + i) * goneOf joins (1 + i))] else [])
theorem dueTo_yes {rows joins : List Int} {behind : Int} {i : Nat} (h : 0 < goneOf joins (1 + i)) : dueTo rows joins behind (i + 1) = dueTo rows joins behind i ++ [(1 + (i : Int), colOf rows behind (1 + i), colOf rows behind (1 + i) - (1 + i) * goneOf joins (1 + i))] := by rw [dueTo, if_pos h]
theorem dueTo_no {rows joins : List Int} {behind : Int} {i : Nat} (h : ¬ 0 < goneOf joins (1 + i)) : dueTo rows joins behind (i + 1) = dueTo rows joins behind i := by rw [dueTo, if_neg h, List.append_nil]
theorem dueTo_len (rows joins : List Int) (behind : Int) : ∀ i, (dueTo rows joins behind i).length ≤ i
  | 0 => Nat.le_refl _
  | i + 1 => by
    have := dueTo_len rows joins behind i
    rw [dueTo, List.length_append]
    split
    · exact Nat.add_le_add this (Nat.le_refl _)
    · exact Nat.le_trans this (Nat.le_succ _)
inductive DueJ (ns js : List Int) (behind : Int) (tb : Tok) (l j Dd L : Addr) (longest : Int) (tl0 : Tok) (i : Nat) (m : Str → Option Value) (news : List (Addr × Obj)) : Prop
  | mk (us : List Value) (k : Nat) (tl : List (Addr × Obj)) (oS : Obj) (vS : Option Value) (hm : ∀ p ∈ [(Str.ofString "rows", Value.ref l), (Str.ofString "joins", Value.ref j), (Str.ofString "behind", Value.int behind tb), (Str.ofString "longest", Value.int longest tl0), (Str.ofString "due", Value.ref Dd)], m p.1 = some p.2)
    (h1 : news = (Dd, W.listOf us.toArray k) :: (L + 1, oS) :: tl) (h2 : oS.data = .cell vS) (h3 : Trips tl us (dueTo ns js behind i)) (h4 : ∀ p ∈ tl, (@Ne Nat p.1 Dd)) (h5 : ∀ p ∈ tl, (@Ne Nat p.1 (L + 1))) : DueJ ns js behind tb l j Dd L longest tl0 i m news
section
local macro_rules | `(tactic| lcg_sub) => `(tactic| (intro p9 hp9; (repeat refine List.Mem.tail _ ?_); exact hp9))
local macro_rules | `(tactic| mul_fits) => `(tactic| with_reducible assumption)
local macro_rules | `(tactic| k_all) => `(tactic| with_reducible assumption)
theorem words16 : True := by
  k_with "exec For Name Call cons nil" => (k_here; k_dflt (refine for_src (by k_asm) ?_))
  trivial
theorem due_c (w : World) (l j : Addr) (vs ws : List Value) (ns js : List Int) (behind longest : Int) (tb tl0 : Tok) (hI : IntsAre vs ns) (hJ0 : IntsAre ws js) (hlen : ns.length ≤ 7) (hlen2 : js.length ≤ 7) (hb : ∀ x ∈ ns, 1 ≤ x ∧ x ≤ 6) (hjb : ∀ x ∈ js, 1 ≤ x ∧ x ≤ 100)
   (h0 : 0 ≤ behind) (h1 : behind ≤ 3) (h2 : 1 ≤ longest) (h3 : longest ≤ 100) :
   Call w 390 158 [.ref l, .ref j, .int behind tb, .int longest tl0] (fun h => h.IsList l vs.toArray ∧ h.IsList j ws.toArray) (NewTrips (dueTo ns js behind (longest + 1).toNat)) := by
  have hfill : PySem.Challenge.rw_ty0024_01 = PySem.Challenge.rw_ty0024_01 ∧ Mine.hd.heap_1 = Mine.hd.heap_1 := by k_fill; exact ⟨rfl, rfl⟩
  clear hfill
  refine' enterC (binds := [("rows", .ref l), ("joins", .ref j), ("behind", .int behind tb), ("longest", .int longest tl0)]) ?k1 ?k2 ?k3 ?k4 ?k5 ?k6 ?k7 ?k8 ?k9 ?k10
  case k1 => k_is
  case k2 => k_is
  case k3 => decide
  case k4 => exact rfl
  case k5 => exact rfl
  case k6 => decide +kernel
  case k8 => exact rfl
  case k9 => exact rfl
  case k10 => exact rfl
  intro p loose mean mg mb base lenv g L h₁ s tk cells hg F N Y B X T hp
  k_cells Y
  try simp only [List.cons_append, List.nil_append] at N
  try k_fold
  obtain ⟨hpl, hpj⟩ := hp
  k_steps
  unfold Stop
  with_reducible rename IsRange _ _ _ _ _ _ _ _ => rg
  with_reducible rename Fr _ _ _ _ => F1
  with_reducible rename News _ _ _ _ => N1
  rename_i o1 d1 Dd _ l8 _ _ _ _ _ _ _ _ _
  refine ⟨_, _, _, _, DueJ ns js behind tb l j Dd L longest tl0,
    Src.range rg (small_to (by decide) (by decide) (by omega) (by omega)) (rangeSize_nat _ _), rfl, F1, N1, ?j0, ?kept, ?turn, ?fin⟩
  case j0 => exact ⟨[], 0, [], _, _, by kst_all, rfl, d1, Trips.nil _, (fun _ h => nomatch h), fun _ h => nomatch h⟩
  case kept =>
    rintro b ⟨⟩ hq
    exact (range_noseq rg hq).elim
  case turn =>
    intro i v m news I oI h tk hi hP hJ F N off
    obtain ⟨t9, rfl⟩ := hP
    obtain ⟨us, k, tl, oS, vS, hm, rfl, dS, ht, hne, hne2⟩ := hJ
    rw [map_k5 hm] at F
    try simp only [LCg.Off1] at off
    have hlt : 1 + (i : Int) ≤ 1000 := by omega
    have hge : 1 ≤ 1 + (i : Int) := by omega
    have htl := ht.1
    have hwl := dueTo_len ns js behind i
    have hul : us.length ≤ 100000 := by omega
    have hl8 : @LT.lt Nat _ (L + 1) Dd := l8
    have hne3 : @Ne Nat Dd (L + 1) := Nat.ne_of_gt l8
    dsimp only
    try k_fold
    k_steps
    unfold Stop
    rename_i oS2 F2 N2 dS2
    refine ⟨_, _, (fun b ys => IntsAre ys (goneL (js.take b) (1 + (i : Int)))), _, Src.listB hpj, rfl, F2, N2, ?lim, .nil, ?turn2, ?fin2⟩
    case lim =>
      intro b ys h
      have := h.length
      have h1 := List.length_filter_le (fun r => decide (2 * Int.fmod r (1 + (i : Int)) < 1 + (i : Int))) (js.take b)
      rw [List.length_take] at h1
      unfold goneL at this
      rw [PySem.sizeLine_eq]; omega
    case turn2 =>
      intro b v ys I2 oI2 C oC D2 m₂ h2 tk2 hb9 hP hacc F N off2 ne hC hx
      clear off2 ne
      unfold Turn
      refine wpAny_tests_one ?_
      obtain ⟨k9, t8, rfl, hk⟩ := IntsAre.at hJ0 b v (by simpa using hP)
      have hkb := hjb k9 (List.mem_of_getElem? hk)
      dsimp only
      try k_fold
      k_steps
      all_goals (refine TurnEnd.intro (by assumption) (by assumption) (fun p hp => hp) ?_)
      · rw [List.take_add_one, hk, Option.toList_some, goneL_snoc, if_pos (by with_reducible assumption)]; exact hacc.append (.cons _ _ .nil)
      · rw [List.take_add_one, hk, Option.toList_some, goneL_snoc, if_neg (by with_reducible assumption), List.append_nil]; exact hacc
    case fin2 =>
      intro Dc ys hacc h tk F N o1
      try simp only [LCg.Off1] at o1
      rw [show ws.toArray.size = js.length by rw [List.size_toArray, hJ0.length], List.take_length] at hacc
      have hgl : (goneL js (1 + (i : Int))).length ≤ 7 := Nat.le_trans (List.length_filter_le _ _) hlen2
      have hyl := hacc.length
      dsimp only
      try k_fold
      k_steps
      unfold Stop
      rename_i F3 N3
      refine ⟨_, _, (fun b ys => IntsAre ys ((ns.take b).map (cellOf (1 + (i : Int))))), _, Src.listB hpl, rfl, F3, N3, ?lim3, .nil, ?turn3, ?fin3⟩
      case lim3 =>
        intro b ys h
        have := h.length
        rw [List.length_map, List.length_take] at this
        rw [PySem.sizeLine_eq]; omega
      case turn3 =>
        intro b v ys I2 oI2 C oC D2 m₂ h2 tk2 hb9 hP hacc F N off2 ne hC hx
        clear off2 ne
        unfold Turn
        refine wpAny_tests_nil ?_
        simp only [if_true]
        obtain ⟨k9, t8, rfl, hk⟩ := IntsAre.at hI b v (by simpa using hP)
        have hkb := hb k9 (List.mem_of_getElem? hk)
        have hm1 : IntMulOk (1 + (i : Int)) (Int.fdiv k9 (1 + (i : Int)) + 1) := IntMulOk.of_left (intBits_le_64 (by omega) (by omega))
        try dsimp only
        try k_fold
        k_steps
        refine TurnEnd.intro (by assumption) (by assumption) (fun p hp => hp) ?_
        rw [List.take_add_one, hk, Option.toList_some, List.map_append]
        exact hacc.append (.cons _ _ .nil)
      case fin3 =>
        intro D4 ys4 hacc4 h tk F N o4
        try simp only [LCg.Off1] at o4
        rw [show vs.toArray.size = ns.length by rw [List.size_toArray, hI.length], List.take_length] at hacc4
        have hyl4 := hacc4.length
        rw [List.length_map] at hyl4
        dsimp only
        try k_fold
        k_steps
        · with_reducible rename 0 < ((goneL js _).length : Int) => hg9
          rename_i Dn _ l9 _ F9 N9
          refine ForNext.intro F9 N9 ((Dd, _) :: (L + 1, oS2) :: (Dn, _) :: tl) (by lcg_sub) ⟨off.1, off.2.1, Nat.ne_of_gt l9.2.2.1, off.2.2⟩ ?jA
          refine ⟨us ++ [Value.ref Dn], k + 1, (Dn, _) :: tl, oS2, _, by kst_all, rfl, dS2, by rw [dueTo_yes hg9]; exact ht.snoc, ?_, ?_⟩
          · exact List.forall_mem_cons.mpr ⟨Nat.ne_of_gt l9.2.2.2.1, hne⟩
          · exact List.forall_mem_cons.mpr ⟨Nat.ne_of_gt l9.2.2.2.2.1, hne2⟩
        · with_reducible rename ¬(0 < ((goneL js _).length : Int)) => hg9
          refine ForNext.intro (by assumption) (by assumption) ((Dd, _) :: (L + 1, oS2) :: tl) (by lcg_sub) ⟨off.1, off.2.1, off.2.2⟩ ?jB
          exact ⟨us, k, tl, oS2, _, by kst_all, rfl, dS2, by rw [dueTo_no hg9]; exact ht, hne, hne2⟩
  case fin =>
    intro m news h tk hJ F N
    obtain ⟨us, k, tl, oS, vS, hm, rfl, dS, ht, hne, hne2⟩ := hJ
    rw [map_k5 hm] at F
    dsimp only
    try k_fold
    k_steps
    have e9 : (longest + 2 - 1).toNat = (longest + 1).toNat := by omega
    rw [e9] at ht
    exact Done.intro (by assumption) ⟨Dd, us, k, tl, rfl, N.fresh (.head _), N.get (.head _), ht, fun p hp => ⟨N.get (.tail _ (.tail _ hp)), N.fresh (.tail _ (.tail _ hp))⟩⟩
end
end
theorem flush20 : True := by first | (w_top off; k_with_none; walk1; done) | trivial
section
set_option maxHeartbeats 8000000
theorem words17 : True := by
  k_with "eval ListComp" => (k_here; k_dflt (refine lc1S (by k_asm) (by with_unfolding_all rfl) (by decide) (by rfl) (by decide) (by rfl) ?_))
  k_with "exec Assign cons ListComp" => (k_here; (with_reducible show wpAny _ _ (exec (Stmt.Assign _ (Expr.ListComp _ [_] _ _) _) _) _ _ _); k_dflt (refine lc1SA (by k_asm) (by rfl) (by kernel_rfl) (by first | rfl | with_unfolding_all rfl) (by decide) (by rfl) (by decide) (by rfl) (by rfl) (by rfl) ?_))
  k_with "exec Assign cons ListComp" => (k_here; (with_reducible show wpAny _ _ (exec (Stmt.Assign _ (Expr.ListComp _ [_, _] _ _) _) _) _ _ _); k_dflt (refine lc2SA (by k_asm) (by rfl) (by kernel_rfl) (by first | rfl | with_unfolding_all rfl) (by decide) (by rfl) (by decide) (by rfl) (by rfl) (by decide) (by rfl) (by rfl) ?_))
  k_with "binaryOp Mult str int" => (k_here; k_dflt (refine mul_bl (by omega) (by omega) ?_); intro _ _ )
  k_with "binaryOp Add str str" => (k_here; k_dflt (refine add_ss (by (simp only [Str.length_append, blanks_length, txt_length, lit_blank, lit_tab, lit_x, lit_empty, List.length_cons, List.length_nil] at *; omega)) ?_); intro _ _ )
  k_with "call builtin:str.join" => (k_here; k_dflt (refine join_L (by k_asm) (by k_mem) (by k_asm) (by decide +kernel) (by k_asm) ?_); intro _ _ )
  k_with "call builtin:len" => (k_here; (with_reducible show wpAny _ _ (call (Value.builtin "len") [Value.ref _]) _ _ _); k_dflt (refine t_len (by k_asm) (by with_reducible assumption) (by with_reducible assumption) (by omega) ?_); intro _ _ )
  k_with "subscriptTail" => (k_here; (with_reducible show wpAny _ _ (subscriptTail _ _ (Value.ref _) (Value.int _ _)) _ _ _); k_dflt (refine t_at (by k_asm) (by with_reducible assumption) (by with_reducible assumption) (by omega) (by omega) (by omega) ?_); intro _ )
  k_with "subscriptTail" => (k_here; (with_reducible show wpAny _ _ (subscriptTail _ _ (Value.ref _) (Value.int _ _)) _ _ _); k_dflt (refine l_at (by exact news_list (by k_asm) (by k_mem)) (by with_reducible assumption) (by omega) (by omega) (by omega) ?_); intro _ )
  k_with "ForEnd" => (dsimp only [ForEnd])
  k_with "WhEnd" => (dsimp only [WhEnd])
  trivial
noncomputable def lesN (d e : WsD) : Nat := ((if runOf e > runOf d then runOf e else runOf d) + 1 + 1 - 2).toNat
noncomputable def LessP (d e : WsD) : Prop := d.n < e.n ∧ ∀ j : Nat, j < lesN d e → indentOf d (2 + j) < indentOf e (2 + j)
section
local macro_rules | `(tactic| k_inst) => `(tactic| (refine' inst_base ?N ?h1 ?h2; (case N => k_asm); (case h1 => with_reducible assumption); (case h2 => with_reducible assumption)))
theorem words18 : True := by
  k_with "exec For Name Call cons nil" => (k_here; k_dflt (refine for_src (by k_asm) ?_))
  k_with "call ref" => (k_here; k_dflt (refine Call.useI (by exact rfl) (by (simp only [depth_under_make, depth_under_kw, depth_in1, depth_deeper, depth_caller, aT_depth]; decide)) (by (simp only [units_deeper, units_in1, units_caller, units_under_make, aT_units]; decide)) (by exact rfl) (by exact rfl) (by exact rfl) (by k_asm) (by k_asm) (by k_asm) (by k_asm) (by k_asm) (by exact WsD.In.keep (by with_reducible assumption) (Fr.keep (by k_asm))) (run_c _ _ (by with_reducible assumption)) ?_; skip); intro _ _ _ _ _ ; (try k_sweep); (try k_fold))
  k_with "call ref" => (k_here; k_dflt (refine Call.useI (by exact rfl) (by (simp only [depth_under_make, depth_under_kw, depth_in1, depth_deeper, depth_caller, aT_depth]; decide)) (by (simp only [units_deeper, units_in1, units_caller, units_under_make, aT_units]; decide)) (by exact rfl) (by exact rfl) (by exact rfl) (by k_asm) (by k_asm) (by k_asm) (by k_asm) (by k_asm) (by exact WsD.In.keep (by with_reducible assumption) (Fr.keep (by k_asm))) (indent_c _ _ _ _ (by with_reducible assumption) (by omega) (by omega)) ?_; skip); intro _ _ _ _ _ ; (try k_sweep); (try k_fold))
  trivial
theorem less_c (w : World) (d e : WsD) (hz1 : d.cs.length ≤ 100) (hz2 : e.cs.length ≤ 100) (hb1 : 0 ≤ d.b) (hb2 : d.b ≤ 100) (hb3 : 0 ≤ e.b) (hb4 : e.b ≤ 100) (hsi : d.si = false) :
   Call w 390 88 [.ref d.x, .ref e.x] (fun h => d.In w h ∧ e.In w h) (IsBl (LessP d e)) := by
  have hfill : PySem.Challenge.rw_ty0024_01 = PySem.Challenge.rw_ty0024_01 ∧ Mine.hd.heap_1 = Mine.hd.heap_1 := by k_fill; exact ⟨rfl, rfl⟩
  clear hfill
  refine' enter (binds := [("self", .ref d.x), ("other", .ref e.x)]) ?k1 ?k2 ?k3 ?k4 ?k5 ?k6 ?k7 ?k8 ?k9 ?k10
  case k1 => k_is
  case k2 => k_is
  case k3 => decide
  case k4 => exact rfl
  case k5 => exact locs rfl
  case k6 => decide
  case k8 => exact rfl
  case k9 => exact rfl
  case k10 => exact rfl
  intro p loose mean mg mb base lenv g L h₁ s tk hg F N B X T hp
  try k_fold
  obtain ⟨hd, he⟩ := hp
  obtain ⟨hx, hdx, hnx, hcx, hcs⟩ := id hd
  obtain ⟨kx, kdx, knx, kcx, kcs⟩ := id he
  rw [hsi] at hdx
  have hzz1 : d.cs.length ≤ 1000 := Nat.le_trans hz1 (by decide)
  have hzz2 : e.cs.length ≤ 1000 := Nat.le_trans hz2 (by decide)
  have hr1 := runOf_bound hz1 hb1 hb2
  have hr2 := runOf_bound hz2 hb3 hb4
  k_steps
  · with_reducible rename e.n ≤ d.n => hn9
    exact Done.intro (by assumption) ⟨false, rfl, ⟨(fun q => nomatch q), fun q => absurd q.1 (by omega)⟩⟩
  with_reducible rename ¬(e.n ≤ d.n) => hn9
  unfold Stop
  with_reducible rename IsRange _ _ _ _ _ _ _ _ => rg
  with_reducible rename Fr _ _ _ _ => F1
  with_reducible rename News _ _ _ _ => N1
  refine ⟨_, _, _, _, (fun i m news => (∀ p ∈ [(Str.ofString "self", Value.ref d.x), (Str.ofString "other", Value.ref e.x)], m p.1 = some p.2) ∧ news = [] ∧ ∀ j : Nat, j < i → indentOf d (2 + j) < indentOf e (2 + j)),
    Src.range rg (small_to (by decide) (by decide) (by split <;> omega) (by split <;> omega)) (rangeSize_nat _ _), rfl, F1, N1, ?j0, ?kept, ?turn, ?fin⟩
  case j0 => exact ⟨by kst_all, rfl, fun _ h => absurd h (Nat.not_lt_zero _)⟩
  case kept =>
    rintro b ⟨⟩ hq
    exact (range_noseq rg hq).elim
  case turn =>
    intro i v m news I oI h tk hi hP hJ F N off
    obtain ⟨t9, rfl⟩ := hP
    obtain ⟨hm, rfl, hall⟩ := hJ
    rw [map_k2 hm] at F
    have hlt : 2 + (i : Int) ≤ 1000 := by
      have : i < 900 := Nat.lt_of_lt_of_le hi (by split <;> omega)
      omega
    have hge : 1 ≤ 2 + (i : Int) := by omega
    dsimp only
    try k_fold
    k_steps
    · with_reducible rename indentOf e _ ≤ indentOf d _ => hl9
      exact Done.intro (by assumption) ⟨false, rfl, ⟨(fun q => nomatch q), fun q => absurd (q.2 i hi) (by omega)⟩⟩
    · with_reducible rename ¬(indentOf e _ ≤ indentOf d _) => hl9
      refine ForNext.intro (by assumption) (by assumption) [] (by lcg_sub) trivial ?jA
      refine ⟨by kst_all, rfl, fun j hj => ?_⟩
      by_cases hji : j < i
      · exact hall j hji
      · rw [show j = i by omega]; omega
  case fin =>
    intro m news h tk hJ F N
    obtain ⟨hm, rfl, hall⟩ := hJ
    rw [map_k2 hm] at F
    dsimp only
    try k_fold
    k_steps
    dsimp only
    k_steps
    exact Done.intro (by assumption) ⟨true, rfl, ⟨fun _ => ⟨by omega, hall⟩, fun _ => rfl⟩⟩
end
end
theorem flush21 : True := by first | (w_top off; k_with_none; walk1; done) | trivial
section
set_option maxHeartbeats 8000000
section
variable {prog : Program} {w : World} {A : Around} {E : Value → Shared → Prop} {s : Shared} {a b : Addr} {as bs : List Addr} {d e : W.Dat} {Q : Value → Shared → Prop}
theorem dat_shaped (h : kqdOk 9 d = true) : PySem.SeqAt.shaped (kqdP d) = true := by
  have l := kqd_lay 9 d h
  unfold PySem.SeqAt.shaped
  rw [l.1, Bool.true_and]
  exact decide_eq_true (Nat.le_trans l.2 (by decide))
theorem eq_dat (ra : Reads s.heap (.ref a) (kqdP d) as) (rb : Reads s.heap (.ref b) (kqdP e) bs) (ha : kqdOk 9 d = true) (hb : kqdOk 9 e = true) (hu : A.units + 64 < cLine)
    (h : ∀ r : Bool, (r = true ↔ d = e) → Q (.bool r) s) : wpAny (model prog w) A (compareOp .Eq (.ref a) (.ref b)) Q E s :=
  eq_dataH ra rb (dat_shaped ha) (dat_shaped hb) hu (h _ (kqd_eqv 9 d e 9 ha hb))
theorem ne_dat (ra : Reads s.heap (.ref a) (kqdP d) as) (rb : Reads s.heap (.ref b) (kqdP e) bs) (ha : kqdOk 9 d = true) (hb : kqdOk 9 e = true) (hu : A.units + 64 < cLine)
    (h : ∀ r : Bool, (r = true ↔ d ≠ e) → Q (.bool r) s) : wpAny (model prog w) A (compareOp .NotEq (.ref a) (.ref b)) Q E s := by
  refine ne_dataH ra rb (dat_shaped ha) (dat_shaped hb) hu (h _ ?_)
  have q := kqd_eqv 9 d e 9 ha hb
  cases hq : PyData.eqv (kqdP d) (kqdP e)
  · exact ⟨fun _ x => (by rw [q.mpr x] at hq; cases hq), fun _ => rfl⟩
  · exact ⟨(fun x => nomatch x), fun x => absurd (q.mp hq) x⟩
end
theorem ints_reads {h : Heap} : ∀ {vs : List Value} {ns : List Int}, IntsAre vs ns → ReadsAll h vs (kqdPs (ns.map W.Dat.int)) []
  | _, _, .nil => ReadsAll.nil
  | _, _, .cons n t r => ReadsAll.cons (as := []) (Reads.int n t) (ints_reads r)
noncomputable def normD (cs : List Int) (b : Int) : W.Dat := .tuple [.tuple (cs.map .int), .int b]
theorem normD_ok (cs : List Int) (b : Int) : kqdOk 9 (normD cs b) = true := by simp [normD, kqdOk]
theorem normD_inj {cs cs' : List Int} {b b' : Int} : normD cs b = normD cs' b' ↔ cs = cs' ∧ b = b' := by
  unfold normD
  constructor
  · intro h
    simp only [W.Dat.tuple.injEq, List.cons.injEq, W.Dat.int.injEq, and_true] at h
    exact ⟨(List.map_inj_right fun x y e => W.Dat.int.inj e).mp h.1, h.2⟩
  · rintro ⟨rfl, rfl⟩; rfl
theorem norm_reads {h : Heap} {nx cx : Addr} {b : Int} {t : Tok} {us : List Value} {cs : List Int} {k1 k2 : Nat} (hn : h.get? nx = some ({ cls := Value.type "tuple", data := Data.seq #[Value.ref cx, Value.int b t] k1 } : Obj))
    (hc : h.get? cx = some ({ cls := Value.type "tuple", data := Data.seq us.toArray k2 } : Obj)) (hi : IntsAre us cs) : Reads h (.ref nx) (kqdP (normD cs b)) [] :=
  reads_tuple_at (as := []) hn rfl rfl (ReadsAll.cons (as := []) (reads_tuple_at hc rfl rfl (by simpa using ints_reads hi)) (ReadsAll.cons (as := []) (Reads.int b t) ReadsAll.nil))
theorem words19 : True := by
  k_with "eval ListComp" => (k_here; k_dflt (refine lc1S (by k_asm) (by with_unfolding_all rfl) (by decide) (by rfl) (by decide) (by rfl) ?_))
  k_with "exec Assign cons ListComp" => (k_here; (with_reducible show wpAny _ _ (exec (Stmt.Assign _ (Expr.ListComp _ [_] _ _) _) _) _ _ _); k_dflt (refine lc1SA (by k_asm) (by rfl) (by kernel_rfl) (by first | rfl | with_unfolding_all rfl) (by decide) (by rfl) (by decide) (by rfl) (by rfl) (by rfl) ?_))
  k_with "exec Assign cons ListComp" => (k_here; (with_reducible show wpAny _ _ (exec (Stmt.Assign _ (Expr.ListComp _ [_, _] _ _) _) _) _ _ _); k_dflt (refine lc2SA (by k_asm) (by rfl) (by kernel_rfl) (by first | rfl | with_unfolding_all rfl) (by decide) (by rfl) (by decide) (by rfl) (by rfl) (by decide) (by rfl) (by rfl) ?_))
  k_with "binaryOp Mult str int" => (k_here; k_dflt (refine mul_bl (by omega) (by omega) ?_); intro _ _ )
  k_with "binaryOp Add str str" => (k_here; k_dflt (refine add_ss (by (simp only [Str.length_append, blanks_length, txt_length, lit_blank, lit_tab, lit_x, lit_empty, List.length_cons, List.length_nil] at *; omega)) ?_); intro _ _ )
  k_with "call builtin:str.join" => (k_here; k_dflt (refine join_L (by k_asm) (by k_mem) (by k_asm) (by decide +kernel) (by k_asm) ?_); intro _ _ )
  k_with "call builtin:len" => (k_here; (with_reducible show wpAny _ _ (call (Value.builtin "len") [Value.ref _]) _ _ _); k_dflt (refine t_len (by k_asm) (by with_reducible assumption) (by with_reducible assumption) (by omega) ?_); intro _ _ )
  k_with "subscriptTail" => (k_here; (with_reducible show wpAny _ _ (subscriptTail _ _ (Value.ref _) (Value.int _ _)) _ _ _); k_dflt (refine t_at (by k_asm) (by with_reducible assumption) (by with_reducible assumption) (by omega) (by omega) (by omega) ?_); intro _ )
  k_with "subscriptTail" => (k_here; (with_reducible show wpAny _ _ (subscriptTail _ _ (Value.ref _) (Value.int _ _)) _ _ _); k_dflt (refine l_at (by exact news_list (by k_asm) (by k_mem)) (by with_reducible assumption) (by omega) (by omega) (by omega) ?_); intro _ )
  k_with "ForEnd" => (dsimp only [ForEnd])
  k_with "WhEnd" => (dsimp only [WhEnd])
  trivial
section
local macro_rules | `(tactic| k_inst) => `(tactic| (refine' inst_base ?N ?h1 ?h2; (case N => k_asm); (case h1 => with_reducible assumption); (case h2 => with_reducible assumption)))
theorem words20 : True := by
  k_with "compareOp Eq ref ref" => (k_here; k_dflt (refine eq_dat (by exact norm_reads (Fr.keep (by k_asm) _ _ (by with_reducible assumption)) (Fr.keep (by k_asm) _ _ (by with_reducible assumption)) (by with_reducible assumption)) (by exact norm_reads (Fr.keep (by k_asm) _ _ (by with_reducible assumption)) (Fr.keep (by k_asm) _ _ (by with_reducible assumption)) (by with_reducible assumption)) (normD_ok _ _) (normD_ok _ _) (by ke_room) ?_); intro _ _ )
  trivial
theorem equal_c (w : World) (d e : WsD) :
   Call w 390 74 [.ref d.x, .ref e.x] (fun h => d.In w h ∧ e.In w h) (IsBl (d.cs = e.cs ∧ d.b = e.b)) := by
  have hfill : PySem.Challenge.rw_ty0024_01 = PySem.Challenge.rw_ty0024_01 ∧ Mine.hd.heap_1 = Mine.hd.heap_1 := by k_fill; exact ⟨rfl, rfl⟩
  clear hfill
  refine' enter (binds := [("self", .ref d.x), ("other", .ref e.x)]) ?k1 ?k2 ?k3 ?k4 ?k5 ?k6 ?k7 ?k8 ?k9 ?k10
  case k1 => k_is
  case k2 => k_is
  case k3 => decide
  case k4 => exact rfl
  case k5 => exact locs rfl
  case k6 => decide
  case k8 => exact rfl
  case k9 => exact rfl
  case k10 => exact rfl
  intro p loose mean mg mb base lenv g L h₁ s tk hg F N B X T hp
  try k_fold
  obtain ⟨hd, he⟩ := hp
  obtain ⟨hx, hdx, hnx, hcx, hcs⟩ := id hd
  obtain ⟨kx, kdx, knx, kcx, kcs⟩ := id he
  k_steps
  rename_i hr9
  exact Done.intro (by assumption) ⟨_, rfl, hr9.trans normD_inj⟩
end
end
theorem flush22 : True := by first | (w_top off; k_with_none; walk1; done) | trivial
section
set_option maxHeartbeats 8000000
theorem words21 : True := by
  k_with "eval ListComp" => (k_here; k_dflt (refine lc1S (by k_asm) (by with_unfolding_all rfl) (by decide) (by rfl) (by decide) (by rfl) ?_))
  k_with "exec Assign cons ListComp" => (k_here; (with_reducible show wpAny _ _ (exec (Stmt.Assign _ (Expr.ListComp _ [_] _ _) _) _) _ _ _); k_dflt (refine lc1SA (by k_asm) (by rfl) (by kernel_rfl) (by first | rfl | with_unfolding_all rfl) (by decide) (by rfl) (by decide) (by rfl) (by rfl) (by rfl) ?_))
  k_with "exec Assign cons ListComp" => (k_here; (with_reducible show wpAny _ _ (exec (Stmt.Assign _ (Expr.ListComp _ [_, _] _ _) _) _) _ _ _); k_dflt (refine lc2SA (by k_asm) (by rfl) (by kernel_rfl) (by first | rfl | with_unfolding_all rfl) (by decide) (by rfl) (by decide) (by rfl) (by rfl) (by decide) (by rfl) (by rfl) ?_))
  k_with "binaryOp Mult str int" => (k_here; k_dflt (refine mul_bl (by omega) (by omega) ?_); intro _ _ )
  k_with "binaryOp Add str str" => (k_here; k_dflt (refine add_ss (by (simp only [Str.length_append, blanks_length, txt_length, lit_blank, lit_tab, lit_x, lit_empty, List.length_cons, List.length_nil] at *; omega)) ?_); intro _ _ )
  k_with "call builtin:str.join" => (k_here; k_dflt (refine join_L (by k_asm) (by k_mem) (by k_asm) (by decide +kernel) (by k_asm) ?_); intro _ _ )
  k_with "call builtin:len" => (k_here; (with_reducible show wpAny _ _ (call (Value.builtin "len") [Value.ref _]) _ _ _); k_dflt (refine t_len (by k_asm) (by with_reducible assumption) (by with_reducible assumption) (by omega) ?_); intro _ _ )
  k_with "subscriptTail" => (k_here; (with_reducible show wpAny _ _ (subscriptTail _ _ (Value.ref _) (Value.int _ _)) _ _ _); k_dflt (refine t_at (by k_asm) (by with_reducible assumption) (by with_reducible assumption) (by omega) (by omega) (by omega) ?_); intro _ )
  k_with "subscriptTail" => (k_here; (with_reducible show wpAny _ _ (subscriptTail _ _ (Value.ref _) (Value.int _ _)) _ _ _); k_dflt (refine l_at (by exact news_list (by k_asm) (by k_mem)) (by with_reducible assumption) (by omega) (by omega) (by omega) ?_); intro _ )
  k_with "ForEnd" => (dsimp only [ForEnd])
  k_with "WhEnd" => (dsimp only [WhEnd])
  trivial
/-- the members of a list of the heap are these triples -/
noncomputable def TripsIn (h : Heap) (us : List Value) (rows : List (Int × Int × Int)) : Prop :=
  us.length = rows.length ∧ ∀ (j : Nat) (r : Int × Int × Int), rows[j]? = some r → ∃ t ta tb tc, us[j]? = some (Value.ref t) ∧ h.get? t = some (tripObj r.1 r.2.1 r.2.2 ta tb tc)
theorem TripsIn.at {h : Heap} {us rows} (x : TripsIn h us rows) {j : Nat} {v : Value} (e : us[j]? = some v) : ∃ r t ta tb tc, rows[j]? = some r ∧ v = .ref t ∧ h.get? t = some (tripObj r.1 r.2.1 r.2.2 ta tb tc) := by
  have hj : j < rows.length := by
    rw [← x.1]
    rcases Nat.lt_or_ge j us.length with q | q
    · exact q
    · rw [List.getElem?_eq_none q] at e; cases e
  obtain ⟨t, ta, tb, tc, e1, e2⟩ := x.2 j rows[j] (by simp [hj])
  rw [e1] at e
  exact ⟨rows[j], t, ta, tb, tc, by simp [hj], (Option.some.inj e).symm, e2⟩
theorem Trips.toIn {h₀ h : Heap} {L : Addr} {news tl : List (Addr × Obj)} {us rows} (x : Trips tl us rows) (N : News h₀ L h news) (s : ∀ p ∈ tl, p ∈ news) : TripsIn h us rows :=
  ⟨x.1, fun j r e => by obtain ⟨t, ta, tb, tc, e1, e2⟩ := x.2 j r e; exact ⟨t, ta, tb, tc, e1, (N _ (s _ e2)).1⟩⟩
theorem TripsIn.keep {g h : Heap} {us rows} (x : TripsIn g us rows) (st : g.StaysIn h) : TripsIn h us rows :=
  ⟨x.1, fun j r e => by obtain ⟨t, ta, tb, tc, e1, e2⟩ := x.2 j r e; exact ⟨t, ta, tb, tc, e1, st _ _ e2⟩⟩
section
variable {prog : Program} {w : World} {A : Around} {E : Value → Shared → Prop} {s : Shared} {h₀ h₁ : Heap} {L l : Addr} {m : Str → Option Value} {us : List Value} {rows : List (Int × Int × Int)}
theorem len_trips {Q : Value → Shared → Prop} (F : Fr h₀ L s.heap m) (hl : h₀.IsList l us.toArray) (ht : TripsIn h₁ us rows) (hz : rows.length ≤ 1000000) (h : ∀ tk k, Q (.int rows.length tk) { s with toks := k }) :
    wpAny (model prog w) A (call (.builtin "len") [.ref l]) Q E s := by
  have e := ht.1
  refine PyProof.Rows.len_list (base_list F hl) (by rw [List.size_toArray]; omega) ?_
  rw [List.size_toArray, e]
  exact h _ _
end
theorem strs_append {vs ws : List Value} {xs ys : List Str} (h : StrsAre vs xs) (k : StrsAre ws ys) : StrsAre (vs ++ ws) (xs ++ ys) := by
  induction h with
  | nil => exact k
  | cons y t _ ih => exact .cons y t ih
noncomputable def intStr (n : Int) : Str := Str.ofString (toString n)
theorem intStr_len {n : Int} (h0 : 0 ≤ n) (h1 : n ≤ 200) : (intStr n).length ≤ 3 := by
  have h : ∀ k : Fin 201, (intStr (k.val : Int)).length ≤ 3 := by decide +kernel
  have := h ⟨n.toNat, by omega⟩
  rwa [show ((n.toNat : Nat) : Int) = n by omega] at this
noncomputable def firstStrs (rows : List (Int × Int × Int)) : List Str := rows.map fun r => intStr r.1
theorem firstStrs_sum : ∀ {rows : List (Int × Int × Int)}, (∀ r ∈ rows, 0 ≤ r.1 ∧ r.1 ≤ 200) → ((firstStrs rows).map (·.length)).sum ≤ 3 * rows.length
  | [], _ => by simp [firstStrs]
  | a :: r, h => by
    have ih := firstStrs_sum fun x hx => h x (.tail _ hx)
    have ha := intStr_len (h a (.head _)).1 (h a (.head _)).2
    unfold firstStrs at ih ⊢
    simp only [List.map_cons, List.sum_cons, List.length_cons] at ih ⊢
    omega
noncomputable def firstText (rows : List (Int × Int × Int)) : Str := Txt.join (Str.ofString ", ") (firstStrs rows)
theorem firstText_len {rows : List (Int × Int × Int)} (h : ∀ r ∈ rows, 0 ≤ r.1 ∧ r.1 ≤ 200) : (firstText rows).length ≤ 5 * rows.length := by
  unfold firstText
  show (Builtin.Str.glued _ _).length ≤ _
  rw [StrLaws.glued_eq_join]
  refine Nat.le_trans (StrLaws.join_length_le _ _) ?_
  have := firstStrs_sum h
  have e : (firstStrs rows).length = rows.length := by simp [firstStrs]
  have e2 : (Str.ofString ", ").length = 2 := by decide +kernel
  rw [e2]
  simp only [e] at *
  omega
noncomputable def wText (rows : List (Int × Int × Int)) : Str := Str.ofString "at tab size" ++ (if 1 < rows.length then Str.ofString "s" else Str.ofString "") ++ Str.ofString " " ++ firstText rows
section
theorem words22 : True := by
  k_with "call builtin:len" => (k_here; (with_reducible show wpAny _ _ (call (Value.builtin "len") [Value.ref _]) _ _ _); k_dflt (refine len_trips (by k_asm) (by with_reducible assumption) (by with_reducible assumption) (by omega) ?_); intro _ _ )
  trivial
theorem written_c (w : World) (l : Addr) (us : List Value) (rows : List (Int × Int × Int)) (hlen : rows.length ≤ 200) (hr0 : ∀ r ∈ rows, 0 ≤ r.1 ∧ r.1 ≤ 200) :
   Call w 390 163 [.ref l] (fun h => h.IsList l us.toArray ∧ TripsIn h us rows) (IsSt (wText rows)) := by
  have hfill : PySem.Challenge.rw_ty0024_01 = PySem.Challenge.rw_ty0024_01 ∧ Mine.hd.heap_1 = Mine.hd.heap_1 := by k_fill; exact ⟨rfl, rfl⟩
  clear hfill
  refine' enter (binds := [("due", .ref l)]) ?k1 ?k2 ?k3 ?k4 ?k5 ?k6 ?k7 ?k8 ?k9 ?k10
  case k1 => k_is
  case k2 => k_is
  case k3 => decide
  case k4 => exact rfl
  case k5 => exact locs rfl
  case k6 => decide
  case k8 => exact rfl
  case k9 => exact rfl
  case k10 => exact rfl
  intro p loose mean mg mb base lenv g L h₁ s tk hg F N B X T hp
  try k_fold
  obtain ⟨hpl, ht⟩ := hp
  have hs := firstStrs_sum hr0
  have hjl := firstText_len hr0
  have hsl : (firstStrs rows).length = rows.length := by simp [firstStrs]
  have hw : ((firstStrs rows).map (·.length)).sum + (firstStrs rows).length ≤ 1048576 := by omega
  have l1 : (Str.ofString "at tab size").length = 11 := by decide +kernel
  have l2 : (Str.ofString "s").length = 1 := by decide +kernel
  k_steps
  · unfold Stop
    refine ⟨_, _, (fun b ys => StrsAre ys (firstStrs (rows.take b))), _, Src.listB hpl, rfl, (by k_asm), (by k_asm), ?lim, .nil, ?turn2, ?fin2⟩
    case lim =>
      intro b ys h
      have := h.length
      unfold firstStrs at this
      rw [List.length_map, List.length_take] at this
      rw [PySem.sizeLine_eq]; omega
    case turn2 =>
      intro b v ys I2 oI2 C oC D2 m₂ h2 tk2 hb9 hP hacc F N off2 ne hC hx
      clear off2 ne
      unfold Turn
      refine wpAny_tests_nil ?_
      simp only [if_true]
      obtain ⟨r9, t9, ta, tb, tc, hr, rfl, ho⟩ := ht.at (by simpa using hP : us[b]? = some v)
      have hb9 := hr0 r9 (List.mem_of_getElem? hr)
      have tp : IsTup g t9 #[.int r9.1 ta, .int r9.2.1 tb, .int r9.2.2 tc] := ⟨_, ho, rfl, _, rfl⟩
      try dsimp only
      try k_fold
      k_steps
      refine TurnEnd.intro (by assumption) (by assumption) (fun p hp => hp) ?_
      unfold firstStrs at hacc ⊢
      rw [List.take_add_one, hr, Option.toList_some, List.map_append]
      exact strs_append hacc (.cons _ _ .nil)
    case fin2 =>
      intro Dc ys hacc h tk F N o1
      try simp only [LCg.Off1] at o1
      rw [show us.toArray.size = rows.length by rw [List.size_toArray, ht.1], List.take_length] at hacc
      try dsimp only
      try k_fold
      k_steps
      have l3 : (Str.ofString " ").length = 1 := by decide +kernel
      have l4 : (Txt.join (Str.ofString ", ") (firstStrs rows)).length ≤ 5 * rows.length := hjl
      have l5 : (Str.ofString "").length = 0 := by decide +kernel
      refine add_ss (by simp only [Str.length_append, l1, l2, l3, l5]; omega) ?_
      intro t9 k9
      k_steps
      exact Done.intro (by assumption) ⟨_, by unfold wText; first | rw [if_pos (by omega)]; rfl | rw [if_neg (by omega)]; rfl⟩
  · unfold Stop
    refine ⟨_, _, (fun b ys => StrsAre ys (firstStrs (rows.take b))), _, Src.listB hpl, rfl, (by k_asm), (by k_asm), ?lim, .nil, ?turn2, ?fin2⟩
    case lim =>
      intro b ys h
      have := h.length
      unfold firstStrs at this
      rw [List.length_map, List.length_take] at this
      rw [PySem.sizeLine_eq]; omega
    case turn2 =>
      intro b v ys I2 oI2 C oC D2 m₂ h2 tk2 hb9 hP hacc F N off2 ne hC hx
      clear off2 ne
      unfold Turn
      refine wpAny_tests_nil ?_
      simp only [if_true]
      obtain ⟨r9, t9, ta, tb, tc, hr, rfl, ho⟩ := ht.at (by simpa using hP : us[b]? = some v)
      have hb9 := hr0 r9 (List.mem_of_getElem? hr)
      have tp : IsTup g t9 #[.int r9.1 ta, .int r9.2.1 tb, .int r9.2.2 tc] := ⟨_, ho, rfl, _, rfl⟩
      try dsimp only
      try k_fold
      k_steps
      refine TurnEnd.intro (by assumption) (by assumption) (fun p hp => hp) ?_
      unfold firstStrs at hacc ⊢
      rw [List.take_add_one, hr, Option.toList_some, List.map_append]
      exact strs_append hacc (.cons _ _ .nil)
    case fin2 =>
      intro Dc ys hacc h tk F N o1
      try simp only [LCg.Off1] at o1
      rw [show us.toArray.size = rows.length by rw [List.size_toArray, ht.1], List.take_length] at hacc
      try dsimp only
      try k_fold
      k_steps
      have l3 : (Str.ofString " ").length = 1 := by decide +kernel
      have l4 : (Txt.join (Str.ofString ", ") (firstStrs rows)).length ≤ 5 * rows.length := hjl
      have l5 : (Str.ofString "").length = 0 := by decide +kernel
      refine add_ss (by simp only [Str.length_append, l1, l2, l3, l5]; omega) ?_
      intro t9 k9
      k_steps
      exact Done.intro (by assumption) ⟨_, by unfold wText; first | rw [if_pos (by omega)]; rfl | rw [if_neg (by omega)]; rfl⟩
end
end
theorem flush23 : True := by first | (w_top off; k_with_none; walk1; done) | trivial
section
set_option maxHeartbeats 4000000
/-- a program that says nothing -/
noncomputable def mute (p : Program) : Program := { p with main := { p.main with body := [Stmt.ImportFrom (some ("sys" : Str)) [] none ⟨0, 0, 0, 0⟩] } }
section
variable {p : Program} {loose : List Str} {mean : ExcName → Option Value} {mg mb m : Str → Option Value} {h h' : Heap} {c P a : Addr} {ps ps' : Array Value}
theorem re_other {b : Addr} (hb : b ≠ P) : (regrown h P ps').get? b = h.get? b := Heap.get?_update_other _ _ (Ne.symm hb)
theorem re_ns (t : h.TableAt c P ps) (G : h.Ns a m) (ot : ∀ b, b ≠ P → h'.get? b = h.get? b) : h'.Ns a m := by
  have hne : a ≠ P := fun e => by
    obtain ⟨o, es, ep, ho, hd, r⟩ := G
    rw [e, t.2] at ho; cases ho; cases hd
  obtain ⟨o, es, ep, ho, hd, r⟩ := G
  exact ⟨o, es, ep, (ot _ hne).trans ho, hd, r⟩
noncomputable abbrev muteL (p : Program) (loose : List Str) : List Str := loose ++ ((recsOf p).map (·.name) ++ ((litsOf p).map (·.1) ++ (clssOf p loose).map (·.name)))
theorem re_top (t : h.TableAt c P ps) (T : Top p loose mean mg mb h) (ot : ∀ b, b ≠ P → h'.get? b = h.get? b) : Top (mute p) (muteL p loose) mean mg mb h' where
  g := re_ns t T.g ot
  b := re_ns t T.b ot
  nolimit := let ⟨mc, h1, h2⟩ := T.nolimit; ⟨mc, re_ns t h1 ot, h2⟩
  nodigits := let ⟨mc, h1, h2⟩ := T.nodigits; ⟨mc, re_ns t h1 ot, h2⟩
  fn := fun d hd => nomatch (show d ∈ ([] : List DefRec) from hd)
  own := fun o ho => nomatch (show o ∈ ([] : List OwnSpec) from ho)
  const := fun x d e => nomatch (show (none : Option PyData) = some d from e)
  free := fun x h1 h2 _ _ _ => by
    simp only [List.mem_append, not_or] at h2
    exact T.free x h1 h2.1 h2.2.1 h2.2.2.1 h2.2.2.2
  builtins := T.builtins
  tab := fun d hd => nomatch (show d ∈ ([] : List DefRec) from hd)
  bmain := by
    obtain ⟨bm, ob, a, b, c', d, e, f⟩ := T.bmain
    refine ⟨bm, ob, a, b, (ot _ fun q => ?_).trans c', d, e, f⟩
    rw [q, t.2] at c'; cases c'; cases f
  seer := fun e => by simp [importsNone, mute] at e
theorem re_frag {K : Frag} (X : K.In h) (hK : K.lookup P = none) (ot : ∀ b, b ≠ P → h'.get? b = h.get? b) : K.In h' := fun a o e => (ot _ (fun q => by rw [q, hK] at e; cases e)).trans (X a o e)
end
end
theorem flush24 : True := by first | (w_top off; k_with_none; walk1; done) | trivial
section
set_option maxHeartbeats 4000000
section
variable {prog : Program} {w : World} {A : Around} {E : Value → Shared → Prop} {s : Shared}
/-- a generator at rest, told apart from the frame at L -/
noncomputable def GenL (prog : Program) (w : World) (A : Around) (L a : Addr) (n : Nat) (F : Nat → Value → Prop) (s : Shared) : Prop :=
  ∃ g C fp wr pz n₀ F₀, WalksS prog w A.in4 a (a :: C :: fp) (C :: wr) (GenOnlyQ g) n F (GenAt prog w A.in4 a g C fp wr pz n₀ F₀) ∧ GenAt prog w A.in4 a g C fp wr pz n₀ F₀ 0 s ∧ L ∉ a :: C :: fp ∧ cStatics ∈ fp ∧ (∀ b ∈ a :: C :: fp, b < s.heap.objs.size) ∧ ∀ b ∈ C :: wr, L < b
theorem GenL.keep {L a : Addr} {n : Nat} {F : Nat → Value → Prop} {s' : Shared} (x : GenL prog w A L a n F s) (hg : s'.gens = s.gens) (hk : ∀ b o, b ≠ L → s.heap.get? b = some o → s'.heap.get? b = some o) (hsz : s.heap.objs.size ≤ s'.heap.objs.size) : GenL prog w A L a n F s' := by
  obtain ⟨g, C, fp, wr, pz, n₀, F₀, W, st, hL, hcs, hfp, hwr⟩ := x
  have hk' : ∀ b ∈ a :: C :: fp, ∀ o, s.heap.get? b = some o → s'.heap.get? b = some o := fun b hb o e => hk b o (fun q => hL (q ▸ hb)) e
  refine ⟨g, C, fp, wr, pz, n₀, F₀, W, ?_, hL, hcs, fun b hb => Nat.lt_of_lt_of_le (hfp b hb) hsz, hwr⟩
  exact ⟨let ⟨o, nm, qn, ho, r⟩ := st.1; ⟨o, nm, qn, hk' a (List.mem_cons_self ..) o ho, r⟩,
     (let ⟨mc, hns, hnn⟩ := st.2.1; ⟨mc, hns.at' fun o e => hk' cStatics (List.mem_cons_of_mem _ (List.mem_cons_of_mem _ hcs)) o e, hnn⟩),
     let ⟨gs, hgs, hgo⟩ := st.2.2; ⟨gs, hg ▸ hgs, fun s'' hal => hgo s'' fun b hb o e => hal b hb o (hk' b (List.mem_cons_of_mem _ hb) o e)⟩⟩
theorem GenL.gen {L a : Addr} {n : Nat} {F : Nat → Value → Prop} (x : GenL prog w A L a n F s) : Gen prog w A L a n F s := by
  obtain ⟨g, C, fp, wr, pz, n₀, F₀, W, st, hL, hcs, hfp, hwr⟩ := x
  exact ⟨_, _, _, _, W, st, (fun i s' st => st.1.typeIs), List.mem_cons_self, hfp, hwr⟩

theorem gen_expr {h9 h₀ : Heap} {c P L l bm : Addr} {ob : Obj} {ps : Array Value} {m mg : Str → Option Value} {us : List Value} {F : Nat → Value → Prop}
    {env : Env} {elt iter : Expr} {x : Str} {px : Pos} {scope : Scope} {pos : Pos} {Q : Value → Shared → Prop}
    (B : Based h9 h₀ c P ps) (M : BMod h₀ env.globals mg bm ob) (Fh : Fr h₀ L s.heap m) (bare : AllBare s.gens) (hlim : s.heap.NoLimit) (hl : h₀.IsList l us.toArray)
    (hcode : env.code = .ref c) (hnf : codeAmong pos ps.toList = none)
    (hh : A.handled = none) (hco : scope.isCoroutine = false) (hclos : closureFor scope env = pure []) (hcell : ∀ y ∈ scope.names, y.2 ≠ .cell) (h0 : scope.names.lookup (".0" : Str) = some NameKind.local)
    (hx : scope.names.lookup x = some .local) (hkind : scope.kind = .function) (hroom : A.depth < recursionLimit)
    (hev : ∀ Q : Value → Shared → Prop, Q (.ref l) s → wpAny (model prog w) A (eval iter env) Q E s)
    (hq : ∀ (code : Value) (h₃ href : Heap), (∀ b o, b ≠ P → s.heap.get? b = some o → h₃.get? b = some o) → s.heap.objs.size < h₃.objs.size → (∀ b o, h₃.get? b = some o → href.get? b = some o) →
      QuietGen prog w (genEnv scope [] h₃.objs.size code builtinsNs env) x [] elt ((List.range h₃.objs.size).filter fun b => decide (b ≠ L)) [s.heap.objs.size] (fun i v => us.toArray[i]? = some v) (fun _ => true) F href)
    (hQ : ∀ a s₅ ps', Based h9 (regrown h₀ P ps') c P ps' → Fr (regrown h₀ P ps') L s₅.heap m → AllBare s₅.gens → s₅.os = s.os → GenL prog w A L a (passing (fun _ => true) us.toArray.size 0).length (fun j y => ∃ i, (passing (fun _ => true) us.toArray.size 0)[j]? = some i ∧ F i y) s₅ → Q (.ref a) s₅)
    (hs : ∀ x, genFold iter env x = pure x) (hst0 : cStatics < h₀.objs.size) :
    wpAny (model prog w) A (eval (.GeneratorExp elt [⟨.Name x px, iter, [], 0⟩] scope pos) env) Q E s := by
  have hl1 : s.heap.IsList l us.toArray := base_list Fh hl
  have hlt : l < s.heap.objs.size := by obtain ⟨_, e, _⟩ := hl1; exact Heap.lt_size e
  have hLlt : L < s.heap.objs.size := Fh.ns.lt
  have hlL : l ≠ L := fun q => by
    obtain ⟨o, e, _⟩ := hl
    exact absurd (q ▸ Heap.lt_size e) (Nat.not_lt.mpr Fh.above)
  have hPlt : P < s.heap.objs.size := Heap.lt_size (B.tabAt Fh).2
  have hlP : l ≠ P := fun e => by
    obtain ⟨o, ho, hc, _⟩ := hl1
    rw [e, (B.tabAt Fh).2] at ho; cases ho; exact absurd hc (by simp)
  refine wpAny_GeneratorExp_make hco hclos hcell h0 hkind hroom (hev _ ?_) hs
  refine wpAny_pyIter_list hl1 ⟨hlim.push _, ?_⟩
  generalize hH2 : s.heap.push { cls := .type "list_iterator", data := .fields #[.ref l, .int 0 0] } = H2
  have hz2 : H2.objs.size = s.heap.objs.size + 1 := by rw [← hH2, Heap.size_push]
  have k2 : ∀ b o, s.heap.get? b = some o → H2.get? b = some o := fun b o e => by rw [← hH2]; exact Heap.get?_push_of_some _ e
  have F₂ : Fr h₀ L H2 m := Fh.keeps k2
  have hlim2 : H2.NoLimit := by rw [← hH2]; exact hlim.push _
  refine wpAny_genexprCodeX hcode (B.codeAt F₂) (B.tabAt F₂) hnf fun c' h₃ tk₃ hx₃ hge hlt₃ hcode₃ _ htab₃ _ => ?_
  have hsz : H2.objs.size ≤ h₃.objs.size := Nat.le_trans hge (Nat.le_of_lt hlt₃)
  obtain ⟨B₃, F₃⟩ := B.grow F₂ hx₃ hcode₃ htab₃
  have M₃ : BMod h₃ env.globals mg bm ob := (M.keeps F₂.keep).extBut (B.tabAt F₂) hx₃
  have hcP : cStatics ≠ P := fun e => B.notStatics e.symm
  have hl₃ : h₃.NoLimit := hlim2.extBut hx₃ hcP
  have hcL : cStatics ≠ L := Nat.ne_of_lt (Nat.lt_of_lt_of_le hst0 Fh.above)
  refine wpAny_builtinsFor M₃.ns M₃.name M₃.ne M₃.obj M₃.cls M₃.dict M₃.data ?_
  intro h' hn' hs'
  dsimp only at hn' hs' ⊢
  have hC : s.heap.objs.size < h₃.objs.size := by omega
  have hIP : s.heap.objs.size ≠ P := Nat.ne_of_gt hPlt
  have W₀ : ∀ A' : Around, A'.handled = none → Walks prog w A' s.heap.objs.size [s.heap.objs.size, l] [s.heap.objs.size] us.toArray.size (fun i v => us.toArray[i]? = some v) (fun i h => h.IsListIter s.heap.objs.size l i ∧ h.IsList l us.toArray) :=
    fun A' hA => Walks.list hA _ _ (Nat.ne_of_lt hlt) us.toArray
  have st2 : H2.IsListIter s.heap.objs.size l 0 ∧ H2.IsList l us.toArray := by rw [← hH2]; exact ⟨⟨_, Heap.get?_push_size _ rfl, rfl, rfl⟩, hl1.push _⟩
  have hfp2 : ∀ b ∈ [s.heap.objs.size, l], b < h₃.objs.size ∧ b ≠ L ∧ b ≠ P := fun b hb => by
    rcases List.mem_cons.mp hb with rfl | hb
    · exact ⟨hC, Nat.ne_of_gt hLlt, hIP⟩
    · rw [List.mem_singleton.mp hb]; exact ⟨Nat.lt_trans hlt hC, hlL, hlP⟩
  have st3 : h₃.IsListIter s.heap.objs.size l 0 ∧ h₃.IsList l us.toArray := (W₀ A hh).frame 0 H2 h₃ st2 fun b hb o e => hx₃ b o (hfp2 b hb).2.2 e
  have hinfp : ∀ b, b < h₃.objs.size → b ≠ L → b ∈ (List.range h₃.objs.size).filter fun b => decide (b ≠ L) := fun b h1 h2 => List.mem_filter.mpr ⟨List.mem_range.mpr h1, decide_eq_true h2⟩
  have houtfp : ∀ b, b ∈ ((List.range h₃.objs.size).filter fun b => decide (b ≠ L)) → b < h₃.objs.size ∧ b ≠ L := fun b hb => by
    obtain ⟨h1, h2⟩ := List.mem_filter.mp hb
    exact ⟨List.mem_range.mp h1, of_decide_eq_true h2⟩
  have hclt : cStatics < h₃.objs.size := let ⟨_, hn, _⟩ := hl₃; hn.lt
  have hsz' : h'.objs.size = h₃.objs.size + 1 := by rw [hs'.1, Heap.size_push]
  have hC1 : h₃.objs.size < h'.objs.size := by rw [hsz']; exact Nat.lt_succ_self _
  have keep' : ∀ b o, h₃.get? b = some o → h'.get? b = some o := fun b o e => hs'.extBut b o (Nat.ne_of_lt (Heap.lt_size e)) (Heap.get?_push_of_some _ e)
  have hcw : cStatics ∉ [s.heap.objs.size] := fun hm => by
    have := List.mem_singleton.mp hm
    exact absurd (Nat.lt_of_lt_of_le hst0 (Nat.le_trans Fh.above (Nat.le_of_lt hLlt))) (by rw [this]; exact Nat.lt_irrefl _)
  have hsub : ∀ b ∈ [s.heap.objs.size], b ∈ (List.range h₃.objs.size).filter fun b => decide (b ≠ L) := fun b hb => by
    rw [List.mem_singleton.mp hb]; exact hinfp _ hC (Nat.ne_of_gt hLlt)
  have haC : h'.objs.size ≠ h₃.objs.size := by rw [hsz']; exact Nat.succ_ne_self _
  have haf : h'.objs.size ∉ (List.range h₃.objs.size).filter fun b => decide (b ≠ L) := fun hm => Nat.lt_irrefl _ (Nat.lt_trans (houtfp _ hm).1 hC1)
  have hLC : L < h₃.objs.size := Nat.lt_trans hLlt hC
  generalize hgo : ({ cls := .type "generator", data := .fields #[.int s.gens.size 0, .str "<genexpr>" (tk₃ + 1), .str (env.qual ++ "<genexpr>") (tk₃ + 1 + 1)] } : Obj) = go
  have keep₅ : ∀ b o, h₃.get? b = some o → (h'.push go).get? b = some o := fun b o e => Heap.get?_push_of_some _ (keep' b o e)
  have hLfp : L ∉ h'.objs.size :: h₃.objs.size :: (List.range h₃.objs.size).filter fun b => decide (b ≠ L) := fun hm => by
    rcases List.mem_cons.mp hm with e | hm
    · exact Nat.ne_of_lt (Nat.lt_trans hLC hC1) e
    · rcases List.mem_cons.mp hm with e | hm
      · exact Nat.ne_of_lt hLC e
      · exact (houtfp _ hm).2 rfl
  refine hQ h'.objs.size _ _ B₃ (F₃.keeps keep₅) (bare.push rfl) rfl ⟨s.gens.size, h₃.objs.size, _, [s.heap.objs.size], fun _ => true, us.toArray.size, F, WalksS.genexpQ (A := A.in4) hh _ _ _ _ _ _ _ F haC haf hsub hroom (hinfp _ hclt hcL) (Nat.ne_of_lt hclt) hcw, ?_, hLfp, hinfp _ hclt hcL, ?_, ?_⟩
  · refine GenAt.fresh (A := A.in4) (cenv := genEnv scope [] h₃.objs.size _ builtinsNs env) (m := fun y => if y = ".0" then some (.ref s.heap.objs.size) else none) hh
      (fun A' hA => (W₀ A' hA).mono_fp fun b hb => hinfp b (hfp2 b hb).1 (hfp2 b hb).2.1) (fun _ => true) F hx (by simp [genEnv, hkind]) hco
      (fun hm => Nat.lt_irrefl _ (houtfp _ hm).1) (hq _ h₃ _ (fun b o hb e => hx₃ b o hb (k2 b o e)) hC keep₅) ?_ (Array.getElem?_push_size ..) ((W₀ A hh).frame _ _ _ st3 fun b _ o e => keep₅ b o e) (hn'.push _) (hl₃.keeps keep₅)
    rw [← hgo]
    exact ⟨_, _, _, Heap.get?_push_size _ rfl, rfl, rfl, rfl⟩
  · intro b hb
    show b < (h'.push go).objs.size
    rw [Heap.size_push, hsz']
    rcases List.mem_cons.mp hb with rfl | hb
    · rw [hsz']; exact Nat.lt_succ_self _
    · rcases List.mem_cons.mp hb with rfl | hb
      · exact Nat.lt_succ_of_lt (Nat.lt_succ_self _)
      · exact Nat.lt_succ_of_lt (Nat.lt_succ_of_lt (houtfp _ hb).1)
  · intro b hb
    rcases List.mem_cons.mp hb with rfl | hb
    · exact hLC
    · rw [List.mem_singleton.mp hb]; exact hLlt
end
end
theorem flush25 : True := by first | (w_top off; k_with_none; walk1; done) | trivial
section
set_option maxHeartbeats 2000000
/-- a call that may regrow a table -/
noncomputable def CallG (w : World) (D : Nat) (f : Addr) (args : List Value) (Pre : (Str → Option Value) → Shared → Prop) (Post : Shared → Value → Shared → Prop) : Prop :=
  ∀ (p : Program) (loose : List Str) (mean : ExcName → Option Value) (mg mb : Str → Option Value) (A : Around) (base : Heap) (l : List Env) (s : Shared) (Q E : Value → Shared → Prop),
    A.handled = none → A.depth ≤ D → A.units ≤ D - 300 → Below A base l s.heap → (Mine.hd.heap_1 w.params).In s.heap → Top p loose mean mg mb s.heap → Pre mg s →
    (∀ v s', Post s v s' → Q v s') → wpAny (model PySem.Challenge.rw_ty0024_01.row.toRowW.prog w) A (call (.ref f) args) Q E s
theorem enterG {w : World} {D f : Nat} {args : List Value} {Pre : (Str → Option Value) → Shared → Prop} {Post : Shared → Value → Shared → Prop}
    {name qual : Str} {params : Arguments} {body : List Stmt} {scope : Scope} {dV kV doc pm cdv ct oc : Value} {an od : Option Addr} {osl : Array (Option Value)} {binds : List (Str × Value)}
    (ho : (Mine.hd.heap_1 w.params).lookup f = some ⟨oc, od, .func (fnOf name qual params body scope dV kV doc pm an cdv ct), osl⟩) (hcd : codeIn (Mine.hd.heap_1 w.params) cdv qual = true)
    (hD : D < recursionLimit)
    (hbind : bindArgs (fnOf name qual params body scope dV kV doc pm an cdv ct) ⟨args, []⟩ = pure binds) (hloc : ∀ y ∈ binds, scope.names.lookup y.1 = some .local)
    (hcell : ∀ x ∈ scope.names, x.2 ≠ .cell)
    (h : ∀ (p : Program) (loose : List Str) (mean : ExcName → Option Value) (mg mb : Str → Option Value) (base : Heap) (l : List Env) (g : Heap) (L : Addr) (h₁ : Heap) (s : Shared) (tk : Nat), g.objs.size ≤ L → s.heap = g →
      Fr g L h₁ (fun y => binds.reverse.lookup y) → News g L h₁ [] → Below (aT D l) base l g → (Mine.hd.heap_1 w.params).In g → Top p loose mean mg mb g → Pre mg s →
      wpAny (model PySem.Challenge.rw_ty0024_01.row.toRowW.prog w) ((aT D l).deeper (envOf qual scope L f cdv)) (execs body (envOf qual scope L f cdv))
        (fun fl s' => Post s (match fl with | .ret v => v | _ => .none) s') (fun _ _ => False) { s with heap := h₁, toks := tk })
    (hco : scope.isCoroutine = false := by rfl) (hgen : scope.isGenerator = false := by rfl) (hk : scope.kind = .function := by rfl) : CallG w D f args Pre Post := by
  intro p loose mean mg mb A base l s Q E hh hd hu B X T hp ret
  refine weak (A := aT D l) hh hd (by rw [B.stack]; rfl) rfl hu ?_
  refine wpAny_call ?_
  refine codeAny_call_def (fd := fnOf name qual params body scope dV kV doc pm an cdv ct) (body := body) (binds := binds) hD (X _ _ ho) rfl T.nolimit (codeRec_of X hcd) rfl (BindsTo.of_eq hbind) hcell hloc (fun h₁ hns hk₁ => ?_) hco hgen hk
  exact wpAny_mono (h p loose mean mg mb base l s.heap s.heap.objs.size h₁ s _ (Nat.le_refl _) rfl ⟨hns, hk₁, Nat.le_refl _⟩ News.nil ⟨rfl, B.stays, B.frames⟩ X T hp) (fun fl s' hl => ret _ _ hl) fun _ _ y => y.elim
theorem words23 : True := by
  k_with "eval ListComp" => (k_here; k_dflt (refine lc1S (by k_asm) (by with_unfolding_all rfl) (by decide) (by rfl) (by decide) (by rfl) ?_))
  k_with "exec Assign cons ListComp" => (k_here; (with_reducible show wpAny _ _ (exec (Stmt.Assign _ (Expr.ListComp _ [_] _ _) _) _) _ _ _); k_dflt (refine lc1SA (by k_asm) (by rfl) (by kernel_rfl) (by first | rfl | with_unfolding_all rfl) (by decide) (by rfl) (by decide) (by rfl) (by rfl) (by rfl) ?_))
  k_with "exec Assign cons ListComp" => (k_here; (with_reducible show wpAny _ _ (exec (Stmt.Assign _ (Expr.ListComp _ [_, _] _ _) _) _) _ _ _); k_dflt (refine lc2SA (by k_asm) (by rfl) (by kernel_rfl) (by first | rfl | with_unfolding_all rfl) (by decide) (by rfl) (by decide) (by rfl) (by rfl) (by decide) (by rfl) (by rfl) ?_))
  k_with "binaryOp Mult str int" => (k_here; k_dflt (refine mul_bl (by omega) (by omega) ?_); intro _ _ )
  k_with "binaryOp Add str str" => (k_here; k_dflt (refine add_ss (by (simp only [Str.length_append, blanks_length, txt_length, lit_blank, lit_tab, lit_x, lit_empty, List.length_cons, List.length_nil] at *; omega)) ?_); intro _ _ )
  k_with "call builtin:str.join" => (k_here; k_dflt (refine join_L (by k_asm) (by k_mem) (by k_asm) (by decide +kernel) (by k_asm) ?_); intro _ _ )
  k_with "call builtin:len" => (k_here; (with_reducible show wpAny _ _ (call (Value.builtin "len") [Value.ref _]) _ _ _); k_dflt (refine t_len (by k_asm) (by with_reducible assumption) (by with_reducible assumption) (by omega) ?_); intro _ _ )
  k_with "subscriptTail" => (k_here; (with_reducible show wpAny _ _ (subscriptTail _ _ (Value.ref _) (Value.int _ _)) _ _ _); k_dflt (refine t_at (by k_asm) (by with_reducible assumption) (by with_reducible assumption) (by omega) (by omega) (by omega) ?_); intro _ )
  k_with "subscriptTail" => (k_here; (with_reducible show wpAny _ _ (subscriptTail _ _ (Value.ref _) (Value.int _ _)) _ _ _); k_dflt (refine l_at (by exact news_list (by k_asm) (by k_mem)) (by with_reducible assumption) (by omega) (by omega) (by omega) ?_); intro _ )
  k_with "ForEnd" => (dsimp only [ForEnd])
  k_with "WhEnd" => (dsimp only [WhEnd])
  trivial
theorem name_BG {M : Model} {A : Around} {E : Value → Shared → Prop} {s : Shared} {K : Frag} {h₀ : Heap} {C : Addr} {m mg mb : Str → Option Value} {scope : Scope} {cl : List (Str × Addr)} {code : Value} {env : Env} {p : Program} {loose : List Str} {mean : ExcName → Option Value}
    {x : Str} {pos : Pos} {v : Value} {Q : Value → Shared → Prop} (F : Fr h₀ C s.heap m) (X : K.In h₀) (T : Top p loose mean mg mb h₀) (e : nsIn K mainGlobals x = some none) (hv : bootBuiltins x = some v) (hn : x ≠ "__name__") (h : Q v s)
    (hg : env.globals = mainGlobals) (hk : scope.kind = .function) (hx : scope.names.lookup x = some .globalImplicit) (hd : (x == ("__debug__" : Str)) = false) :
    wpAny M A (eval (.Name x pos) (genEnv scope cl C code builtinsNs env)) Q E s :=
  Calls.Name_function_global hk hx (Calls.loadGlobal_builtin (env := genEnv scope cl C code builtinsNs env) (show s.heap.Ns env.globals mg from hg ▸ T.g.keeps F.keep) (mg_none_of X T.g e) (T.b.keeps F.keep) ((T.builtins x hn).trans hv) h) hd
theorem pass_all (k : Nat) : passing (fun _ => true) k 0 = List.range k := by
  unfold passing
  rw [List.drop_zero, List.filter_eq_self]
  exact fun _ _ => rfl
section
variable {prog : Program} {w : World} {A A' : Around} {E : Value → Shared → Prop} {s : Shared} {env : Env} {h₀ : Heap} {L a : Addr} {m : Str → Option Value} {n : Nat} {F₀ : Nat → Value → Prop}
theorem storeG {E : Value → Shared → Prop} {x : Str} {v : Value} {Q : Unit → Shared → Prop} (F : Fr h₀ L s.heap m) (N : News h₀ L s.heap []) (G : GenL prog w A' L a n F₀ s) (hL : env.locals = L) (hx : env.kindOf x = some .local) (hp : (env.scope.kind == .class || (env.scope.kind == .module && env.locals != env.globals)) = false)
    (h : ∀ h', Fr h₀ L h' (fun z => if z = x then some v else m z) → News h₀ L h' [] → GenL prog w A' L a n F₀ { s with heap := h', toks := s.toks + 1 } → Q () { s with heap := h', toks := s.toks + 1 }) : wpAny (model prog w) A (storeName env x v) Q E s := by
  subst hL
  refine wpAny_storeName_local hx F.ns (fun h₂ hn₂ hs₂ => ?_) hp
  have k : ∀ b o, b ≠ env.locals → s.heap.get? b = some o → h₂.get? b = some o := fun b o nb e => hs₂.extBut b o nb e
  refine h h₂ ⟨hn₂, fun b o e => k b o (fun q => ?_) (F.keep b o e), F.above⟩ News.nil (G.keep rfl k (Nat.le_of_eq hs₂.1.symm))
  rw [q, Heap.get?_none_of_le F.above] at e; cases e
end
section
local macro_rules | `(tactic| walk_at "storeName") => `(tactic| (k_here; (with_reducible rename GenL _ _ _ _ _ _ _ _ => gG9); k_dflt (refine' storeG ?F ?N (GenL.keep gG9 rfl (fun _ _ _ e => e) (Nat.le_refl _)) ?a ?b ?c ?_; (case F => k_asm); (case N => k_asm); (case a => rfl); (case b => rfl); (case c => rfl)); clear gG9; intro h' F' N' G'; (try k_sweep)))
theorem words24 : True := by
  k_with "call builtin:len" => (k_here; (with_reducible show wpAny _ _ (call (Value.builtin "len") [Value.ref _]) _ _ _); k_dflt (refine len_trips (by k_asm) (by with_reducible assumption) (by with_reducible assumption) (by omega) ?_); intro _ _ )
  trivial
theorem format_c (w : World) (l : Addr) (us : List Value) (rows : List (Int × Int × Int)) (hlen : rows.length ≤ 200) (hr0 : ∀ r ∈ rows, 0 ≤ r.1 ∧ r.1 ≤ 200) (h9 : Heap) (P : Addr) :
   CallG w 390 109 [.ref l] (fun mg s => s.heap.IsList l us.toArray ∧ TripsIn s.heap us rows ∧ AllBare s.gens ∧ Based h9 s.heap 108 P #[] ∧ (Mine.hd.heap_1 w.params).lookup P = none)
     (fun s v s' => (∃ t, v = .str (wText rows) t) ∧ ∃ ps, Based h9 (regrown s.heap P ps) 108 P ps ∧ (regrown s.heap P ps).StaysIn s'.heap ∧ AllBare s'.gens ∧ s'.os = s.os) := by
  have hfill : PySem.Challenge.rw_ty0024_01 = PySem.Challenge.rw_ty0024_01 ∧ Mine.hd.heap_1 = Mine.hd.heap_1 := by k_fill; exact ⟨rfl, rfl⟩
  clear hfill
  refine' enterG (binds := [("w", .ref l)]) ?k1 ?k2 ?k3 ?k4 ?k5 ?k6 ?k7 ?k8 ?k9 ?k10
  case k1 => k_is
  case k2 => k_is
  case k3 => decide
  case k4 => exact rfl
  case k5 => exact locs rfl
  case k6 => decide
  case k8 => exact rfl
  case k9 => exact rfl
  case k10 => exact rfl
  intro p loose mean mg mb base lenv g L h₁ s tk hg hsg F N B X T hp
  rw [hsg] at hp ⊢
  obtain ⟨hpl, ht, hbare, hB, hPK⟩ := hp
  obtain ⟨bm, ob, M⟩ := bmod_of_top T
  try k_fold
  k_steps
  refine gen_expr (h₀ := g) (L := L) (m := fun y => List.lookup y [(Str.ofString "w", Value.ref l)].reverse) (F := fun i y => ∃ r u, rows[i]? = some r ∧ y = Value.str (intStr r.1) u) hB M F hbare (T.keeps F.keep).nolimit hpl rfl rfl rfl rfl rfl (by decide) (by rfl) (by rfl) rfl (by simp only [depth_deeper, aT_depth]; decide) (fun Q hQ => ld F rfl hQ) ?quiet ?rest (fun _ => rfl) (let ⟨_, hn, _⟩ := T.nolimit; hn.lt)
  case quiet =>
    intro code h₃ href hx3 hsz3 hh3
    refine ⟨fun A' E' i v s₂ m₂ hh' hP hn hm hk => ?tests, fun A' E' i v s₂ m₂ hh' hP hpz hn hm hk => ?elt⟩
    case tests => exact wpAny_pure ⟨rfl, ⟨_, _, rfl, fun _ _ e => e⟩⟩
    case elt =>
      obtain ⟨r9, t9, ta, tb, tc, hr, rfl, ho⟩ := ht.at (by simpa using hP : us[i]? = some v)
      have hb9 := hr0 r9 (List.mem_of_getElem? hr)
      have hot : ∀ b, b ≠ P → (Heap.hide g P).get? b = g.get? b := fun b hb => Heap.hide_ne g hb
      have hlt : ∀ b o, g.get? b = some o → b < h₁.objs.size := fun b o e => Heap.lt_size (F.keep b o e)
      have F2 : Fr (Heap.hide g P) h₃.objs.size s₂.heap m₂ := ⟨hn, fun b o e => by
          have hbP : b ≠ P := fun q => by rw [q, Heap.hide_self] at e; cases e
          have e1 := (hot b hbP).symm.trans e
          have l1 := hlt b o e1
          refine hk b (List.mem_filter.mpr ⟨List.mem_range.mpr (Nat.lt_trans l1 hsz3), decide_eq_true fun q => ?_⟩) ?_ o (hh3 b o (hx3 b o hbP (F.keep b o e1)))
          · rw [q, Heap.get?_none_of_le F.above] at e1; cases e1
          · intro q
            exact Nat.ne_of_lt l1 (List.mem_singleton.mp q), by
        rw [Heap.hide_size]
        exact Nat.le_trans F.above (Nat.le_trans (Nat.le_of_lt F.ns.lt) (Nat.le_of_lt hsz3))⟩
      have X2 := re_frag X hPK hot
      have T2 := re_top hB.tab T hot
      have ho2 : (Heap.hide g P).get? t9 = _ := (hot t9 (fun q => by rw [q, hB.tab.2] at ho; cases ho)).trans ho
      have tp : IsTup (Heap.hide g P) t9 #[.int r9.1 ta, .int r9.2.1 tb, .int r9.2.2 tc] := ⟨_, ho2, rfl, _, rfl⟩
      clear F N B X T M
      walk1
      refine name_BG F2 X2 T2 ?e boot_str (by decide) ?_ rfl rfl rfl (by decide)
      case e => k_is
      iterate 3 walk1
      refine ldG hn hm ?_ rfl rfl (by decide)
      iterate 3 walk1
      walk1
      exact ⟨⟨r9, _, hr, rfl⟩, _, _, rfl, fun _ _ e => e⟩
  case rest =>
    intro c' s₅ ps' B5 F5 bare5 os5 G5
    have hot : ∀ b, b ≠ P → (regrown g P ps').get? b = g.get? b := fun b hb => re_other hb
    have X5 := re_frag X hPK hot
    have T5 := re_top hB.tab T hot
    have N5 : News (regrown g P ps') L s₅.heap [] := News.nil
    have hpl5 : (regrown g P ps').IsList l us.toArray := by
      obtain ⟨o, e, r⟩ := hpl
      exact ⟨o, (hot l (fun q => by rw [q, hB.tab.2] at e; cases e; exact absurd r.1 (by simp))).trans e, r⟩
    rw [pass_all, List.length_range] at G5
    clear F N B X T M hpl
    try k_fold
    have hs := firstStrs_sum hr0
    have hjl := firstText_len hr0
    have hsl : (firstStrs rows).length = rows.length := by simp [firstStrs]
    have hw : ((firstStrs rows).map (·.length)).sum + (firstStrs rows).length ≤ 1048576 := by omega
    have hrz : us.toArray.size = rows.length := by rw [List.size_toArray, ht.1]
    have e9 : (List.range us.toArray.size).map (fun j => (firstStrs rows).getD j Str.empty) = firstStrs rows := by
      rw [hrz, ← hsl]
      exact range_getD (firstStrs rows) Str.empty
    have hok : JoinOk (Str.ofString ", ") ((List.range us.toArray.size).map fun j => (firstStrs rows).getD j Str.empty) = true := by
      rw [e9]
      have := joinOk_filter (sep := Str.ofString ", ") (ss := firstStrs rows) (pz := fun _ => true) hw (by decide +kernel)
      rw [List.filter_eq_self.mpr (fun _ _ => rfl)] at this
      simpa using this
    have hval : ∀ j v, (∃ i, (List.range us.toArray.size)[j]? = some i ∧ ∃ r u, rows[i]? = some r ∧ v = Value.str (intStr r.1) u) → ∃ u, v = Value.str ((firstStrs rows).getD j Str.empty) u := by
      rintro j v ⟨i, hi, r, u, hr, rfl⟩
      have hji : j = i := by
        obtain ⟨h1, h2⟩ := List.getElem?_eq_some_iff.mp hi
        simpa using h2
      subst hji
      refine ⟨u, ?_⟩
      congr 1
      simp [firstStrs, hr]
    k_steps
    · with_reducible rename Fr _ _ _ _ => F7
      with_reducible rename GenL _ _ _ _ _ _ _ _ => G7
      refine join_rows F7 bare5 (GenL.gen (GenL.keep G7 rfl (fun _ _ _ e => e) (Nat.le_refl _))) (fun j => (firstStrs rows).getD j Str.empty) hval hok ?_ (by rw [hrz, PySem.sizeLine_eq]; omega)
      intro s' t' F8 bare8 os8
      rw [e9]
      have l1 : (Str.ofString "at tab size").length = 11 := by decide +kernel
      have l2 : (Str.ofString "s").length = 1 := by decide +kernel
      have l3 : (Str.ofString " ").length = 1 := by decide +kernel
      have l4 : (Txt.join (Str.ofString ", ") (firstStrs rows)).length ≤ 5 * rows.length := hjl
      refine add_ss (by simp only [Str.length_append, l1, l2, l3]; omega) ?_
      intro t9 k9
      (try dsimp only)
      k_unfold
      (try dsimp only)
      have e0 : Str.ofString "at tab size" ++ Str.ofString "" = Str.ofString "at tab size" := by decide +kernel
      exact ⟨⟨_, by unfold wText; first | rw [if_pos (by omega)]; rfl | rw [if_neg (by omega), e0]; rfl⟩, ps', B5, F8.keep, bare8, os8.trans os5⟩
    · with_reducible rename Fr _ _ _ _ => F7
      with_reducible rename GenL _ _ _ _ _ _ _ _ => G7
      refine join_rows F7 bare5 (GenL.gen (GenL.keep G7 rfl (fun _ _ _ e => e) (Nat.le_refl _))) (fun j => (firstStrs rows).getD j Str.empty) hval hok ?_ (by rw [hrz, PySem.sizeLine_eq]; omega)
      intro s' t' F8 bare8 os8
      rw [e9]
      have l1 : (Str.ofString "at tab size").length = 11 := by decide +kernel
      have l2 : (Str.ofString "s").length = 1 := by decide +kernel
      have l3 : (Str.ofString " ").length = 1 := by decide +kernel
      have l4 : (Txt.join (Str.ofString ", ") (firstStrs rows)).length ≤ 5 * rows.length := hjl
      refine add_ss (by simp only [Str.length_append, l1, l2, l3]; omega) ?_
      intro t9 k9
      (try dsimp only)
      k_unfold
      (try dsimp only)
      have e0 : Str.ofString "at tab size" ++ Str.ofString "" = Str.ofString "at tab size" := by decide +kernel
      exact ⟨⟨_, by unfold wText; first | rw [if_pos (by omega)]; rfl | rw [if_neg (by omega), e0]; rfl⟩, ps', B5, F8.keep, bare8, os8.trans os5⟩
end
end
theorem flush26 : True := by first | (w_top off; k_with_none; walk1; done) | trivial
section
set_option maxHeartbeats 8000000
theorem words25 : True := by
  k_with "eval ListComp" => (k_here; k_dflt (refine lc1S (by k_asm) (by with_unfolding_all rfl) (by decide) (by rfl) (by decide) (by rfl) ?_))
  k_with "exec Assign cons ListComp" => (k_here; (with_reducible show wpAny _ _ (exec (Stmt.Assign _ (Expr.ListComp _ [_] _ _) _) _) _ _ _); k_dflt (refine lc1SA (by k_asm) (by rfl) (by kernel_rfl) (by first | rfl | with_unfolding_all rfl) (by decide) (by rfl) (by decide) (by rfl) (by rfl) (by rfl) ?_))
  k_with "exec Assign cons ListComp" => (k_here; (with_reducible show wpAny _ _ (exec (Stmt.Assign _ (Expr.ListComp _ [_, _] _ _) _) _) _ _ _); k_dflt (refine lc2SA (by k_asm) (by rfl) (by kernel_rfl) (by first | rfl | with_unfolding_all rfl) (by decide) (by rfl) (by decide) (by rfl) (by rfl) (by decide) (by rfl) (by rfl) ?_))
  k_with "binaryOp Mult str int" => (k_here; k_dflt (refine mul_bl (by omega) (by omega) ?_); intro _ _ )
  k_with "binaryOp Add str str" => (k_here; k_dflt (refine add_ss (by (simp only [Str.length_append, blanks_length, txt_length, lit_blank, lit_tab, lit_x, lit_empty, List.length_cons, List.length_nil] at *; omega)) ?_); intro _ _ )
  k_with "call builtin:str.join" => (k_here; k_dflt (refine join_L (by k_asm) (by k_mem) (by k_asm) (by decide +kernel) (by k_asm) ?_); intro _ _ )
  k_with "call builtin:len" => (k_here; (with_reducible show wpAny _ _ (call (Value.builtin "len") [Value.ref _]) _ _ _); k_dflt (refine t_len (by k_asm) (by with_reducible assumption) (by with_reducible assumption) (by omega) ?_); intro _ _ )
  k_with "subscriptTail" => (k_here; (with_reducible show wpAny _ _ (subscriptTail _ _ (Value.ref _) (Value.int _ _)) _ _ _); k_dflt (refine t_at (by k_asm) (by with_reducible assumption) (by with_reducible assumption) (by omega) (by omega) (by omega) ?_); intro _ )
  k_with "subscriptTail" => (k_here; (with_reducible show wpAny _ _ (subscriptTail _ _ (Value.ref _) (Value.int _ _)) _ _ _); k_dflt (refine l_at (by exact news_list (by k_asm) (by k_mem)) (by with_reducible assumption) (by omega) (by omega) (by omega) ?_); intro _ )
  k_with "ForEnd" => (dsimp only [ForEnd])
  k_with "WhEnd" => (dsimp only [WhEnd])
  trivial
noncomputable def halfOf (r : Int) : List Int := if r = 2 then [1, 1] else if r = 4 then [1, 1, 1, 1] else if r = 6 then [3, 3] else [r]
noncomputable def halves (ns : List Int) : List Int := ns.flatMap halfOf
theorem halfOf_length (r : Int) : (halfOf r).length ≤ 4 := by
  unfold halfOf
  split
  · decide
  · split
    · decide
    · split
      · decide
      · simp
theorem halves_length : ∀ ns : List Int, (halves ns).length ≤ 4 * ns.length
  | [] => Nat.le_refl _
  | a :: r => by
    have h1 := halves_length r
    have h2 := halfOf_length a
    unfold halves at h1 ⊢
    rw [List.flatMap_cons, List.length_append, List.length_cons]
    omega
theorem halves_snoc (ns : List Int) (k : Int) : halves (ns ++ [k]) = halves ns ++ halfOf k := by simp [halves]
section
theorem words26 : True := by
  k_with "exec For Name Name cons nil" => (k_here; k_dflt (refine for_src (by k_asm) ?_))
  trivial
inductive HalvJ (ns : List Int) (l D : Addr) (i : Nat) (m : Str → Option Value) (news : List (Addr × Obj)) : Prop
  | mk (hm : ∀ p ∈ [(Str.ofString "halves", Value.ref D), (Str.ofString "rows", Value.ref l)], m p.1 = some p.2) (us : List Value) (n : Nat) (h1 : news = [(D, W.listOf us.toArray n)]) (h2 : IntsAre us (halves (ns.take i))) : HalvJ ns l D i m news
theorem halved_c (w : World) (l : Addr) (vs : List Value) (ns : List Int) (hI : IntsAre vs ns) (hlen : ns.length ≤ 7) (hb : ∀ x ∈ ns, 1 ≤ x ∧ x ≤ 6) :
   Call w 390 131 [.ref l] (fun h => h.IsList l vs.toArray) (NewInts (halves ns)) := by
  have hfill : PySem.Challenge.rw_ty0024_01 = PySem.Challenge.rw_ty0024_01 ∧ Mine.hd.heap_1 = Mine.hd.heap_1 := by k_fill; exact ⟨rfl, rfl⟩
  clear hfill
  refine' enter (binds := [("rows", .ref l)]) ?k1 ?k2 ?k3 ?k4 ?k5 ?k6 ?k7 ?k8 ?k9 ?k10
  case k1 => k_is
  case k2 => k_is
  case k3 => decide
  case k4 => exact rfl
  case k5 => exact locs rfl
  case k6 => decide
  case k8 => exact rfl
  case k9 => exact rfl
  case k10 => exact rfl
  intro p loose mean mg mb base lenv g L h₁ s tk hg F N B X T hp
  try k_fold
  k_steps
  unfold Stop
  rename_i D _ _ _ _ _
  refine ⟨_, _, _, _, HalvJ ns l D, Src.listB hp, rfl, by k_asm, by k_asm, ?j0, ?kept, ?turn, ?fin⟩
  case j0 => exact ⟨by kst_all, [], 0, rfl, .nil⟩
  case kept =>
    rintro b ⟨⟩ _
    obtain ⟨o, e, _⟩ := hp
    exact .inl ⟨o, e⟩
  case turn =>
    intro i v m news I oI h tk hi hP hJ F N off
    obtain ⟨hm, us, n, rfl, hu⟩ := hJ
    rw [map_k2 hm] at F
    obtain ⟨k, t, rfl, hk⟩ := IntsAre.at hI i v (by simpa using hP)
    have hkb := hb k (List.mem_of_getElem? hk)
    have hlu : us.length ≤ 100 := by
      have h1 := halves_length (ns.take i)
      rw [List.length_take] at h1
      rw [hu.length]; omega
    have hk6 : k = 1 ∨ k = 2 ∨ k = 3 ∨ k = 4 ∨ k = 5 ∨ k = 6 := by omega
    try simp only [LCg.Off1, and_true] at off
    rcases hk6 with rfl | rfl | rfl | rfl | rfl | rfl
    all_goals try k_fold
    all_goals k_steps
    all_goals (refine ForNext.intro (by assumption) (by assumption) [(D, _)] (by lcg_sub) ⟨off, trivial⟩ ⟨by kst_all, _, _, rfl, ?_⟩)
    all_goals rw [List.take_add_one, hk, Option.toList_some, halves_snoc]
    · exact hu.append (show IntsAre _ (halfOf 1) by assumption)
    · exact hu.append (show IntsAre _ (halfOf 2) by assumption)
    · exact hu.append (show IntsAre _ (halfOf 3) by assumption)
    · exact hu.append (show IntsAre _ (halfOf 4) by assumption)
    · exact hu.append (show IntsAre _ (halfOf 5) by assumption)
    · exact hu.append (show IntsAre _ (halfOf 6) by assumption)
  case fin =>
    intro m news h tk hJ F N
    obtain ⟨hm, us, n, rfl, hu⟩ := hJ
    rw [map_k2 hm] at F
    rw [show vs.toArray.size = ns.length by rw [List.size_toArray, hI.length], List.take_length] at hu
    try k_fold
    k_steps
    dsimp only
    k_steps
    exact Done.intro (by assumption) ⟨_, _, _, rfl, N.fresh (List.Mem.head _), N.get (List.Mem.head _), hu⟩
end
end
theorem flush27 : True := by first | (w_top off; k_with_none; walk1; done) | trivial
section
set_option maxHeartbeats 8000000
theorem words27 : True := by
  k_with "eval ListComp" => (k_here; k_dflt (refine lc1S (by k_asm) (by with_unfolding_all rfl) (by decide) (by rfl) (by decide) (by rfl) ?_))
  k_with "exec Assign cons ListComp" => (k_here; (with_reducible show wpAny _ _ (exec (Stmt.Assign _ (Expr.ListComp _ [_] _ _) _) _) _ _ _); k_dflt (refine lc1SA (by k_asm) (by rfl) (by kernel_rfl) (by first | rfl | with_unfolding_all rfl) (by decide) (by rfl) (by decide) (by rfl) (by rfl) (by rfl) ?_))
  k_with "exec Assign cons ListComp" => (k_here; (with_reducible show wpAny _ _ (exec (Stmt.Assign _ (Expr.ListComp _ [_, _] _ _) _) _) _ _ _); k_dflt (refine lc2SA (by k_asm) (by rfl) (by kernel_rfl) (by first | rfl | with_unfolding_all rfl) (by decide) (by rfl) (by decide) (by rfl) (by rfl) (by decide) (by rfl) (by rfl) ?_))
  k_with "binaryOp Mult str int" => (k_here; k_dflt (refine mul_bl (by omega) (by omega) ?_); intro _ _ )
  k_with "binaryOp Add str str" => (k_here; k_dflt (refine add_ss (by (simp only [Str.length_append, blanks_length, txt_length, lit_blank, lit_tab, lit_x, lit_empty, List.length_cons, List.length_nil] at *; omega)) ?_); intro _ _ )
  k_with "call builtin:str.join" => (k_here; k_dflt (refine join_L (by k_asm) (by k_mem) (by k_asm) (by decide +kernel) (by k_asm) ?_); intro _ _ )
  k_with "call builtin:len" => (k_here; (with_reducible show wpAny _ _ (call (Value.builtin "len") [Value.ref _]) _ _ _); k_dflt (refine t_len (by k_asm) (by with_reducible assumption) (by with_reducible assumption) (by omega) ?_); intro _ _ )
  k_with "subscriptTail" => (k_here; (with_reducible show wpAny _ _ (subscriptTail _ _ (Value.ref _) (Value.int _ _)) _ _ _); k_dflt (refine t_at (by k_asm) (by with_reducible assumption) (by with_reducible assumption) (by omega) (by omega) (by omega) ?_); intro _ )
  k_with "subscriptTail" => (k_here; (with_reducible show wpAny _ _ (subscriptTail _ _ (Value.ref _) (Value.int _ _)) _ _ _); k_dflt (refine l_at (by exact news_list (by k_asm) (by k_mem)) (by with_reducible assumption) (by omega) (by omega) (by omega) ?_); intro _ )
  k_with "ForEnd" => (dsimp only [ForEnd])
  k_with "WhEnd" => (dsimp only [WhEnd])
  trivial
theorem lead_c (w : World) (l : Addr) (vs : List Value) (ns : List Int) (hI : IntsAre vs ns) (hlen : ns.length ≤ 100) (hb : ∀ x ∈ ns, 0 ≤ x ∧ x ≤ 64) (b : Int) (k : Tok) (hb0 : 0 ≤ b) (hb1 : b ≤ 10) :
   Call w 390 119 [.ref l, .int b k] (fun h => h.IsList l vs.toArray) (IsSt (leadStr ns b)) := by
  have hfill : PySem.Challenge.rw_ty0024_01 = PySem.Challenge.rw_ty0024_01 ∧ Mine.hd.heap_1 = Mine.hd.heap_1 := by k_fill; exact ⟨rfl, rfl⟩
  clear hfill
  refine' enter (binds := [("rows", .ref l), ("behind", .int b k)]) ?k1 ?k2 ?k3 ?k4 ?k5 ?k6 ?k7 ?k8 ?k9 ?k10
  case k1 => k_is
  case k2 => k_is
  case k3 => decide
  case k4 => exact rfl
  case k5 => exact locs rfl
  case k6 => decide
  case k8 => exact rfl
  case k9 => exact rfl
  case k10 => exact rfl
  intro p loose mean mg mb base lenv g L h₁ s tk hg F N B X T hp
  try k_fold
  k_steps
  unfold Stop
  refine ⟨_, _, (fun i ys => StrsAre ys ((ns.take i).map cellStr)), _, Src.listB hp, rfl, by k_asm, by k_asm, ?lim, .nil, ?turn, ?fin⟩
  case lim =>
    intro i ys h
    have := h.length
    rw [List.length_map, List.length_take] at this
    rw [PySem.sizeLine_eq]; omega
  case turn =>
    intro i v ys I oI C oC D m₂ h tk hi hP hacc F N off ne hC hx
    try simp only [LCg.Off3, and_true] at off
    unfold Turn
    refine wpAny_tests_nil ?_
    simp only [if_true]
    obtain ⟨k, t, rfl, hk⟩ := IntsAre.at hI i v (by simpa using hP)
    have hkb := hb k (List.mem_of_getElem? hk)
    try k_fold
    k_steps
    refine TurnEnd.intro (by assumption) (by assumption) (fun p hp => hp) ?_
    rw [List.take_add_one, hk]
    simpa [cellStr] using hacc.append' (.cons _ _ .nil)
  case fin =>
    intro D ys hacc h tk F N o1
    try simp only [LCg.Off1] at o1
    rw [show vs.toArray.size = ns.length by rw [List.size_toArray, hI.length], List.take_length] at hacc
    have hw : ((ns.map cellStr).map (·.length)).sum + (ns.map cellStr).length ≤ 1048576 := by
      have := sum_cells ns hb
      rw [List.length_map]; omega
    have hj := join_cells_len ns hb
    try k_fold
    k_steps
    rw [lead_eq]
    exact Done.intro (by assumption) ⟨_, rfl⟩
end
theorem flush28 : True := by first | (w_top off; k_with_none; walk1; done) | trivial
section
set_option maxHeartbeats 8000000
theorem words28 : True := by
  k_with "eval ListComp" => (k_here; k_dflt (refine lc1S (by k_asm) (by with_unfolding_all rfl) (by decide) (by rfl) (by decide) (by rfl) ?_))
  k_with "exec Assign cons ListComp" => (k_here; (with_reducible show wpAny _ _ (exec (Stmt.Assign _ (Expr.ListComp _ [_] _ _) _) _) _ _ _); k_dflt (refine lc1SA (by k_asm) (by rfl) (by kernel_rfl) (by first | rfl | with_unfolding_all rfl) (by decide) (by rfl) (by decide) (by rfl) (by rfl) (by rfl) ?_))
  k_with "exec Assign cons ListComp" => (k_here; (with_reducible show wpAny _ _ (exec (Stmt.Assign _ (Expr.ListComp _ [_, _] _ _) _) _) _ _ _); k_dflt (refine lc2SA (by k_asm) (by rfl) (by kernel_rfl) (by first | rfl | with_unfolding_all rfl) (by decide) (by rfl) (by decide) (by rfl) (by rfl) (by decide) (by rfl) (by rfl) ?_))
  k_with "binaryOp Mult str int" => (k_here; k_dflt (refine mul_bl (by omega) (by omega) ?_); intro _ _ )
  k_with "binaryOp Add str str" => (k_here; k_dflt (refine add_ss (by (simp only [Str.length_append, blanks_length, txt_length, lit_blank, lit_tab, lit_x, lit_empty, List.length_cons, List.length_nil] at *; omega)) ?_); intro _ _ )
  k_with "call builtin:str.join" => (k_here; k_dflt (refine join_L (by k_asm) (by k_mem) (by k_asm) (by decide +kernel) (by k_asm) ?_); intro _ _ )
  k_with "call builtin:len" => (k_here; (with_reducible show wpAny _ _ (call (Value.builtin "len") [Value.ref _]) _ _ _); k_dflt (refine t_len (by k_asm) (by with_reducible assumption) (by with_reducible assumption) (by omega) ?_); intro _ _ )
  k_with "subscriptTail" => (k_here; (with_reducible show wpAny _ _ (subscriptTail _ _ (Value.ref _) (Value.int _ _)) _ _ _); k_dflt (refine t_at (by k_asm) (by with_reducible assumption) (by with_reducible assumption) (by omega) (by omega) (by omega) ?_); intro _ )
  k_with "subscriptTail" => (k_here; (with_reducible show wpAny _ _ (subscriptTail _ _ (Value.ref _) (Value.int _ _)) _ _ _); k_dflt (refine l_at (by exact news_list (by k_asm) (by k_mem)) (by with_reducible assumption) (by omega) (by omega) (by omega) ?_); intro _ )
  k_with "ForEnd" => (dsimp only [ForEnd])
  k_with "WhEnd" => (dsimp only [WhEnd])
  trivial
noncomputable def wItems (cs : List Int) (odd : Int) (ps : List Int) : List Int := (ps.filter fun p => odd * p < cs.length).map fun p => cs.getD (odd * p).toNat 0 * p
noncomputable def weight (cs : List Int) (odd : Int) : Int := (wItems cs odd [1, 2, 4]).sum
theorem wItems_snoc (cs : List Int) (odd : Int) (ps : List Int) (p : Int) : wItems cs odd (ps ++ [p]) = wItems cs odd ps ++ (if odd * p < cs.length then [cs.getD (odd * p).toNat 0 * p] else []) := by
  unfold wItems
  rw [List.filter_append, List.map_append]
  congr 1
  by_cases h : odd * p < cs.length <;> simp [h]
theorem weight_c (w : World) (t : Addr) (vs : List Value) (cs : List Int) (hI : IntsAre vs cs) (hlen : cs.length ≤ 100) (odd : Int) (k : Tok) (ho : 1 ≤ odd) (ho' : odd ≤ 5) :
   Call w 450 136 [.ref t, .int odd k] (fun h => IsTup h t vs.toArray) (IsI (weight cs odd)) := by
  have hfill : PySem.Challenge.rw_ty0024_01 = PySem.Challenge.rw_ty0024_01 ∧ Mine.hd.heap_1 = Mine.hd.heap_1 := by k_fill; exact ⟨rfl, rfl⟩
  clear hfill
  refine' enterC (binds := [("counts", .ref t), ("odd", .int odd k)]) ?k1 ?k2 ?k3 ?k4 ?k5 ?k6 ?k7 ?k8 ?k9 ?k10
  case k1 => k_is
  case k2 => k_is
  case k3 => decide
  case k4 => exact rfl
  case k5 => exact rfl
  case k6 => decide +kernel
  case k8 => exact rfl
  case k9 => exact rfl
  case k10 => exact rfl
  intro p loose mean mg mb base lenv g L h₁ s tk cells hg F N Y B X T hp
  k_cells Y
  try simp only [List.cons_append, List.nil_append] at N
  try k_fold
  k_steps
  unfold Stop
  refine ⟨_, _, (fun i ys => IntsAre ys (wItems cs odd ([1, 2, 4].take i))), _, Src.tupN (List.Mem.head _), rfl, by k_asm, by k_asm, ?lim, .nil, ?turn, ?fin⟩
  case lim =>
    intro i ys h
    have := h.length
    unfold wItems at this
    rw [List.length_map] at this
    have h1 := List.length_filter_le (fun p : Int => decide (odd * p < cs.length)) ([1, 2, 4].take i)
    rw [List.length_take] at h1
    rw [PySem.sizeLine_eq]
    simp at h1
    omega
  case turn =>
    intro i v ys I oI C oC D m₂ h tk hi hP hacc F N off ne hC hx
    try simp only [LCg.Off3, and_true] at off
    unfold Turn
    refine wpAny_tests_one ?_
    have hi3 : i = 0 ∨ i = 1 ∨ i = 2 := by
      simp at hi; omega
    rcases hi3 with rfl | rfl | rfl
    all_goals (simp at hP; subst hP)
    all_goals try k_fold
    all_goals k_steps
    all_goals (refine TurnEnd.intro (by assumption) (by assumption) (fun p hp => hp) ?_)
    · rw [show List.take (0 + 1) [1, 2, 4] = List.take 0 [(1 : Int), 2, 4] ++ [1] from rfl, wItems_snoc, if_pos (by assumption)]; exact hacc.append (.cons _ _ .nil)
    · rw [show List.take (0 + 1) [1, 2, 4] = List.take 0 [(1 : Int), 2, 4] ++ [1] from rfl, wItems_snoc, if_neg (by assumption), List.append_nil]; exact hacc
    · rw [show List.take (1 + 1) [1, 2, 4] = List.take 1 [(1 : Int), 2, 4] ++ [2] from rfl, wItems_snoc, if_pos (by assumption)]; exact hacc.append (.cons _ _ .nil)
    · rw [show List.take (1 + 1) [1, 2, 4] = List.take 1 [(1 : Int), 2, 4] ++ [2] from rfl, wItems_snoc, if_neg (by assumption), List.append_nil]; exact hacc
    · rw [show List.take (2 + 1) [1, 2, 4] = List.take 2 [(1 : Int), 2, 4] ++ [4] from rfl, wItems_snoc, if_pos (by assumption)]; exact hacc.append (.cons _ _ .nil)
    · rw [show List.take (2 + 1) [1, 2, 4] = List.take 2 [(1 : Int), 2, 4] ++ [4] from rfl, wItems_snoc, if_neg (by assumption), List.append_nil]; exact hacc
  case fin =>
    intro D ys hacc h tk F N o1
    try simp only [LCg.Off1] at o1
    try k_fold
    k_steps
    exact Done.intro (by assumption) ⟨_, rfl⟩
end
theorem flush29 : True := by first | (w_top off; k_with_none; walk1; done) | trivial
section
set_option maxHeartbeats 8000000
theorem words29 : True := by
  k_with "eval ListComp" => (k_here; k_dflt (refine lc1S (by k_asm) (by with_unfolding_all rfl) (by decide) (by rfl) (by decide) (by rfl) ?_))
  k_with "exec Assign cons ListComp" => (k_here; (with_reducible show wpAny _ _ (exec (Stmt.Assign _ (Expr.ListComp _ [_] _ _) _) _) _ _ _); k_dflt (refine lc1SA (by k_asm) (by rfl) (by kernel_rfl) (by first | rfl | with_unfolding_all rfl) (by decide) (by rfl) (by decide) (by rfl) (by rfl) (by rfl) ?_))
  k_with "exec Assign cons ListComp" => (k_here; (with_reducible show wpAny _ _ (exec (Stmt.Assign _ (Expr.ListComp _ [_, _] _ _) _) _) _ _ _); k_dflt (refine lc2SA (by k_asm) (by rfl) (by kernel_rfl) (by first | rfl | with_unfolding_all rfl) (by decide) (by rfl) (by decide) (by rfl) (by rfl) (by decide) (by rfl) (by rfl) ?_))
  k_with "binaryOp Mult str int" => (k_here; k_dflt (refine mul_bl (by omega) (by omega) ?_); intro _ _ )
  k_with "binaryOp Add str str" => (k_here; k_dflt (refine add_ss (by (simp only [Str.length_append, blanks_length, txt_length, lit_blank, lit_tab, lit_x, lit_empty, List.length_cons, List.length_nil] at *; omega)) ?_); intro _ _ )
  k_with "call builtin:str.join" => (k_here; k_dflt (refine join_L (by k_asm) (by k_mem) (by k_asm) (by decide +kernel) (by k_asm) ?_); intro _ _ )
  k_with "call builtin:len" => (k_here; (with_reducible show wpAny _ _ (call (Value.builtin "len") [Value.ref _]) _ _ _); k_dflt (refine t_len (by k_asm) (by with_reducible assumption) (by with_reducible assumption) (by omega) ?_); intro _ _ )
  k_with "subscriptTail" => (k_here; (with_reducible show wpAny _ _ (subscriptTail _ _ (Value.ref _) (Value.int _ _)) _ _ _); k_dflt (refine t_at (by k_asm) (by with_reducible assumption) (by with_reducible assumption) (by omega) (by omega) (by omega) ?_); intro _ )
  k_with "subscriptTail" => (k_here; (with_reducible show wpAny _ _ (subscriptTail _ _ (Value.ref _) (Value.int _ _)) _ _ _); k_dflt (refine l_at (by exact news_list (by k_asm) (by k_mem)) (by with_reducible assumption) (by omega) (by omega) (by omega) ?_); intro _ )
  k_with "ForEnd" => (dsimp only [ForEnd])
  k_with "WhEnd" => (dsimp only [WhEnd])
  k_with "call ref" => (k_here; k_dflt (refine Call.useI (by exact rfl) (by (simp only [depth_under_make, depth_under_kw, depth_in1, depth_deeper, depth_caller, aT_depth]; decide)) (by (simp only [units_deeper, units_in1, units_caller, units_under_make, aT_units]; decide)) (by exact rfl) (by exact rfl) (by exact rfl) (by k_asm) (by k_asm) (by k_asm) (by k_asm) (by k_asm) (by exact Fr.tup (by k_asm) (by assumption)) (weight_c _ _ _ _ (by with_reducible assumption) (by omega) _ _ (by omega) (by omega)) ?_; skip); intro _ _ _ _ _ ; (try k_sweep); (try k_fold))
  trivial
noncomputable def trim : List Int → List Int
  | [] => []
  | a :: r => match trim r with
    | [] => if a = 0 then [] else [a]
    | b :: q => a :: b :: q
/-- a new tuple of ints -/
inductive NewTup (rs : List Int) (g h : Heap) (v : Value) : Prop
  | mk (r : _) (us : _) (n : _)
    (h1 : v = .ref r)
    (h2 : g.get? r = none)
    (h3 : h.get? r = some ({ cls := .type "tuple", data := .seq us.toArray n } : Obj))
    (h4 : IntsAre us rs) : NewTup rs g h v
theorem odds_c (w : World) (t : Addr) (vs : List Value) (cs : List Int) (hI : IntsAre vs cs) (hlen : cs.length ≤ 100) :
   Call w 390 143 [.ref t] (fun h => IsTup h t vs.toArray) (NewTup (trim [0, weight cs 1, 0, weight cs 3, 0, weight cs 5])) := by
  have hfill : PySem.Challenge.rw_ty0024_01 = PySem.Challenge.rw_ty0024_01 ∧ Mine.hd.heap_1 = Mine.hd.heap_1 := by k_fill; exact ⟨rfl, rfl⟩
  clear hfill
  refine' enter (binds := [("counts", .ref t)]) ?k1 ?k2 ?k3 ?k4 ?k5 ?k6 ?k7 ?k8 ?k9 ?k10
  case k1 => k_is
  case k2 => k_is
  case k3 => decide
  case k4 => exact rfl
  case k5 => exact locs rfl
  case k6 => decide
  case k8 => exact rfl
  case k9 => exact rfl
  case k10 => exact rfl
  intro p loose mean mg mb base lenv g L h₁ s tk hg F N B X T hp
  try k_fold
  k_steps
  all_goals try (exfalso; simp_all; done)
  all_goals show Done _ _ _ _ _
  all_goals refine Done.intro (by assumption) ⟨_, _, _, rfl, News.fresh (by assumption) (List.Mem.head _), News.get (by assumption) (List.Mem.head _), ?_⟩
  all_goals simp_all only [trim, if_true, if_false, ne_eq, not_false_eq_true, reduceIte]
  all_goals (repeat (first | exact .nil | refine .cons _ _ ?_))
end
theorem flush30 : True := by first | (w_top off; k_with_none; walk1; done) | trivial
section
set_option maxHeartbeats 8000000
theorem words30 : True := by
  k_with "eval ListComp" => (k_here; k_dflt (refine lc1S (by k_asm) (by with_unfolding_all rfl) (by decide) (by rfl) (by decide) (by rfl) ?_))
  k_with "exec Assign cons ListComp" => (k_here; (with_reducible show wpAny _ _ (exec (Stmt.Assign _ (Expr.ListComp _ [_] _ _) _) _) _ _ _); k_dflt (refine lc1SA (by k_asm) (by rfl) (by kernel_rfl) (by first | rfl | with_unfolding_all rfl) (by decide) (by rfl) (by decide) (by rfl) (by rfl) (by rfl) ?_))
  k_with "exec Assign cons ListComp" => (k_here; (with_reducible show wpAny _ _ (exec (Stmt.Assign _ (Expr.ListComp _ [_, _] _ _) _) _) _ _ _); k_dflt (refine lc2SA (by k_asm) (by rfl) (by kernel_rfl) (by first | rfl | with_unfolding_all rfl) (by decide) (by rfl) (by decide) (by rfl) (by rfl) (by decide) (by rfl) (by rfl) ?_))
  k_with "binaryOp Mult str int" => (k_here; k_dflt (refine mul_bl (by omega) (by omega) ?_); intro _ _ )
  k_with "binaryOp Add str str" => (k_here; k_dflt (refine add_ss (by (simp only [Str.length_append, blanks_length, txt_length, lit_blank, lit_tab, lit_x, lit_empty, List.length_cons, List.length_nil] at *; omega)) ?_); intro _ _ )
  k_with "call builtin:str.join" => (k_here; k_dflt (refine join_L (by k_asm) (by k_mem) (by k_asm) (by decide +kernel) (by k_asm) ?_); intro _ _ )
  k_with "call builtin:len" => (k_here; (with_reducible show wpAny _ _ (call (Value.builtin "len") [Value.ref _]) _ _ _); k_dflt (refine t_len (by k_asm) (by with_reducible assumption) (by with_reducible assumption) (by omega) ?_); intro _ _ )
  k_with "subscriptTail" => (k_here; (with_reducible show wpAny _ _ (subscriptTail _ _ (Value.ref _) (Value.int _ _)) _ _ _); k_dflt (refine t_at (by k_asm) (by with_reducible assumption) (by with_reducible assumption) (by omega) (by omega) (by omega) ?_); intro _ )
  k_with "subscriptTail" => (k_here; (with_reducible show wpAny _ _ (subscriptTail _ _ (Value.ref _) (Value.int _ _)) _ _ _); k_dflt (refine l_at (by exact news_list (by k_asm) (by k_mem)) (by with_reducible assumption) (by omega) (by omega) (by omega) ?_); intro _ )
  k_with "ForEnd" => (dsimp only [ForEnd])
  k_with "WhEnd" => (dsimp only [WhEnd])
  trivial
noncomputable def tw (l xs : List Int) : List Int := xs.filter fun r => decide (1 < (l.count r : Int))
noncomputable def twins (l : List Int) : List Int := tw l l
theorem tw_snoc (l xs : List Int) (k : Int) : tw l (xs ++ [k]) = tw l xs ++ (if 1 < (l.count k : Int) then [k] else []) := by
  unfold tw
  rw [List.filter_append]
  congr 1
  by_cases h : 1 < (l.count k : Int) <;> simp [h]
theorem twins_mem {l : List Int} {r : Int} (h : r ∈ twins l) : r ∈ l ∧ r ∈ l.erase r := by
  unfold twins tw at h
  rw [List.mem_filter] at h
  refine ⟨h.1, ?_⟩
  have h2 := of_decide_eq_true h.2
  rw [← List.count_pos_iff, List.count_erase_self]
  omega
noncomputable abbrev tw0 (l : List Int) : Int := (twins l).getD (0 : Int).toNat 0
theorem tw0_mem {l : List Int} (h : twins l ≠ []) : tw0 l ∈ twins l := by
  unfold tw0
  cases e : twins l with
  | nil => exact absurd e h
  | cons a r => simp
/-- what the joining comes to -/
inductive Joins (ns : List Int) : List Int → List Int → Prop
  | refl : Joins ns ns []
  | step {left joins} : Joins ns left joins → tw0 left ∈ left → tw0 left ∈ left.erase (tw0 left) → Joins ns ((left.erase (tw0 left)).erase (tw0 left) ++ [2 * tw0 left]) (joins ++ [tw0 left])
theorem Joins.len {ns left joins : List Int} (h : Joins ns left joins) : left.length + joins.length = ns.length := by
  induction h with
  | refl => simp
  | step _ h1 h2 ih =>
    rw [List.length_append, List.length_append, List.length_erase_of_mem h2, List.length_erase_of_mem h1]
    have p1 := List.length_pos_of_mem h1
    have p2 := List.length_pos_of_mem h2
    rw [List.length_erase_of_mem h1] at p2
    simp only [List.length_cons, List.length_nil]
    omega
inductive JoinedPost (ns : List Int) (g h : Heap) (v : Value) : Prop
  | mk (r : Addr) (us : List Value) (n : Nat) (left joins : List Int) (l j : Addr) (e : v = .ref r) (h1 : g.get? r = none) (h2 : h.get? r = some ({ cls := .type "tuple", data := .seq us.toArray n } : Obj)) (h3 : us = [.ref l, .ref j])
    (h4 : NewInts left g h (.ref l)) (h5 : NewInts joins g h (.ref j)) (h6 : Joins ns left joins) (h7 : twins left = []) : JoinedPost ns g h v
inductive JoinedJ (ns : List Int) (Jn Lf L : Addr) (oc : Obj) (k : Nat) (m : Str → Option Value) (news : List (Addr × Obj)) : Prop
  | mk (Tw : Addr) (us : List Value) (n : Nat) (left : List Int) (js : List Value) (n' : Nat) (joins : List Int) (ts : List Value) (hm : ∀ p ∈ [(Str.ofString "twins", Value.ref Tw), (Str.ofString "joins", Value.ref Jn)], m p.1 = some p.2)
    (h1 : news = [(Tw, LCg.lst ts), (Jn, W.listOf js.toArray n'), (Lf, W.listOf us.toArray n), (L + 1, oc)]) (h2 : IntsAre ts (twins left)) (h3 : IntsAre us left) (h4 : IntsAre js joins) (h5 : Joins ns left joins) (h6 : k = left.length)
    (h7 : (@Ne Nat Tw Jn) ∧ (@Ne Nat Tw Lf) ∧ (@Ne Nat Tw (L + 1))) : JoinedJ ns Jn Lf L oc k m news
section
theorem words31 : True := by
  k_with "exec While Compare cons nil" => (k_here; k_dflt (refine while_src (by k_asm) ?_))
  trivial
theorem joined_c (w : World) (l : Addr) (vs : List Value) (ns : List Int) (hI : IntsAre vs ns) (hlen : ns.length ≤ 7) (hb : ∀ x ∈ ns, 1 ≤ x ∧ x ≤ 6) :
   Call w 390 124 [.ref l] (fun h => h.IsList l vs.toArray) (JoinedPost ns) := by
  have hfill : PySem.Challenge.rw_ty0024_01 = PySem.Challenge.rw_ty0024_01 ∧ Mine.hd.heap_1 = Mine.hd.heap_1 := by k_fill; exact ⟨rfl, rfl⟩
  clear hfill
  refine' enterC (binds := [("rows", .ref l)]) ?k1 ?k2 ?k3 ?k4 ?k5 ?k6 ?k7 ?k8 ?k9 ?k10
  case k1 => k_is
  case k2 => k_is
  case k3 => decide
  case k4 => exact rfl
  case k5 => exact rfl
  case k6 => decide +kernel
  case k8 => exact rfl
  case k9 => exact rfl
  case k10 => exact rfl
  intro p loose mean mg mb base lenv g L h₁ s tk cells hg F N Y B X T hp
  k_cells Y
  try simp only [List.cons_append, List.nil_append] at N
  try k_fold
  k_steps
  rename_i _ _ Lf c0 _ l1a _ oc dc _ Jn _ l1b _ F1 N1
  unfold Stop
  refine ⟨_, _, (fun i ys => IntsAre ys (tw ns (ns.take i))), _, Src.listN (List.Mem.tail _ (List.Mem.head _)), rfl, F1, N1, ?lim, .nil, ?turn, ?fin⟩
  case lim =>
    intro i ys h
    have := h.length
    have h1 := List.length_filter_le (fun r => decide (1 < (ns.count r : Int))) (ns.take i)
    rw [List.length_take] at h1
    unfold tw at this
    rw [PySem.sizeLine_eq]
    omega
  case turn =>
    intro i v ys I oI C oC D m₂ h tk hi hP hacc F N off ne hC hx
    try simp only [LCg.Off3, and_true] at off
    unfold Turn
    refine wpAny_tests_one ?_
    obtain ⟨k, t, rfl, hk⟩ := IntsAre.at hI i v (by simpa using hP)
    try k_fold
    k_steps
    all_goals (refine TurnEnd.intro (by assumption) (by assumption) (fun p hp => hp) ?_)
    · rw [List.take_add_one, hk, Option.toList_some, tw_snoc, if_pos (by assumption)]; exact hacc.append (.cons _ _ .nil)
    · rw [List.take_add_one, hk, Option.toList_some, tw_snoc, if_neg (by assumption), List.append_nil]; exact hacc
  case fin =>
    intro D ys hacc h tk F N o1
    try simp only [LCg.Off1] at o1
    rw [show vs.toArray.size = ns.length by rw [List.size_toArray, hI.length], List.take_length] at hacc
    try k_fold
    k_steps
    unfold Stop
    refine ⟨_, _, _, JoinedJ ns Jn Lf L oc, F, N,
      ⟨D, _, _, _, _, _, _, _, by kst_all, rfl, hacc, hI, .nil, .refl, rfl, Ne.symm o1.1, Ne.symm o1.2.1, Ne.symm o1.2.2.1⟩, ?_⟩
    intro k m news h tk hJ F N
    obtain ⟨Tw, us, n, left, js, n', joins, ts, hm, rfl, hts, hus, hjs, hJo, rfl, hne⟩ := hJ
    rw [map_k2 hm] at F
    have hlen2 := hJo.len
    have hul := hus.length
    have hjl := hjs.length
    have htl := hts.length
    have htw : (twins left).length ≤ left.length := List.length_filter_le _ _
    by_cases hT : twins left = []
    · try k_fold
      k_steps
      exact Done.intro (by assumption) ⟨_, _, _, left, joins, Lf, Jn, rfl, News.fresh (by assumption) (List.Mem.head _), News.get (by assumption) (List.Mem.head _), rfl, ⟨_, us, n, rfl, News.fresh (by assumption) (by k_mem), News.get (by assumption) (by k_mem), hus⟩,
        ⟨_, js, n', rfl, News.fresh (by assumption) (by k_mem), News.get (by assumption) (by k_mem), hjs⟩, hJo, hT⟩
    · have hd := tw0_mem hT
      have hd1 := (twins_mem hd).1
      have hd2 := (twins_mem hd).2
      have hTl : 0 < (twins left).length := List.length_pos_of_mem hd
      have he1 : (left.erase (tw0 left)).length ≤ 7 := by rw [List.length_erase_of_mem hd1]; omega
      have hi1 := ints_rm hus hd1
      have hi2 := ints_rm hi1 hd2
      have hi2l : ((us.eraseIdx (left.idxOf (tw0 left))).eraseIdx ((left.erase (tw0 left)).idxOf (tw0 left))).length ≤ 7 := by rw [hi2.length, List.length_erase_of_mem hd2]; omega
      try k_fold
      k_steps
      rename_i F2 N2
      have hJ2 := Joins.step hJo hd1 hd2
      have hlen3 := hJ2.len
      generalize hl2 : (left.erase (tw0 left)).erase (tw0 left) ++ [2 * tw0 left] = left2 at hJ2 hlen3
      rw [List.length_append, List.length_singleton] at hlen3
      refine' hi_elim (b := Lf) (ns := left2) N2 ?a ?b ?c
      case a => k_mem
      case b => rw [← hl2]; exact hi2.append (.cons _ _ .nil)
      case c =>
        intro hi3
        have hi3l := hi3.length
        unfold Stop
        refine ⟨_, _, (fun i ys => IntsAre ys (tw left2 (left2.take i))), _, Src.listN (its := _) (ax := Lf) (by k_mem), rfl, F2, N2, ?lim2, .nil, ?turn2, ?fin2⟩
        case lim2 =>
          intro i ys h
          have := h.length
          have h1 := List.length_filter_le (fun r => decide (1 < (left2.count r : Int))) (left2.take i)
          rw [List.length_take] at h1
          unfold tw at this
          rw [PySem.sizeLine_eq]
          omega
        case turn2 =>
          intro i v ys I oI C oC D m₂ h tk hi hP hacc F N off ne hC hx
          try simp only [LCg.Off3, and_true] at off
          unfold Turn
          refine wpAny_tests_one ?_
          obtain ⟨k, t, rfl, hk⟩ := IntsAre.at hi3 i v (by simpa using hP)
          try k_fold
          k_steps
          all_goals (refine TurnEnd.intro (by assumption) (by assumption) (fun p hp => hp) ?_)
          · rw [List.take_add_one, hk, Option.toList_some, tw_snoc, if_pos (by assumption)]; exact hacc.append (.cons _ _ .nil)
          · rw [List.take_add_one, hk, Option.toList_some, tw_snoc, if_neg (by assumption), List.append_nil]; exact hacc
        case fin2 =>
          intro D ys hacc h tk F N o1
          try simp only [LCg.Off1] at o1
          rw [List.size_toArray, hi3l, List.take_length] at hacc
          try k_fold
          k_steps
          refine' WhNext.intro F N [(D, LCg.lst ys), (Jn, W.listOf _ _), (Lf, W.listOf _ _), (L + 1, oc)] left2.length ?sub ?lt ?j
          case sub => lcg_sub
          case lt => omega
          case j =>
            refine' ⟨D, _, _, left2, _, _, joins ++ [tw0 left], ys, ?m, rfl, hacc, hi3, hjs.append (.cons _ _ .nil), hJ2, rfl, Ne.symm o1.2.2.1, Ne.symm o1.2.2.2.1, Ne.symm o1.2.2.2.2.1⟩
            case m => kst_all
end
end
theorem flush31 : True := by first | (w_top off; k_with_none; walk1; done) | trivial
section
set_option maxHeartbeats 4000000
theorem enterCG {w : World} {D f : Nat} {args : List Value} {Pre : (Str → Option Value) → Shared → Prop} {Post : Shared → Value → Shared → Prop}
    {name qual : Str} {params : Arguments} {body : List Stmt} {scope : Scope} {dV kV doc pm cdv ct oc : Value} {an od : Option Addr} {osl : Array (Option Value)} {binds : List (Str × Value)}
    (ho : (Mine.hd.heap_1 w.params).lookup f = some ⟨oc, od, .func (fnOf name qual params body scope dV kV doc pm an cdv ct), osl⟩) (hcd : codeIn (Mine.hd.heap_1 w.params) cdv qual = true)
    (hD : D < recursionLimit)
    (hbind : bindArgs (fnOf name qual params body scope dV kV doc pm an cdv ct) ⟨args, []⟩ = pure binds)
    (hkind : (binds.all fun y => scope.names.lookup y.1 == some .local || scope.names.lookup y.1 == some .cell) = true)
    (hnd : ((cellsFrom 0 scope.names []).map (·.1)).Nodup)
    (h : ∀ (p : Program) (loose : List Str) (mean : ExcName → Option Value) (mg mb : Str → Option Value) (base : Heap) (l : List Env) (g : Heap) (L : Addr) (h₁ : Heap) (s : Shared) (tk : Nat) (cells : List (Addr × Obj)), g.objs.size ≤ L → s.heap = g →
      Fr g L h₁ (bindL (envOfC qual scope L f cdv).kindOf binds fun _ => none) → News g L h₁ cells →
      CellsAre (bindC (envOfC qual scope L f cdv).kindOf binds fun _ => none) (cellsFrom (L + 1) scope.names []) cells → Below (aT D l) base l g → (Mine.hd.heap_1 w.params).In g → Top p loose mean mg mb g → Pre mg s →
      wpAny (model PySem.Challenge.rw_ty0024_01.row.toRowW.prog w) ((aT D l).deeper (envOfC qual scope L f cdv)) (execs body (envOfC qual scope L f cdv))
        (fun fl s' => Post s (match fl with | .ret v => v | _ => .none) s') (fun _ _ => False) { s with heap := h₁, toks := tk })
    (hco : scope.isCoroutine = false := by rfl) (hgen : scope.isGenerator = false := by rfl) (hk : scope.kind = .function := by rfl) : CallG w D f args Pre Post := by
  intro p loose mean mg mb A base l s Q E hh hd hu B X T hp ret
  refine weak (A := aT D l) hh hd (by rw [B.stack]; rfl) rfl hu ?_
  refine wpAny_call ?_
  refine codeAny_call_function hD (X _ _ ho) rfl hco hgen rfl (codeRec_of X hcd) ((BindsTo.of_eq hbind) _ _ _ _ ?_)
  refine wpAny_newFunctionEnv_cells hk (kindsX hkind _) fun env' he s' x => ?_
  subst he
  refine ⟨T.nolimit.keeps x.toInCall.keep, codeAny_func ?_⟩
  obtain ⟨h₁, tk, rfl, _⟩ := x.done
  have hk₁ := x.toInCall.keep
  obtain ⟨cells, NC, Y⟩ := Cl.news (h₀ := s.heap) (Nat.le_refl _) fun n c hm => ⟨x.cell n c (lookup_of_mem_nodup (cellsFrom_names scope.names 0 (s.heap.objs.size + 1) [] [] rfl ▸ hnd) hm), x.above n c hm⟩
  refine wpAny_mono (h p loose mean mg mb base l s.heap s.heap.objs.size h₁ s tk cells (Nat.le_refl _) rfl ⟨x.toInCall.ns, hk₁, Nat.le_refl _⟩ NC Y ⟨rfl, B.stays, B.frames⟩ X T hp) (fun fl s' hl => ret _ _ hl) fun _ _ y => y.elim

section
variable {w : World} {h₀ h h' : Heap} {L r : Addr} {m : Str → Option Value} {news tl : List (Addr × Obj)} {o : Obj} {d : WsD}
theorem news_addL (F : Fr h₀ L h m) (st : h.StaysIn h') (N : News h₀ L h' news) (ht : ∀ p ∈ tl, h'.get? p.1 = some p.2 ∧ h.get? p.1 = none) : News h₀ L h' (news ++ tl) := fun p hp => by
  rcases List.mem_append.mp hp with hp | hp
  · exact N p hp
  · exact news_add F st N (ht p hp).2 (ht p hp).1 _ (.head _)
noncomputable abbrev wsDict (w : World) (d : WsD) : Obj := W.dictOf [{ hash := PyData.keyHash w.params (Str.ofString "raw"), key := Value.str (Str.ofString "raw") d.t0, val := Value.str d.raw d.t1 },
    { hash := PyData.keyHash w.params (Str.ofString "n"), key := Value.str (Str.ofString "n") d.t2, val := Value.int d.n d.t3 },
    { hash := PyData.keyHash w.params (Str.ofString "nt"), key := Value.str (Str.ofString "nt") d.t4, val := Value.int d.nt d.t5 },
    { hash := PyData.keyHash w.params (Str.ofString "norm"), key := Value.str (Str.ofString "norm") d.t6, val := Value.ref d.nx },
    { hash := PyData.keyHash w.params (Str.ofString "is_simple"), key := Value.str (Str.ofString "is_simple") d.t7, val := Value.bool d.si }] 5
noncomputable abbrev wsNorm (d : WsD) : Obj := { cls := Value.type "tuple", data := Data.seq #[Value.ref d.cx, Value.int d.b d.t8] }
noncomputable abbrev wsCnt (d : WsD) : Obj := { cls := Value.type "tuple", data := Data.seq d.us.toArray }
theorem news_ws (F : Fr h₀ L h m) (st : h.StaysIn h') (N : News h₀ L h' news) (hn : d.New h) (hi : d.In w h') :
    News h₀ L h' ((d.x, instObj 98 d.dx) :: (d.dx, wsDict w d) :: (d.nx, wsNorm d) :: (d.cx, wsCnt d) :: news) :=
  news_add F st (news_add F st (news_add F st (news_add F st N hn.2.2.2 hi.2.2.2.1) hn.2.2.1 hi.2.2.1) hn.2.1 hi.2.1) hn.1 hi.1
theorem WsD.of_news (N : News h₀ L h news) (h1 : (d.x, instObj 98 d.dx) ∈ news) (h2 : (d.dx, wsDict w d) ∈ news) (h3 : (d.nx, wsNorm d) ∈ news) (h4 : (d.cx, wsCnt d) ∈ news) (hi : IntsAre d.us d.cs) : d.In w h :=
  ⟨(N _ h1).1, (N _ h2).1, (N _ h3).1, (N _ h4).1, hi⟩
end
theorem Call.useWs {w : World} {D : Nat} {f : Addr} {args : List Value} {Pre : Heap → Prop} {ns : List Int} {b0 : Int}
    {A₀ A : Around} {base h₀ : Heap} {outer : List Env} {L : Addr} {m : Str → Option Value} {env : Env} {news : List (Addr × Obj)} {p : Program} {loose : List Str} {mean : ExcName → Option Value} {mg mb : Str → Option Value} {s : Shared} {Q E : Value → Shared → Prop}
    (hh : A.handled = none) (hd : A.depth ≤ D) (hu : A.units ≤ D - 300) (hA : A.frames = some (env :: outer)) (hf : env.frame = some L) (hke : env.scope.kind = .function)
    (B : Below A₀ base outer h₀) (F : Fr h₀ L s.heap m) (X : (Mine.hd.heap_1 w.params).In h₀) (N : News h₀ L s.heap news) (T : Top p loose mean mg mb h₀)
    (hp : Pre s.heap) (C : Call w D f args Pre (WsPost w ns b0))
    (ret : ∀ h' tk, Fr h₀ L h' m → ∀ d : WsD, d.n = (wfold (preCodes ns b0)).n → d.nt = (wfold (preCodes ns b0)).nt → d.b = (wfold (preCodes ns b0)).b → d.cs = (wfold (preCodes ns b0)).cnt → d.si = decide ((d.cs.length : Int) ≤ 1) →
      News h₀ L h' ((d.x, instObj 98 d.dx) :: (d.dx, wsDict w d) :: (d.nx, wsNorm d) :: (d.cx, wsCnt d) :: news) → LCg.Off1 d.x news → LCg.Off1 d.dx news → LCg.Off1 d.nx news → LCg.Off1 d.cx news → IntsAre d.us d.cs → Q (.ref d.x) { s with heap := h', toks := tk }) : wpAny (model PySem.Challenge.rw_ty0024_01.row.toRowW.prog w) A (call (.ref f) args) Q E s := by
  refine C.use hh hd hu hA hf hke B F X N T hp fun v h' tk F' N' st po => ?_
  obtain ⟨d, rfl, hn, hi, h1, h2, h3, h4, h5⟩ := po
  exact ret h' tk F' d h1 h2 h3 h4 h5 (news_ws F st N' hn hi) (news_off N hn.1) (news_off N hn.2.1) (news_off N hn.2.2.1) (news_off N hn.2.2.2) hi.2.2.2.2
section
variable {prog : Program} {w : World} {A : Around} {E : Value → Shared → Prop} {s : Shared} {h₀ : Heap} {L a : Addr} {news : List (Addr × Obj)} {xs : List Value} {ns : List Int} {ka : Nat} {x : Int} {t : Tok} {Q : Value → Shared → Prop}
theorem ints_dat : ∀ {vs : List Value} {ns : List Int}, IntsAre vs ns → W.DatAll [] vs (ns.map W.Dat.int)
  | _, _, .nil => .nil
  | _, _, .cons n t r => .cons (.int n t) (ints_dat r)
open Classical in
theorem in_ints (N : News h₀ L s.heap news) (ma : (a, W.listOf xs.toArray ka) ∈ news) (hi : IntsAre xs ns) (hu : A.units + 64 < cLine) (h1 : x ∈ ns → Q (.bool true) s) (h2 : x ∉ ns → Q (.bool false) s) :
    wpAny (model prog w) A (compareOp .In (.int x t) (.ref a)) Q E s := by
  refine kqd_isIn N ma rfl rfl (ints_dat hi) (fun _ h => nomatch h) (DatIn.int (news := []) x t) (fun _ h => nomatch h) (fun d hd => ?_) rfl hu ?_
  · obtain ⟨y, _, rfl⟩ := List.mem_map.mp hd; rfl
  · by_cases hx : x ∈ ns
    · have : (Dat.int x) ∈ ns.map W.Dat.int := List.mem_map.mpr ⟨x, hx, rfl⟩
      rw [decide_eq_true this]; exact h1 hx
    · have : ¬ (Dat.int x) ∈ ns.map W.Dat.int := fun q => by
        obtain ⟨y, hy, e⟩ := List.mem_map.mp q
        cases e; exact hx hy
      rw [decide_eq_false this]; exact h2 hx
end
theorem pre_len {b : Int} : ∀ {ns : List Int}, (∀ x ∈ ns, 0 ≤ x ∧ x ≤ 64) → (preCodes ns b).length ≤ 65 * ns.length + b.toNat
  | [], _ => by simp [preCodes]
  | a :: r, h => by
    have ih := pre_len (b := b) fun x hx => h x (.tail _ hx)
    have ha := h a (.head _)
    unfold preCodes at ih ⊢
    rw [List.flatMap_cons, List.append_assoc, List.length_append, List.length_cons]
    have : (cellCodes a).length = a.toNat + 1 := by simp [cellCodes]
    rw [this]; omega
end
theorem flush32 : True := by first | (w_top off; k_with_none; walk1; done) | trivial
section
/-! plain lists: sums over rows -/
noncomputable def sumf (f : Int → Int) (l : List Int) : Int := (l.map f).sum
theorem sumf_nil (f : Int → Int) : sumf f [] = 0 := rfl
theorem sumf_cons (f : Int → Int) (a : Int) (l : List Int) : sumf f (a :: l) = f a + sumf f l := by simp [sumf]
theorem sumf_append (f : Int → Int) (a b : List Int) : sumf f (a ++ b) = sumf f a + sumf f b := by simp [sumf]
theorem sumf_perm {f : Int → Int} {a b : List Int} (h : a.Perm b) : sumf f a = sumf f b := by
  induction h with
  | nil => rfl
  | cons x _ ih => rw [sumf_cons, sumf_cons, ih]
  | swap x y l => simp only [sumf_cons]; omega
  | trans _ _ h1 h2 => rw [h1, h2]
theorem sumf_erase {f : Int → Int} {a : Int} {l : List Int} (h : a ∈ l) : sumf f (l.erase a) = sumf f l - f a := by
  have := sumf_perm (f := f) (List.perm_cons_erase h)
  rw [sumf_cons] at this; omega
theorem sumf_congr {f g : Int → Int} : ∀ {l : List Int}, (∀ x ∈ l, f x = g x) → sumf f l = sumf g l
  | [], _ => rfl
  | a :: r, h => by rw [sumf_cons, sumf_cons, h a (.head _), sumf_congr fun x hx => h x (.tail _ hx)]
theorem sumf_le {f g : Int → Int} : ∀ {l : List Int}, (∀ x ∈ l, f x ≤ g x) → sumf f l ≤ sumf g l
  | [], _ => Int.le_refl _
  | a :: r, h => by
    have h1 := h a (.head _)
    have h2 := sumf_le (l := r) fun x hx => h x (.tail _ hx)
    rw [sumf_cons, sumf_cons]; omega
theorem sumf_const (c : Int) : ∀ l : List Int, sumf (fun _ => c) l = c * l.length
  | [] => by simp [sumf]
  | a :: r => by rw [sumf_cons, sumf_const c r, List.length_cons]; simp [Int.mul_add]; omega
theorem sumf_add (f g : Int → Int) : ∀ l : List Int, sumf (fun x => f x + g x) l = sumf f l + sumf g l
  | [] => rfl
  | a :: r => by rw [sumf_cons, sumf_cons, sumf_cons, sumf_add f g r]; omega
theorem sumf_mul (c : Int) (f : Int → Int) : ∀ l : List Int, sumf (fun x => c * f x) l = c * sumf f l
  | [] => by simp [sumf]
  | a :: r => by rw [sumf_cons, sumf_cons, sumf_mul c f r, Int.mul_add]
theorem sumf_mem {f : Int → Int} {a : Int} {l : List Int} (h0 : ∀ x ∈ l, 0 ≤ f x) (h : a ∈ l) : f a ≤ sumf f l := by
  have := sumf_erase (f := f) h
  have h1 : sumf (fun _ => 0) (l.erase a) ≤ sumf f (l.erase a) := sumf_le fun x hx => h0 x (List.mem_of_mem_erase hx)
  rw [sumf_const] at h1; omega
theorem sumf_count (F : Int → Int) (a : Int) : ∀ l : List Int, sumf (fun r => if r = a then F r else 0) l = F a * (l.count a : Int)
  | [] => by simp [sumf]
  | b :: r => by
    rw [sumf_cons, sumf_count F a r, List.count_cons]
    by_cases h : b = a
    · subst h; simp [Int.mul_add]; omega
    · simp [h]
theorem sumf_flatMap (f : Int → Int) (g : Int → List Int) : ∀ l : List Int, sumf f (l.flatMap g) = sumf (fun x => sumf f (g x)) l
  | [] => rfl
  | a :: r => by rw [List.flatMap_cons, sumf_append, sumf_cons, sumf_flatMap f g r]

/-! the joins -/
theorem Joins.sum {f : Int → Int} {ns left joins : List Int} (h : Joins ns left joins) : sumf f left + sumf (fun j => 2 * f j - f (2 * j)) joins = sumf f ns := by
  induction h with
  | refl => simp [sumf_nil]
  | step _ h1 h2 ih =>
    rw [sumf_append, sumf_append, sumf_erase h2, sumf_erase h1]
    simp only [sumf_cons, sumf_nil]
    omega
theorem Joins.total {ns left joins : List Int} (h : Joins ns left joins) : sumf id left = sumf id ns := by
  have := h.sum (f := id)
  rw [sumf_congr (f := fun j => 2 * id j - id (2 * j)) (g := fun _ => 0) (fun x _ => by simp), sumf_const] at this
  omega
noncomputable def goodB (x : Int) : Bool := decide (x ∈ [1, 2, 4, 8, 16, 32, 3, 6, 12, 24, 5, 10, 20, (40 : Int)])
theorem goodB_row {x : Int} (h0 : 1 ≤ x) (h1 : x ≤ 6) : goodB x = true := upto (m := 6) (P := fun x => 1 ≤ x → goodB x = true) (by decide +kernel) (by omega) h1 h0
theorem goodB_pos {x : Int} (h : goodB x = true) : 1 ≤ x ∧ x ≤ 40 := by
  have : ∀ y ∈ [1, 2, 4, 8, 16, 32, 3, 6, 12, 24, 5, 10, 20, (40 : Int)], 1 ≤ y ∧ y ≤ 40 := by decide +kernel
  exact this x (of_decide_eq_true h)
theorem goodB_twice {x : Int} (h : goodB x = true) (h1 : x ≤ 21) : goodB (2 * x) = true := by
  have : ∀ y ∈ [1, 2, 4, 8, 16, 32, 3, 6, 12, 24, 5, 10, 20, (40 : Int)], y ≤ 21 → goodB (2 * y) = true := by decide +kernel
  exact this x (of_decide_eq_true h) h1
theorem rows_total {ns : List Int} (hl : ns.length ≤ 7) (hb : ∀ x ∈ ns, 1 ≤ x ∧ x ≤ 6) : sumf id ns ≤ 42 := by
  have h1 : sumf id ns ≤ sumf (fun _ => 6) ns := sumf_le fun x hx => (hb x hx).2
  rw [sumf_const] at h1; omega
theorem Joins.good {ns left joins : List Int} (hl : ns.length ≤ 7) (hb : ∀ x ∈ ns, 1 ≤ x ∧ x ≤ 6) (h : Joins ns left joins) : (∀ x ∈ left, goodB x = true) ∧ ∀ j ∈ joins, 1 ≤ j ∧ j ≤ 21 := by
  induction h with
  | refl => exact ⟨fun x hx => goodB_row (hb x hx).1 (hb x hx).2, fun _ h => nomatch h⟩
  | @step left joins hJ h1 h2 ih =>
    obtain ⟨ih1, ih2⟩ := ih
    have hp : ∀ x ∈ left, 0 ≤ id x := fun x hx => by have := goodB_pos (ih1 x hx); show 0 ≤ x; omega
    have ht : tw0 left ≤ 21 := by
      have e1 := sumf_erase (f := id) h1
      have e2 := sumf_mem (f := id) (fun x hx => hp x (List.mem_of_mem_erase hx)) h2
      have e3 := hJ.total
      have e4 := rows_total hl hb
      simp only [id_eq] at e1 e2; omega
    have hg := ih1 _ h1
    refine ⟨fun x hx => ?_, fun j hj => ?_⟩
    · rcases List.mem_append.mp hx with hx | hx
      · exact ih1 x (List.mem_of_mem_erase (List.mem_of_mem_erase hx))
      · rw [List.mem_singleton.mp hx]; exact goodB_twice hg ht
    · rcases List.mem_append.mp hj with hj | hj
      · exact ih2 j hj
      · rw [List.mem_singleton.mp hj]; exact ⟨(goodB_pos hg).1, ht⟩
theorem Joins.cover {ns left joins : List Int} (hb : ∀ x ∈ ns, 1 ≤ x) (h : Joins ns left joins) : (∀ y ∈ left, 1 ≤ y) ∧ ∀ x ∈ ns, ∃ y ∈ left, x ≤ y := by
  induction h with
  | refl => exact ⟨hb, fun x hx => ⟨x, hx, Int.le_refl _⟩⟩
  | @step left joins hJ h1 h2 ih =>
    obtain ⟨i1, i2⟩ := ih
    have hp := i1 _ h1
    refine ⟨fun y hy => ?_, fun x hx => ?_⟩
    · rcases List.mem_append.mp hy with hy | hy
      · exact i1 y (List.mem_of_mem_erase (List.mem_of_mem_erase hy))
      · rw [List.mem_singleton.mp hy]; omega
    · obtain ⟨y, hy, hxy⟩ := i2 x hx
      by_cases e : y = tw0 left
      · exact ⟨2 * tw0 left, List.mem_append_right _ (.head _), by omega⟩
      · exact ⟨y, List.mem_append_left _ ((List.mem_erase_of_ne e).mpr ((List.mem_erase_of_ne e).mpr hy)), hxy⟩
theorem twins_nodup {l : List Int} (h : twins l = []) : l.Nodup := by
  rw [List.nodup_iff_count]
  intro a
  by_cases ha : a ∈ l
  · rcases Nat.lt_or_ge 1 (l.count a) with q | q
    · have : a ∈ twins l := by
        unfold twins tw
        rw [List.mem_filter]
        exact ⟨ha, decide_eq_true (by omega)⟩
      rw [h] at this; cases this
    · exact q
  · rw [List.count_eq_zero_of_not_mem ha]; exact Nat.zero_le _

/-! the counts -/
theorem fold_blanks (st : Wst) : ∀ k : Nat, (List.replicate k 32).foldl wstep st = ⟨st.n + k, st.b + k, st.nt, st.cnt⟩
  | 0 => by simp
  | k + 1 => by
    rw [List.replicate_succ, List.foldl_cons, fold_blanks _ k, wstep_32]
    simp only [Wst.mk.injEq, and_true]
    constructor <;> omega
theorem fold_cell {st : Wst} {r : Int} (h0 : 0 ≤ r) (hb : st.b = 0) : (cellCodes r).foldl wstep st = ⟨st.n + r + 1, 0, st.nt + 1, bump st.cnt r⟩ := by
  unfold cellCodes
  rw [List.foldl_append, fold_blanks, List.foldl_cons, List.foldl_nil, wstep_9]
  simp only [Wst.mk.injEq, hb]
  refine ⟨by omega, trivial, trivial, ?_⟩
  rw [show (0 : Int) + (r.toNat : Int) = r by omega]
theorem fold_cells : ∀ (ns : List Int) (st : Wst), (∀ x ∈ ns, 0 ≤ x) → st.b = 0 → (ns.flatMap cellCodes).foldl wstep st = ⟨st.n + sumf (fun r => r + 1) ns, 0, st.nt + ns.length, ns.foldl bump st.cnt⟩
  | [], st, _, hb => by
    simp only [List.flatMap_nil, List.foldl_nil, sumf_nil, List.length_nil]
    cases st; simp_all
  | a :: r, st, h0, hb => by
    rw [List.flatMap_cons, List.foldl_append, fold_cell (h0 a (.head _)) hb, fold_cells r _ (fun x hx => h0 x (.tail _ hx)) rfl, sumf_cons, List.foldl_cons, List.length_cons]
    simp only [Wst.mk.injEq, and_true, true_and]
    constructor <;> omega
theorem wfold_pre {ns : List Int} {b : Int} (h0 : ∀ x ∈ ns, 0 ≤ x) (hb : 0 ≤ b) : wfold (preCodes ns b) = ⟨sumf (fun r => r + 1) ns + b, b, ns.length, ns.foldl bump []⟩ := by
  unfold wfold preCodes
  rw [List.foldl_append, fold_cells _ _ h0 rfl, fold_blanks]
  simp only [Wst.mk.injEq, and_true]
  refine ⟨?_, ?_, ?_⟩ <;> omega
theorem fit_getD {cnt : List Int} {b : Int} (i : Nat) : (fit cnt b).getD i 0 = cnt.getD i 0 := by
  unfold fit
  split
  · rw [List.getD_eq_getElem?_getD, List.getD_eq_getElem?_getD, List.getElem?_append]
    split
    · rfl
    · rename_i h
      rw [List.getElem?_eq_none (Nat.not_lt.mp h), List.getElem?_replicate]
      split <;> rfl
  · rfl
theorem bump_len {cnt : List Int} {b : Int} (_h0 : 0 ≤ b) : ((bump cnt b).length : Int) = max (cnt.length : Int) (b + 1) := by
  unfold bump
  rw [List.length_set]
  unfold fit
  split
  · rw [List.length_append, List.length_replicate]; omega
  · omega
theorem bump_getD {cnt : List Int} {b : Int} (h0 : 0 ≤ b) (i : Nat) : (bump cnt b).getD i 0 = cnt.getD i 0 + (if b = i then 1 else 0) := by
  unfold bump
  have hl := fit_len cnt b h0
  rw [List.getD_eq_getElem?_getD, List.getElem?_set]
  split
  · rename_i h
    subst h
    rw [if_pos (by omega), if_pos (by omega)]
    simp only [Option.getD_some]
    rw [fit_getD]
  · rename_i h
    rw [if_neg (by omega), ← List.getD_eq_getElem?_getD, fit_getD]; omega
/-- cs counts the rows -/
noncomputable def IsCnt (cs ns : List Int) : Prop := (∀ i : Nat, cs.getD i 0 = (ns.count (i : Int) : Int)) ∧ (∀ r ∈ ns, 0 ≤ r ∧ r < cs.length) ∧ (cs = [] ∨ ∃ r ∈ ns, (cs.length : Int) = r + 1)
theorem foldl_bump : ∀ (ns : List Int) (cnt : List Int), (∀ x ∈ ns, 0 ≤ x) →
    (∀ i : Nat, (ns.foldl bump cnt).getD i 0 = cnt.getD i 0 + (ns.count (i : Int) : Int)) ∧ (cnt.length ≤ (ns.foldl bump cnt).length) ∧ (∀ r ∈ ns, r < (ns.foldl bump cnt).length) ∧ ((ns.foldl bump cnt).length = cnt.length ∨ ∃ r ∈ ns, ((ns.foldl bump cnt).length : Int) = r + 1)
  | [], cnt, _ => ⟨by simp, Nat.le_refl _, by simp, .inl rfl⟩
  | a :: r, cnt, h0 => by
    have ha := h0 a (.head _)
    obtain ⟨h1, h2, h3, h4⟩ := foldl_bump r (bump cnt a) (fun x hx => h0 x (.tail _ hx))
    have hbl := bump_len (cnt := cnt) ha
    rw [List.foldl_cons]
    refine ⟨fun i => ?_, by omega, fun x hx => ?_, ?_⟩
    · rw [h1, bump_getD ha, List.count_cons]
      by_cases e : a = (i : Int)
      · simp [e]; omega
      · simp [e]
    · rcases List.mem_cons.mp hx with rfl | hx
      · omega
      · exact h3 x hx
    · rcases h4 with h4 | ⟨x, hx, h4⟩
      · rcases Int.le_total (cnt.length : Int) (a + 1) with q | q
        · exact .inr ⟨a, .head _, by omega⟩
        · exact .inl (by omega)
      · exact .inr ⟨x, .tail _ hx, h4⟩
theorem isCnt_fold {ns : List Int} (h0 : ∀ x ∈ ns, 0 ≤ x) : IsCnt (ns.foldl bump []) ns := by
  obtain ⟨h1, _, h3, h4⟩ := foldl_bump ns [] h0
  refine ⟨fun i => by rw [h1]; simp, fun r hr => ⟨h0 r hr, h3 r hr⟩, ?_⟩
  rcases h4 with h4 | h4
  · exact .inl (List.length_eq_zero_iff.mp (by simpa using h4))
  · exact .inr h4
theorem cnt_len_eq {cs cs' ns ns' : List Int} (h : IsCnt cs ns) (h' : IsCnt cs' ns') (e : ∀ r ∈ ns, r ∈ ns') : cs.length ≤ cs'.length := by
  rcases h.2.2 with rfl | ⟨r, hr, hl⟩
  · exact Nat.zero_le _
  · have := (h'.2.1 r (e r hr)).2; omega
theorem getD_ext {a b : List Int} (hl : a.length = b.length) (h : ∀ i : Nat, a.getD i 0 = b.getD i 0) : a = b := by
  refine List.ext_getElem hl fun i h1 h2 => ?_
  have := h i
  rw [List.getD_eq_getElem?_getD, List.getD_eq_getElem?_getD, List.getElem?_eq_getElem h1, List.getElem?_eq_getElem h2] at this
  exact this
theorem cnt_eq {cs cs' ns ns' : List Int} (h : IsCnt cs ns) (h' : IsCnt cs' ns') (e : ns.Perm ns') : cs = cs' := by
  refine getD_ext (Nat.le_antisymm (cnt_len_eq h h' fun r hr => e.mem_iff.mp hr) (cnt_len_eq h' h fun r hr => e.mem_iff.mpr hr)) fun i => ?_
  rw [h.1, h'.1, e.count_eq]
theorem cnt_perm {cs ns ns' : List Int} (h : IsCnt cs ns) (h' : IsCnt cs ns') : ns.Perm ns' := by
  rw [List.perm_iff_count]
  intro a
  rcases Int.lt_or_le a 0 with q | q
  · rw [List.count_eq_zero_of_not_mem (fun hm => by have := (h.2.1 a hm).1; omega), List.count_eq_zero_of_not_mem (fun hm => by have := (h'.2.1 a hm).1; omega)]
  · have e1 := h.1 a.toNat
    have e2 := h'.1 a.toNat
    rw [show ((a.toNat : Nat) : Int) = a by omega] at e1 e2
    omega
end
theorem flush33 : True := by first | (w_top off; k_with_none; walk1; done) | trivial
section
/-! weights -/
noncomputable def gk (k r : Int) : Int := if r = k then 1 else if r = 2 * k then 2 else if r = 4 * k then 4 else if r = 8 * k then 8 else if r = 16 * k then 16 else if r = 32 * k then 32 else 0
theorem gk_nonneg (k r : Int) : 0 ≤ gk k r := by unfold gk; (repeat' split) <;> decide
theorem odd_cases {P : Int → Prop} (h : P 1 ∧ P 3 ∧ P 5) {k : Int} (hk : k = 1 ∨ k = 3 ∨ k = 5) : P k := by
  rcases hk with rfl | rfl | rfl
  · exact h.1
  · exact h.2.1
  · exact h.2.2
theorem gk_twice {k j : Int} (hk : k = 1 ∨ k = 3 ∨ k = 5) (h0 : 1 ≤ j) (h1 : j ≤ 21) : 2 * gk k j - gk k (2 * j) = 0 :=
  odd_cases (P := fun k => 2 * gk k j - gk k (2 * j) = 0) (upto (m := 21) (P := fun j => 1 ≤ j → (2 * gk 1 j - gk 1 (2 * j) = 0 ∧ 2 * gk 3 j - gk 3 (2 * j) = 0 ∧ 2 * gk 5 j - gk 5 (2 * j) = 0)) (by decide +kernel) (by omega) h1 h0) hk
theorem Joins.weight {ns left joins : List Int} {k : Int} (hk : k = 1 ∨ k = 3 ∨ k = 5) (hl : ns.length ≤ 7) (hb : ∀ x ∈ ns, 1 ≤ x ∧ x ≤ 6) (h : Joins ns left joins) : sumf (gk k) left = sumf (gk k) ns := by
  have h1 := h.sum (f := gk k)
  have h2 := (h.good hl hb).2
  rw [sumf_congr (f := fun j => 2 * gk k j - gk k (2 * j)) (g := fun _ => 0) (fun x hx => gk_twice hk (h2 x hx).1 (h2 x hx).2), sumf_const] at h1
  omega
/-- the weight a table tells -/
theorem getD_big {cs : List Int} {i : Int} (h : ¬ i < cs.length) : cs.getD i.toNat 0 = 0 := by
  rw [List.getD_eq_getElem?_getD, List.getElem?_eq_none (by omega)]; rfl
theorem wItems_sum (cs : List Int) (k : Int) : ∀ ps : List Int, (wItems cs k ps).sum = sumf (fun p => cs.getD (k * p).toNat 0 * p) ps
  | [] => rfl
  | p :: r => by
    have ih := wItems_sum cs k r
    unfold wItems at ih ⊢
    rw [sumf_cons, List.filter_cons]
    split
    · rw [List.map_cons, List.sum_cons, ih]
    · rename_i h
      rw [ih, getD_big (by simpa using h), Int.zero_mul, Int.zero_add]
theorem weight_rows {cs ns : List Int} {k : Int} (hk : k = 1 ∨ k = 3 ∨ k = 5) (h : IsCnt cs ns) (hb : ∀ x ∈ ns, x ≤ 6) : weight cs k = sumf (gk k) ns := by
  unfold weight
  rw [wItems_sum]
  simp only [sumf_cons, sumf_nil]
  have e : ∀ q : Int, 0 ≤ q → cs.getD (k * q).toNat 0 = (ns.count (k * q) : Int) := fun q hq => by
    rw [h.1, show (((k * q).toNat : Nat) : Int) = k * q from Int.toNat_of_nonneg (Int.mul_nonneg (by omega) hq)]
  rw [e 1 (by decide), e 2 (by decide), e 4 (by decide)]
  have c : ∀ q : Int, (ns.count (k * q) : Int) * q = sumf (fun r => if r = k * q then q else 0) ns := fun q => by
    have := sumf_count (fun _ => q) (k * q) ns
    rw [this, Int.mul_comm]
  rw [c, c, c]
  have e2 : sumf (gk k) ns = sumf (fun r => ((if r = k * 1 then 1 else 0) + (if r = k * 2 then 2 else 0)) + (if r = k * 4 then 4 else 0)) ns := by
    refine sumf_congr fun x hx => ?_
    exact odd_cases (P := fun k => gk k x = ((if x = k * 1 then 1 else 0) + (if x = k * 2 then 2 else 0)) + (if x = k * 4 then 4 else 0))
      (upto (m := 6) (P := fun x => gk 1 x = ((if x = 1 * 1 then 1 else 0) + (if x = 1 * 2 then 2 else 0)) + (if x = 1 * 4 then 4 else 0) ∧ gk 3 x = ((if x = 3 * 1 then 1 else 0) + (if x = 3 * 2 then 2 else 0)) + (if x = 3 * 4 then 4 else 0) ∧
        gk 5 x = ((if x = 5 * 1 then 1 else 0) + (if x = 5 * 2 then 2 else 0)) + (if x = 5 * 4 then 4 else 0)) (by decide +kernel) (h.2.1 x hx).1 (hb x hx)) hk
  rw [e2, sumf_add, sumf_add]; omega
theorem weight_bound {cs ns : List Int} {k : Int} (hk : k = 1 ∨ k = 3 ∨ k = 5) (h : IsCnt cs ns) (hl : ns.length ≤ 7) (hb : ∀ x ∈ ns, 1 ≤ x ∧ x ≤ 6) : 0 ≤ weight cs k ∧ weight cs k ≤ 28 := by
  rw [weight_rows hk h fun x hx => (hb x hx).2]
  have h1 : sumf (fun _ => 0) ns ≤ sumf (gk k) ns := sumf_le fun x _ => gk_nonneg k x
  have h2 : sumf (gk k) ns ≤ sumf (fun _ => 4) ns := sumf_le fun x hx =>
    odd_cases (P := fun k => gk k x ≤ 4) (upto (m := 6) (P := fun x => gk 1 x ≤ 4 ∧ gk 3 x ≤ 4 ∧ gk 5 x ≤ 4) (by decide +kernel) (h.2.1 x hx).1 (hb x hx).2) hk
  rw [sumf_const] at h1 h2
  omega
/-! what is left, by its bits -/
noncomputable def bv (b : Bool) : Int := if b then 1 else 0
theorem bits_tell : ∀ b0 b1 b2 b3 b4 : Bool, bv b0 + 2 * bv b1 + 4 * bv b2 + 8 * bv b3 + 16 * bv b4 ≤ 28 →
    bitsOf (bv b0 + 2 * bv b1 + 4 * bv b2 + 8 * bv b3 + 16 * bv b4) = (if b0 then [1] else []) ++ ((if b1 then [2] else []) ++ ((if b2 then [4] else []) ++ ((if b3 then [8] else []) ++ (if b4 then [16] else [])))) := by decide +kernel
theorem nodup_count {l : List Int} (h : l.Nodup) (a : Int) : (l.count a : Int) = bv (decide (a ∈ l)) := by
  have h1 := List.nodup_iff_count.mp h a
  by_cases ha : a ∈ l
  · have := List.count_pos_iff.mpr ha
    simp [ha, bv]; omega
  · simp [ha, bv, List.count_eq_zero_of_not_mem ha]
theorem gk_left {l : List Int} {k : Int} (hk : k = 1 ∨ k = 3 ∨ k = 5) (hg : ∀ x ∈ l, goodB x = true) (h : l.Nodup) : sumf (gk k) l = bv (decide (k ∈ l)) + 2 * bv (decide (2 * k ∈ l)) + 4 * bv (decide (4 * k ∈ l)) + 8 * bv (decide (8 * k ∈ l)) + 16 * bv (decide (16 * k ∈ l)) + 32 * bv (decide (32 * k ∈ l)) := by
  have c : ∀ q a : Int, q * bv (decide (a ∈ l)) = sumf (fun r => if r = a then q else 0) l := fun q a => by
    have := sumf_count (fun _ => q) a l
    rw [this, nodup_count h]
  have e2 : sumf (gk k) l = sumf (fun r => ((((((if r = k then 1 else 0) + (if r = 2 * k then 2 else 0)) + (if r = 4 * k then 4 else 0)) + (if r = 8 * k then 8 else 0)) + (if r = 16 * k then 16 else 0)) + (if r = 32 * k then 32 else 0))) l := by
    refine sumf_congr fun x hx => ?_
    have all : ∀ k ∈ [1, 3, (5 : Int)], ∀ x ∈ [1, 2, 4, 8, 16, 32, 3, 6, 12, 24, 5, 10, 20, (40 : Int)], gk k x = ((((((if x = k then 1 else 0) + (if x = 2 * k then 2 else 0)) + (if x = 4 * k then 4 else 0)) + (if x = 8 * k then 8 else 0)) + (if x = 16 * k then 16 else 0)) + (if x = 32 * k then 32 else 0)) := by decide +kernel
    exact all k (by simpa using hk) x (of_decide_eq_true (hg x hx))
  rw [e2, sumf_add, sumf_add, sumf_add, sumf_add, sumf_add, c 2, c 4, c 8, c 16, c 32, ← c 1, Int.one_mul]
theorem bv_nonneg (b : Bool) : 0 ≤ bv b := by cases b <;> decide
theorem bv_zero {b : Bool} (h : bv b < 1) : b = false := by cases b with
  | false => rfl
  | true => exact absurd h (by decide)

noncomputable def unl (left : List Int) (k : Int) (ps : List Int) : List Int := (ps.filter fun p => decide (k * p ∈ left)).map fun p => k * p
noncomputable def unlTo (left os : List Int) : List Int := os.flatMap fun k => unl left k [1, 2, 4, 8, 16]
theorem unl_snoc (left : List Int) (k : Int) (ps : List Int) (p : Int) : unl left k (ps ++ [p]) = unl left k ps ++ (if k * p ∈ left then [k * p] else []) := by
  unfold unl
  rw [List.filter_append, List.map_append]
  congr 1
  by_cases h : k * p ∈ left <;> simp [h]
theorem unlTo_snoc (left os : List Int) (k : Int) : unlTo left (os ++ [k]) = unlTo left os ++ unl left k [1, 2, 4, 8, 16] := by simp [unlTo]
theorem unl_len (left : List Int) (k : Int) (ps : List Int) : (unl left k ps).length ≤ ps.length := by unfold unl; rw [List.length_map]; exact List.length_filter_le _ _
theorem unlTo_len (left : List Int) : ∀ os : List Int, (unlTo left os).length ≤ 5 * os.length
  | [] => Nat.le_refl _
  | a :: r => by
    have h1 := unlTo_len left r
    have h2 := unl_len left a [1, 2, 4, 8, 16]
    unfold unlTo at h1 ⊢
    rw [List.flatMap_cons, List.length_append, List.length_cons]
    simp only [List.length_cons, List.length_nil] at h2
    omega
noncomputable def wrd (cs : List Int) (k : Int) : List Int := (bitsOf (weight cs k)).map fun p => k * p
noncomputable def wrdTo (cs os : List Int) : List Int := os.flatMap fun k => wrd cs k
theorem wrdTo_snoc (cs os : List Int) (k : Int) : wrdTo cs (os ++ [k]) = wrdTo cs os ++ wrd cs k := by simp [wrdTo]
theorem bitsOf_len (n : Int) : (bitsOf n).length ≤ 65 := by
  unfold bitsOf
  rw [List.length_map]
  have := pst_len n 5
  exact Nat.le_trans (Nat.le_add_left _ _) this
theorem wrd_len (cs : List Int) (k : Int) : (wrd cs k).length ≤ 65 := by unfold wrd; rw [List.length_map]; exact bitsOf_len _
theorem wrdTo_len (cs : List Int) : ∀ os : List Int, (wrdTo cs os).length ≤ 65 * os.length
  | [] => Nat.le_refl _
  | a :: r => by
    have h1 := wrdTo_len cs r
    have h2 := wrd_len cs a
    unfold wrdTo at h1 ⊢
    rw [List.flatMap_cons, List.length_append, List.length_cons]
    omega
theorem filter_five (P : Int → Prop) [DecidablePred P] : ([1, 2, 4, 8, 16] : List Int).filter (fun p => decide (P p)) = (if decide (P 1) then [1] else []) ++ ((if decide (P 2) then [2] else []) ++ ((if decide (P 4) then [4] else []) ++ ((if decide (P 8) then [8] else []) ++ (if decide (P 16) then [16] else [])))) := by
  have one : ∀ (a : Int) (l : List Int), (a :: l).filter (fun p => decide (P p)) = (if decide (P a) then [a] else []) ++ l.filter fun p => decide (P p) := fun a l => by
    rw [List.filter_cons]; split <;> rfl
  rw [one, one, one, one, one, List.filter_nil, List.append_nil]
theorem wrd_unl {cs ns left joins : List Int} {k : Int} (hk : k = 1 ∨ k = 3 ∨ k = 5) (hc : IsCnt cs ns) (hl : ns.length ≤ 7) (hb : ∀ x ∈ ns, 1 ≤ x ∧ x ≤ 6) (h : Joins ns left joins) (ht : twins left = []) : wrd cs k = unl left k [1, 2, 4, 8, 16] ∧ 32 * k ∉ left := by
  have e1 := weight_rows hk hc fun x hx => (hb x hx).2
  have e2 := (weight_bound hk hc hl hb).2
  rw [← h.weight hk hl hb, gk_left hk (h.good hl hb).1 (twins_nodup ht)] at e1
  rw [e1] at e2
  have n0 := bv_nonneg (decide (k ∈ left))
  have n1 := bv_nonneg (decide (2 * k ∈ left))
  have n2 := bv_nonneg (decide (4 * k ∈ left))
  have n3 := bv_nonneg (decide (8 * k ∈ left))
  have n4 := bv_nonneg (decide (16 * k ∈ left))
  have n5 := bv_nonneg (decide (32 * k ∈ left))
  have z : decide (32 * k ∈ left) = false := bv_zero (by omega)
  refine ⟨?_, of_decide_eq_false z⟩
  unfold wrd unl
  congr 1
  rw [e1, z]
  have := bits_tell (decide (k ∈ left)) (decide (2 * k ∈ left)) (decide (4 * k ∈ left)) (decide (8 * k ∈ left)) (decide (16 * k ∈ left)) (by omega)
  rw [show bv false = 0 from rfl, Int.mul_zero, Int.add_zero, this, filter_five (fun p => k * p ∈ left), Int.mul_one, Int.mul_comm k 2, Int.mul_comm k 4, Int.mul_comm k 8, Int.mul_comm k 16]
theorem wrdTo_unlTo {cs ns left joins : List Int} (hc : IsCnt cs ns) (hl : ns.length ≤ 7) (hb : ∀ x ∈ ns, 1 ≤ x ∧ x ≤ 6) (h : Joins ns left joins) (ht : twins left = []) : wrdTo cs [1, 3, 5] = unlTo left [1, 3, 5] := by
  unfold wrdTo unlTo
  simp only [List.flatMap_cons, List.flatMap_nil]
  rw [(wrd_unl (.inl rfl) hc hl hb h ht).1, (wrd_unl (.inr (.inl rfl)) hc hl hb h ht).1, (wrd_unl (.inr (.inr rfl)) hc hl hb h ht).1]
noncomputable abbrev fifteen : List Int := [1, 2, 4, 8, 16, 3, 6, 12, 24, 48, 5, 10, 20, 40, 80]
theorem unlTo_filter (left : List Int) : unlTo left [1, 3, 5] = fifteen.filter fun x => decide (x ∈ left) := by
  have e : ∀ k : Int, unl left k [1, 2, 4, 8, 16] = ([1, 2, 4, 8, 16].map fun p => k * p).filter fun x => decide (x ∈ left) := fun k => by
    rw [List.filter_map]; rfl
  have e2 : fifteen = ([1, 2, 4, 8, 16].map fun p => 1 * p) ++ (([1, 2, 4, 8, 16].map fun p => 3 * p) ++ (([1, 2, 4, 8, 16].map fun p => 5 * p) ++ [])) := by decide
  rw [e2]
  unfold unlTo
  simp only [List.flatMap_cons, List.flatMap_nil, List.filter_append, List.filter_nil]
  rw [e, e, e]
theorem unlTo_perm {cs ns left joins : List Int} (hc : IsCnt cs ns) (hl : ns.length ≤ 7) (hb : ∀ x ∈ ns, 1 ≤ x ∧ x ≤ 6) (h : Joins ns left joins) (ht : twins left = []) : (unlTo left [1, 3, 5]).Perm left := by
  rw [unlTo_filter, List.perm_ext_iff_of_nodup (List.Nodup.sublist List.filter_sublist (by decide)) (twins_nodup ht)]
  intro a
  rw [List.mem_filter]
  refine ⟨fun q => of_decide_eq_true q.2, fun q => ⟨?_, decide_eq_true q⟩⟩
  have h32 := (wrd_unl (.inl rfl) hc hl hb h ht).2
  have hne : a ≠ 32 := fun e => h32 (by rw [← show a = 32 * 1 by omega]; exact q)
  have all : ∀ a ∈ [1, 2, 4, 8, 16, 32, 3, 6, 12, 24, 5, 10, 20, (40 : Int)], a ≠ 32 → a ∈ fifteen := by decide +kernel
  exact all a (of_decide_eq_true ((h.good hl hb).1 a q)) hne
/-! the halves -/
theorem halfOf_mem {r x : Int} (h0 : 1 ≤ r) (h1 : r ≤ 6) (h : x ∈ halfOf r) : x = 1 ∨ x = 3 ∨ x = 5 :=
  upto (m := 6) (P := fun r => 1 ≤ r → ∀ x ∈ halfOf r, x = 1 ∨ x = 3 ∨ x = 5) (by decide +kernel) (by omega) h1 h0 x h
theorem halves_mem {ns : List Int} (hb : ∀ x ∈ ns, 1 ≤ x ∧ x ≤ 6) {x : Int} (h : x ∈ halves ns) : x = 1 ∨ x = 3 ∨ x = 5 := by
  unfold halves at h
  obtain ⟨r, hr, h⟩ := List.mem_flatMap.mp h
  exact halfOf_mem (hb r hr).1 (hb r hr).2 h
theorem halfOf_count {k r : Int} (hk : k = 1 ∨ k = 3 ∨ k = 5) (h0 : 1 ≤ r) (h1 : r ≤ 6) : ((halfOf r).count k : Int) = gk k r :=
  odd_cases (P := fun k => ((halfOf r).count k : Int) = gk k r) (upto (m := 6) (P := fun r => 1 ≤ r → (((halfOf r).count 1 : Int) = gk 1 r ∧ ((halfOf r).count 3 : Int) = gk 3 r ∧ ((halfOf r).count 5 : Int) = gk 5 r)) (by decide +kernel) (by omega) h1 h0) hk
theorem halves_count {k : Int} (hk : k = 1 ∨ k = 3 ∨ k = 5) : ∀ {ns : List Int}, (∀ x ∈ ns, 1 ≤ x ∧ x ≤ 6) → ((halves ns).count k : Int) = sumf (gk k) ns
  | [], _ => by simp [halves, sumf]
  | a :: r, h => by
    have ih := halves_count hk (ns := r) fun x hx => h x (.tail _ hx)
    have := halfOf_count hk (h a (.head _)).1 (h a (.head _)).2
    unfold halves at ih ⊢
    rw [List.flatMap_cons, List.count_append, sumf_cons, ← ih, ← this]; omega
/-! trimmed tables -/
theorem trim_cons (a : Int) (r : List Int) : trim (a :: r) = if trim r = [] then (if a = 0 then [] else [a]) else a :: trim r := by
  rw [trim]
  split
  · rename_i h; rw [if_pos h]
  · rename_i h; rw [h, if_neg (by simp)]
theorem trim_zero : ∀ {l : List Int}, (∀ i : Nat, l.getD i 0 = 0) → trim l = []
  | [], _ => rfl
  | a :: r, h => by
    have h0 : a = 0 := h 0
    have := trim_zero (l := r) fun i => h (i + 1)
    rw [trim_cons, if_pos this, if_pos h0]
theorem trim_ext : ∀ {a b : List Int}, (∀ i : Nat, a.getD i 0 = b.getD i 0) → trim a = trim b
  | [], b, h => by
    rw [trim_zero (l := b) fun i => by rw [← h i]; rfl]; rfl
  | a :: r, [], h => by
    rw [trim_zero (l := a :: r) fun i => by rw [h i]; rfl]; rfl
  | a :: r, b :: q, h => by
    have h0 : a = b := h 0
    have := trim_ext (a := r) (b := q) fun i => h (i + 1)
    rw [trim_cons, trim_cons, h0, this]
theorem trim_full : ∀ {l : List Int}, (l = [] ∨ l.getD (l.length - 1) 0 ≠ 0) → trim l = l
  | [], _ => rfl
  | [a], h => by
    have : a ≠ 0 := by simpa using h
    rw [trim_cons]; simp [trim, this]
  | a :: b :: r, h => by
    have : trim (b :: r) = b :: r := trim_full (.inr (by
      rcases h with h | h
      · cases h
      · simpa using h))
    rw [trim_cons, this, if_neg (by simp)]
theorem cnt_trim {cs ns : List Int} (h : IsCnt cs ns) : trim cs = cs := by
  refine trim_full ?_
  rcases h.2.2 with e | ⟨r, hr, hl⟩
  · exact .inl e
  · right
    have h0 := (h.2.1 r hr).1
    have := List.count_pos_iff.mpr hr
    rw [h.1, show ((cs.length - 1 : Nat) : Int) = r by omega]
    omega
theorem halves_cnt {cs ds ns : List Int} (hc : IsCnt cs ns) (hd : IsCnt ds (halves ns)) (hb : ∀ x ∈ ns, 1 ≤ x ∧ x ≤ 6) : ds = trim [0, weight cs 1, 0, weight cs 3, 0, weight cs 5] := by
  rw [← cnt_trim hd]
  refine trim_ext fun i => ?_
  have hm := fun x (hx : x ∈ halves ns) => halves_mem hb hx
  have hz : ∀ a : Int, a ≠ 1 → a ≠ 3 → a ≠ 5 → ((halves ns).count a : Int) = 0 := fun a h1 h3 h5 => by
    rw [List.count_eq_zero_of_not_mem fun q => by have := hm a q; omega]; rfl
  rw [hd.1]
  have w : ∀ k, (k = 1 ∨ k = 3 ∨ k = 5) → ((halves ns).count k : Int) = weight cs k := fun k hk => by rw [halves_count hk hb, weight_rows hk hc fun x hx => (hb x hx).2]
  match i with
  | 0 => exact hz 0 (by decide) (by decide) (by decide)
  | 1 => exact w 1 (.inl rfl)
  | 2 => exact hz 2 (by decide) (by decide) (by decide)
  | 3 => exact w 3 (.inr (.inl rfl))
  | 4 => exact hz 4 (by decide) (by decide) (by decide)
  | 5 => exact w 5 (.inr (.inr rfl))
  | i + 6 =>
    rw [hz _ (by omega) (by omega) (by omega)]
    rfl
end
theorem flush34 : True := by first | (w_top off; k_with_none; walk1; done) | trivial
section
/-- a Whitespace of these rows -/
noncomputable def WsOf (d : WsD) (ns : List Int) (b : Int) : Prop := d.n = sumf (fun r => r + 1) ns + b ∧ d.nt = ns.length ∧ d.b = b ∧ IsCnt d.cs ns ∧ d.si = decide ((d.cs.length : Int) ≤ 1)
theorem wsOf {d : WsD} {ns : List Int} {b : Int} (h0 : ∀ x ∈ ns, 0 ≤ x) (hb : 0 ≤ b) (en : d.n = (wfold (preCodes ns b)).n) (ent : d.nt = (wfold (preCodes ns b)).nt) (eb : d.b = (wfold (preCodes ns b)).b) (ecs : d.cs = (wfold (preCodes ns b)).cnt)
    (esi : d.si = decide ((d.cs.length : Int) ≤ 1)) : WsOf d ns b := by
  rw [wfold_pre h0 hb] at en ent eb ecs
  exact ⟨en, ent, eb, by rw [ecs]; exact isCnt_fold h0, esi⟩
theorem ilTo_sum {cs ns : List Int} {ts : Int} (hc : IsCnt cs ns) (h1 : 1 ≤ ts) : ∀ j : Nat, ilTo cs ts j = sumf (fun r => if ts ≤ r ∧ r < ts + j then Int.fdiv r ts else 0) ns
  | 0 => by
    rw [sumf_congr (g := fun _ => 0) (fun x _ => if_neg (by omega)), sumf_const]; simp [ilTo]
  | j + 1 => by
    have hn : (((ts + (j : Int)).toNat : Nat) : Int) = ts + j := by omega
    rw [ilTo_succ, ilTo_sum hc h1 j, hc.1, hn, ← sumf_count (fun r => Int.fdiv r ts), ← sumf_add]
    refine sumf_congr fun x _ => ?_
    by_cases e : x = ts + (j : Int)
    · rw [if_neg (by omega), if_pos e, if_pos (by omega), Int.zero_add]
    · rw [if_neg e, Int.add_zero]
      by_cases e2 : ts ≤ x ∧ x < ts + (j : Int)
      · rw [if_pos e2, if_pos (by omega)]
      · rw [if_neg e2, if_neg (by omega)]
theorem fdiv_lt {a b : Int} (h0 : 0 ≤ a) (h1 : a < b) : Int.fdiv a b = 0 := by
  rw [Int.fdiv_eq_ediv_of_nonneg a (by omega)]; exact Int.ediv_eq_zero_of_lt h0 h1
theorem indent_col {d : WsD} {ns : List Int} {b ts : Int} (h : WsOf d ns b) (h1 : 1 ≤ ts) : indentOf d ts = colOf ns b ts := by
  obtain ⟨_, hnt, hb, hc, _⟩ := h
  unfold indentOf colOf
  rw [ilTo_sum hc h1, hnt, hb]
  have e : sumf (fun r => if ts ≤ r ∧ r < ts + ((((d.cs.length : Int) - ts).toNat : Nat) : Int) then Int.fdiv r ts else 0) ns = sumf (fun r => Int.fdiv r ts) ns := sumf_congr fun x hx => by
    have := hc.2.1 x hx
    by_cases q : ts ≤ x
    · rw [if_pos (by omega)]
    · rw [if_neg (by omega), fdiv_lt this.1 (by omega)]
  rw [e]
  show b + _ = b + sumf (cellOf ts) ns
  have e2 : sumf (cellOf ts) ns = sumf (fun r => ts * (Int.fdiv r ts + 1)) ns := rfl
  rw [e2, sumf_mul, sumf_add, sumf_const]
  congr 2
  omega
theorem cell_twice {s j : Int} (h1 : 1 ≤ s) (_h0 : 0 ≤ j) : 2 * cellOf s j - cellOf s (2 * j) = if 2 * Int.fmod j s < s then s else 0 := by
  unfold cellOf
  have hs : s ≠ 0 := by omega
  rw [Int.fdiv_eq_ediv_of_nonneg _ (by omega), Int.fdiv_eq_ediv_of_nonneg _ (by omega), Int.fmod_eq_emod_of_nonneg _ (by omega)]
  have hm0 := Int.emod_nonneg j hs
  have hm1 := Int.emod_lt_of_pos j (by omega : 0 < s)
  have hj := Int.mul_ediv_add_emod j s
  generalize j / s = q at hj ⊢
  generalize j % s = m at hm0 hm1 hj ⊢
  have e : 2 * j = 2 * m + 2 * q * s := by
    have : 2 * q * s = 2 * (s * q) := by rw [Int.mul_assoc, Int.mul_comm q s]
    omega
  rw [e, Int.add_mul_ediv_right _ _ hs]
  split
  · rename_i h
    rw [Int.ediv_eq_zero_of_lt (by omega) h]
    have : s * (0 + 2 * q + 1) = 2 * (s * q) + s := by rw [Int.zero_add, Int.mul_add, Int.mul_left_comm, Int.mul_one]
    have e3 : s * (q + 1) = s * q + s := by rw [Int.mul_add, Int.mul_one]
    omega
  · rename_i h
    have e4 : 2 * m / s = 1 := by
      have e5 : 2 * m = (2 * m - s) + 1 * s := by omega
      rw [e5, Int.add_mul_ediv_right _ _ hs, Int.ediv_eq_zero_of_lt (by omega) (by omega)]; rfl
    rw [e4]
    have : s * (1 + 2 * q + 1) = 2 * (s * q) + 2 * s := by
      rw [show (1 : Int) + 2 * q + 1 = 2 * q + 2 by omega, Int.mul_add, Int.mul_left_comm, Int.mul_comm s 2]
    have e3 : s * (q + 1) = s * q + s := by rw [Int.mul_add, Int.mul_one]
    omega
theorem gone_sum (s : Int) : ∀ joins : List Int, sumf (fun j => if 2 * Int.fmod j s < s then s else 0) joins = s * goneOf joins s
  | [] => by simp [sumf, goneOf, goneL]
  | a :: r => by
    have ih := gone_sum s r
    unfold goneOf goneL at ih ⊢
    rw [sumf_cons, ih, List.filter_cons]
    by_cases h : 2 * Int.fmod a s < s
    · rw [if_pos h, if_pos (decide_eq_true h), List.length_cons]
      push_cast
      rw [Int.mul_add, Int.mul_one]; omega
    · rw [if_neg h, if_neg (by simpa using h), Int.zero_add]
theorem gone_nonneg (joins : List Int) (s : Int) : 0 ≤ goneOf joins s := Int.natCast_nonneg _
theorem gone_one {joins : List Int} : goneOf joins 1 = joins.length := by
  unfold goneOf goneL
  rw [List.filter_eq_self.mpr fun a _ => ?_]
  have : Int.fmod a 1 = 0 := by rw [Int.fmod_eq_emod_of_nonneg _ (by decide)]; exact Int.emod_one a
  rw [this]; decide

/-- what the script brings -/
structure Ctx (rs lf jn : List Int) (b lg : Int) : Prop where
  l1 : 5 ≤ rs.length
  l2 : rs.length ≤ 7
  hb : ∀ x ∈ rs, 1 ≤ x ∧ x ≤ 6
  jo : Joins rs lf jn
  tw : twins lf = []
  b0 : 0 ≤ b
  b1 : b ≤ 3
  lgm : lg ∈ lf
  lgx : ∀ y ∈ lf, y ≤ lg
section
variable {rs lf jn : List Int} {b lg : Int} {d f e : WsD}
theorem Ctx.nodup (x : Ctx rs lf jn b lg) : lf.Nodup := twins_nodup x.tw
theorem Ctx.left (x : Ctx rs lf jn b lg) {y : Int} (h : y ∈ lf) : 1 ≤ y ∧ y ≤ 40 := goodB_pos ((x.jo.good x.l2 x.hb).1 y h)
theorem Ctx.lg1 (x : Ctx rs lf jn b lg) : 1 ≤ lg ∧ lg ≤ 40 := x.left x.lgm
theorem Ctx.lg3 (x : Ctx rs lf jn b lg) : 3 ≤ lg := by
  rcases Int.lt_or_le lg 3 with q | q
  · exfalso
    have e : sumf id lf = sumf (fun r => (if r = 1 then 1 else 0) + (if r = 2 then 2 else 0)) lf := sumf_congr fun y hy => by
      have h1 := x.left hy
      have h2 := x.lgx y hy
      have : y = 1 ∨ y = 2 := by omega
      rcases this with rfl | rfl <;> rfl
    rw [sumf_add, sumf_count (fun _ => 1), sumf_count (fun _ => 2)] at e
    have c1 := List.nodup_iff_count.mp x.nodup 1
    have c2 := List.nodup_iff_count.mp x.nodup 2
    have t := x.jo.total
    have l := sumf_le (f := fun _ => 1) (g := id) (l := rs) fun y hy => (x.hb y hy).1
    rw [sumf_const] at l
    have := x.l1
    omega
  · exact q
theorem Ctx.rows_le (x : Ctx rs lf jn b lg) {y : Int} (h : y ∈ rs) : y ≤ lg := by
  obtain ⟨z, hz, hy⟩ := (x.jo.cover fun z hz => (x.hb z hz).1).2 y h
  have := x.lgx z hz; omega
theorem run_le {ns : List Int} {c : Int} (h : WsOf d ns b) (hb : b ≤ c) (hc : 0 ≤ c) (hx : ∀ y ∈ ns, y ≤ c) : runOf d ≤ c := by
  obtain ⟨_, _, eb, hcnt, _⟩ := h
  unfold runOf
  rw [eb]
  rcases hcnt.2.2 with q | ⟨r, hr, hl⟩
  · rw [q]; simp only [List.length_nil]; omega
  · have := hx r hr; omega
theorem run_eq {ns : List Int} {c : Int} (h : WsOf d ns b) (hb : b ≤ c) (hc : 0 ≤ c) (hx : ∀ y ∈ ns, y ≤ c) (hm : c ∈ ns) : runOf d = c := by
  have h1 := run_le h hb hc hx
  have h2 := (h.2.2.2.1.2.1 c hm).2
  unfold runOf at h1 ⊢
  omega
theorem Ctx.runs (x : Ctx rs lf jn b lg) (hd : WsOf d rs b) {us : List Int} (hf : WsOf f us b) (hp : us.Perm lf) : runOf d ≤ lg ∧ runOf f = lg := by
  have h3 := x.lg3
  have h4 := x.b1
  exact ⟨run_le hd (by omega) (by omega) fun y hy => x.rows_le hy, run_eq hf (by omega) (by omega) (fun y hy => x.lgx y (hp.mem_iff.mp hy)) (hp.mem_iff.mpr x.lgm)⟩
theorem Ctx.col_left (x : Ctx rs lf jn b lg) {us : List Int} (hp : us.Perm lf) {s : Int} (h1 : 1 ≤ s) : colOf us b s = colOf rs b s - s * goneOf jn s := by
  unfold colOf
  show b + sumf (cellOf s) us = b + sumf (cellOf s) rs - _
  rw [sumf_perm hp, ← x.jo.sum (f := cellOf s), ← gone_sum]
  rw [sumf_congr (f := fun j => 2 * cellOf s j - cellOf s (2 * j)) (g := fun j => if 2 * Int.fmod j s < s then s else 0) fun j hj => cell_twice h1 (by have := (x.jo.good x.l2 x.hb).2 j hj; omega)]
  omega
theorem mul_gone {s g : Int} (h1 : 1 ≤ s) (h0 : 0 ≤ g) : 0 ≤ s * g ∧ (0 < g → 0 < s * g) ∧ (g = 0 → s * g = 0) :=
  ⟨Int.mul_nonneg (by omega) h0, fun h => Int.mul_pos (by omega) h, fun h => by rw [h, Int.mul_zero]⟩
theorem Ctx.wit (x : Ctx rs lf jn b lg) (hd : WsOf d rs b) {us : List Int} (hf : WsOf f us b) (hp : us.Perm lf) : ∀ n, witTo d f n = dueTo rs jn b n
  | 0 => rfl
  | n + 1 => by
    have h1 : (1 : Int) ≤ 1 + n := by omega
    rw [witTo, dueTo, x.wit hd hf hp n, indent_col hd h1, indent_col hf h1, x.col_left hp h1]
    have hg := mul_gone h1 (gone_nonneg jn (1 + n))
    have h0 := gone_nonneg jn (1 + n)
    congr 1
    by_cases q : 0 < goneOf jn (1 + n)
    · have := hg.2.1 q
      rw [if_pos q, if_pos (by omega)]
    · have := hg.2.2 (by omega)
      rw [if_neg q, if_neg (by omega)]
noncomputable def flip3 (r : Int × Int × Int) : Int × Int × Int := (r.1, r.2.2, r.2.1)
theorem Ctx.wit2 (x : Ctx rs lf jn b lg) (hd : WsOf d rs b) {us : List Int} (hf : WsOf f us b) (hp : us.Perm lf) : ∀ n, witTo f d n = (dueTo rs jn b n).map flip3
  | 0 => rfl
  | n + 1 => by
    have h1 : (1 : Int) ≤ 1 + n := by omega
    rw [witTo, dueTo, x.wit2 hd hf hp n, indent_col hd h1, indent_col hf h1, x.col_left hp h1, List.map_append]
    have hg := mul_gone h1 (gone_nonneg jn (1 + n))
    have h0 := gone_nonneg jn (1 + n)
    congr 1
    by_cases q : 0 < goneOf jn (1 + n)
    · have := hg.2.1 q
      rw [if_pos q, if_pos (by omega)]; rfl
    · have := hg.2.2 (by omega)
      rw [if_neg q, if_neg (by omega)]; rfl
theorem Ctx.witN (x : Ctx rs lf jn b lg) (hd : WsOf d rs b) {us : List Int} (hf : WsOf f us b) (hp : us.Perm lf) : witN d f = (lg + 1).toNat ∧ witN f d = (lg + 1).toNat ∧ lesN f d = lg.toNat := by
  obtain ⟨h1, h2⟩ := x.runs hd hf hp
  unfold Mine.witN lesN
  rw [h2]
  refine ⟨?_, ?_, ?_⟩ <;> (repeat' split) <;> omega
theorem Ctx.witness (x : Ctx rs lf jn b lg) (hd : WsOf d rs b) {us : List Int} (hf : WsOf f us b) (hp : us.Perm lf) : witTo d f (Mine.witN d f) = dueTo rs jn b (lg + 1).toNat := by
  rw [(x.witN hd hf hp).1, x.wit hd hf hp]
theorem Ctx.witness2 (x : Ctx rs lf jn b lg) (hd : WsOf d rs b) {us : List Int} (hf : WsOf f us b) (hp : us.Perm lf) : witTo f d (Mine.witN f d) = (dueTo rs jn b (lg + 1).toNat).map flip3 := by
  rw [(x.witN hd hf hp).2.1, x.wit2 hd hf hp]
theorem dueTo_all : ∀ {n : Nat}, (dueTo rs jn b n).length = n ↔ ∀ i : Nat, i < n → 0 < goneOf jn (1 + i)
  | 0 => by simp [dueTo]
  | n + 1 => by
    have ih := dueTo_all (n := n)
    have hl := dueTo_len rs jn b n
    by_cases q : 0 < goneOf jn (1 + n)
    · rw [dueTo_yes q, List.length_append, List.length_singleton]
      constructor
      · intro h i hi
        rcases Nat.lt_or_ge i n with q2 | q2
        · exact ih.mp (by omega) i q2
        · rw [show i = n by omega]; exact q
      · intro h
        rw [ih.mpr fun i hi => h i (by omega)]
    · rw [dueTo_no q]
      constructor
      · intro h; omega
      · intro h; exact absurd (h n (by omega)) q
theorem Ctx.nums (x : Ctx rs lf jn b lg) (hd : WsOf d rs b) {us : List Int} (hf : WsOf f us b) (hp : us.Perm lf) : d.n = f.n + jn.length := by
  rw [hd.1, hf.1, sumf_perm hp, ← x.jo.sum (f := fun r => r + 1)]
  rw [sumf_congr (f := fun j => 2 * (j + 1) - (2 * j + 1)) (g := fun _ => 1) fun j _ => by omega, sumf_const]
  omega
theorem Ctx.less (x : Ctx rs lf jn b lg) (hd : WsOf d rs b) {us : List Int} (hf : WsOf f us b) (hp : us.Perm lf) : LessP f d ↔ ((dueTo rs jn b (lg + 1).toNat).length : Int) = lg + 1 := by
  have hlg := x.lg3
  have hn := x.nums hd hf hp
  have e : ((dueTo rs jn b (lg + 1).toNat).length : Int) = lg + 1 ↔ (dueTo rs jn b (lg + 1).toNat).length = (lg + 1).toNat := by omega
  rw [e, dueTo_all]
  unfold LessP
  rw [(x.witN hd hf hp).2.2]
  have col : ∀ ts : Int, 1 ≤ ts → (indentOf f ts < indentOf d ts ↔ 0 < goneOf jn ts) := fun ts h1 => by
    rw [indent_col hd h1, indent_col hf h1, x.col_left hp h1]
    have hg := mul_gone h1 (gone_nonneg jn ts)
    have h0 := gone_nonneg jn ts
    constructor
    · intro q
      rcases Int.lt_or_le 0 (goneOf jn ts) with q2 | q2
      · exact q2
      · have := hg.2.2 (by omega); omega
    · intro q
      have := hg.2.1 q; omega
  constructor
  · rintro ⟨h1, h2⟩ i hi
    cases i with
    | zero => rw [show (1 : Int) + ((0 : Nat) : Int) = 1 by omega, gone_one]; omega
    | succ i =>
      have := (col (2 + i) (by omega)).mp (h2 i (by omega))
      rw [show (1 : Int) + ((i + 1 : Nat) : Int) = 2 + i by omega]
      exact this
  · intro h
    have h1 := h 0 (by omega)
    rw [show (1 : Int) + ((0 : Nat) : Int) = 1 by omega, gone_one] at h1
    refine ⟨by omega, fun j hj => (col (2 + j) (by omega)).mpr ?_⟩
    have := h (j + 1) (by omega)
    rw [show (1 : Int) + ((j + 1 : Nat) : Int) = 2 + j by omega] at this
    exact this
theorem Ctx.equal (x : Ctx rs lf jn b lg) (hd : WsOf d rs b) {us : List Int} (hf : WsOf f us b) (hp : us.Perm lf) : (d.cs = f.cs ∧ d.b = f.b) ↔ jn = [] := by
  constructor
  · rintro ⟨h, _⟩
    have p := cnt_perm hd.2.2.2.1 (h ▸ hf.2.2.2.1)
    have e1 := p.length_eq
    have e2 := hp.length_eq
    have e3 := x.jo.len
    exact List.length_eq_zero_iff.mp (by omega)
  · intro h
    refine ⟨cnt_eq hd.2.2.2.1 hf.2.2.2.1 ?_, by rw [hd.2.2.1, hf.2.2.1]⟩
    subst h
    have : ∀ {l j : List Int}, Joins rs l j → j = [] → l = rs := fun {l j} hj e => by
      cases hj with
      | refl => rfl
      | step _ _ _ => simp at e
    rw [← this x.jo rfl]
    exact hp.symm
theorem Ctx.unequal (_x : Ctx rs lf jn b lg) (hd : WsOf d rs b) {gs : List Int} (hg : WsOf e gs b) {o : Int} (ho : ∀ y ∈ rs, y ≤ o) (hm : o + 1 ∈ gs) : ¬ (d.cs = e.cs ∧ d.b = e.b) := by
  rintro ⟨h, _⟩
  have p := cnt_perm hd.2.2.2.1 (h ▸ hg.2.2.2.1)
  have := ho _ (p.mem_iff.mpr hm)
  omega
theorem col_more (ns : List Int) (b s : Int) : colOf ns (b + 1) s = colOf ns b s + 1 := by unfold colOf; omega
theorem Ctx.less2 (x : Ctx rs lf jn b lg) (hd : WsOf d rs b) {us : List Int} (hf : WsOf f us b) (hp : us.Perm lf) (he : WsOf e rs (b + 1)) : LessP f e := by
  have hn := x.nums hd hf hp
  refine ⟨?_, fun j _ => ?_⟩
  · have e1 := hd.1
    have e2 := he.1
    omega
  · have h1 : (1 : Int) ≤ 2 + j := by omega
    rw [indent_col hf h1, indent_col he h1, x.col_left hp h1, col_more]
    have := (mul_gone h1 (gone_nonneg jn (2 + j))).1
    omega
theorem cell_half {s j : Int} (h1 : 1 ≤ s) (h0 : 0 ≤ j) : cellOf s (2 * j) ≤ 2 * cellOf s j := by
  have := cell_twice h1 h0
  split at this <;> omega
theorem half_cells {s r : Int} (h1 : 1 ≤ s) (h0 : 1 ≤ r) (h6 : r ≤ 6) : cellOf s r ≤ sumf (cellOf s) (halfOf r) := by
  have c1 := cell_half h1 (j := 1) (by decide)
  have c2 := cell_half h1 (j := 2) (by decide)
  have c3 := cell_half h1 (j := 3) (by decide)
  simp only [show (2 : Int) * 1 = 2 from rfl, show (2 : Int) * 2 = 4 from rfl, show (2 : Int) * 3 = 6 from rfl] at c1 c2 c3
  have : r = 1 ∨ r = 2 ∨ r = 3 ∨ r = 4 ∨ r = 5 ∨ r = 6 := by omega
  rcases this with rfl | rfl | rfl | rfl | rfl | rfl <;> simp [halfOf, sumf] <;> omega
theorem half_plus {r : Int} (h0 : 1 ≤ r) (h6 : r ≤ 6) : r + 1 ≤ sumf (fun x => x + 1) (halfOf r) :=
  upto (m := 6) (P := fun r => 1 ≤ r → r + 1 ≤ sumf (fun x => x + 1) (halfOf r)) (by decide +kernel) (by omega) h6 h0
theorem Ctx.less3 (x : Ctx rs lf jn b lg) (hd : WsOf d rs b) (he : WsOf e (halves rs) (b + 1)) : LessP d e := by
  have hb := x.hb
  refine ⟨?_, fun j _ => ?_⟩
  · rw [hd.1, he.1]
    unfold halves
    rw [sumf_flatMap]
    have := sumf_le (f := fun r => r + 1) (g := fun r => sumf (fun x => x + 1) (halfOf r)) (l := rs) fun y hy => half_plus (hb y hy).1 (hb y hy).2
    omega
  · have h1 : (1 : Int) ≤ 2 + j := by omega
    rw [indent_col hd h1, indent_col he h1, col_more]
    have := sumf_le (f := cellOf (2 + j)) (g := fun r => sumf (cellOf (2 + j)) (halfOf r)) (l := rs) fun y hy => half_cells h1 (hb y hy).1 (hb y hy).2
    rw [← sumf_flatMap] at this
    unfold colOf halves
    show b + sumf _ rs < b + sumf _ _ + 1
    omega
theorem Joins.pos {ns left joins : List Int} (hb : ∀ x ∈ ns, 1 ≤ x ∧ x ≤ 6) (hl : 5 ≤ ns.length) (h : Joins ns left joins) : 0 < left.length := by
  cases left with
  | nil =>
    have t := h.total
    have l := sumf_le (f := fun _ => 1) (g := id) (l := ns) fun y hy => (hb y hy).1
    rw [sumf_const] at l
    rw [sumf_nil] at t
    omega
  | cons a r => exact Nat.succ_pos _
/-! sizes -/
theorem pre_le {b : Int} {c : Nat} : ∀ {ns : List Int}, (∀ x ∈ ns, 0 ≤ x ∧ x ≤ c) → (preCodes ns b).length ≤ (c + 1) * ns.length + b.toNat
  | [], _ => by simp [preCodes]
  | a :: r, h => by
    have ih := pre_le (b := b) (c := c) (ns := r) fun x hx => h x (.tail _ hx)
    have ha := h a (.head _)
    unfold preCodes at ih ⊢
    rw [List.flatMap_cons, List.append_assoc, List.length_append, List.length_cons]
    have : (cellCodes a).length = a.toNat + 1 := by simp [cellCodes]
    have e : (c + 1) * (r.length + 1) = (c + 1) * r.length + (c + 1) := by rw [Nat.mul_add, Nat.mul_one]
    rw [this, e]; omega
theorem WsOf.size {ns : List Int} (h : WsOf d ns b) {c : Int} (hc : 0 ≤ c) (hx : ∀ y ∈ ns, y ≤ c) : (d.cs.length : Int) ≤ c + 1 := by
  rcases h.2.2.2.1.2.2 with q | ⟨r, hr, hl⟩
  · rw [q]; simp only [List.length_nil]; omega
  · have := hx r hr; omega
theorem WsOf.manifold {ns : List Int} (h : WsOf d ns b) {y : Int} (hy : y ∈ ns) (h1 : 1 ≤ y) : d.si = false := by
  rw [h.2.2.2.2]
  have := (h.2.2.2.1.2.1 y hy).2
  exact decide_eq_false (by omega)
end
end
theorem flush35 : True := by first | (w_top off; k_with_none; walk1; done) | trivial
section
set_option maxHeartbeats 4000000
/-- the law's call: nobody stands around it -/
noncomputable def CallT (w : World) (D : Nat) (f : Addr) (args : List Value) (Pre : (Str → Option Value) → Shared → Prop) (Post : Shared → Value → Shared → Prop) : Prop :=
  ∀ (p : Program) (loose : List Str) (mean : ExcName → Option Value) (mg mb : Str → Option Value) (A : Around) (base : Heap) (s : Shared) (Q E : Value → Shared → Prop),
    A.handled = none → A.depth ≤ D → A.units ≤ D - 300 → Below A base [] s.heap → (Mine.hd.heap_1 w.params).In s.heap → Top p loose mean mg mb s.heap → Pre mg s →
    (∀ v s', Post s v s' → Q v s') → wpAny (model PySem.Challenge.rw_ty0024_01.row.toRowW.prog w) A (call (.ref f) args) Q E s
theorem enterCT {w : World} {D f : Nat} {args : List Value} {Pre : (Str → Option Value) → Shared → Prop} {Post : Shared → Value → Shared → Prop}
    {name qual : Str} {params : Arguments} {body : List Stmt} {scope : Scope} {dV kV doc pm cdv ct oc : Value} {an od : Option Addr} {osl : Array (Option Value)} {binds : List (Str × Value)}
    (ho : (Mine.hd.heap_1 w.params).lookup f = some ⟨oc, od, .func (fnOf name qual params body scope dV kV doc pm an cdv ct), osl⟩) (hcd : codeIn (Mine.hd.heap_1 w.params) cdv qual = true)
    (hD : D < recursionLimit)
    (hbind : bindArgs (fnOf name qual params body scope dV kV doc pm an cdv ct) ⟨args, []⟩ = pure binds)
    (hkind : (binds.all fun y => scope.names.lookup y.1 == some .local || scope.names.lookup y.1 == some .cell) = true)
    (hnd : ((cellsFrom 0 scope.names []).map (·.1)).Nodup)
    (h : ∀ (p : Program) (loose : List Str) (mean : ExcName → Option Value) (mg mb : Str → Option Value) (base : Heap) (g : Heap) (L : Addr) (h₁ : Heap) (s : Shared) (tk : Nat) (cells : List (Addr × Obj)), g.objs.size ≤ L → s.heap = g →
      Fr g L h₁ (bindL (envOfC qual scope L f cdv).kindOf binds fun _ => none) → News g L h₁ cells →
      CellsAre (bindC (envOfC qual scope L f cdv).kindOf binds fun _ => none) (cellsFrom (L + 1) scope.names []) cells → Below (aT D []) base [] g → (Mine.hd.heap_1 w.params).In g → Top p loose mean mg mb g → Pre mg s →
      wpAny (model PySem.Challenge.rw_ty0024_01.row.toRowW.prog w) ((aT D []).deeper (envOfC qual scope L f cdv)) (execs body (envOfC qual scope L f cdv))
        (fun fl s' => Post s (match fl with | .ret v => v | _ => .none) s') (fun _ _ => False) { s with heap := h₁, toks := tk })
    (hco : scope.isCoroutine = false := by rfl) (hgen : scope.isGenerator = false := by rfl) (hk : scope.kind = .function := by rfl) : CallT w D f args Pre Post := by
  intro p loose mean mg mb A base s Q E hh hd hu B X T hp ret
  refine weak (A := aT D []) hh hd (by rw [B.stack]; rfl) rfl hu ?_
  refine wpAny_call ?_
  refine codeAny_call_function hD (X _ _ ho) rfl hco hgen rfl (codeRec_of X hcd) ((BindsTo.of_eq hbind) _ _ _ _ ?_)
  refine wpAny_newFunctionEnv_cells hk (kindsX hkind _) fun env' he s' x => ?_
  subst he
  refine ⟨T.nolimit.keeps x.toInCall.keep, codeAny_func ?_⟩
  obtain ⟨h₁, tk, rfl, _⟩ := x.done
  have hk₁ := x.toInCall.keep
  obtain ⟨cells, NC, Y⟩ := Cl.news (h₀ := s.heap) (Nat.le_refl _) fun n c hm => ⟨x.cell n c (lookup_of_mem_nodup (cellsFrom_names scope.names 0 (s.heap.objs.size + 1) [] [] rfl ▸ hnd) hm), x.above n c hm⟩
  refine wpAny_mono (h p loose mean mg mb base s.heap s.heap.objs.size h₁ s tk cells (Nat.le_refl _) rfl ⟨x.toInCall.ns, hk₁, Nat.le_refl _⟩ NC Y ⟨rfl, B.stays, B.frames⟩ X T hp) (fun fl s' hl => ret _ _ hl) fun _ _ y => y.elim

theorem bool_dec {r : Bool} {P : Prop} [Decidable P] (h : r = true ↔ P) : r = decide P := by
  by_cases q : P
  · rw [h.mpr q, decide_eq_true q]
  · rw [decide_eq_false q]
    cases r with
    | false => rfl
    | true => exact absurd (h.mp rfl) q
noncomputable def Marker : Prop := True
noncomputable def Marker2 : Prop := True
theorem stop_here {P : Prop} (h : Stop P) : P := h
theorem stop_m {P : Prop} (_ : Marker) (h : Stop P) : P := h
theorem stop_m2 {P : Prop} (_ : Marker2) (h : Stop P) : P := h
/-- a contract at its call, and a halt behind it -/
theorem Call.useS {w : World} {D : Nat} {f : Addr} {args : List Value} {Pre : Heap → Prop} {Post : Heap → Heap → Value → Prop}
    {A₀ A : Around} {base h₀ : Heap} {outer : List Env} {L : Addr} {m : Str → Option Value} {env : Env} {news : List (Addr × Obj)} {p : Program} {loose : List Str} {mean : ExcName → Option Value} {mg mb : Str → Option Value} {s : Shared} {Q E : Value → Shared → Prop}
    (hh : A.handled = none) (hd : A.depth ≤ D) (hu : A.units ≤ D - 300) (hA : A.frames = some (env :: outer)) (hf : env.frame = some L) (hke : env.scope.kind = .function)
    (B : Below A₀ base outer h₀) (F : Fr h₀ L s.heap m) (X : (Mine.hd.heap_1 w.params).In h₀) (N : News h₀ L s.heap news) (T : Top p loose mean mg mb h₀)
    (hp : Pre s.heap) (C : Call w D f args Pre Post)
    (ret : Stop (∀ v h' tk, Fr h₀ L h' m → News h₀ L h' news → s.heap.StaysIn h' → Post s.heap h' v → Q v { s with heap := h', toks := tk })) : wpAny (model PySem.Challenge.rw_ty0024_01.row.toRowW.prog w) A (call (.ref f) args) Q E s :=
  C.use hh hd hu hA hf hke B F X N T hp ret
theorem CallG.use {w : World} {D : Nat} {f : Addr} {args : List Value} {Pre : (Str → Option Value) → Shared → Prop} {Post : Shared → Value → Shared → Prop}
    {A₀ A : Around} {base h₀ : Heap} {outer : List Env} {L : Addr} {m : Str → Option Value} {env : Env} {p : Program} {loose : List Str} {mean : ExcName → Option Value} {mg mb : Str → Option Value} {s : Shared} {Q E : Value → Shared → Prop}
    (hh : A.handled = none) (hd : A.depth ≤ D) (hu : A.units ≤ D - 300) (hA : A.frames = some (env :: outer)) (hf : env.frame = some L) (hke : env.scope.kind = .function)
    (B : Below A₀ base outer h₀) (F : Fr h₀ L s.heap m) (X : (Mine.hd.heap_1 w.params).In h₀) (T : Top p loose mean mg mb h₀)
    (hp : Pre mg s) (C : CallG w D f args Pre Post) (ret : Stop (∀ v s', Post s v s' → Q v s')) : wpAny (model PySem.Challenge.rw_ty0024_01.row.toRowW.prog w) A (call (.ref f) args) Q E s := by
  have B' := pushX B F hf hke
  exact C p loose mean mg mb A base (env :: outer) s Q E hh hd hu ⟨hA, B'.stays, B'.frames⟩ (X.keeps F.keep) (T.keeps F.keep) hp ret

theorem format_u (w : World) (l : Addr) (us : List Value) (rows : List (Int × Int × Int)) (hlen : rows.length ≤ 200) (hr0 : ∀ r ∈ rows, 0 ≤ r.1 ∧ r.1 ≤ 200) :
   CallG w 390 109 [.ref l] (fun mg s => s.heap.IsList l us.toArray ∧ TripsIn s.heap us rows ∧ AllBare s.gens ∧ s.heap.IsCode 108 104 #[] ∧ s.heap.TableAt 108 104 #[] ∧ @Ne Nat 104 cStatics)
     (fun s v s' => (∃ t, v = .str (wText rows) t) ∧ ∃ ps, Based s.heap (regrown s.heap 104 ps) 108 104 ps ∧ (regrown s.heap 104 ps).StaysIn s'.heap ∧ AllBare s'.gens ∧ s'.os = s.os) :=
  fun p loose mean mg mb A base lo s Q E hh hd hu B X T hp ret =>
    format_c w l us rows hlen hr0 s.heap 104 p loose mean mg mb A base lo s Q E hh hd hu B X T ⟨hp.1, hp.2.1, hp.2.2.1, Based.start hp.2.2.2.1 hp.2.2.2.2.1 hp.2.2.2.2.2, rfl⟩ ret

theorem rebase {h9 g h h' k : Heap} {P L : Addr} {ps : Array Value} {m : Str → Option Value} {news : List (Addr × Obj)} (hB : Based h9 g 108 P #[]) (F : Fr g L h m) (B2 : Based k (regrown h P ps) 108 P ps) (st : (regrown h P ps).StaysIn h') (N : News g L h news) :
    Based h9 (regrown g P ps) 108 P ps ∧ Fr (regrown g P ps) L h' m ∧ News (regrown g P ps) L h' news := by
  have hx : Heap.ExtBut P h h' := fun b o hb e => st b o ((re_other hb).trans e)
  have G := hB.grow (more := ps) F hx (by rw [Array.empty_append]; exact B2.code.keeps st) (by rw [Array.empty_append]; exact B2.tab.keeps st)
  rw [Array.empty_append] at G
  refine ⟨G.1, G.2, fun p hp => ?_⟩
  obtain ⟨n1, n2, n3⟩ := N p hp
  have hpP : p.1 ≠ P := fun e => by rw [e, hB.tab.2] at n3; cases n3
  exact ⟨hx _ _ hpP n1, n2, (re_other hpP).trans n3⟩

section
variable {prog : Program} {w : World} {A : Around} {E : Value → Shared → Prop} {s : Shared} {h₀ : Heap} {L a ca b cb : Addr} {news : List (Addr × Obj)} {Q : Value → Shared → Prop}
theorem ne_norm {b1 b2 : Int} {t1 t2 : Tok} {us vs : List Value} {cs ds : List Int} {k1 k2 k3 k4 : Nat} (N : News h₀ L s.heap news)
    (h1 : (a, ({ cls := Value.type "tuple", data := Data.seq #[Value.ref ca, Value.int b1 t1] k1 } : Obj)) ∈ news) (h2 : (ca, ({ cls := Value.type "tuple", data := Data.seq us.toArray k2 } : Obj)) ∈ news) (i1 : IntsAre us cs)
    (h3 : (b, ({ cls := Value.type "tuple", data := Data.seq #[Value.ref cb, Value.int b2 t2] k3 } : Obj)) ∈ news) (h4 : (cb, ({ cls := Value.type "tuple", data := Data.seq vs.toArray k4 } : Obj)) ∈ news) (i2 : IntsAre vs ds)
    (hu : A.units + 64 < cLine) (h : Stop (∀ r : Bool, (r = true ↔ ¬(cs = ds ∧ b1 = b2)) → Q (.bool r) s)) : wpAny (model prog w) A (compareOp .NotEq (.ref a) (.ref b)) Q E s := by
  refine ne_dat (d := normD cs b1) (e := normD ds b2) (norm_reads (N _ h1).1 (N _ h2).1 i1) (norm_reads (N _ h3).1 (N _ h4).1 i2) (normD_ok _ _) (normD_ok _ _) hu fun r hr => h r (hr.trans ?_)
  exact not_congr normD_inj
noncomputable def tripD (r : Int × Int × Int) : W.Dat := .tuple [.int r.1, .int r.2.1, .int r.2.2]
theorem tripD_inj {x y : Int × Int × Int} (h : tripD x = tripD y) : x = y := by
  obtain ⟨a, b, c⟩ := x
  obtain ⟨d, e, f⟩ := y
  simp only [tripD, W.Dat.tuple.injEq, List.cons.injEq, W.Dat.int.injEq, and_true] at h
  obtain ⟨rfl, rfl, rfl⟩ := h; rfl
theorem tripsIn_cons {h : Heap} {v : Value} {us : List Value} {r : Int × Int × Int} {rows : List (Int × Int × Int)} (x : TripsIn h (v :: us) (r :: rows)) :
    (∃ t ta tb tc, v = Value.ref t ∧ h.get? t = some (tripObj r.1 r.2.1 r.2.2 ta tb tc)) ∧ TripsIn h us rows := by
  refine ⟨?_, by simpa using x.1, fun j q e => ?_⟩
  · obtain ⟨t, ta, tb, tc, e1, e2⟩ := x.2 0 r rfl
    exact ⟨t, ta, tb, tc, by simpa using e1, e2⟩
  · obtain ⟨t, ta, tb, tc, e1, e2⟩ := x.2 (j + 1) q (by simpa using e)
    exact ⟨t, ta, tb, tc, by simpa using e1, e2⟩
theorem trips_reads {h : Heap} : ∀ {us : List Value} {rows : List (Int × Int × Int)}, TripsIn h us rows → ReadsAll h us (kqdPs (rows.map tripD)) []
  | [], [], _ => ReadsAll.nil
  | _ :: _, [], x => by have := x.1; simp at this
  | [], _ :: _, x => by have := x.1; simp at this
  | v :: us, r :: rows, x => by
    obtain ⟨⟨t, ta, tb, tc, rfl, e⟩, x'⟩ := tripsIn_cons x
    have ih := trips_reads x'
    exact ReadsAll.cons (as := []) (reads_tuple_at (as := []) e rfl rfl (ReadsAll.cons (as := []) (Reads.int _ _) (ReadsAll.cons (as := []) (Reads.int _ _) (ReadsAll.cons (as := []) (Reads.int _ _) ReadsAll.nil)))) ih
theorem tripL_ok (rows : List (Int × Int × Int)) : kqdOk 9 (.list (rows.map tripD)) = true := by simp [tripD, kqdOk]
theorem ne_trips {us vs : List Value} {rows rows' : List (Int × Int × Int)} {k1 k2 : Nat} {tl : List (Addr × Obj)} (N : News h₀ L s.heap news)
    (h1 : (a, W.listOf us.toArray k1) ∈ news) (h2 : (b, W.listOf vs.toArray k2) ∈ news) (t1 : Trips tl us rows) (t2 : Trips tl vs rows') (sub : ∀ p ∈ tl, p ∈ news)
    (hu : A.units + 64 < cLine) (h : Stop (∀ r : Bool, (r = true ↔ rows ≠ rows') → Q (.bool r) s)) : wpAny (model prog w) A (compareOp .NotEq (.ref a) (.ref b)) Q E s := by
  have r1 : Reads s.heap (.ref a) (kqdP (.list (rows.map tripD))) [a] := reads_list_at (as := []) (N _ h1).1 rfl rfl (by simpa using trips_reads (t1.toIn N sub))
  have r2 : Reads s.heap (.ref b) (kqdP (.list (rows'.map tripD))) [b] := reads_list_at (as := []) (N _ h2).1 rfl rfl (by simpa using trips_reads (t2.toIn N sub))
  refine ne_dat r1 r2 (tripL_ok _) (tripL_ok _) hu fun r hr => h r (hr.trans (not_congr ?_))
  simp only [W.Dat.list.injEq]
  exact List.map_inj_right fun x y e => tripD_inj e
theorem len_news {l : Addr} {us : List Value} {k n : Nat} (N : News h₀ L s.heap news) (hm : (l, W.listOf us.toArray k) ∈ news) (e : us.length = n) (hz : n ≤ 1000000) (h : ∀ tk k, Q (.int n tk) { s with toks := k }) : wpAny (model prog w) A (call (.builtin "len") [.ref l]) Q E s := by
  refine PyProof.Rows.len_list (news_list N hm) (by rw [List.size_toArray]; omega) ?_
  rw [List.size_toArray, e]
  exact h _ _
theorem kso_maxS {l : Addr} {m : Str → Option Value} {vs : List Value} {ns : List Int} (F : Fr h₀ L s.heap m) (N : News h₀ L s.heap news) (hl : s.heap.IsList l vs.toArray) (hi : IntsAre vs ns) (hne : 0 < ns.length) (hh : A.handled = none)
    (h : Stop (∀ h' M (t : Tok) tk, Fr h₀ L h' m → News h₀ L h' news → M ∈ ns → (∀ a, a ∈ ns → a ≤ M) → Q (.int M t) { s with heap := h', toks := tk })) : wpAny (model prog w) A (call (.builtin "max") [.ref l]) Q E s :=
  max_list_N hh F N hl hi hne h
end
theorem given_facts {rs no gs : List Int} (hl1 : 5 ≤ rs.length) (hl2 : rs.length ≤ 7) (hb : ∀ x ∈ rs, 1 ≤ x ∧ x ≤ 6) (p : no.Perm rs) (o : no.Pairwise (· ≤ ·))
    (e : [no.getD (Int.toNat 0) 0 - 1] ++ List.take (no.length - 1 - 1) (List.drop 1 no) ++ [no.getD (-1 + (no.length : Int)).toNat 0 + 1] = gs) :
    (∀ x ∈ gs, 0 ≤ x ∧ x ≤ 64) ∧ gs.length ≤ 9 ∧ ∃ o, (∀ y ∈ rs, y ≤ o) ∧ o + 1 ∈ gs := by
  have hl := p.length_eq
  have hm : ∀ x ∈ no, 1 ≤ x ∧ x ≤ 6 := fun x hx => hb x (p.mem_iff.mp hx)
  have h0 := hm _ (kso_getD (l := no) (i := Int.toNat 0) (by show 0 < _; omega))
  have hlast := kso_getD (l := no) (i := (-1 + (no.length : Int)).toNat) (by omega)
  have h1 := hm _ hlast
  subst e
  refine ⟨fun x hx => ?_, ?_, _, fun y hy => ?_, List.mem_append_right _ (.head _)⟩
  · rcases List.mem_append.mp hx with hx | hx
    · rcases List.mem_append.mp hx with hx | hx
      · rw [List.mem_singleton.mp hx]; omega
      · have := hm x (List.mem_of_mem_drop (List.mem_of_mem_take hx)); omega
    · rw [List.mem_singleton.mp hx]; omega
  · simp only [List.length_append, List.length_take, List.length_drop, List.length_cons, List.length_nil]; omega
  · obtain ⟨i, hi, hy⟩ := List.getElem_of_mem (p.mem_iff.mpr hy)
    rw [List.getD_eq_getElem?_getD, List.getElem?_eq_getElem (by omega), Option.getD_some, ← hy]
    rw [List.pairwise_iff_getElem] at o
    rcases Nat.lt_or_ge i (-1 + (no.length : Int)).toNat with q | q
    · exact o i _ hi (by omega) q
    · have : i = (-1 + (no.length : Int)).toNat := by omega
      subst this; exact Int.le_refl _
theorem due_bounds {rs jn : List Int} {b : Int} : ∀ {n : Nat}, ∀ r ∈ dueTo rs jn b n, 1 ≤ r.1 ∧ r.1 ≤ n
  | 0, r, h => by simp [dueTo] at h
  | n + 1, r, h => by
    have ih := due_bounds (rs := rs) (jn := jn) (b := b) (n := n) r
    rw [dueTo] at h
    rcases List.mem_append.mp h with h | h
    · have := ih h; omega
    · split at h
      · have e := List.mem_singleton.mp h
        subst e
        dsimp only; omega
      · cases h
end
theorem flush36 : True := by first | (w_top off; k_with_none; walk1; done) | trivial
section
set_option maxHeartbeats 4000000
section
variable {prog : Program} {w : World} {A : Around} {E : Value → Shared → Prop} {s : Shared} {env : Env} {h₀ : Heap} {L : Addr} {m : Str → Option Value}
noncomputable def FlipEnd (h₀ : Heap) (L : Addr) (m : Str → Option Value) (s₁ : Shared) (a b c : Int) (I C D : Addr) (all : List (Addr × Obj)) (y : Value) (s₄ : Shared) : Prop :=
  ∃ h' tk' t ta' tb' tc', y = .ref t ∧ s₄ = { s₁ with heap := h', toks := tk' } ∧ Fr h₀ L h' m ∧ News h₀ L h' ((t, tripObj a c b ta' tb' tc') :: all) ∧ (@Ne Nat t I) ∧ (@Ne Nat t C) ∧ (@Ne Nat t D)
theorem FlipEnd.intro {h₀ h' : Heap} {L I C D t : Addr} {m : Str → Option Value} {s₁ : Shared} {a b c : Int} {ta tb tc : Tok} {tk' : Nat} {all : List (Addr × Obj)} (F : Fr h₀ L h' m) (N : News h₀ L h' ((t, tripObj a c b ta tb tc) :: all)) (nI : I < t) (nC : C < t) (nD : D < t) :
    FlipEnd h₀ L m s₁ a b c I C D all (.ref t) { s₁ with heap := h', toks := tk' } := ⟨h', tk', t, ta, tb, tc, rfl, rfl, F, N, Nat.ne_of_gt nI, Nat.ne_of_gt nC, Nat.ne_of_gt nD⟩
/-- over triples, a new triple each -/
inductive FlipC (prog : Program) (w : World) (A : Around) (h₀ : Heap) (L : Addr) (m : Str → Option Value) (elt : Expr) (x1 x2 x3 : Str) (scope : Scope) (cl : List (Str × Addr)) (env : Env) (Q : Value → Shared → Prop) (s₁ : Shared) (xv : Value) : Prop
  | mk (l : _) (us : _) (rows : _) (k : _) (news : _) (tl : _)
    (h1 : xv = .ref l)
    (h2 : A.handled = none)
    (h3 : Fr h₀ L s₁.heap m)
    (h4 : News h₀ L s₁.heap news)
    (h5 : (l, W.listOf us.toArray k) ∈ news)
    (h6 : Trips tl us rows)
    (h7 : ∀ p ∈ tl, p ∈ news)
    (h8 : rows.length ≤ 1000)
    (h9 : ∀ (a b c : Int) (ta tb tc : Tok) I oI C oC D ys (tlY : List (Addr × Obj)) m₂ h tk, Fr h₀ L h m → News h₀ L h ((I, oI) :: (C, oC) :: (D, LCg.lst ys) :: (tlY ++ news)) → LCg.NsObj oC m₂ → m₂ x1 = some (.int a ta) → m₂ x2 = some (.int b tb) → m₂ x3 = some (.int c tc) →
      wpAny (model prog w) A (eval elt (compEnvC scope cl C env)) (FlipEnd h₀ L m s₁ a b c I C D ((I, oI) :: (C, oC) :: (D, LCg.lst ys) :: (tlY ++ news))) (fun _ _ => False) { s₁ with heap := h, toks := tk })
    (h10 : ∀ D ys (tlY : List (Addr × Obj)) h tk, Trips tlY ys (rows.map flip3) → Fr h₀ L h m → News h₀ L h ((D, LCg.lst ys) :: (news ++ tlY)) → Q (.ref D) { s₁ with heap := h, toks := tk }) : FlipC prog w A h₀ L m elt x1 x2 x3 scope cl env Q s₁ xv

theorem flip_eval {elt iter : Expr} {x1 x2 x3 : Str} {p1 p2 p3 tp : Pos} {kk} {scope : Scope} {cl : List (Str × Addr)} {pos : Pos} {Q : Value → Shared → Prop} (_F₀ : Fr h₀ L s.heap m)
    (hclos : closureFor scope env = pure cl) (hcell : ∀ y ∈ scope.names, y.2 ≠ .cell) (hkind : scope.kind = .function)
    (hnames : ∀ y ∈ scope.names, y.2 = .local → scope.names.lookup y.1 = some .local) (hx1 : scope.names.lookup x1 = some .local) (hx2 : scope.names.lookup x2 = some .local) (hx3 : scope.names.lookup x3 = some .local)
    (n12 : x1 ≠ x2) (n13 : x1 ≠ x3) (n23 : x2 ≠ x3)
    (h : wpAny (model prog w) A (eval iter env) (fun xv s₁ => Stop (FlipC prog w A h₀ L m elt x1 x2 x3 scope cl env Q s₁ xv)) E s)
    (hs : ∀ x, foldedSetIterable iter env x = pure x := by intro _; rfl) :
    wpAny (model prog w) A (eval (.ListComp elt [⟨.Tuple [.Name x1 p1, .Name x2 p2, .Name x3 p3] kk tp, iter, [], 0⟩] scope pos) env) Q E s := by
  rw [eval_ListComp]
  refine wpAny_comprehension_free (use := none) rfl hs hclos hkind hnames (wpAny_mono h (fun xv s₁ h₁ => ?_) fun _ _ e => e)
  obtain ⟨l, us, rows, kl, news, tl, rfl, hh, F, N, hml, hT, hsub, hlim, turn, fin⟩ := h₁
  have hl : s₁.heap.IsList l us.toArray := news_list N hml
  have hlt : l < s₁.heap.objs.size := by obtain ⟨_, e, _⟩ := hl; exact Heap.lt_size e
  refine wpAny_pyIter_list hl ?_
  generalize hI : s₁.heap.objs.size = I at *
  have hIn : s₁.heap.get? I = none := by subst hI; exact fresh_at (Nat.le_refl _)
  generalize hH : s₁.heap.push { cls := .type "list_iterator", data := .fields #[.ref l, .int 0 0] } = H
  have st0 : s₁.heap.StaysIn H := fun b o e => hH ▸ Heap.get?_push_of_some _ e
  have szH : H.objs.size = I + 1 := by rw [← hH, Heap.size_push, hI]
  have hstH : H.IsListIter I l 0 ∧ H.IsList l us.toArray := by
    refine ⟨?_, hl.at fun o e => st0 _ o e⟩
    subst hI hH
    exact ⟨_, Heap.get?_push_size _ rfl, rfl, rfl⟩
  have W : Walks prog w A I [I, l] [I] us.toArray.size (fun i v => us.toArray[i]? = some v) (fun i h => h.IsListIter I l i ∧ h.IsList l us.toArray) := Walks.list hh I l (Nat.ne_of_lt hlt) us.toArray
  refine block (s := { s₁ with heap := H }) (gens := [⟨.Tuple [.Name x1 p1, .Name x2 p2, .Name x3 p3] kk tp, iter, [], 0⟩]) rfl W hstH hcell hkind fun D C h₁ tk st₁ hD hC hDl hCl hDC hst₁ => ?_
  have hDl' : I + 1 ≤ D := szH ▸ hDl
  have hCl' : I + 1 ≤ C := szH ▸ hCl
  have frs : ∀ b, I ≤ b → h₀.get? b = none ∧ L ≠ b := fun b hb => fresh_in F (hI ▸ hb)
  obtain ⟨hI₀, hIL⟩ := frs I (Nat.le_refl _)
  obtain ⟨hD₀, hDL⟩ := frs D (Nat.le_of_succ_le hDl')
  obtain ⟨hC₀, hCL⟩ := frs C (Nat.le_of_succ_le hCl')
  have old : s₁.heap.StaysIn h₁ := fun b o e => st₁ b o (st0 b o e)
  have F₁ : Fr h₀ L h₁ m := F.after old
  have N₁ : News h₀ L h₁ news := fun p hp => ⟨old _ _ (N p hp).1, (N p hp).2⟩
  have hDI : D ≠ I := fun e => absurd (e ▸ hDl') (Nat.not_succ_le_self _)
  have hCI : C ≠ I := fun e => absurd (e ▸ hCl') (Nat.not_succ_le_self _)
  have lt : ∀ p ∈ news, p.1 < I := fun p hp => hI ▸ Heap.lt_size (N p hp).1
  have off0 : ∀ p ∈ news, p.1 ≠ I ∧ p.1 ≠ C ∧ p.1 ≠ D := fun p hp => ⟨Nat.ne_of_lt (lt p hp), fun e => absurd (Nat.lt_of_lt_of_le (Nat.lt_succ_of_lt (lt p hp)) (e ▸ hCl')) (Nat.lt_irrefl _), fun e => absurd (Nat.lt_of_lt_of_le (Nat.lt_succ_of_lt (lt p hp)) (e ▸ hDl')) (Nat.lt_irrefl _)⟩
  have hn : us.toArray.size = rows.length := by rw [List.size_toArray, hT.1]
  refine compLoop_last (fun k s' => ∃ h tk i ys m' tlY, s' = { s₁ with heap := h, toks := tk } ∧ i ≤ us.toArray.size ∧ k = us.toArray.size + 1 - i ∧ Trips tlY ys ((rows.take i).map flip3) ∧ (h.IsListIter I l i ∧ h.IsList l us.toArray) ∧ Fr h₀ L h m ∧ News h₀ L h ((D, LCg.lst ys) :: (tlY ++ news)) ∧ h.Ns C m' ∧
      ∀ p ∈ tlY ++ news, p.1 ≠ I ∧ p.1 ≠ C ∧ p.1 ≠ D) rfl rfl ?_ (us.toArray.size + 1)
    ⟨h₁, tk, 0, [], _, [], rfl, Nat.zero_le _, rfl, Trips.nil _, hst₁, F₁, fun p hp => (by
      rcases List.mem_cons.mp hp with rfl | hp
      · exact ⟨hD, Ne.symm hDL, hD₀⟩
      · exact N₁ p hp), hC, off0⟩
  rintro k s' ⟨h, tk, i, ys, m', tlY, rfl, hi, rfl, hacc, hSt, F, N, hnC, off⟩
  have offA : ∀ p ∈ (D, LCg.lst ys) :: (tlY ++ news), p.1 ≠ I ∧ p.1 ≠ C := fun p hp => by
    rcases List.mem_cons.mp hp with rfl | hp
    · exact ⟨hDI, hDC⟩
    · exact ⟨(off p hp).1, (off p hp).2.1⟩
  by_cases hlt' : i < us.toArray.size
  · refine W.item i _ _ _ hlt' hSt fun v h₂ tk₂ hPv hst₂ hk₂ => ?_
    have k₂ : ∀ c o, c ≠ I → h.get? c = some o → h₂.get? c = some o := fun c o nc e => hk₂ c o (by simpa using nc) e
    have F₂ := fr_ext F k₂ hIL hI₀
    have N₂ := news_ext N k₂ fun p hp => (offA p hp).1
    obtain ⟨r, hr⟩ : ∃ r, rows[i]? = some r := ⟨rows[i]'(by omega), List.getElem?_eq_getElem (by omega)⟩
    obtain ⟨t0, ta, tb, tc, e1, e2⟩ := hT.2 i r hr
    have hv : v = .ref t0 := by
      have : us[i]? = some v := by simpa using hPv
      rw [e1] at this; exact (Option.some.inj this).symm
    subst hv
    have ht0 : IsTup h₂ t0 #[.int r.1 ta, .int r.2.1 tb, .int r.2.2 tc] := ⟨_, (N₂ _ (.tail _ (List.mem_append_right _ (hsub _ e2)))).1, rfl, _, rfl⟩
    dsimp only
    refine wpAny_letOwnedTupleGo_listiter hst₂.1 ?_
    refine assign_Tuple_tuple hh ht0 rfl rfl fun h₅ he => ?_
    have he' : ∀ b o, h₂.get? b = some o → h₅.get? b = some o := fun b o e => he b o (Nat.ne_of_lt (Heap.lt_size e)) e
    refine assignInOrder_cons (wpAny_assign_Name (wpAny_storeName_local (lookup_relabel_local hx1) ((hnC.at' fun o e => k₂ C o hCI e).at' fun o e => he' _ o e) (fun h₆ hn₆ hs₆ => ?_) (by simp [compEnvC, relabel, hkind])))
    refine assignInOrder_cons (wpAny_assign_Name (wpAny_storeName_local (lookup_relabel_local hx2) hn₆ (fun h₇ hn₇ hs₇ => ?_) (by simp [compEnvC, relabel, hkind])))
    refine assignInOrder_cons (wpAny_assign_Name (wpAny_storeName_local (lookup_relabel_local hx3) hn₇ (fun h₃ hn₃ hs₃ => ?_) (by simp [compEnvC, relabel, hkind])))
    refine assignInOrder_nil ?_
    have k₃ : ∀ b o, b ≠ C → h₂.get? b = some o → h₃.get? b = some o := fun b o hb e => hs₃.extBut b o hb (hs₇.extBut b o hb (hs₆.extBut b o hb (he' b o e)))
    have F₃ := fr_ext F₂ k₃ hCL hC₀
    have N₃ := news_ext N₂ k₃ fun p hp => (offA p hp).2
    have hlC : l ≠ C := (off _ (List.mem_append_right _ hml)).2.1
    have hst₃ : h₃.IsListIter I l (i + 1) ∧ h₃.IsList l us.toArray := W.frame _ _ _ hst₂ fun b hb o e => k₃ b o (fun q => by
      rcases List.mem_cons.mp hb with rfl | hb
      · exact hCI q.symm
      · rw [List.mem_singleton.mp hb] at q; exact hlC q) e
    obtain ⟨oI, heI, hoI⟩ := id hst₃.1
    obtain ⟨oC, heC, hoC⟩ := LCg.ns_obj hn₃
    have N₃' : News h₀ L h₃ ((I, oI) :: (C, oC) :: (D, LCg.lst ys) :: (tlY ++ news)) := fun p hp => by
      rcases List.mem_cons.mp hp with rfl | hp
      · exact ⟨heI, Ne.symm hIL, hI₀⟩
      · rcases List.mem_cons.mp hp with rfl | hp
        · exact ⟨heC, Ne.symm hCL, hC₀⟩
        · exact N₃ p hp
    refine wpAny_tests_nil ?_
    simp only [if_true]
    refine wpAny_mono (turn r.1 r.2.1 r.2.2 ta tb tc I oI C oC D ys tlY _ h₃ _ F₃ N₃' hoC (by simp [n12, n13]) (by simp [n23]) (by simp)) (fun y s₄ h₄ => ?_) fun _ _ e => e
    obtain ⟨h5, tk5, t, ta', tb', tc', rfl, rfl, F5, N5, nI, nC, nD⟩ := h₄
    have e5 := (N5 (D, LCg.lst ys) (.tail _ (.tail _ (.tail _ (.head _))))).1
    have hyl := hacc.1
    rw [List.length_map, List.length_take] at hyl
    have st5 : h5.IsListIter I l (i + 1) ∧ h5.IsList l us.toArray := ⟨⟨oI, (N5 (I, oI) (.tail _ (.head _))).1, hoI⟩, ⟨_, (N5 _ (.tail _ (.tail _ (.tail _ (.tail _ (List.mem_append_right _ hml)))))).1, rfl, _, rfl⟩⟩
    refine append_at (hsz := by show ys.toArray.size ≤ sizeLine; rw [List.size_toArray, sizeLine_eq]; omega) e5 fun h₆ hs₆ hD₆ => ?_
    have k₆ : ∀ c o, c ≠ D → h5.get? c = some o → h₆.get? c = some o := fun c o nc e => hs₆.extBut c o nc e
    have hlD : l ≠ D := (off _ (List.mem_append_right _ hml)).2.2
    refine ⟨us.toArray.size + 1 - (i + 1), by omega, h₆, tk5, i + 1, ys ++ [.ref t], _, (t, tripObj r.1 r.2.2 r.2.1 ta' tb' tc') :: tlY, rfl, hlt', rfl, ?_, W.frame _ _ _ st5 fun b hb o e => k₆ b o (fun q => ?_) e,
      fr_ext F5 k₆ hDL hD₀, fun p hp => ?_, (hoC.ns (N5 (C, oC) (.tail _ (.tail _ (.head _)))).1).sameBut hs₆ (Ne.symm hDC), fun p hp => ?_⟩
    · rw [List.take_add_one, hr, Option.toList_some, List.map_append]
      exact hacc.snoc
    · rcases List.mem_cons.mp hb with rfl | hb
      · exact hDI q.symm
      · rw [List.mem_singleton.mp hb] at q; exact hlD q
    · rcases List.mem_cons.mp hp with rfl | hp
      · exact ⟨hD₆.trans (congrArg some (LCg.lst_snoc ys _)), Ne.symm hDL, hD₀⟩
      · rcases List.mem_cons.mp hp with rfl | hp
        · have := N5 _ (.head _)
          exact ⟨k₆ _ _ nD this.1, this.2⟩
        · have := N5 p (.tail _ (.tail _ (.tail _ (.tail _ hp))))
          exact ⟨k₆ _ _ (off p hp).2.2 this.1, this.2⟩
    · rcases List.mem_cons.mp hp with rfl | hp
      · exact ⟨nI, nC, nD⟩
      · exact off p hp
  · obtain rfl : i = us.toArray.size := Nat.le_antisymm hi (Nat.not_lt.mp hlt')
    refine W.done _ _ _ hSt fun h₂ tk₂ hk₂ => ?_
    have k₂ : ∀ c o, c ≠ I → h.get? c = some o → h₂.get? c = some o := fun c o nc e => hk₂ c o (by simpa using nc) e
    have F₂ := fr_ext F k₂ hIL hI₀
    have N₂ := news_ext N k₂ fun p hp => (offA p hp).1
    refine ⟨m', hnC.at' fun o e => k₂ C o hCI e, fun h'' hs'' => ?_⟩
    rw [hn, List.take_length] at hacc
    refine fin D ys tlY h'' tk₂ hacc (F₂.change hs'' (Ne.symm hCL) hC₀) (fun p hp => ?_)
    have hp : p ∈ (D, LCg.lst ys) :: (tlY ++ news) := by
      rcases List.mem_cons.mp hp with rfl | hp
      · exact .head _
      · exact .tail _ (List.mem_append.mpr (List.mem_append.mp hp).symm)
    refine ⟨hs''.extBut _ _ ?_ (N₂ p hp).1, (N₂ p hp).2⟩
    exact (offA p hp).2
end
end
theorem flush37 : True := by first | (w_top off; k_with_none; walk1; done) | trivial
section
set_option maxHeartbeats 900000
theorem words32 : True := by
  k_with "eval ListComp" => (k_here; k_dflt (refine lc1S (by k_asm) (by with_unfolding_all rfl) (by decide) (by rfl) (by decide) (by rfl) ?_))
  k_with "exec Assign cons ListComp" => (k_here; (with_reducible show wpAny _ _ (exec (Stmt.Assign _ (Expr.ListComp _ [_] _ _) _) _) _ _ _); k_dflt (refine lc1SA (by k_asm) (by rfl) (by kernel_rfl) (by first | rfl | with_unfolding_all rfl) (by decide) (by rfl) (by decide) (by rfl) (by rfl) (by rfl) ?_))
  k_with "exec Assign cons ListComp" => (k_here; (with_reducible show wpAny _ _ (exec (Stmt.Assign _ (Expr.ListComp _ [_, _] _ _) _) _) _ _ _); k_dflt (refine lc2SA (by k_asm) (by rfl) (by kernel_rfl) (by first | rfl | with_unfolding_all rfl) (by decide) (by rfl) (by decide) (by rfl) (by rfl) (by decide) (by rfl) (by rfl) ?_))
  k_with "binaryOp Mult str int" => (k_here; k_dflt (refine mul_bl (by omega) (by omega) ?_); intro _ _ )
  k_with "binaryOp Add str str" => (k_here; k_dflt (refine add_ss (by (simp only [Str.length_append, blanks_length, txt_length, lit_blank, lit_tab, lit_x, lit_empty, List.length_cons, List.length_nil] at *; omega)) ?_); intro _ _ )
  k_with "call builtin:str.join" => (k_here; k_dflt (refine join_L (by k_asm) (by k_mem) (by k_asm) (by decide +kernel) (by k_asm) ?_); intro _ _ )
  k_with "call builtin:len" => (k_here; (with_reducible show wpAny _ _ (call (Value.builtin "len") [Value.ref _]) _ _ _); k_dflt (refine t_len (by k_asm) (by with_reducible assumption) (by with_reducible assumption) (by omega) ?_); intro _ _ )
  k_with "subscriptTail" => (k_here; (with_reducible show wpAny _ _ (subscriptTail _ _ (Value.ref _) (Value.int _ _)) _ _ _); k_dflt (refine t_at (by k_asm) (by with_reducible assumption) (by with_reducible assumption) (by omega) (by omega) (by omega) ?_); intro _ )
  k_with "subscriptTail" => (k_here; (with_reducible show wpAny _ _ (subscriptTail _ _ (Value.ref _) (Value.int _ _)) _ _ _); k_dflt (refine l_at (by exact news_list (by k_asm) (by k_mem)) (by with_reducible assumption) (by omega) (by omega) (by omega) ?_); intro _ )
  k_with "ForEnd" => (dsimp only [ForEnd])
  k_with "WhEnd" => (dsimp only [WhEnd])
  trivial
section
local macro_rules | `(tactic| mul_fits) => `(tactic| with_reducible assumption)
local macro_rules | `(tactic| k_ne) => `(tactic| (refine neN ?_; (try dsimp only); first | exact Ne.symm (off1_mem (by with_reducible assumption) (_, _) (by k_mem)) | exact off1_mem (by with_reducible assumption) (_, _) (by k_mem)))
local macro_rules | `(tactic| walk_at "call ref") => `(tactic| (k_here; k_dflt (refine' Call.use ?hh ?hd ?hu ?hA ?hf ?hke ?B ?F ?X ?N ?T ?hp (rows_c _ _ _ _ ?i1 ?i2) ?_; (case hh => exact rfl); (case hd => (simp only [depth_under_make, depth_under_kw, depth_in1, depth_deeper, depth_caller, aT_depth]; decide)); (case hu => (simp only [units_deeper, units_in1, units_caller, units_under_make, aT_units]; decide)); (case hA => exact rfl); (case hf => exact rfl); (case hke => exact rfl); (case B => k_asm); (case F => k_asm); (case X => k_asm); (case N => k_asm); (case T => k_asm); (case hp => exact news_list (by k_asm) (by k_mem)); (case i1 => with_reducible assumption); (case i2 => with_reducible assumption); skip); intro v' h' tk' F' N' st' po'; (k_dflt (obtain ⟨rs', ⟨r', us', n', e', hr', ho', hi'⟩, hl1', hl2', hb'⟩ := po'; subst e'; have N2' := news_add (by k_asm) st' N' hr' ho'; have o1' := news_off (by k_asm) hr'; clear N' hr' ho')); (try clear st'); (try k_sweep); (try k_fold)))
local macro_rules | `(tactic| walk_at "call ref") => `(tactic| (k_here; k_dflt (refine' Call.use ?hh ?hd ?hu ?hA ?hf ?hke ?B ?F ?X ?N ?T ?hp (joined_c _ _ _ _ ?i1 ?i2 ?i3) ?_; (case hh => exact rfl); (case hd => (simp only [depth_under_make, depth_under_kw, depth_in1, depth_deeper, depth_caller, aT_depth]; decide)); (case hu => (simp only [units_deeper, units_in1, units_caller, units_under_make, aT_units]; decide)); (case hA => exact rfl); (case hf => exact rfl); (case hke => exact rfl); (case B => k_asm); (case F => k_asm); (case X => k_asm); (case N => k_asm); (case T => k_asm); (case hp => exact news_list (by k_asm) (by k_mem)); (case i1 => with_reducible assumption); (case i2 => with_reducible assumption); (case i3 => with_reducible assumption); skip); intro v' h' tk' F' N' st' po'; (k_dflt (obtain ⟨r', us', n', lf', jn', l', j', e', hr', ho', eu', ⟨rl', usl', nl', el', hrl', hol', hil'⟩, ⟨rj', usj', nj', ej', hrj', hoj', hij'⟩, hJo', hTw'⟩ := po'; subst e'; subst eu'; cases el'; cases ej'; have N2' := news_add (by k_asm) st' N' hrj' hoj'; have N3' := news_add (by k_asm) st' N2' hrl' hol'; have N4' := news_add (by k_asm) st' N3' hr' ho'; have o1' := news_off (by k_asm) hr'; have o2' := news_off (by k_asm) hrl'; have o3' := news_off (by k_asm) hrj'; clear N' N2' N3' hr' ho' hrl' hol' hrj' hoj')); (try clear st'); (try k_sweep); (try k_fold)))
local macro_rules | `(tactic| walk_at "call ref") => `(tactic| (k_here; k_dflt (refine' Call.use ?hh ?hd ?hu ?hA ?hf ?hke ?B ?F ?X ?N ?T ?hp (odds_c _ _ _ _ ?i1 ?i2) ?_; (case hh => exact rfl); (case hd => (simp only [depth_under_make, depth_under_kw, depth_in1, depth_deeper, depth_caller, aT_depth]; decide)); (case hu => (simp only [units_deeper, units_in1, units_caller, units_under_make, aT_units]; decide)); (case hA => exact rfl); (case hf => exact rfl); (case hke => exact rfl); (case B => k_asm); (case F => k_asm); (case X => k_asm); (case N => k_asm); (case T => k_asm); (case hp => exact News.isTup (by k_asm) (by k_mem)); (case i1 => with_reducible assumption); (case i2 => with_reducible assumption); skip); intro v' h' tk' F' N' st' po'; (k_dflt (obtain ⟨r', us', n', e', hr', ho', hi'⟩ := po'; subst e'; have N2' := news_add (by k_asm) st' N' hr' ho'; clear N' hr' ho')); (try clear st'); (try k_sweep); (try k_fold)))
theorem words33 : True := by
  k_with "compareOp In int ref" => (k_here; k_dflt (refine in_ints (by k_asm) (by k_mem) (by with_reducible assumption) (by ke_room) ?_ ?_); all_goals intro _ )
  k_with "compareOp NotEq ref ref" => (k_here; k_dflt (refine ne_norm (by k_asm) (by k_mem) (by k_mem) (by with_reducible assumption) (by k_mem) (by k_mem) (by with_reducible assumption) (by ke_room) ?_))
  k_with "compareOp NotEq ref ref" => (k_here; k_dflt (refine ne_trips (by k_asm) (by k_mem) (by k_mem) (by with_reducible assumption) (by with_reducible assumption) (by (intro p9 hp9; (repeat refine List.Mem.tail _ ?_); exact hp9)) (by ke_room) ?_))
  k_with "call builtin:max" => (k_here; k_dflt (refine kso_maxS (by k_asm) (by k_asm) (by exact news_list (by k_asm) (by k_mem)) (by with_reducible assumption) (by with_reducible assumption) rfl ?_))
  k_with "eval ListComp" => (k_here; (with_reducible show wpAny _ _ (eval (Expr.ListComp _ [⟨Expr.Tuple _ _ _, _, _, _⟩] _ _) _) _ _ _); k_dflt (refine flip_eval (by k_asm) (by with_unfolding_all rfl) (by decide) (by rfl) (by decide) (by rfl) (by rfl) (by rfl) (by decide) (by decide) (by decide) ?_))
  k_with "call builtin:len" => (k_here; (with_reducible show wpAny _ _ (call (Value.builtin "len") [Value.ref _]) _ _ _); k_dflt (refine len_news (by k_asm) (by k_mem) (by with_reducible assumption) (by omega) ?_); intro _ _ )
  k_with "call ref" => (k_here; k_dflt (refine Call.useSt (by exact rfl) (by (simp only [depth_under_make, depth_under_kw, depth_in1, depth_deeper, depth_caller, aT_depth]; decide)) (by (simp only [units_deeper, units_in1, units_caller, units_under_make, aT_units]; decide)) (by exact rfl) (by exact rfl) (by exact rfl) (by k_asm) (by k_asm) (by k_asm) (by k_asm) (by k_asm) (by exact news_list (by k_asm) (by k_mem)) (lead_c _ _ _ _ (by with_reducible assumption) (by with_reducible assumption) (by with_reducible assumption) _ _ (by omega) (by omega)) ?_; skip); intro _ _ _ _ _ ; (try k_sweep); (try k_fold))
  k_with "call ref" => (k_here; k_dflt (refine Call.useWs (by exact rfl) (by (simp only [depth_under_make, depth_under_kw, depth_in1, depth_deeper, depth_caller, aT_depth]; decide)) (by (simp only [units_deeper, units_in1, units_caller, units_under_make, aT_units]; decide)) (by exact rfl) (by exact rfl) (by exact rfl) (by k_asm) (by k_asm) (by k_asm) (by k_asm) (by k_asm) (by exact True.intro) (ws_c _ _ _ _ (by with_reducible assumption)) ?_; skip); intro _ _ _ _ _ _ _ _ _ _ _ _ _ _ _ ; (try k_sweep); (try k_fold))
  k_with "call ref" => (k_here; k_dflt (refine Call.useI (by exact rfl) (by (simp only [depth_under_make, depth_under_kw, depth_in1, depth_deeper, depth_caller, aT_depth]; decide)) (by (simp only [units_deeper, units_in1, units_caller, units_under_make, aT_units]; decide)) (by exact rfl) (by exact rfl) (by exact rfl) (by k_asm) (by k_asm) (by k_asm) (by k_asm) (by k_asm) (by exact News.isTup (by k_asm) (by k_mem)) (weight_c _ _ _ _ (by with_reducible assumption) (by with_reducible assumption) _ _ (by with_reducible assumption) (by with_reducible assumption)) ?_; skip); intro _ _ _ _ _ ; (try k_sweep); (try k_fold))
  k_with "call ref" => (k_here; k_dflt (refine Call.useInts (by exact rfl) (by (simp only [depth_under_make, depth_under_kw, depth_in1, depth_deeper, depth_caller, aT_depth]; decide)) (by (simp only [units_deeper, units_in1, units_caller, units_under_make, aT_units]; decide)) (by exact rfl) (by exact rfl) (by exact rfl) (by k_asm) (by k_asm) (by k_asm) (by k_asm) (by k_asm) (by exact True.intro) (words_c _ _ _ (by with_reducible assumption) (by with_reducible assumption)) ?_; skip); intro _ _ _ _ _ _ _ _ _ ; (try k_sweep); (try k_fold))
  k_with "call ref" => (k_here; k_dflt (refine Call.useInts (by exact rfl) (by (simp only [depth_under_make, depth_under_kw, depth_in1, depth_deeper, depth_caller, aT_depth]; decide)) (by (simp only [units_deeper, units_in1, units_caller, units_under_make, aT_units]; decide)) (by exact rfl) (by exact rfl) (by exact rfl) (by k_asm) (by k_asm) (by k_asm) (by k_asm) (by k_asm) (by exact True.intro) (letters_c _ _ _ (by with_reducible assumption) (by with_reducible assumption)) ?_; skip); intro _ _ _ _ _ _ _ _ _ ; (try k_sweep); (try k_fold))
  k_with "call ref" => (k_here; k_dflt (refine Call.useInts (by exact rfl) (by (simp only [depth_under_make, depth_under_kw, depth_in1, depth_deeper, depth_caller, aT_depth]; decide)) (by (simp only [units_deeper, units_in1, units_caller, units_under_make, aT_units]; decide)) (by exact rfl) (by exact rfl) (by exact rfl) (by k_asm) (by k_asm) (by k_asm) (by k_asm) (by k_asm) (by exact news_list (by k_asm) (by k_mem)) (halved_c _ _ _ _ (by with_reducible assumption) (by with_reducible assumption) (by with_reducible assumption)) ?_; skip); intro _ _ _ _ _ _ _ _ _ ; (try k_sweep); (try k_fold))
  k_with "call ref" => (k_here; k_dflt (refine Call.useS (by exact rfl) (by (simp only [depth_under_make, depth_under_kw, depth_in1, depth_deeper, depth_caller, aT_depth]; decide)) (by (simp only [units_deeper, units_in1, units_caller, units_under_make, aT_units]; decide)) (by exact rfl) (by exact rfl) (by exact rfl) (by k_asm) (by k_asm) (by k_asm) (by k_asm) (by k_asm) (by exact ⟨news_list (by k_asm) (by k_mem), news_list (by k_asm) (by k_mem)⟩) (due_c _ _ _ _ _ _ _ _ _ _ _ (by with_reducible assumption) (by with_reducible assumption) (by with_reducible assumption) (by with_reducible assumption) (by with_reducible assumption) (by with_reducible assumption) (by with_reducible assumption) (by with_reducible assumption) (by with_reducible assumption) (by with_reducible assumption)) ?_; skip))
  k_with "call ref" => (k_here; k_dflt (refine Call.useS (by exact rfl) (by (simp only [depth_under_make, depth_under_kw, depth_in1, depth_deeper, depth_caller, aT_depth]; decide)) (by (simp only [units_deeper, units_in1, units_caller, units_under_make, aT_units]; decide)) (by exact rfl) (by exact rfl) (by exact rfl) (by k_asm) (by k_asm) (by k_asm) (by k_asm) (by k_asm) (by exact ⟨WsD.of_news (by k_asm) (by k_mem) (by k_mem) (by k_mem) (by k_mem) (by with_reducible assumption), WsD.of_news (by k_asm) (by k_mem) (by k_mem) (by k_mem) (by k_mem) (by with_reducible assumption)⟩) (witness_c _ _ _ (by with_reducible assumption) (by with_reducible assumption) (by with_reducible assumption) (by with_reducible assumption) (by with_reducible assumption) (by with_reducible assumption)) ?_; skip))
  k_with "call ref" => (k_here; k_dflt (refine CallG.use (by exact rfl) (by (simp only [depth_under_make, depth_under_kw, depth_in1, depth_deeper, depth_caller, aT_depth]; decide)) (by (simp only [units_deeper, units_in1, units_caller, units_under_make, aT_units]; decide)) (by exact rfl) (by exact rfl) (by exact rfl) (by k_asm) (by k_asm) (by k_asm) (by k_asm) (by exact ⟨news_list (by k_asm) (by k_mem), Trips.toIn (by with_reducible assumption) (by k_asm) (by (intro p9 hp9; (repeat refine List.Mem.tail _ ?_); exact hp9)), (by with_reducible assumption), Based.codeAt (by with_reducible assumption) (by k_asm), Based.tabAt (by with_reducible assumption) (by k_asm), Based.notStatics (by with_reducible assumption)⟩) (format_u _ _ _ _ (by with_reducible assumption) (by with_reducible assumption)) ?_; skip))
  k_with "call ref" => (k_here; k_dflt (refine Call.useSt (by exact rfl) (by (simp only [depth_under_make, depth_under_kw, depth_in1, depth_deeper, depth_caller, aT_depth]; decide)) (by (simp only [units_deeper, units_in1, units_caller, units_under_make, aT_units]; decide)) (by exact rfl) (by exact rfl) (by exact rfl) (by k_asm) (by k_asm) (by k_asm) (by k_asm) (by k_asm) (by exact ⟨news_list (by k_asm) (by k_mem), Trips.toIn (by with_reducible assumption) (by k_asm) (by (intro p9 hp9; (repeat refine List.Mem.tail _ ?_); exact hp9))⟩) (written_c _ _ _ _ (by with_reducible assumption) (by with_reducible assumption)) ?_; skip); intro _ _ _ _ _ ; (try k_sweep); (try k_fold))
  k_with "call ref" => (k_here; k_dflt (refine Call.useS (by exact rfl) (by (simp only [depth_under_make, depth_under_kw, depth_in1, depth_deeper, depth_caller, aT_depth]; decide)) (by (simp only [units_deeper, units_in1, units_caller, units_under_make, aT_units]; decide)) (by exact rfl) (by exact rfl) (by exact rfl) (by k_asm) (by k_asm) (by k_asm) (by k_asm) (by k_asm) (by exact ⟨WsD.of_news (by k_asm) (by k_mem) (by k_mem) (by k_mem) (by k_mem) (by with_reducible assumption), WsD.of_news (by k_asm) (by k_mem) (by k_mem) (by k_mem) (by k_mem) (by with_reducible assumption)⟩) (equal_c _ _ _) ?_;  skip))
  k_with "call ref" => (k_here; k_dflt (refine Call.useS (by exact rfl) (by (simp only [depth_under_make, depth_under_kw, depth_in1, depth_deeper, depth_caller, aT_depth]; decide)) (by (simp only [units_deeper, units_in1, units_caller, units_under_make, aT_units]; decide)) (by exact rfl) (by exact rfl) (by exact rfl) (by k_asm) (by k_asm) (by k_asm) (by k_asm) (by k_asm) (by exact ⟨WsD.of_news (by k_asm) (by k_mem) (by k_mem) (by k_mem) (by k_mem) (by with_reducible assumption), WsD.of_news (by k_asm) (by k_mem) (by k_mem) (by k_mem) (by k_mem) (by with_reducible assumption)⟩) (less_c _ _ _ (by with_reducible assumption) (by with_reducible assumption) (by with_reducible assumption) (by with_reducible assumption) (by with_reducible assumption) (by with_reducible assumption) (by with_reducible assumption)) ?_; skip))
  k_with "call ref" => (k_here; (with_reducible show wpAny _ _ (call (Value.ref 119) _) _ _ _); refine stop_m (by with_reducible assumption) ?_)
  k_with "call ref" => (k_here; (with_reducible show wpAny _ _ (call (Value.ref 88) _) _ _ _); refine stop_m2 (by with_reducible assumption) ?_)
  trivial
inductive LawPost (h9 : Heap) (s : Shared) (v : Value) (s' : Shared) : Prop
  | mk (h1 : v = .bool true) (h2 : OldK h9 s'.heap) (h3 : AllBare s'.gens) (h4 : s'.os = s.os) : LawPost h9 s v s'
theorem law_c (w : World) (l : Addr) (vs : List Value) (ns : List Int) (hI : IntsAre vs ns) (hz : ns.length ≤ 63) (h9 : Heap) :
   CallT w 310 168 [.ref l] (fun mg s => s.heap.IsList l vs.toArray ∧ AllBare s.gens ∧ Based h9 s.heap 108 104 #[]) (LawPost h9) := by
  have hfill : PySem.Challenge.rw_ty0024_01 = PySem.Challenge.rw_ty0024_01 ∧ Mine.hd.heap_1 = Mine.hd.heap_1 := by k_fill; exact ⟨rfl, rfl⟩
  clear hfill
  refine' enterCT (binds := [("script", .ref l)]) ?k1 ?k2 ?k3 ?k4 ?k5 ?k6 ?k7 ?k8 ?k9 ?k10
  case k1 => k_is
  case k2 => k_is
  case k3 => decide
  case k4 => exact rfl
  case k5 => exact rfl
  case k6 => decide +kernel
  case k8 => exact rfl
  case k9 => exact rfl
  case k10 => exact rfl
  intro p loose mean mg mb base g L h₁ s tk cells hg hsg F N Y B X T hp
  k_cells Y
  try simp only [List.cons_append, List.nil_append] at N
  try k_fold
  rw [hsg] at hp
  obtain ⟨hpl, hbare, hB⟩ := hp
  k_steps
  unfold Stop
  rename_i Ds wsl _ F1 N1 hIs hCs hLs l1s
  refine ⟨_, _, (fun i ys => IntsAre ys (((ns.take 21).take i).map fun x => Int.fmod x 12)), _, Src.listN (List.Mem.head _), rfl, F1, N1, ?lim, .nil, ?turn, ?fin⟩
  case lim =>
    intro i ys h
    have := h.length
    rw [List.length_map, List.length_take] at this
    rw [PySem.sizeLine_eq]; omega
  case turn =>
    intro i v ys I oI C oC D m₂ h tk hi hP hacc F N off ne hC hx
    try simp only [LCg.Off3, and_true] at off
    unfold Turn
    refine wpAny_tests_nil ?_
    simp only [if_true]
    obtain ⟨k, t, rfl, hk⟩ := IntsAre.at hIs i v (by simpa using hP)
    try k_fold
    k_steps
    refine TurnEnd.intro (by assumption) (by assumption) (fun p hp => hp) ?_
    rw [List.take_add_one (l := ns.take 21), hk, Option.toList_some, List.map_append]
    exact hacc.append (.cons _ _ .nil)
  case fin =>
    intro D ys hacc h tk F N o1
    rw [show wsl.toArray.size = (ns.take 21).length by rw [List.size_toArray, hIs.length], List.take_length] at hacc
    have hnl : ((ns.take 21).map fun x => Int.fmod x 12).length ≤ 21 := by rw [List.length_map, List.length_take]; omega
    generalize hnums : ((ns.take 21).map fun x => Int.fmod x 12) = nums at hacc hnl
    have hsum0 : 0 ≤ Int.fmod nums.sum 4 := Int.fmod_nonneg_of_pos _ (by decide)
    have hsum1 : Int.fmod nums.sum 4 < 4 := Int.fmod_lt_of_pos _ (by decide)
    dsimp only
    try k_fold
    k_steps
    unfold Stop
    rename_i _ _ _ _ _ _ _ rs hl1 hl2 hbR Rr usR nR hiR oR _ _ _ _ Tj nT lf jn Lf Jj hJo hTw usL nL hiL usJ nJ hiJ oT oL oJ _ _ oc dc _ Dt _ F2 N2 l2
    with_reducible rename Obj.data _ = Data.cell (bindC _ _ _ (Str.ofString "counts")) => dcn
    have N3 : News g L _ [(Dt, { cls := Value.type "tuple", data := Data.seq #[.int 1 _, .int 3 _, .int 5 _] }), (Lf, W.listOf usL.toArray nL), (Jj, W.listOf usJ.toArray nJ), (Rr, W.listOf usR.toArray nR), (L + 1 + 1, _), (L + 1, oc)] := fun p hp => N2 p ((by lcg_sub : ∀ q ∈ _, q ∈ _) p hp)
    clear N2
    refine ⟨_, _, (fun i ys => IntsAre ys (unlTo lf (([1, 3, 5] : List Int).take i))), _, Src.tupN (List.Mem.head _), rfl, F2, N3, ?lim2, .nil, ?turn2, ?fin2⟩
    case lim2 =>
      intro i ys h
      have := h.length
      have h1 := unlTo_len lf (([1, 3, 5] : List Int).take i)
      rw [List.length_take] at h1
      rw [PySem.sizeLine_eq]; simp only [List.length_cons, List.length_nil] at h1; omega
    case turn2 =>
      intro i v ys2 I oI C oC D2 m₂ h tk hi hP hacc2 F N off ne hC hx
      obtain ⟨k, t, rfl, hk⟩ := IntsAre.at (ns := [1, 3, 5]) (.cons _ _ (.cons _ _ (.cons _ _ .nil))) i v (by simpa using hP)
      have hkm : k = 1 ∨ k = 3 ∨ k = 5 := by simpa using List.mem_of_getElem? hk
      try k_fold
      k_steps
      rename_i Dp _ F4 N4 l4
      refine' ⟨_, _, [(Dp, _)], _, _, (fun j ys => IntsAre ys (unlTo lf (([1, 3, 5] : List Int).take i) ++ unl lf k (([1, 2, 4, 8, 16] : List Int).take j))), rfl, F4, ?n4, ?off4, Src.tupN (.tail _ (.head _)), ?lim3, ?a3, ?out3, ?turn3⟩
      case n4 =>
        simp only [List.cons_append, List.nil_append]
        exact fun p hp => N4 p ((by lcg_sub : ∀ q ∈ _, q ∈ _) p hp)
      case off4 => exact And.intro ⟨Nat.ne_of_gt l4.1, Nat.ne_of_gt l4.2.1, Nat.ne_of_gt l4.2.2.1⟩ off
      case lim3 =>
        intro j ys h
        have := h.length
        have h1 := unlTo_len lf (([1, 3, 5] : List Int).take i)
        have h2 := unl_len lf k (([1, 2, 4, 8, 16] : List Int).take j)
        rw [List.length_take] at h1 h2
        rw [List.length_append] at this
        rw [PySem.sizeLine_eq]; simp only [List.length_cons, List.length_nil] at h1 h2; omega
      case a3 =>
        show IntsAre ys2 (unlTo lf _ ++ [])
        rw [List.append_nil]; exact hacc2
      case out3 =>
        intro ys' h'
        rw [List.take_add_one, hk, Option.toList_some, unlTo_snoc]
        exact h'
      case turn3 =>
        intro j v₂ ys₂ I₂ oI₂ oC₂ m₃ h tk hj hP₂ ha₂ F N off' ne' hC' hx2 hx1
        clear off' ne' ne off F4 N4
        unfold Turn
        refine wpAny_tests_one ?_
        obtain ⟨q, t2, rfl, hq⟩ := IntsAre.at (ns := [1, 2, 4, 8, 16]) (.cons _ _ (.cons _ _ (.cons _ _ (.cons _ _ (.cons _ _ .nil))))) j v₂ (by simpa using hP₂)
        have hqm : q = 1 ∨ q = 2 ∨ q = 4 ∨ q = 8 ∨ q = 16 := by simpa using List.mem_of_getElem? hq
        try dsimp only
        try k_fold
        k_steps
        all_goals (refine TurnEnd.intro (by assumption) (by assumption) (fun p hp => hp) ?_)
        · rw [List.take_add_one (l := [1, 2, 4, 8, 16]), hq, Option.toList_some, unl_snoc, if_pos (by assumption), ← List.append_assoc]; exact ha₂.append (.cons _ _ .nil)
        · rw [List.take_add_one (l := [1, 2, 4, 8, 16]), hq, Option.toList_some, unl_snoc, if_neg (by assumption), List.append_nil]; exact ha₂
    case fin2 =>
      intro Du ysU haccU h tk F N oU
      have haccU : IntsAre ysU (unlTo lf [1, 3, 5]) := haccU
      have hbR64 : ∀ x ∈ rs, 0 ≤ x ∧ x ≤ 64 := fun x hx => by have := hbR x hx; omega
      have hlR : rs.length ≤ 100 := Nat.le_trans hl2 (by decide)
      have hpre1 : (preCodes rs (Int.fmod nums.sum 4)).length ≤ 1000 := by have := pre_len (b := Int.fmod nums.sum 4) hbR64; omega
      dsimp only
      try k_fold
      k_steps
      unfold Stop
      rename_i d en ent eb ecs esi oA oB oC2 oD hiD _ _ oc2 dc2 Dv _ F5 N5 l5
      have N6 : News g L _ [(Dv, { cls := Value.type "tuple", data := Data.seq #[.int 1 _, .int 3 _, .int 5 _] }), (d.x, instObj 98 d.dx), (d.dx, wsDict w d), (d.nx, wsNorm d), (d.cx, wsCnt d), (Du, LCg.lst ysU), (Lf, W.listOf usL.toArray nL), (Jj, W.listOf usJ.toArray nJ), (Rr, W.listOf usR.toArray nR), (L + 1 + 1, oc2), (L + 1, oc)] := fun p hp => N5 p ((by lcg_sub : ∀ q ∈ _, q ∈ _) p hp)
      clear N5 oA oB oC2 oD oU oT oL oJ oR
      have hWd : WsOf d rs (Int.fmod nums.sum 4) := wsOf (fun x hx => (hbR64 x hx).1) hsum0 en ent eb ecs esi
      have hwb : ∀ k, (k = 1 ∨ k = 3 ∨ k = 5) → 0 ≤ weight d.cs k ∧ weight d.cs k ≤ 28 := fun k hk => weight_bound hk hWd.2.2.2.1 hl2 hbR
      have hcl : d.cs.length ≤ 100 := by have := hWd.size (c := 6) (by decide) (fun y hy => (hbR y hy).2); omega
      refine ⟨_, _, (fun i ys => IntsAre ys (wrdTo d.cs (([1, 3, 5] : List Int).take i))), _, Src.tupN (List.Mem.head _), rfl, F5, N6, ?limW, .nil, ?turnW, ?finW⟩
      case limW =>
        intro i ys h
        have := h.length
        have h1 := wrdTo_len d.cs (([1, 3, 5] : List Int).take i)
        rw [List.length_take] at h1
        rw [PySem.sizeLine_eq]; simp only [List.length_cons, List.length_nil] at h1; omega
      case turnW =>
        intro i v ys2 I oI C oC D2 m₂ h tk hi hP hacc2 F N off ne hC hx
        obtain ⟨k, t, rfl, hk⟩ := IntsAre.at (ns := [1, 3, 5]) (.cons _ _ (.cons _ _ (.cons _ _ .nil))) i v (by simpa using hP)
        have hkm : k = 1 ∨ k = 3 ∨ k = 5 := by simpa using List.mem_of_getElem? hk
        have hw0 := (hwb k hkm).1
        have hw1 := (hwb k hkm).2
        have hk1 : 1 ≤ k := by rcases hkm with rfl | rfl | rfl <;> decide
        have hk5 : k ≤ 5 := by rcases hkm with rfl | rfl | rfl <;> decide
        try k_fold
        k_steps
        rename_i qkk ekk _ _ _ _ _ F7 Rw usw nw hiw N7 o7
        try dsimp only [qkk]
        refine' ⟨_, _, [(Rw, _)], _, _, (fun j ys => IntsAre ys (wrdTo d.cs (([1, 3, 5] : List Int).take i) ++ ((bitsOf (weight d.cs k)).take j).map fun p => k * p)), rfl, F7, ?n4, ?off4, Src.listN (.tail _ (.head _)), ?lim3, ?a3, ?out3, ?turn3⟩
        case n4 =>
          simp only [List.cons_append, List.nil_append]
          exact fun p hp => N7 p ((by lcg_sub : ∀ q ∈ _, q ∈ _) p hp)
        case off4 => exact And.intro ⟨Ne.symm (off1_mem o7 (_, _) (.head _)), Ne.symm (off1_mem o7 (_, _) (.tail _ (.head _))), Ne.symm (off1_mem o7 (_, _) (.tail _ (.tail _ (.head _))))⟩ off
        case lim3 =>
          intro j ys h
          have := h.length
          have h1 := wrdTo_len d.cs (([1, 3, 5] : List Int).take i)
          have h2 := bitsOf_len (weight d.cs k)
          rw [List.length_take] at h1
          rw [List.length_append, List.length_map, List.length_take] at this
          rw [PySem.sizeLine_eq]; simp only [List.length_cons, List.length_nil] at h1; omega
        case a3 =>
          show IntsAre ys2 (wrdTo d.cs _ ++ [])
          rw [List.append_nil]; exact hacc2
        case out3 =>
          intro ys' h'
          rw [show usw.toArray.size = (bitsOf (weight d.cs k)).length by rw [List.size_toArray, hiw.length], List.take_length] at h'
          rw [List.take_add_one, hk, Option.toList_some, wrdTo_snoc]
          exact h'
        case turn3 =>
          intro j v₂ ys₂ I₂ oI₂ oC₂ m₃ h tk hj hP₂ ha₂ F N off' ne' hC' hx2 hx1
          clear off' ne' ne off F7 N7 o7
          unfold Turn
          refine wpAny_tests_nil ?_
          simp only [if_true]
          obtain ⟨q, t2, rfl, hq⟩ := IntsAre.at hiw j v₂ (by simpa using hP₂)
          have hmq : IntMulOk k q := IntMulOk.of_left (intBits_le_64 (Int.lt_of_lt_of_le (by decide) hk1) (Int.lt_of_le_of_lt hk5 (by decide)))
          try dsimp only
          try k_fold
          k_steps
          refine TurnEnd.intro (by assumption) (by assumption) (fun p hp => hp) ?_
          rw [List.take_add_one (l := bitsOf (weight d.cs k)), hq, Option.toList_some, List.map_append, ← List.append_assoc]
          exact ha₂.append (.cons _ _ .nil)
      case finW =>
        intro Dw ysW haccW h tk F N oW
        have hwu : wrdTo d.cs [1, 3, 5] = unlTo lf [1, 3, 5] := wrdTo_unlTo hWd.2.2.2.1 hl2 hbR hJo hTw
        have haccW : IntsAre ysW (unlTo lf [1, 3, 5]) := by rw [← hwu]; exact haccW
        try dsimp only
        try k_fold
        k_steps
        unfold Stop
        rename_i Dv2 _ F8 N8 l8
        have N9 : News g L _ [(Dv2, { cls := Value.type "tuple", data := Data.seq #[.int 1 _, .int 3 _, .int 5 _] }), (Dw, LCg.lst ysW), (d.x, instObj 98 d.dx), (d.dx, wsDict w d), (d.nx, wsNorm d), (d.cx, wsCnt d), (Du, LCg.lst ysU), (Lf, W.listOf usL.toArray nL), (Jj, W.listOf usJ.toArray nJ), (Rr, W.listOf usR.toArray nR), (L + 1 + 1, oc2), (L + 1, oc)] := fun p hp => N8 p ((by lcg_sub : ∀ q ∈ _, q ∈ _) p hp)
        clear N8 oW
        refine ⟨_, _, (fun i ys => IntsAre ys (wrdTo d.cs (([1, 3, 5] : List Int).take i))), _, Src.tupN (List.Mem.head _), rfl, F8, N9, ?limL, .nil, ?turnL, ?finL⟩
        case limL =>
          intro i ys h
          have := h.length
          have h1 := wrdTo_len d.cs (([1, 3, 5] : List Int).take i)
          rw [List.length_take] at h1
          rw [PySem.sizeLine_eq]; simp only [List.length_cons, List.length_nil] at h1; omega
        case turnL =>
          intro i v ys2 I oI C oC D2 m₂ h tk hi hP hacc2 F N off ne hC hx
          obtain ⟨k, t, rfl, hk⟩ := IntsAre.at (ns := [1, 3, 5]) (.cons _ _ (.cons _ _ (.cons _ _ .nil))) i v (by simpa using hP)
          have hkm : k = 1 ∨ k = 3 ∨ k = 5 := by simpa using List.mem_of_getElem? hk
          have hw0 := (hwb k hkm).1
          have hw1 := (hwb k hkm).2
          have hk1 : 1 ≤ k := by rcases hkm with rfl | rfl | rfl <;> decide
          have hk5 : k ≤ 5 := by rcases hkm with rfl | rfl | rfl <;> decide
          try k_fold
          k_steps
          rename_i qkk ekk _ _ _ _ _ F7 Rw usw nw hiw N7 o7
          try dsimp only [qkk]
          refine' ⟨_, _, [(Rw, _)], _, _, (fun j ys => IntsAre ys (wrdTo d.cs (([1, 3, 5] : List Int).take i) ++ ((bitsOf (weight d.cs k)).take j).map fun p => k * p)), rfl, F7, ?n4L, ?off4L, Src.listN (.tail _ (.head _)), ?lim3L, ?a3L, ?out3L, ?turn3L⟩
          case n4L =>
            simp only [List.cons_append, List.nil_append]
            exact fun p hp => N7 p ((by lcg_sub : ∀ q ∈ _, q ∈ _) p hp)
          case off4L => exact And.intro ⟨Ne.symm (off1_mem o7 (_, _) (.head _)), Ne.symm (off1_mem o7 (_, _) (.tail _ (.head _))), Ne.symm (off1_mem o7 (_, _) (.tail _ (.tail _ (.head _))))⟩ off
          case lim3L =>
            intro j ys h
            have := h.length
            have h1 := wrdTo_len d.cs (([1, 3, 5] : List Int).take i)
            have h2 := bitsOf_len (weight d.cs k)
            rw [List.length_take] at h1
            rw [List.length_append, List.length_map, List.length_take] at this
            rw [PySem.sizeLine_eq]; simp only [List.length_cons, List.length_nil] at h1; omega
          case a3L =>
            show IntsAre ys2 (wrdTo d.cs _ ++ [])
            rw [List.append_nil]; exact hacc2
          case out3L =>
            intro ys' h'
            rw [show usw.toArray.size = (bitsOf (weight d.cs k)).length by rw [List.size_toArray, hiw.length], List.take_length] at h'
            rw [List.take_add_one, hk, Option.toList_some, wrdTo_snoc]
            exact h'
          case turn3L =>
            intro j v₂ ys₂ I₂ oI₂ oC₂ m₃ h tk hj hP₂ ha₂ F N off' ne' hC' hx2 hx1
            clear off' ne' ne off F7 N7 o7
            unfold Turn
            refine wpAny_tests_nil ?_
            simp only [if_true]
            obtain ⟨q, t2, rfl, hq⟩ := IntsAre.at hiw j v₂ (by simpa using hP₂)
            have hmq : IntMulOk k q := IntMulOk.of_left (intBits_le_64 (Int.lt_of_lt_of_le (by decide) hk1) (Int.lt_of_le_of_lt hk5 (by decide)))
            try dsimp only
            try k_fold
            k_steps
            refine TurnEnd.intro (by assumption) (by assumption) (fun p hp => hp) ?_
            rw [List.take_add_one (l := bitsOf (weight d.cs k)), hq, Option.toList_some, List.map_append, ← List.append_assoc]
            exact ha₂.append (.cons _ _ .nil)
        case finL =>
          intro Dl ysL haccL h tk F N oLL
          have haccL : IntsAre ysL (unlTo lf [1, 3, 5]) := by rw [← hwu]; exact haccL
          have hUp : (unlTo lf [1, 3, 5]).Perm lf := unlTo_perm hWd.2.2.2.1 hl2 hbR hJo hTw
          generalize hU : unlTo lf [1, 3, 5] = U at haccU haccW haccL hUp
          generalize hb9 : Int.fmod nums.sum 4 = b9 at *
          have hU64 : ∀ x ∈ U, 0 ≤ x ∧ x ≤ 64 := fun x hx => by have := goodB_pos ((hJo.good hl2 hbR).1 x (hUp.mem_iff.mp hx)); omega
          have hUl : U.length ≤ 100 := by have := hUp.length_eq; have := hJo.len; omega
          have hpreU : (preCodes U b9).length ≤ 1000 := by
            have h1 := pre_le (c := 64) (b := b9) hU64
            have := hUp.length_eq; have := hJo.len; omega
          try dsimp only
          try k_fold
          have hH64 : ∀ x ∈ halves rs, 0 ≤ x ∧ x ≤ 64 := fun x hx => by have := halves_mem hbR hx; omega
          have hHl : (halves rs).length ≤ 100 := by have := halves_length rs; omega
          have hpreH : (preCodes (halves rs) b9).length ≤ 1000 := by
            have h1 := pre_le (c := 5) (b := b9) (ns := halves rs) (fun x hx => by have := halves_mem hbR hx; omega)
            have := halves_length rs; omega
          k_steps
          unfold Stop
          rename_i Rh usH nH hiH oH _ _ _ _ _ _ _ _ _ _ dh enh enth ebh ecsh esih ob1 ob2 ob3 ob4 hidh _ _ Ro usO nO hiO Dn _ FN NN lN
          intro r9 hr9
          have hWh : WsOf dh (halves rs) b9 := wsOf (fun x hx => (hH64 x hx).1) hsum0 enh enth ebh ecsh esih
          have hr8 : r9 = false := by
            cases r9 with
            | false => rfl
            | true => exact absurd ⟨halves_cnt hWd.2.2.2.1 hWh.2.2.2.1 hbR, hWh.2.2.1⟩ (hr9.mp rfl)
          subst hr8
          have NA : News g L _ [(Rh, W.listOf usH.toArray nH), (Dw, LCg.lst ysW), (d.x, instObj 98 d.dx), (d.dx, wsDict w d), (d.nx, wsNorm d), (d.cx, wsCnt d), (Lf, W.listOf usL.toArray nL), (Jj, W.listOf usJ.toArray nJ), (Rr, W.listOf usR.toArray nR), (L + 1 + 1, oc2), (L + 1, oc)] := fun p hp => NN p ((by lcg_sub : ∀ q ∈ _, q ∈ _) p hp)
          clear NN oLL oH ob1 ob2 ob3 ob4 lN l8 l5 l2 hr9 hWh enh enth ebh ecsh esih hidh hiO
          have hlf0 : 0 < lf.length := hJo.pos hbR hl1
          k_steps
          unfold Stop
          rename_i f enf entf ebf ecsf esif of1 of2 of3 of4 hif _ F1 N1
          intro h1 M tM tkM F2 N2 hMm hMx
          have hWf : WsOf f U b9 := wsOf (fun x hx => (hU64 x hx).1) hsum0 enf entf ebf ecsf esif
          have hCx : Ctx rs lf jn b9 M := ⟨hl1, hl2, hbR, hJo, hTw, hsum0, by omega, hMm, hMx⟩
          have hM1 : 1 ≤ M := hCx.lg1.1
          have hsf : f.si = false := hWf.manifold (hUp.mem_iff.mpr hMm) hM1
          have hsd : d.si = false := by
            obtain ⟨y, hy⟩ : ∃ y, y ∈ rs := List.exists_mem_of_length_pos (by omega)
            exact hWd.manifold hy (hbR y hy).1
          have hM2 : M ≤ 100 := by have := hCx.lg1.2; omega
          have hb3 : b9 ≤ 3 := by omega
          have hjn7 : jn.length ≤ 7 := by have := hJo.len; omega
          have hjb : ∀ x ∈ jn, 1 ≤ x ∧ x ≤ 100 := fun x hx => by have := (hJo.good hl2 hbR).2 x hx; omega
          have hcf : f.cs.length ≤ 100 := by have := hWf.size (c := 64) (by decide) (fun y hy => (hU64 y hy).2); omega
          have hdb0 : 0 ≤ d.b := by rw [hWd.2.2.1]; exact hsum0
          have hdb1 : d.b ≤ 100 := by rw [hWd.2.2.1]; omega
          have hfb0 : 0 ≤ f.b := by rw [hWf.2.2.1]; exact hsum0
          have hfb1 : f.b ≤ 100 := by rw [hWf.2.2.1]; omega
          clear F1 N1 of1 of2 of3 of4 enf entf ebf ecsf esif
          k_steps
          unfold Stop
          intro vD hD tkD FD ND stD poD
          obtain ⟨Dd, usD, nD, tlD, rfl, hrD, hoD, htD, hlD⟩ := poD
          have NE := news_add (by k_asm) stD (news_addL (by k_asm) stD ND hlD) hrD hoD
          simp only [List.cons_append, List.nil_append] at NE
          clear ND stD hlD hrD hoD
          generalize hR : dueTo rs jn b9 (M + 1).toNat = R at htD
          have hRl : R.length ≤ 200 := by rw [← hR]; have := dueTo_len rs jn b9 (M + 1).toNat; omega
          have hRb : ∀ r ∈ R, 0 ≤ r.1 ∧ r.1 ≤ 200 := fun r hr => by have := due_bounds r (hR ▸ hr); omega
          k_steps
          unfold Stop
          intro vN hN tkN FN NN stN poN
          rw [hCx.witness hWd hWf hUp, hR] at poN
          obtain ⟨Dn9, usN, nN, tlN, rfl, hrN, hoN, htN, hlN⟩ := poN
          have NF := news_add (by k_asm) stN (news_addL (by k_asm) stN NN hlN) hrN hoN
          simp only [List.cons_append] at NF
          clear NN stN hlN hrN hoN
          have htD2 : Trips (tlD ++ tlN) usD R := htD.mono (fun p hp => List.mem_append_left _ hp)
          have htN2 : Trips (tlD ++ tlN) usN R := htN.mono (fun p hp => List.mem_append_right _ hp)
          clear htD htN
          generalize tlD ++ tlN = TL at NF htD2 htN2
          k_steps
          unfold Stop
          intro r9 hr9
          have hr8 : r9 = false := by
            cases r9 with
            | false => rfl
            | true => exact absurd rfl (hr9.mp rfl)
          subst hr8
          clear hr9
          k_steps
          unfold Stop
          with_reducible rename Fr _ _ _ _ => FC
          with_reducible rename News _ _ _ _ => NC
          intro vF sF poF
          obtain ⟨⟨tF, rfl⟩, psF, B2F, stF, bareF, osF⟩ := poF
          have osF : sF.os = s.os := osF
          obtain ⟨hB9, F9, N9⟩ := rebase hB FC B2F stF NC
          have hot9 : ∀ b, b ≠ 104 → (regrown g 104 psF).get? b = g.get? b := fun b hb => re_other hb
          have X9 := re_frag X rfl hot9
          have T9 := re_top hB.tab T hot9
          have BB : Below (aT 310 []) (regrown g 104 psF) [] (regrown g 104 psF) := ⟨rfl, fun _ _ e => e, trivial⟩
          clear hot9 B2F stF FC NC X T B hpl hB
          generalize regrown g 104 psF = g9 at hB9 F9 N9 X9 T9 BB
          k_steps
          all_goals try (exfalso; (with_reducible rename (_ != _) = true => hbad); simp at hbad; done)
          · unfold Stop
            intro vW hW tkW FW NW stW poW
            rw [hCx.witness2 hWd hWf hUp, hR] at poW
            obtain ⟨Dw9, usW, nW, tlW, rfl, hrW, hoW, htW, hlW⟩ := poW
            have NG := news_add (by k_asm) stW (news_addL (by k_asm) stW NW hlW) hrW hoW
            simp only [List.cons_append] at NG
            clear NW stW hlW hrW hoW
            have htD3 : Trips (TL ++ tlW) usD R := htD2.mono (fun p hp => List.mem_append_left _ hp)
            have htW3 : Trips (TL ++ tlW) usW (R.map flip3) := htW.mono (fun p hp => List.mem_append_right _ hp)
            clear htD2 htN2 htW
            generalize TL ++ tlW = TM at NG htD3 htW3
            k_steps
            unfold Stop
            with_reducible rename Fr _ _ _ _ => FX
            with_reducible rename News _ _ _ _ => NX
            refine ⟨Dd, usD, R, nD, _, TM, rfl, rfl, FX, NX, by k_mem, htD3, by (intro p9 hp9; (repeat refine List.Mem.tail _ ?_); exact hp9), by omega, ?eltF, ?finF⟩
            case eltF =>
              intro a b c ta tb tc I oI C oC D ys tlY m₂ h tk F N hC hx1 hx2 hx3
              clear FX NX
              try dsimp only
              try k_fold
              k_steps
              rename_i F7 N7 l7
              exact FlipEnd.intro F7 N7 l7.1 l7.2.1 l7.2.2.1
            case finF =>
              intro D ys tlY h tk htY F N
              simp only [List.cons_append] at N
              have htD4 : Trips (TM ++ tlY) usD R := htD3.mono (fun p hp => List.mem_append_left _ hp)
              have htW4 : Trips (TM ++ tlY) usW (R.map flip3) := htW3.mono (fun p hp => List.mem_append_left _ hp)
              have htY4 : Trips (TM ++ tlY) ys (R.map flip3) := htY.mono (fun p hp => List.mem_append_right _ hp)
              clear FX NX htD3 htW3 htY
              generalize TM ++ tlY = TN at N htD4 htW4 htY4
              try dsimp only
              try k_fold
              k_steps
              unfold Stop
              intro r9 hr9
              have hr8 : r9 = false := by
                cases r9 with
                | false => rfl
                | true => exact absurd rfl (hr9.mp rfl)
              subst hr8
              clear hr9 htY4 htW4
              k_steps
              unfold Stop
              intro vE hE tkE FE NE stE poE
              obtain ⟨rE, rfl, hrE⟩ := poE
              have hrE2 : rE = true ↔ jn = [] := hrE.trans (hCx.equal hWd hWf hUp)
              have huD : usD.length = R.length := htD4.1
              have hjl : usJ.length = jn.length := hiJ.length
              have NK : News g9 L _ [(Dd, W.listOf usD.toArray nD), (f.x, instObj 98 f.dx), (f.dx, wsDict w f), (f.nx, wsNorm f), (f.cx, wsCnt f), (Rh, W.listOf usH.toArray nH), (d.x, instObj 98 d.dx), (d.dx, wsDict w d), (d.nx, wsNorm d), (d.cx, wsCnt d), (Lf, W.listOf usL.toArray nL), (Jj, W.listOf usJ.toArray nJ), (Rr, W.listOf usR.toArray nR), (L + 1 + 1, oc2), (L + 1, oc)] := fun p hp => NE p ((by lcg_sub : ∀ q ∈ _, q ∈ _) p hp)
              clear NE N F stE hrE htD4
              have hrE3 := bool_dec hrE2
              subst hrE3
              clear hrE2
              k_steps
              all_goals try (exfalso; (with_reducible rename (_ != _) = true => hbad); simp at hbad; done)
              unfold Stop
              intro vL hL tkL FL NL stL poL
              obtain ⟨rL, rfl, hrL⟩ := poL
              have hrL2 : rL = true ↔ (R.length : Int) = M + 1 := by rw [← hR]; exact hrL.trans (hCx.less hWd hWf hUp)
              have hrL3 := bool_dec hrL2
              subst hrL3
              clear hrL2 hrL stL
              have hMk : Marker := trivial
              k_steps
              all_goals try (exfalso; (with_reducible rename (_ != _) = true => hbad); by_cases q9 : (R.length : Int) = M + 1 <;> simp [q9] at hbad; done)
              unfold Stop
              rename_i Do usO2 no cO _ iO eO pO oO bO p0 _ _ _ _ _ _ _ _ _ _ _ _ hI2 _ _ _ _ _ _ _ _ _ _ _ _ Dg usG _ FG NG9 hIG lG
              generalize hGs : [no.getD (Int.toNat 0) 0 - 1] ++ List.take (no.length - 1 - 1) (List.drop 1 no) ++ [no.getD (-1 + (no.length : Int)).toNat 0 + 1] = gs at hIG
              obtain ⟨hG64, hGl9, og, hGo, hGm⟩ := given_facts hl1 hl2 hbR pO oO hGs
              have hGl : gs.length ≤ 100 := by omega
              have hpreG : (preCodes gs b9).length ≤ 1000 := by have h1 := pre_le (c := 64) (b := b9) hG64; omega
              have hpre2 : (preCodes rs (b9 + 1)).length ≤ 1000 := by have h1 := pre_le (c := 64) (b := b9 + 1) hbR64; omega
              have hpre3 : (preCodes (halves rs) (b9 + 1)).length ≤ 1000 := by
                have h1 := pre_le (c := 5) (b := b9 + 1) (ns := halves rs) (fun x hx => by have := halves_mem hbR hx; omega)
                have := halves_length rs; omega
              have NH : News g9 L _ [(Dg, W.listOf usG.toArray 0), (f.x, instObj 98 f.dx), (f.dx, wsDict w f), (f.nx, wsNorm f), (f.cx, wsCnt f), (Rh, W.listOf usH.toArray nH), (d.x, instObj 98 d.dx), (d.dx, wsDict w d), (d.nx, wsNorm d), (d.cx, wsCnt d), (Lf, W.listOf usL.toArray nL), (Jj, W.listOf usJ.toArray nJ), (Rr, W.listOf usR.toArray nR), (L + 1 + 1, oc2), (L + 1, oc)] := fun p hp => NG9 p ((by lcg_sub : ∀ q ∈ _, q ∈ _) p hp)
              clear NG9 hMk hI2 iO lG hGs bO
              k_steps
              unfold Stop
              rename_i gv eng entg ebg ecsg esig og1 og2 og3 og4 hig _ FV NV
              intro vQ hQ tkQ FQ NQ stQ poQ
              obtain ⟨rQ, rfl, hrQ⟩ := poQ
              have hWg : WsOf gv gs b9 := wsOf (fun x hx => (hG64 x hx).1) hsum0 eng entg ebg ecsg esig
              have hrQ2 : rQ = false := by
                cases rQ with
                | false => rfl
                | true => exact absurd (hrQ.mp rfl) (hCx.unequal hWd hWg hGo hGm)
              subst hrQ2
              have NI : News g9 L _ [(f.x, instObj 98 f.dx), (f.dx, wsDict w f), (f.nx, wsNorm f), (f.cx, wsCnt f), (Rh, W.listOf usH.toArray nH), (d.x, instObj 98 d.dx), (d.dx, wsDict w d), (d.nx, wsNorm d), (d.cx, wsCnt d), (Lf, W.listOf usL.toArray nL), (Jj, W.listOf usJ.toArray nJ), (Rr, W.listOf usR.toArray nR), (L + 1 + 1, oc2), (L + 1, oc)] := fun p hp => NQ p ((by lcg_sub : ∀ q ∈ _, q ∈ _) p hp)
              clear NQ NV FV stQ hrQ hWg og1 og2 og3 og4 hig eng entg ebg ecsg esig
              have hMk2 : Marker2 := trivial
              k_steps
              unfold Stop
              rename_i FZ e1 en1 ent1 eb1 ecs1 esi1 NZ oz1 oz2 oz3 oz4 hi1
              have hb91 : 0 ≤ b9 + 1 := by omega
              have hWe : WsOf e1 rs (b9 + 1) := wsOf (fun x hx => (hbR64 x hx).1) hb91 en1 ent1 eb1 ecs1 esi1
              have hce : e1.cs.length ≤ 100 := by have := hWe.size (c := 6) (by decide) (fun y hy => (hbR y hy).2); omega
              have heb0 : 0 ≤ e1.b := by rw [hWe.2.2.1]; exact hb91
              have heb1 : e1.b ≤ 100 := by rw [hWe.2.2.1]; omega
              clear hMk2 oz1 oz2 oz3 oz4 en1 ent1 eb1 ecs1 esi1
              k_steps
              unfold Stop
              intro vZ hZ tkZ FY NY stZ poZ
              obtain ⟨rZ, rfl, hrZ⟩ := poZ
              have hrZ2 : rZ = true := hrZ.mpr (hCx.less2 hWd hWf hUp hWe)
              subst hrZ2
              have NJ : News g9 L _ [(Rh, W.listOf usH.toArray nH), (d.x, instObj 98 d.dx), (d.dx, wsDict w d), (d.nx, wsNorm d), (d.cx, wsCnt d), (Lf, W.listOf usL.toArray nL), (Jj, W.listOf usJ.toArray nJ), (Rr, W.listOf usR.toArray nR), (L + 1 + 1, oc2), (L + 1, oc)] := fun p hp => NY p ((by lcg_sub : ∀ q ∈ _, q ∈ _) p hp)
              clear NY FZ NZ stZ hrZ hWe hce heb0 heb1 hi1
              have hMk2 : Marker2 := trivial
              k_steps
              unfold Stop
              rename_i FZ e2 en1 ent1 eb1 ecs1 esi1 NZ oz1 oz2 oz3 oz4 hi2
              have hWh2 : WsOf e2 (halves rs) (b9 + 1) := wsOf (fun x hx => (hH64 x hx).1) hb91 en1 ent1 eb1 ecs1 esi1
              have hce : e2.cs.length ≤ 100 := by have := hWh2.size (c := 64) (by decide) (fun y hy => (hH64 y hy).2); omega
              have heb0 : 0 ≤ e2.b := by rw [hWh2.2.2.1]; exact hb91
              have heb1 : e2.b ≤ 100 := by rw [hWh2.2.2.1]; omega
              clear hMk2 oz1 oz2 oz3 oz4 en1 ent1 eb1 ecs1 esi1
              k_steps
              unfold Stop
              intro vY hY tkY FY NY stY poY
              obtain ⟨rY, rfl, hrY⟩ := poY
              have hrY2 : rY = true := hrY.mpr (hCx.less3 hWd hWh2)
              subst hrY2
              clear FZ NZ stY
              k_steps
              exact ⟨rfl, hB9.finish FY, bareF, osF⟩
end
end
theorem flush38 : True := by first | (w_top off; k_with_none; walk1; done) | trivial
end Mine
set_option maxHeartbeats 4000000 in
theorem PySem.Challenge.cw_ty0024_01_holds : PySem.Challenge.rw_ty0024_01.Holds := by
  refine Mine.hd.2.2 Mine.top_any ?_
  delta Mine.hd
  k_fill
  intro w s₀ s₁ mg mb G Y fa o pm cd doc dV kV ho hd hcd hD hmg hg args vals as hpre hlay hrd hwl hlo
  have KX := kIn_of Y
  refine Ground.open G ?_
  intro T B D TE TW
  have e1 := mg_of (n := Str.ofString "law") (v := .ref 168) KX T.g (by k_is)
  have e2 := mg_of (n := Str.ofString "format_witnesses") (v := .ref 109) KX T.g (by k_is)
  rw [hmg] at e1
  cases e1
  wrow_args hpre hlay hrd hwl hlo
  rename_i ns _ _ _ _ _ _ _ l vs _ hIl _ _ _ hI _ hz _
  have ho2 : s₁.heap.get? 109 = some _ := KX 109 _ rfl
  obtain ⟨c, P, he, B0⟩ := based_of_top (name := Str.ofString "format_witnesses") T rfl e2 ho2 rfl
  have he2 : c = 108 := by
    have : (.ref 108 : Value) = .ref c := he
    cases this; rfl
  subst he2
  have ho3 : s₁.heap.get? 108 = some _ := KX 108 _ rfl
  have hP : P = 104 := by
    obtain ⟨⟨o4, vs4, e4, r4⟩, _⟩ := B0.tab
    rw [show s₁.heap.get? 108 = _ from ho3] at e4
    cases e4
    obtain ⟨_, rd, rp⟩ := r4
    cases rd
    have : (some (.ref 104) : Option Value) = some (.ref P) := rp
    cases this; rfl
  subst hP
  have C := Mine.law_c w l vs ns hI (by omega) s₁.heap
  refine C _ _ _ mg mb callerA s₁.heap s₁ _ _ rfl ?_ ?_ (below_caller s₁.heap) KX T ⟨hIl, ?_, B0⟩ ?_
  · decide
  · decide
  · rw [hg]; exact AllBare.empty
  · rintro v s' ⟨rfl, hO, hb, hos⟩
    refine ⟨.inl ⟨_, _, _, rfl, fun _ => rfl, ReadsW.bool true, ?post, fun _ => ⟨List.nodup_nil, fun _ h => nomatch h⟩⟩, hO, hos, hb⟩
    case post =>
      unfold RowW.claim
      dsimp only
      rw [Bool.and_eq_true_iff]
      refine ⟨by rfl, ?_⟩
      unfold WTm.holds
      unfold OpenLaw.row
      dsimp only
      simp only [WTm.value]
      rw [show W.same (WData.bool true) (WData.bool true) = true by simp [W.same]]
