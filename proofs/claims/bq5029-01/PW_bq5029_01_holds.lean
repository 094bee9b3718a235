import PyProof.Rows.All
import Wide.All
import OpenK.AllK
import Wide.FinOn
import PyProof.EqKinds
import PyProof.NeKinds
import PySem.Challenge.RW_bq5029_01
set_option Elab.async false
namespace Mine
open PySem PySem.W PyProof.Rows
set_option maxRecDepth 100000 in
set_option maxHeartbeats 8000000 in
open_top hd for PySem.Challenge.rw_bq5029_01

end Mine
/-- the walk's refs as a fresh process has them: open_top leaves walkTop true -/
theorem Mine.off_Base : True := by
  w_top off
  k_with_none
  trivial
set_option maxRecDepth 100000
namespace Mine
open PySem PySem.W PyProof.Rows PySem.Calls

abbrev P0 : Program := PySem.Challenge.rw_bq5029_01.row.prog

abbrev AT (dp un : Nat) (env : Env) (outer : List Env) : Around := { handled := none, depth := dp, frames := some (env :: outer), guards := some [], units := un }

structure AIn (A : Around) (dp un : Nat) (env : Env) (outer : List Env) : Prop where
  h : A.handled = none
  d : A.depth ≤ dp
  f : A.frames = some (env :: outer)
  g : A.guards = some []
  u : A.units ≤ un

theorem codeAny_room {M : Model} {A : Around} {dp un : Nat} {env : Env} {outer : List Env} {c : Code} {R : Result → Shared → Prop} {s : Shared} (x : AIn A dp un env outer)
    (h : codeAny M (AT dp un env outer) c R s) : codeAny M A c R s := fun Γ p hc hΓ => by
  refine h Γ p hc ⟨hΓ.1.trans x.h, Nat.le_trans hΓ.2.1 x.d, fun l hl => ?_, fun g hg => ?_, Nat.le_trans hΓ.2.2.2.2 x.u⟩
  · exact hΓ.2.2.1 l (x.f.trans hl)
  · exact hΓ.2.2.2.1 g (x.g.trans hg)

/-- all but the addresses of `own` stand in g as they stood in h -/
abbrev KeepBut (h : Heap) (own : List Addr) (g : Heap) : Prop := ∀ b o, b ∉ own → h.get? b = some o → g.get? b = some o

section
variable {prog : Program} {w : World} {A₀ A : Around} {s : Shared} {base h₀ : Heap} {outer : List Env} {L : Addr} {m mg mb : Str → Option Value} {env : Env} {own : List (Addr × Obj)} {K : Frag} {p : Program} {loose : List Str} {mean : ExcName → Option Value}
  {Q E : Value → Shared → Prop} {name qual : Str} {params : Arguments} {body : List Stmt} {scope : Scope} {dV kV doc pm cdv ct oc : Value} {an od : Option Addr} {osl : Array (Option Value)} {f : Addr} {vals : List Value} {binds : List (Str × Value)} {dp un : Nat}

abbrev OwnR (own : List (Addr × Obj)) (s : Shared) (Q E : Value → Shared → Prop) : Result → Shared → Prop := fun r s' => match r with
  | .ok (.ret v) => KeepBut s.heap (own.map (·.1)) s'.heap → Q v s'
  | .ok _ => False
  | .error e => E e s'

theorem call_own (x : AIn A dp un env outer) (B : Below A₀ base outer h₀) (F : Fr h₀ L s.heap m) (X₀ : K.In h₀) (N : News h₀ L s.heap own) (T : Top p loose mean mg mb h₀) (hf : env.frame = some L) (hke : env.scope.kind = .function)
    (ho : K.lookup f = some ⟨oc, od, .func (fnOf name qual params body scope dV kV doc pm an cdv ct), osl⟩) (hcd : codeIn K cdv qual = true) (hroom : dp < recursionLimit)
    (hbind : BindsTo s (fnOf name qual params body scope dV kV doc pm an cdv ct) ⟨vals, []⟩ binds) (hloc : ∀ y ∈ binds, scope.names.lookup y.1 = some .local)
    (h : ∀ g L' h₁, KeepBut s.heap (own.map (·.1)) g → Fr h₀ L g m → Fr g L' h₁ (fun y => binds.reverse.lookup y) → News g L' h₁ own → Below (AT dp un env outer) base (env :: outer) g → K.In g → Top p loose mean mg mb g → (∀ p ∈ own, p.1 < L') →
      wpAny (model prog w) ((AT dp un env outer).deeper (envOf qual scope L' f cdv)) (execs body (envOf qual scope L' f cdv))
        (fun fl s' => LeaveK h₀ L m g (OwnR own s Q E) (match fl with | .ret v => v | _ => .none) s')
        (fun e s' => wpAny (model prog w) ((AT dp un env outer).deeper (envOf qual scope L' f cdv)) (leaving (envOf qual scope L' f cdv) e) (fun _ s'' => E e s'') (fun e' s'' => E e' s'') s')
        { s with heap := h₁, toks := s.toks + binds.length })
    (hco : scope.isCoroutine = false) (hgen : scope.isGenerator = false) (hk : scope.kind = .function)
    (hcell : ∀ x ∈ scope.names, x.2 ≠ .cell) : wpAny (model prog w) A (call (.ref f) vals) Q E s := by
  refine wpAny_call (codeAny_room x ?_)
  have hA : (AT dp un env outer).frames = some (env :: outer) := rfl
  obtain ⟨FG, BG, st, lv⟩ := groundX (A := AT dp un env outer) (R := OwnR own s Q E) B F N hA hf hke
  have BG' : Below (AT dp un env outer) base (env :: outer) (hideAll s.heap (own.map (·.1))) := BG
  refine codeAny_call_def (fd := fnOf name qual params body scope dV kV doc pm an cdv ct) (body := body) (binds := binds) hroom ((X₀.keeps F.keep) _ _ ho) rfl (T.nolimit.keeps F.keep) (codeRec_of (X₀.keeps F.keep) hcd) rfl hbind hcell hloc (fun h₁ hns hk₁ => ?_) hco hgen hk
  have up : KeepBut s.heap (own.map (·.1)) (hideAll s.heap (own.map (·.1))) := fun b o n e => hideAll_get _ e n
  refine wpAny_mono (h _ s.heap.objs.size h₁ up FG ⟨hns, fun b o e => hk₁ b o (of_hideAll _ e), Nat.le_of_eq (hideAll_size _ _)⟩
    (fun p hp => ⟨hk₁ _ _ (N p hp).1, Nat.ne_of_lt (Heap.lt_size (N p hp).1), hideAll_none _ (List.mem_map_of_mem hp)⟩) BG' (X₀.keeps st) (T.keeps st) (fun p hp => Heap.lt_size (N p hp).1)) (fun fl s' hl => ?_) fun _ _ y => y
  have h2 := lv _ _ hl
  obtain ⟨_, _, _, F', _, _⟩ := hl
  exact h2 fun b o n e => F'.keep b o (up b o n e)
end
end Mine

/-- the walk's refs as a fresh process has them: open_top leaves walkTop true -/
theorem Mine.off_Next : True := by
  w_top off
  k_with_none
  trivial
set_option maxRecDepth 100000
namespace Mine
open PySem PySem.W PyProof.Rows PySem.Calls

/-- the state list: the ints' list, the place, the number -/
abbrev stObj (l : Addr) (i : Int) (ti : Tok) (x : Int) (tx : Tok) (n : Nat) : Obj := listOf #[.ref l, .int i ti, .int x tx] n

theorem fmod_in (a : Int) {k : Int} (hk : 0 < k) : 0 ≤ a.fmod k ∧ a.fmod k < k := by
  rw [Int.fmod_eq_emod_of_nonneg _ (Int.le_of_lt hk)]
  exact ⟨Int.emod_nonneg _ (by omega), Int.emod_lt_of_pos _ hk⟩

section
variable {w : World} {A₀ A : Around} {s : Shared} {base h₀ : Heap} {outer : List Env} {L : Addr} {m mg mb : Str → Option Value} {env : Env} {p : Program} {loose : List Str} {mean : ExcName → Option Value}
    {Q E : Value → Shared → Prop} {a l : Addr} {i x : Int} {ti tx tk : Tok} {n : Nat} {vs : List Value} {ns : List Int} {k : Int}
set_option maxHeartbeats 4000000 in
theorem next_call (hA : AIn A 900 2000 env outer) (B : Below A₀ base outer h₀) (F : Fr h₀ L s.heap m) (X₀ : (hd.heap_39 w.params).In h₀) (T : Top p loose mean mg mb h₀) (hf : env.frame = some L) (hke : env.scope.kind = .function)
    (N : News h₀ L s.heap [(a, stObj l i ti x tx n)]) (hl : s.heap.IsList l vs.toArray) (hi : IntsAre vs ns) (hlen : ns.length ≤ 63)
    (b1 : 0 ≤ i) (b2 : i ≤ ns.length) (b3 : 0 ≤ x) (b4 : x < 2147483647) (b5 : 1 ≤ k) (b6 : k ≤ 64)
    (ret : ∀ (r : Int) (t : Tok) (i' : Int) (ti' : Tok) (x' : Int) (tx' : Tok) (h' : Heap) (tk' : Nat), 0 ≤ r → r < k → 0 ≤ i' → i' ≤ ns.length → 0 ≤ x' → x' < 2147483647 → Fr h₀ L h' m → h'.get? a = some (stObj l i' ti' x' tx' n) → KeepBut s.heap [a] h' →
      Q (.int r t) { s with heap := h', toks := tk' }) :
    wpAny (model PySem.Challenge.rw_bq5029_01.row.prog w) A (call (.ref 35) [.ref a, .int k tk]) Q E s := by
  revert X₀; k_fill; intro X₀
  refine' call_own (binds := [(Str.ofString "state", .ref a), (Str.ofString "many", .int k tk)]) hA B F X₀ N T hf hke ?ho ?hcd ?hroom ?hbind ?hloc ?_ ?c2 ?c3 ?c4 ?c5
  case ho => k_is
  case hcd => k_is
  case hroom => decide
  case hbind => exact BindsTo.of_eq rfl
  case hloc => exact locs rfl
  case c2 => exact rfl
  case c3 => exact rfl
  case c4 => exact rfl
  case c5 => decide
  intro g' L' h' up' FG' F' N' B' X' T' l1
  k_fold
  have hg : g'.IsList l vs.toArray := by
    obtain ⟨o, ho, hc, hd⟩ := hl
    refine ⟨o, up' l o ?_ ho, hc, hd⟩
    intro hm
    have e : l = a := List.mem_singleton.mp hm
    subst e
    have h2 := (N _ (List.mem_singleton.mpr rfl)).1
    rw [ho] at h2
    cases h2
    obtain ⟨n', hd⟩ := hd
    cases hd
    cases hi
  clear hl N F up' FG'
  k_steps
  all_goals
    refine ret _ _ _ _ _ _ _ _ (fmod_in _ (by omega)).1 (fmod_in _ (by omega)).2 ?_ ?_ (fmod_in _ (by omega)).1 (fmod_in _ (by omega)).2 (by assumption) (News.get (h₀ := h₀) (by assumption) (.head _)) (by assumption)
  all_goals omega
end
end Mine

/-- the walk's refs as a fresh process has them: open_top leaves walkTop true -/
theorem Mine.off_Step : True := by
  w_top off
  k_with_none
  trivial
set_option maxRecDepth 100000
namespace Mine
open PySem PySem.W PyProof.Rows PySem.Calls

theorem UpdF_keep {h₀ h h' : Heap} {L a : Addr} {o o' : Obj} {news : List (Addr × Obj)} {g : Obj → List (Addr × Obj)} (N : News h₀ L h news) (U : UpdF a o news g) (hk : KeepBut h [a] h') (ha : h'.get? a = some o') : News h₀ L h' (g o') := by
  obtain ⟨pre, post, rfl, hg, h1, h2⟩ := U.split
  rw [hg]
  intro p hp
  have old : ∀ q ∈ pre ++ (a, o) :: post, q.1 ≠ a → h'.get? q.1 = some q.2 ∧ q.1 ≠ L ∧ h₀.get? q.1 = none := fun q hq hne => ⟨hk _ _ (by simpa using hne) (N q hq).1, (N q hq).2⟩
  rcases List.mem_append.mp hp with hp | hp
  · exact old p (List.mem_append_left _ hp) (h1 p hp)
  · rcases List.mem_cons.mp hp with rfl | hp
    · exact ⟨ha, (N (a, o) (List.mem_append_right _ (.head _))).2⟩
    · exact old p (List.mem_append_right _ (.tail _ hp)) (h2 p hp)
theorem UpdF_mem {a : Addr} {o : Obj} {news : List (Addr × Obj)} {g : Obj → List (Addr × Obj)} (U : UpdF a o news g) : (a, o) ∈ news := by
  obtain ⟨pre, post, rfl, _⟩ := U.split
  exact List.mem_append_right _ (.head _)
theorem News.one {h₀ h : Heap} {L a : Addr} {o : Obj} {news : List (Addr × Obj)} (N : News h₀ L h news) (hm : (a, o) ∈ news) : News h₀ L h [(a, o)] := fun p hp => by
  rw [List.mem_singleton.mp hp]; exact N _ hm

section
variable {w : World} {A₀ A : Around} {s : Shared} {base h₀ : Heap} {outer : List Env} {L : Addr} {m mg mb : Str → Option Value} {env : Env} {p : Program} {loose : List Str} {mean : ExcName → Option Value}
    {Q E : Value → Shared → Prop} {a l : Addr} {i x : Int} {ti tx tk : Tok} {n : Nat} {vs : List Value} {ns : List Int} {k : Int} {news : List (Addr × Obj)} {g : Obj → List (Addr × Obj)}
theorem next_step (hA : AIn A 900 2000 env outer) (B : Below A₀ base outer h₀) (F : Fr h₀ L s.heap m) (X₀ : (hd.heap_39 w.params).In h₀) (T : Top p loose mean mg mb h₀) (hf : env.frame = some L) (hke : env.scope.kind = .function)
    (N : News h₀ L s.heap news) (U : UpdF a (stObj l i ti x tx n) news g) (hl : s.heap.IsList l vs.toArray) (hi : IntsAre vs ns) (hlen : ns.length ≤ 63)
    (b : 0 ≤ i ∧ i ≤ ns.length ∧ 0 ≤ x ∧ x < 2147483647) (b5 : 1 ≤ k) (b6 : k ≤ 64)
    (ret : ∀ (r : Int) (t : Tok) (i' : Int) (ti' : Tok) (x' : Int) (tx' : Tok) (h' : Heap) (tk' : Nat), 0 ≤ r → r < k → (0 ≤ i' ∧ i' ≤ ns.length ∧ 0 ≤ x' ∧ x' < 2147483647) → Fr h₀ L h' m → News h₀ L h' (g (stObj l i' ti' x' tx' n)) →
      Q (.int r t) { s with heap := h', toks := tk' }) :
    wpAny (model PySem.Challenge.rw_bq5029_01.row.prog w) A (call (.ref 35) [.ref a, .int k tk]) Q E s :=
  next_call hA B F X₀ T hf hke (News.one N (UpdF_mem U)) hl hi hlen b.1 b.2.1 b.2.2.1 b.2.2.2 b5 b6 fun r t i' ti' x' tx' h' tk' r1 r2 c1 c2 c3 c4 F' ha hk =>
    ret r t i' ti' x' tx' h' tk' r1 r2 ⟨c1, c2, c3, c4⟩ F' (UpdF_keep N U hk ha)
end
end Mine

/-- the walk's refs as a fresh process has them: open_top leaves walkTop true -/
theorem Mine.off_StrComp : True := by
  w_top off
  k_with_none
  trivial
set_option maxRecDepth 100000
namespace Mine
open PySem PySem.W PyProof.Rows PySem.Calls PyProof.Rows.LCg

section
variable {prog : Program} {w : World} {A : Around} {E : Value → Shared → Prop} {s : Shared} {h₀ : Heap} {L : Addr} {m : Str → Option Value} {env : Env}

theorem pyIter_strO {x : Str} {t : Tok} {Q : Value → Shared → Prop} (hh : A.handled = none)
    (hQ : ∀ (o : Obj) (St : Nat → Heap → Prop), Walks prog w A s.heap.objs.size [s.heap.objs.size] [s.heap.objs.size] x.cps.size (SignAt x) St → (∀ i h, St i h → ∃ o, h.get? s.heap.objs.size = some o) → St 0 (s.heap.push o) →
      Q (.ref s.heap.objs.size) { s with heap := s.heap.push o }) : wpAny (model prog w) A (pyIter (.str x t)) Q E s := by
  cases ha : x.cps.all (· < 128)
  · exact wpAny_pyIter_wide ha (hQ _ _ (Walks.strWide hh _ x t) (fun _ _ st => let ⟨o, e, _⟩ := st; ⟨o, e⟩) ⟨_, Heap.get?_push_size _ rfl, rfl, rfl⟩)
  · exact wpAny_pyIter_ascii ha (hQ _ _ (Walks.strAscii hh _ x t) (fun _ _ st => let ⟨o, e, _⟩ := st; ⟨o, e⟩) ⟨_, Heap.get?_push_size _ rfl, rfl, rfl⟩)

def SrcS (prog : Program) (w : World) (A : Around) (h₀ : Heap) (L : Addr) (m : Str → Option Value) (env : Env) (elt : Expr) (x : Str) (scope : Scope) (cl : List (Str × Addr)) (Fin : Shared → List Value → List (Addr × Obj) → Prop) (xv : Value) (s₁ : Shared) : Prop :=
  ∃ y t news, xv = .str y t ∧ A.handled = none ∧ Fr h₀ L s₁.heap m ∧ News h₀ L s₁.heap news ∧ y.cps.size ≤ sizeLine ∧
    ∀ s₂ : Shared, (∃ h, s₂ = { s₁ with heap := h }) → CompRest prog w A h₀ L m env elt x scope cl s₂ (fun _ => True) (SignAt y) (Fin s₂) y.cps.size 0 [] news

theorem Assign_ListComp_S {elt iter : Expr} {x y : Str} {px py : Pos} {scope : Scope} {cl : List (Str × Addr)} {pos spos : Pos} {Q : Flow → Shared → Prop} (F₀ : Fr h₀ L s.heap m) (hLe : env.locals = L)
    (hsw : swapsWith (.ListComp elt [⟨.Name x px, iter, [], 0⟩] scope pos) (some (.Name y py)) spos.line env = pure true)
    (hclos : closureFor scope env = pure cl) (hcell : ∀ z ∈ scope.names, z.2 ≠ .cell) (hkind : scope.kind = .function)
    (hnames : ∀ z ∈ scope.names, z.2 = .local → scope.names.lookup z.1 = some .local) (hx : scope.names.lookup x = some .local)
    (hy : env.kindOf y = some .local) (hp : (env.scope.kind == .class || (env.scope.kind == .module && env.locals != env.globals)) = false)
    (h : wpAny (model prog w) A (eval iter env) (SrcS prog w A h₀ L m env elt x scope cl (fun s₂ => FinA h₀ L m s₂ y Q)) E s)
    (hs : ∀ x, foldedSetIterable iter env x = pure x := by intro _; rfl) :
    wpAny (model prog w) A (exec (.Assign [.Name y py] (.ListComp elt [⟨.Name x px, iter, [], 0⟩] scope pos) spos) env) Q E s := by
  subst hLe
  rw [exec_Assign_Name_used _ _ _ _ hsw]
  refine wpAny_bind (wpAny_standAt (wpAny_bind ?_))
  show wpAny _ A (do let _ ← comprehension (.ListComp elt [⟨.Name x px, iter, [], 0⟩] scope pos) scope env _ (newList []) false (eval iter env) (some (assign (.Name y py) env))) _ _ s
  refine wpAny_bind (wpAny_mono (wpAny_comprehension_free (use := some (assign (.Name y py) env)) (Q := fun _ s' => Q .next s') rfl hs hclos hkind hnames
    (wpAny_mono h (fun xv s₁ h₁ => ?_) fun _ _ e => e)) (fun _ s' hq => wpAny_pure (wpAny_pure hq)) fun _ _ e => e)
  obtain ⟨yt, tt, news, rfl, hh, F, N, hsz, R⟩ := h₁
  refine pyIter_strO hh fun o St W hIo hst => ?_
  refine block_U W hsz hIo (fun i h h' o nw st e e' _ _ _ => W.frame i h h' st fun b hb o' eb => ?_) hcell hkind hx hst (fun b hb => ?_)
    (F.keeps fun _ _ e => Heap.get?_push_of_some _ e) (N.grown fun _ _ e => Heap.get?_push_of_some _ e) (Nat.ne_of_lt F.ns.lt) (next_is_new F) (fun p hp => Nat.ne_of_lt (Heap.lt_size (N p hp).1)) trivial (R _ ⟨_, rfl⟩) ?_
  · rw [List.mem_singleton.mp hb] at eb ⊢
    rw [e] at eb; cases eb; exact e'
  · rw [List.mem_singleton.mp hb]
    show s₁.heap.objs.size < (s₁.heap.push _).objs.size
    rw [Heap.size_push]; exact Nat.lt_succ_self _
  · intro D C h' tk m' ys news' F' N' o1 hn hC₀ hD₀ hCL hDL hCD offC fin
    show wpAny _ A (assign (.Name y py) env (.ref D)) _ _ _
    refine wpAny_assign_Name (wpAny_storeName_local hy F'.ns (fun h₂ hn₂ hs₂ => ?_) hp)
    have hL₀ : h₀.get? env.locals = none := Heap.get?_none_of_le F'.above
    have F₂ : Fr h₀ env.locals h₂ (fun z => if z = y then some (.ref D) else m z) := ⟨hn₂, fun b o e => hs₂.extBut b o (fun q => by rw [q, hL₀] at e; cases e) (F'.keep b o e), F'.above⟩
    refine ⟨m', hn.sameBut hs₂ hCL, fun h'' hs'' => fin D h'' _ (F₂.change hs'' hCL hC₀) (fun p hp => ?_) o1⟩
    have z : h₂.get? p.1 = some p.2 := hs₂.extBut _ _ (N' p hp).2.1 (N' p hp).1
    refine ⟨hs''.extBut _ _ ?_ z, (N' p hp).2⟩
    rcases List.mem_cons.mp hp with rfl | hp
    · exact Ne.symm hCD
    · exact offC p hp
end
end Mine

/-- the walk's refs as a fresh process has them: open_top leaves walkTop true -/
theorem Mine.off_CallC : True := by
  w_top off
  k_with_none
  trivial
set_option maxRecDepth 100000
namespace Mine
open PySem PySem.W PyProof.Rows PySem.Calls

section
variable {prog : Program} {w : World} {A₀ A : Around} {s : Shared} {base h₀ : Heap} {outer : List Env} {L : Addr} {m mg mb : Str → Option Value} {env : Env} {own : List (Addr × Obj)} {K : Frag} {p : Program} {loose : List Str} {mean : ExcName → Option Value}
  {Q E : Value → Shared → Prop} {name qual : Str} {params : Arguments} {body : List Stmt} {scope : Scope} {dV kV doc pm cdv ct oc : Value} {an od : Option Addr} {osl : Array (Option Value)} {f : Addr} {vals : List Value} {binds : List (Str × Value)} {dp un : Nat}

/-- a call of a def of the text that has cells, over a small ledger: all else is kept -/
theorem call_ownC (x : AIn A dp un env outer) (B : Below A₀ base outer h₀) (F : Fr h₀ L s.heap m) (X₀ : K.In h₀) (N : News h₀ L s.heap own) (T : Top p loose mean mg mb h₀) (hf : env.frame = some L) (hke : env.scope.kind = .function)
    (ho : K.lookup f = some ⟨oc, od, .func (fnOf name qual params body scope dV kV doc pm an cdv ct), osl⟩) (hcd : codeIn K cdv qual = true) (hroom : dp < recursionLimit)
    (hbind : BindsTo s (fnOf name qual params body scope dV kV doc pm an cdv ct) ⟨vals, []⟩ binds) (hkind : (binds.all fun y => scope.names.lookup y.1 == some .local || scope.names.lookup y.1 == some .cell) = true)
    (hnd : ((cellsFrom 0 scope.names []).map (·.1)).Nodup)
    (h : ∀ g L' h₁ tk cells, KeepBut s.heap (own.map (·.1)) g → Fr h₀ L g m → Fr g L' h₁ (bindL (envOfC qual scope L' f cdv).kindOf binds fun _ => none) → News g L' h₁ (cells ++ own) →
      CellsAre (bindC (envOfC qual scope L' f cdv).kindOf binds fun _ => none) (cellsFrom (L' + 1) scope.names []) cells → Below (AT dp un env outer) base (env :: outer) g → K.In g → Top p loose mean mg mb g → (∀ p ∈ own, p.1 < L') →
      wpAny (model prog w) ((AT dp un env outer).deeper (envOfC qual scope L' f cdv)) (execs body (envOfC qual scope L' f cdv))
        (fun fl s' => LeaveK h₀ L m g (OwnR own s Q E) (match fl with | .ret v => v | _ => .none) s')
        (fun e s' => wpAny (model prog w) ((AT dp un env outer).deeper (envOfC qual scope L' f cdv)) (leaving (envOfC qual scope L' f cdv) e) (fun _ s'' => E e s'') (fun e' s'' => E e' s'') s')
        { s with heap := h₁, toks := tk })
    (hco : scope.isCoroutine = false) (hgen : scope.isGenerator = false) (hk : scope.kind = .function) : wpAny (model prog w) A (call (.ref f) vals) Q E s := by
  refine wpAny_call (codeAny_room x ?_)
  obtain ⟨FG, BG, st, lv⟩ := groundX (A := AT dp un env outer) (R := OwnR own s Q E) B F N rfl hf hke
  have up : KeepBut s.heap (own.map (·.1)) (hideAll s.heap (own.map (·.1))) := fun b o n e => hideAll_get _ e n
  have X := X₀.keeps F.keep
  refine codeAny_call_function hroom (X _ _ ho) rfl hco hgen rfl (codeRec_of X hcd) (hbind _ _ _ _ ?_)
  refine wpAny_newFunctionEnv_cells hk (kindsX hkind _) fun env' he s' y => ?_
  subst he
  refine ⟨(T.nolimit.keeps F.keep).keeps y.toInCall.keep, codeAny_func ?_⟩
  obtain ⟨h₁, tk, rfl, _⟩ := y.done
  have kk := y.toInCall.keep
  obtain ⟨cells, NC, Y⟩ := Cl.news (h₀ := s.heap) (Nat.le_refl _) fun n c hm => ⟨y.cell n c (lookup_of_mem_nodup (cellsFrom_names scope.names 0 (s.heap.objs.size + 1) [] [] rfl ▸ hnd) hm), y.above n c hm⟩
  have N' : News (hideAll s.heap (own.map (·.1))) s.heap.objs.size h₁ (cells ++ own) := fun q hq => (List.mem_append.mp hq).elim
    (fun hq => ⟨(NC q hq).1, (NC q hq).2.1, by
      cases z : (hideAll s.heap (own.map (·.1))).get? q.1 with
      | none => rfl
      | some o => have z' := of_hideAll _ z; rw [(NC q hq).2.2] at z'; cases z'⟩)
    fun hq => ⟨kk _ _ (N q hq).1, Nat.ne_of_lt (Heap.lt_size (N q hq).1), hideAll_none _ (List.mem_map_of_mem hq)⟩
  have F' : Fr (hideAll s.heap (own.map (·.1))) s.heap.objs.size h₁ (bindL (envOfC qual scope s.heap.objs.size f cdv).kindOf binds fun _ => none) := ⟨y.toInCall.ns, fun b o e => kk b o (of_hideAll _ e), Nat.le_of_eq (hideAll_size _ _)⟩
  refine wpAny_mono (h _ s.heap.objs.size h₁ tk cells up FG F' N' Y BG (X₀.keeps st) (T.keeps st) fun q hq => Heap.lt_size (N q hq).1) (fun fl s' hl => ?_) fun _ _ z => z
  have h2 := lv _ _ hl
  obtain ⟨_, _, _, F'', _, _⟩ := hl
  exact h2 fun b o n e => F''.keep b o (up b o n e)
end
end Mine

/-- the walk's refs as a fresh process has them: open_top leaves walkTop true -/
theorem Mine.off_Great : True := by
  w_top off
  k_with_none
  trivial
set_option maxRecDepth 100000
namespace Mine
open PySem PySem.W PyProof.Rows PySem.Calls PyProof.V

def greatD : List (PyData × PyData) := [("a", "A"), ("e", "E"), ("f", "F"), ("l", "L"), ("n", "N"), ("o", "O"), ("r", "R"), ("s", "S"), ("t", "T"), ("u", "U"), ("y", "Y")].map fun p => (.str (Str.ofString p.1), .str (Str.ofString p.2))

section
variable {w : World} {A₀ A : Around} {s : Shared} {base h₀ : Heap} {outer : List Env} {L : Addr} {m mg mb : Str → Option Value} {env : Env} {p : Program} {loose : List Str} {mean : ExcName → Option Value}
    {Q E : Value → Shared → Prop}
set_option maxHeartbeats 4000000 in
theorem great_call (hA : AIn A 900 2000 env outer) (B : Below A₀ base outer h₀) (F : Fr h₀ L s.heap m) (X₀ : (hd.heap_39 w.params).In h₀) (T : Top p loose mean mg mb h₀) (hf : env.frame = some L) (hke : env.scope.kind = .function)
    (ret : ∀ (d : Addr) (h' : Heap) (tk' : Nat), Fr h₀ L h' m → (∀ b o, s.heap.get? b = some o → h'.get? b = some o) → StrTab PySem.Challenge.rw_bq5029_01.row.prog w h' d greatD → Q (.ref d) { s with heap := h', toks := tk' }) :
    wpAny (model PySem.Challenge.rw_bq5029_01.row.prog w) A (call (.ref 71) []) Q E s := by
  revert X₀; k_fill; intro X₀
  refine' call_own (own := []) (binds := []) hA B F X₀ News.nil T hf hke ?ho ?hcd ?hroom ?hbind ?hloc ?_ ?c2 ?c3 ?c4 ?c5
  case ho => k_is
  case hcd => k_is
  case hroom => decide
  case hbind => exact BindsTo.of_eq rfl
  case hloc => exact locs rfl
  case c2 => exact rfl
  case c3 => exact rfl
  case c4 => exact rfl
  case c5 => decide
  intro g' L' h' up' FG' F' N' B' X' T' l1
  k_fold
  clear F up' FG'
  k_steps
  rename KeepBut _ _ _ => kp
  refine ret _ _ _ (by assumption) (fun b o e => kp b o (by simp) e) ?_
  exact TabAt.ofNews (h₀ := h₀) (by assumption) (.head _) (by assumption) (by assumption) (by assumption)
theorem great_step {news : List (Addr × Obj)} (hA : AIn A 900 2000 env outer) (B : Below A₀ base outer h₀) (F : Fr h₀ L s.heap m) (X₀ : (hd.heap_39 w.params).In h₀) (T : Top p loose mean mg mb h₀) (hf : env.frame = some L) (hke : env.scope.kind = .function) (N : News h₀ L s.heap news)
    (ret : ∀ (d : Addr) (h' : Heap) (tk' : Nat), Fr h₀ L h' m → News h₀ L h' news → StrTab PySem.Challenge.rw_bq5029_01.row.prog w h' d greatD → Q (.ref d) { s with heap := h', toks := tk' }) :
    wpAny (model PySem.Challenge.rw_bq5029_01.row.prog w) A (call (.ref 71) []) Q E s :=
  great_call hA B F X₀ T hf hke fun d h' tk' F' k T' => ret d h' tk' F' (N.grown k) T'
end
end Mine

/-- the walk's refs as a fresh process has them: open_top leaves walkTop true -/
theorem Mine.off_Great2 : True := by
  w_top off
  k_with_none
  trivial
set_option maxRecDepth 100000
namespace Mine
open PySem PySem.W PyProof.Rows PySem.Calls PyProof.V PySem.Spec

def greats : List (Nat × Nat) := [(97, 65), (101, 69), (102, 70), (108, 76), (110, 78), (111, 79), (114, 82), (115, 83), (116, 84), (117, 85), (121, 89)]

theorem greatD_eq : greatD = greats.map fun p => (PyData.str ⟨#[p.1]⟩, PyData.str ⟨#[p.2]⟩) := by with_unfolding_all rfl

theorem look_of {c : Nat} : ∀ {l : List (Nat × Nat)}, (lookup (.str ⟨#[c]⟩) (l.map fun p => (PyData.str ⟨#[p.1]⟩, PyData.str ⟨#[p.2]⟩))).isSome = true →
    ∃ c', lookup (.str ⟨#[c]⟩) (l.map fun p => (PyData.str ⟨#[p.1]⟩, PyData.str ⟨#[p.2]⟩)) = some (.str ⟨#[c']⟩) ∧ (c, c') ∈ l
  | [], h => by cases h
  | (a, b) :: r, h => by
    simp only [List.map_cons, Spec.lookup, same_str] at h ⊢
    by_cases e : (⟨#[a]⟩ : Str) = ⟨#[c]⟩
    · have e' : a = c := by
        have e1 := congrArg (fun x : Str => x.cps[0]?) e
        simpa using e1
      subst e'
      simp
    · simp only [e, decide_false, Bool.false_eq_true, if_false] at h ⊢
      obtain ⟨c', h1, h2⟩ := look_of h
      exact ⟨c', h1, .tail _ h2⟩
theorem great_of {c : Nat} (h : (lookup (.str ⟨#[c]⟩) greatD).isSome = true) : ∃ c', lookup (.str ⟨#[c]⟩) greatD = some (.str ⟨#[c']⟩) ∧ (c, c') ∈ greats := by
  rw [greatD_eq] at h ⊢
  exact look_of h
end Mine

/-- the walk's refs as a fresh process has them: open_top leaves walkTop true -/
theorem Mine.off_Dress : True := by
  w_top off
  k_with_none
  trivial
set_option maxRecDepth 100000
namespace Mine
open PySem PySem.W PyProof.Rows PySem.Calls PyProof.Rows.LCg

local macro_rules | `(tactic| walk_at "call ref") => `(tactic| (k_here; (with_reducible show wpAny _ _ (call (Value.ref 35) [Value.ref _, Value.int _ _]) _ _ _); k_dflt (refine' next_step ?hA ?B ?F ?X ?T ?hf ?hke ?N ?U ?hl ?hi ?hlen ?b ?b5 ?b6 ?_; (case hA => exact ⟨rfl, Nat.le_of_ble_eq_true rfl, rfl, rfl, Nat.le_of_ble_eq_true rfl⟩); (case B => k_asm); (case F => k_asm); (case X => k_asm); (case T => k_asm); (case hf => exact rfl); (case hke => exact rfl); (case N => k_asm); (case U => k_updF); (case hl => is_list); (case hi => assumption); (case hlen => assumption); (case b => assumption); (case b5 => decide); (case b6 => decide); k_whole); intro r' t' i' ti' x' tx' h' tk' r1' r2' b' F' N'; (try dsimp only at N'); (try k_sweep)))

local macro_rules | `(tactic| walk_at "call ref") => `(tactic| (k_here; (with_reducible show wpAny _ _ (call (Value.ref 71) _) _ _ _); k_dflt (refine' great_step ?hA ?B ?F ?X ?T ?hf ?hke ?N ?_; (case hA => exact ⟨rfl, Nat.le_of_ble_eq_true rfl, rfl, rfl, Nat.le_of_ble_eq_true rfl⟩); (case B => k_asm); (case F => k_asm); (case X => k_asm); (case T => k_asm); (case hf => exact rfl); (case hke => exact rfl); (case N => k_asm); k_whole); intro d' h' tk' F' N' T'; (try k_sweep)))

section
variable {prog : Program} {w : World} {A : Around} {h₀ : Heap} {L : Addr} {m : Str → Option Value} {env : Env} {elt : Expr} {x : Str} {scope : Scope} {cl : List (Str × Addr)} {s : Shared} {S : List (Addr × Obj) → Prop} {P : Nat → Value → Prop} {Fin : List Value → List (Addr × Obj) → Prop}
theorem rest_inv {n : Nat} (Inv : Nat → List Value → List (Addr × Obj) → Prop)
    (turn : ∀ i ys news v I oI C oC D m₂ h tk (E' : Value → Shared → Prop), i < n → Inv i ys news → P i v → NsObj oC m₂ → m₂ x = some v → Fr h₀ L h m → News h₀ L h ((I, oI) :: (C, oC) :: (D, lst ys) :: news) → Off3 I C D news → ((@Ne Nat I C) ∧ (@Ne Nat I D) ∧ (@Ne Nat C D)) →
      wpAny (model prog w) A (eval elt (compEnvC scope cl C env)) (CompEnd h₀ L m { s with heap := h, toks := tk } I oI C oC D (lst ys) S (fun y news' => Inv (i + 1) (ys ++ [y]) news')) E' { s with heap := h, toks := tk })
    (fin : ∀ ys news, Inv n ys news → Fin ys news) {news : List (Addr × Obj)} (h0 : Inv 0 [] news) : CompRest prog w A h₀ L m env elt x scope cl s S P Fin n 0 [] news := by
  have key : ∀ (j i : Nat) (ys : List Value) (news : List (Addr × Obj)), i + j = n → Inv i ys news → CompRest prog w A h₀ L m env elt x scope cl s S P Fin j i ys news := by
    intro j
    induction j with
    | zero => intro i ys news hi hy; exact CompRest.zero (fin ys news (by rw [show n = i by omega]; exact hy))
    | succ j ih =>
      intro i ys news hi hy
      refine CompRest.succ fun v I oI C oC D m₂ h tk E' hv hC hx F N off ne => ?_
      refine wpAny_mono (turn i ys news v I oI C oC D m₂ h tk E' (by omega) hy hv hC hx F N off ne) (fun y s₂ hq => ?_) fun _ _ e => e
      obtain ⟨h', tk', nw, e, F', N', off', hS, hI⟩ := hq
      exact ⟨h', tk', nw, e, F', N', off', hS, ih (i + 1) _ _ (by omega) hI⟩
  exact key n 0 [] news (by omega) h0
end

theorem great_item {prog : Program} {w : World} {A : Around} {E : Value → Shared → Prop} {s : Shared} {d : Addr} {c : Nat} {u : Tok} {Q : Value → Shared → Prop} (T : StrTab prog w s.heap d greatD) (hc : (Spec.lookup (.str ⟨#[c]⟩) greatD).isSome = true)
    (h : ∀ c' t, (c, c') ∈ greats → Q (.str ⟨#[c']⟩ t) { s with toks := s.toks + 1 }) : wpAny (model prog w) A (getItem (.ref d) (.str ⟨#[c]⟩ u)) Q E s := by
  obtain ⟨c', h1, h2⟩ := great_of hc
  refine getItem_tab PyProof.V.same_str (strKind_is _ _ _ _) T h1 fun v hv => ?_
  obtain ⟨t, rfl⟩ := hv.str_inv
  exact h c' t h2
local macro_rules | `(tactic| walk_at "getItem ref str") => `(tactic| (k_here; k_dflt (refine' great_item ?T ?c ?_; (case T => assumption); (case c => assumption); k_whole); intro c' t' hg'))
local macro_rules | `(tactic| walk_at "exec Assign cons ListComp") => `(tactic| (k_here; k_dflt (refine Assign_ListComp_S (F₀ := by k_asm) (by rfl) (by with_unfolding_all rfl) (by with_unfolding_all rfl) (by decide) (by rfl) (by decide) (by rfl) (by rfl) (by rfl) ?_)))

def Up1 (c c' : Nat) : Prop := c' = c ∨ (c, c') ∈ greats
inductive Ups : List Nat → List Nat → Prop
  | nil : Ups [] []
  | cons {c c' : Nat} {r r' : List Nat} : Up1 c c' → Ups r r' → Ups (c :: r) (c' :: r')
theorem Ups.snoc {c c' : Nat} (h : Up1 c c') : ∀ {r r' : List Nat}, Ups r r' → Ups (r ++ [c]) (r' ++ [c'])
  | _, _, .nil => .cons h .nil
  | _, _, .cons h1 h2 => .cons h1 (Ups.snoc h h2)
theorem StrsAre.snoc {x : Str} {t : Tok} : ∀ {vs : List Value} {ys : List Str}, StrsAre vs ys → StrsAre (vs ++ [.str x t]) (ys ++ [x])
  | _, _, .nil => .cons _ _ .nil
  | _, _, .cons z u r => .cons z u (StrsAre.snoc r)

theorem Ups.length : ∀ {r r' : List Nat}, Ups r r' → r'.length = r.length
  | _, _, .nil => rfl
  | _, _, .cons _ h => congrArg Nat.succ (Ups.length h)
theorem join_signs (us : List Nat) : Txt.join (Str.ofString "") (us.map fun c => (⟨#[c]⟩ : Str)) = ⟨us.toArray⟩ := by
  show Builtin.Str.glued (Str.ofString "") _ = _
  rw [StrLaws.glued_eq_join]
  have e0 : (Str.ofString "") = Str.mk #[] := by decide
  have key : ∀ us : List Nat, Str.join (Str.ofString "") (us.map fun c => (⟨#[c]⟩ : Str)) = ⟨us.toArray⟩ := by
    intro us
    induction us with
    | nil => rfl
    | cons c r ih =>
      cases r with
      | nil => rfl
      | cons d r =>
        show (⟨#[c]⟩ : Str) ++ Str.ofString "" ++ Str.join (Str.ofString "") ((d :: r).map fun c => (⟨#[c]⟩ : Str)) = _
        rw [ih, e0]
        refine Str.ext' (Array.toList_inj.mp ?_)
        rw [Str.cps_append, Str.cps_append]
        simp
  exact key us
theorem join_dress {prog : Program} {w : World} {A : Around} {E : Value → Shared → Prop} {s : Shared} {D : Addr} {ys : List Value} {us : List Nat} {t : Tok} {Q : Value → Shared → Prop} (hl : s.heap.IsList D ys.toArray) (hy : StrsAre ys (us.map fun c => (⟨#[c]⟩ : Str))) (hn : us.toArray.size ≤ 20)
    (h : ∀ t' k, Q (.str ⟨us.toArray⟩ t') { s with toks := k }) : wpAny (model prog w) A (call (.builtin "str.join") [.str (Str.ofString "") t, .ref D]) Q E s := by
  refine join_list (ys := us.map fun c => (⟨#[c]⟩ : Str)) hl (by simpa using hy) ?_ fun t' k => ?_
  · have e1 : ∀ us : List Nat, ((us.map fun c => (⟨#[c]⟩ : Str)).map (·.length)).sum = us.length := by
      intro us
      induction us with
      | nil => rfl
      | cons c r ih => rw [List.map_cons, List.map_cons, List.sum_cons, ih]; show 1 + r.length = _; rw [List.length_cons]; omega
    rw [e1, List.length_map]
    have e2 : (Str.ofString "").length = 0 := by decide
    rw [e2]; rw [List.size_toArray] at hn; omega
  · rw [join_signs]; exact h t' k
local macro_rules | `(tactic| walk_at "call builtin:str.join") => `(tactic| (k_here; k_dflt (refine' join_dress ?l ?y ?n ?_; (case l => is_list); (case y => assumption); (case n => assumption); k_whole); intro t' k'))

/-- what holds between the turns of the comprehension -/
def DInv (l c a : Addr) (oc : Obj) (n len : Nat) (wd : Str) (i : Nat) (ys : List Value) (news : List (Addr × Obj)) : Prop :=
  ∃ i' ti' x' tx' us, (0 ≤ i' ∧ i' ≤ (len : Int) ∧ 0 ≤ x' ∧ x' < 2147483647) ∧ news = [(c, oc), (a, stObj l i' ti' x' tx' n)] ∧ StrsAre ys (us.map fun c => (⟨#[c]⟩ : Str)) ∧ Ups (wd.cps.toList.take i) us

theorem DInv.snoc {l c a : Addr} {oc : Obj} {n len : Nat} {wd : Str} {j : Nat} {ys : List Value} {i' : Int} {ti' : Tok} {x' : Int} {tx' : Tok} {us : List Nat} {d d' : Nat} {t : Tok} (b : 0 ≤ i' ∧ i' ≤ (len : Int) ∧ 0 ≤ x' ∧ x' < 2147483647)
    (hys : StrsAre ys (us.map fun c => (⟨#[c]⟩ : Str))) (hus : Ups (wd.cps.toList.take j) us) (hc : wd.cps[j]? = some d) (hu : Up1 d d') : DInv l c a oc n len wd (j + 1) (ys ++ [.str ⟨#[d']⟩ t]) [(c, oc), (a, stObj l i' ti' x' tx' n)] := by
  refine ⟨i', ti', x', tx', us ++ [d'], b, rfl, ?_, ?_⟩
  · rw [List.map_append]; exact StrsAre.snoc hys
  · have e : wd.cps.toList[j]? = some d := by simpa using hc
    rw [List.take_add_one, e]
    exact Ups.snoc hu hus

abbrev blanks : List Str := [Str.ofString "", Str.ofString "", Str.ofString " ", Str.ofString "  ", Str.ofString "\t", Str.ofString "\n", Str.ofString "\r\n", Str.ofString "\x0b", Str.ofString "\x0c", Str.ofString " \t "]
theorem blank_all : ∀ r, r < 10 → blanks.getD r Str.empty ∈ blanks := by decide +kernel
theorem blank_at {r : Int} (h : r < 10) (h0 : 0 ≤ r) : blanks.getD r.toNat Str.empty ∈ blanks := blank_all _ (by omega)
theorem blank_len {b : Str} (h : b ∈ blanks) : b.length ≤ 4 := by
  have k : ∀ b ∈ blanks, b.length ≤ 4 := by decide +kernel
  exact k b h

/-- a word with drawn sizes of letters, between two blanks -/
def Dressed (wd d : Str) : Prop := ∃ b₁ b₂ us, b₁ ∈ blanks ∧ b₂ ∈ blanks ∧ Ups wd.cps.toList us ∧ d = b₁ ++ ⟨us.toArray⟩ ++ b₂

theorem add_small {prog : Program} {w : World} {A : Around} {E : Value → Shared → Prop} {s : Shared} {x y : Str} {t u : Tok} {Q : Value → Shared → Prop} (hx : x.length ≤ 64) (hy : y.length ≤ 64) (h : ∀ t' k, Q (.str (x ++ y) t') { s with toks := k }) :
    wpAny (model prog w) A (binaryOp .Add (.str x t) (.str y u)) Q E s := SB.add h (by rw [sizeLine_eq]; omega)
local macro_rules | `(tactic| walk_at "binaryOp Add str str") => `(tactic| (k_here; (first
  | (refine add_small (Nat.le_trans (blank_len (blank_at (by assumption) (by assumption))) (by decide)) (Nat.le_trans (by assumption) (by decide)) ?_; intro t' k')
  | (refine add_small ?dl (Nat.le_trans (blank_len (blank_at (by assumption) (by assumption))) (by decide)) ?_; (case dl => (rw [Str.length_append]; exact Nat.le_trans (Nat.add_le_add (blank_len (blank_at (by assumption) (by assumption))) (by assumption)) (by decide))); intro t' k'))))

section
variable {w : World} {A₀ A : Around} {s : Shared} {base h₀ : Heap} {outer : List Env} {L : Addr} {m mg mb : Str → Option Value} {env : Env} {p : Program} {loose : List Str} {mean : ExcName → Option Value}
    {Q E : Value → Shared → Prop} {a l : Addr} {i x : Int} {ti tx tk : Tok} {n : Nat} {vs : List Value} {ns : List Int} {wd : Str}
set_option maxHeartbeats 4000000 in
theorem dressed_call (hA : AIn A 800 1600 env outer) (B : Below A₀ base outer h₀) (F : Fr h₀ L s.heap m) (X₀ : (hd.heap_39 w.params).In h₀) (T : Top p loose mean mg mb h₀) (hf : env.frame = some L) (hke : env.scope.kind = .function)
    (N : News h₀ L s.heap [(a, stObj l i ti x tx n)]) (hl : s.heap.IsList l vs.toArray) (hi : IntsAre vs ns) (hlen : ns.length ≤ 63)
    (b : 0 ≤ i ∧ i ≤ ns.length ∧ 0 ≤ x ∧ x < 2147483647) (hw : wd.length ≤ 20)
    (ret : ∀ (d : Str) (t : Tok) (i' : Int) (ti' : Tok) (x' : Int) (tx' : Tok) (h' : Heap) (tk' : Nat), Dressed wd d → (0 ≤ i' ∧ i' ≤ ns.length ∧ 0 ≤ x' ∧ x' < 2147483647) → Fr h₀ L h' m → h'.get? a = some (stObj l i' ti' x' tx' n) → KeepBut s.heap [a] h' →
      Q (.str d t) { s with heap := h', toks := tk' }) :
    wpAny (model PySem.Challenge.rw_bq5029_01.row.prog w) A (call (.ref 76) [.ref a, .str wd tk]) Q E s := by
  revert X₀; k_fill; intro X₀
  refine' call_ownC (binds := [(Str.ofString "state", .ref a), (Str.ofString "word", .str wd tk)]) hA B F X₀ N T hf hke ?ho ?hcd ?hroom ?hbind ?hloc ?hnd ?_ ?c2 ?c3 ?c4
  case ho => k_is
  case hcd => k_is
  case hroom => decide
  case hbind => exact BindsTo.of_eq rfl
  case hloc => exact rfl
  case hnd => decide +kernel
  case c2 => exact rfl
  case c3 => exact rfl
  case c4 => exact rfl
  intro g' L' h' tk' cells' up' FG' F' N' Y' B' X' T' l1
  k_fold
  (try k_lt l1); k_cells Y'; (try simp only [List.cons_append, List.nil_append] at N')
  have hg : g'.IsList l vs.toArray := by
    obtain ⟨o, ho, hc, hd⟩ := hl
    refine ⟨o, up' l o ?_ ho, hc, hd⟩
    intro hm
    have e : l = a := List.mem_singleton.mp hm
    subst e
    have h2 := (N _ (List.mem_singleton.mpr rfl)).1
    rw [ho] at h2
    cases h2
    obtain ⟨n', hd⟩ := hd
    cases hd
    cases hi
  clear hl N F up' FG'
  k_steps
  dsimp only [bindC] at *
  refine ⟨wd, tk, _, rfl, rfl, by assumption, N', by show wd.length ≤ sizeLine; rw [sizeLine_eq]; omega, ?_⟩
  rintro s₂ ⟨h₂, rfl⟩
  refine rest_inv (DInv l (L' + 1) a _ n ns.length wd) ?_ ?_ ⟨i, ti, x, tx, [], b, rfl, .nil, by simpa using Ups.nil⟩
  · rintro j ys news v I oI C oC D m₂ h tk₂ E' hj ⟨i₁, ti₁, x₁, tx₁, us, b₁, rfl, hys, hus⟩ ⟨c, u, hc, rfl⟩ hC hx F₁ N₁ off ne
    simp only [LCg.Off3, and_true] at off
    dsimp only
    (try k_fold)
    k_steps
    · exact DInv.snoc (by assumption) hys hus hc (.inr (by assumption))
    · exact DInv.snoc (by assumption) hys hus hc (.inl rfl)
    · exact DInv.snoc (by assumption) hys hus hc (.inl rfl)
  · rintro ys news ⟨i₁, ti₁, x₁, tx₁, us, b₁, rfl, hys, hus⟩ D h tk₂ F₁ N₁ off
    simp only [LCg.Off1, and_true] at off
    have hun : (⟨us.toArray⟩ : Str).length ≤ 20 := by
      show us.toArray.size ≤ 20
      rw [List.size_toArray]
      have e1 := hus.length
      rw [List.length_take] at e1
      have e2 : wd.cps.toList.length = wd.length := Array.length_toList
      omega
    dsimp only
    (try k_fold)
    k_steps
    rename KeepBut _ _ _ => kp
    refine ret _ _ _ _ _ _ _ _ ⟨_, _, us, blank_at (by assumption) (by assumption), blank_at (by assumption) (by assumption), ?_, rfl⟩ (by assumption) (by assumption) (News.get (h₀ := h₀) (by assumption) (by k_mem)) kp
    rw [← List.take_length (l := wd.cps.toList), Array.length_toList]; exact hus
end
end Mine

/-- the walk's refs as a fresh process has them: open_top leaves walkTop true -/
theorem Mine.off_Word : True := by
  w_top off
  k_with_none
  trivial
set_option maxRecDepth 100000
namespace Mine
open PySem PySem.W PyProof.Rows PySem.Calls

abbrev yesW : List Str := [Str.ofString "true", Str.ofString "yes", Str.ofString "on", Str.ofString "y", Str.ofString "t", Str.ofString "1"]
abbrev noW : List Str := [Str.ofString "false", Str.ofString "no", Str.ofString "off", Str.ofString "n", Str.ofString "f", Str.ofString "0"]
abbrev neitherW : List Str := ["", "tru", "truee", "ye", "yess", "yes!", "o", "onn", "of", "offf", "fals", "falsee", "nope", "tt", "ff", "yy", "nn", "11", "00", "01", "10", "2", "-1", "1.0", "0.0", "none", "t rue", "o n", "y e s", "true false", "yes no", "١", "٠", "ｙ", "on\n0"].map Str.ofString

/-- what the law means by a word and its due -/
def WordOk (d : Str) (due : Value) : Prop := ∃ wd, Dressed wd d ∧ ((due = .bool true ∧ wd ∈ yesW) ∨ (due = .bool false ∧ wd ∈ noW) ∨ (due = .none ∧ wd ∈ neitherW))

abbrev pairObj (u v : Value) : Obj := { cls := .type "tuple", data := .seq [u, v].toArray }

section
variable {w : World} {A₀ A : Around} {s : Shared} {base h₀ : Heap} {outer : List Env} {L : Addr} {m mg mb : Str → Option Value} {env : Env} {p : Program} {loose : List Str} {mean : ExcName → Option Value}
    {Q E : Value → Shared → Prop} {a l : Addr} {i x : Int} {ti tx tk : Tok} {n : Nat} {vs : List Value} {ns : List Int} {k : Int} {news : List (Addr × Obj)} {g : Obj → List (Addr × Obj)} {wd : Str}
theorem dressed_step (hA : AIn A 800 1600 env outer) (B : Below A₀ base outer h₀) (F : Fr h₀ L s.heap m) (X₀ : (hd.heap_39 w.params).In h₀) (T : Top p loose mean mg mb h₀) (hf : env.frame = some L) (hke : env.scope.kind = .function)
    (N : News h₀ L s.heap news) (U : UpdF a (stObj l i ti x tx n) news g) (hl : s.heap.IsList l vs.toArray) (hi : IntsAre vs ns) (hlen : ns.length ≤ 63)
    (b : 0 ≤ i ∧ i ≤ ns.length ∧ 0 ≤ x ∧ x < 2147483647) (hw : wd.length ≤ 20)
    (ret : ∀ (d : Str) (t : Tok) (i' : Int) (ti' : Tok) (x' : Int) (tx' : Tok) (h' : Heap) (tk' : Nat), Dressed wd d → (0 ≤ i' ∧ i' ≤ ns.length ∧ 0 ≤ x' ∧ x' < 2147483647) → Fr h₀ L h' m → News h₀ L h' (g (stObj l i' ti' x' tx' n)) →
      Q (.str d t) { s with heap := h', toks := tk' }) :
    wpAny (model PySem.Challenge.rw_bq5029_01.row.prog w) A (call (.ref 76) [.ref a, .str wd tk]) Q E s :=
  dressed_call hA B F X₀ T hf hke (News.one N (UpdF_mem U)) hl hi hlen b hw fun d t i' ti' x' tx' h' tk' hd b' F' ha hk => ret d t i' ti' x' tx' h' tk' hd b' F' (UpdF_keep N U hk ha)
end

theorem News.two {h₀ h : Heap} {L : Addr} {q q' : Addr × Obj} {news : List (Addr × Obj)} (N : News h₀ L h news) (h1 : q ∈ news) (h2 : q' ∈ news) : News h₀ L h [q, q'] := fun p hp => by
  rcases List.mem_cons.mp hp with rfl | hp
  · exact N _ h1
  · rw [List.mem_singleton.mp hp]; exact N _ h2
theorem fresh_of {h g : Heap} {a r : Addr} (up : KeepBut h [a] g) (hr : g.get? r = none) (hne : @LT.lt Nat _ a r) : ∀ b o, h.get? b = some o → b ≠ r := fun b o e q => by
  subst q
  have h1 := up b o (by rw [List.mem_singleton]; exact Nat.ne_of_gt hne) e
  rw [hr] at h1; cases h1

theorem yes_at {r : Int} (h0 : 0 ≤ r) (h : r < 6) : yesW.getD r.toNat Str.empty ∈ yesW := (by decide +kernel : ∀ j, j < 6 → yesW.getD j Str.empty ∈ yesW) _ (by omega)
theorem no_at {r : Int} (h0 : 0 ≤ r) (h : r < 6) : noW.getD r.toNat Str.empty ∈ noW := (by decide +kernel : ∀ j, j < 6 → noW.getD j Str.empty ∈ noW) _ (by omega)
theorem neither_at {r : Int} (h0 : 0 ≤ r) (h : r < 35) : neitherW.getD r.toNat Str.empty ∈ neitherW := (by decide +kernel : ∀ j, j < 35 → neitherW.getD j Str.empty ∈ neitherW) _ (by omega)
theorem yes_len {wd : Str} (h : wd ∈ yesW) : wd.length ≤ 20 := (by decide +kernel : ∀ wd ∈ yesW, wd.length ≤ 20) wd h
theorem no_len {wd : Str} (h : wd ∈ noW) : wd.length ≤ 20 := (by decide +kernel : ∀ wd ∈ noW, wd.length ≤ 20) wd h
theorem neither_len {wd : Str} (h : wd ∈ neitherW) : wd.length ≤ 20 := (by decide +kernel : ∀ wd ∈ neitherW, wd.length ≤ 20) wd h

local macro_rules | `(tactic| walk_at "call ref") => `(tactic| (k_here; (with_reducible show wpAny _ _ (call (Value.ref 35) [Value.ref _, Value.int _ _]) _ _ _); k_dflt (refine' next_step ?hA ?B ?F ?X ?T ?hf ?hke ?N ?U ?hl ?hi ?hlen ?b ?b5 ?b6 ?_; (case hA => exact ⟨rfl, Nat.le_of_ble_eq_true rfl, rfl, rfl, Nat.le_of_ble_eq_true rfl⟩); (case B => k_asm); (case F => k_asm); (case X => k_asm); (case T => k_asm); (case hf => exact rfl); (case hke => exact rfl); (case N => k_asm); (case U => k_updF); (case hl => is_list); (case hi => assumption); (case hlen => assumption); (case b => assumption); (case b5 => decide); (case b6 => decide); k_whole); intro r' t' i' ti' x' tx' h' tk' r1' r2' b' F' N'; (try dsimp only at N'); (try k_sweep)))
local macro_rules | `(tactic| walk_at "call ref") => `(tactic| (k_here; (with_reducible show wpAny _ _ (call (Value.ref 76) [Value.ref _, Value.str _ _]) _ _ _); k_dflt (refine' dressed_step ?hA ?B ?F ?X ?T ?hf ?hke ?N ?U ?hl ?hi ?hlen ?b ?b5 ?_; (case hA => exact ⟨rfl, Nat.le_of_ble_eq_true rfl, rfl, rfl, Nat.le_of_ble_eq_true rfl⟩); (case B => k_asm); (case F => k_asm); (case X => k_asm); (case T => k_asm); (case hf => exact rfl); (case hke => exact rfl); (case N => k_asm); (case U => k_updF); (case hl => is_list); (case hi => assumption); (case hlen => assumption); (case b => assumption); (case b5 => first | exact yes_len (yes_at (by assumption) (by assumption)) | exact no_len (no_at (by assumption) (by assumption)) | exact neither_len (neither_at (by assumption) (by assumption))); k_whole); intro d' t' i' ti' x' tx' h' tk' hd' b' F' N'; (try dsimp only at N'); (try k_sweep)))

section
variable {w : World} {A₀ A : Around} {s : Shared} {base h₀ : Heap} {outer : List Env} {L : Addr} {m mg mb : Str → Option Value} {env : Env} {p : Program} {loose : List Str} {mean : ExcName → Option Value}
    {Q E : Value → Shared → Prop} {a l : Addr} {i x : Int} {ti tx tk : Tok} {n : Nat} {vs : List Value} {ns : List Int}
set_option maxHeartbeats 4000000 in
theorem word_call (hA : AIn A 700 1200 env outer) (B : Below A₀ base outer h₀) (F : Fr h₀ L s.heap m) (X₀ : (hd.heap_39 w.params).In h₀) (T : Top p loose mean mg mb h₀) (hf : env.frame = some L) (hke : env.scope.kind = .function)
    (N : News h₀ L s.heap [(a, stObj l i ti x tx n)]) (hl : s.heap.IsList l vs.toArray) (hi : IntsAre vs ns) (hlen : ns.length ≤ 63)
    (b : 0 ≤ i ∧ i ≤ ns.length ∧ 0 ≤ x ∧ x < 2147483647)
    (ret : ∀ (r : Addr) (d : Str) (t : Tok) (due : Value) (i' : Int) (ti' : Tok) (x' : Int) (tx' : Tok) (h' : Heap) (tk' : Nat), WordOk d due → (0 ≤ i' ∧ i' ≤ ns.length ∧ 0 ≤ x' ∧ x' < 2147483647) → Fr h₀ L h' m → News h₀ L h' [(r, pairObj (.str d t) due), (a, stObj l i' ti' x' tx' n)] → (∀ b o, s.heap.get? b = some o → b ≠ r) → KeepBut s.heap [a] h' →
      Q (.ref r) { s with heap := h', toks := tk' }) :
    wpAny (model PySem.Challenge.rw_bq5029_01.row.prog w) A (call (.ref 83) [.ref a]) Q E s := by
  revert X₀; k_fill; intro X₀
  refine' call_own (binds := [(Str.ofString "state", .ref a)]) hA B F X₀ N T hf hke ?ho ?hcd ?hroom ?hbind ?hloc ?_ ?c2 ?c3 ?c4 ?c5
  case ho => k_is
  case hcd => k_is
  case hroom => decide
  case hbind => exact BindsTo.of_eq rfl
  case hloc => exact locs rfl
  case c2 => exact rfl
  case c3 => exact rfl
  case c4 => exact rfl
  case c5 => decide
  intro g' L' h' up' FG' F' N' B' X' T' l1
  k_fold
  have hg : g'.IsList l vs.toArray := by
    obtain ⟨o, ho, hc, hd⟩ := hl
    refine ⟨o, up' l o ?_ ho, hc, hd⟩
    intro hm
    have e : l = a := List.mem_singleton.mp hm
    subst e
    have h2 := (N _ (List.mem_singleton.mpr rfl)).1
    rw [ho] at h2
    cases h2
    obtain ⟨n', hd⟩ := hd
    cases hd
    cases hi
  clear hl N F FG'
  k_with "table" => skip
  k_steps
  k_with_none
  all_goals
    rename KeepBut s.heap _ _ => kp
    refine ret _ _ _ _ _ _ _ _ _ _ ⟨_, (by assumption), ?_⟩ (by assumption) (by assumption) (News.two (by assumption) (.head _) (by k_mem)) (fresh_of (a := a) (g := g') up' (News.fresh (by assumption) (.head _)) (by omega)) kp
    first | exact .inl ⟨rfl, yes_at (by assumption) (by assumption)⟩ | exact .inr (.inl ⟨rfl, no_at (by assumption) (by assumption)⟩) | exact .inr (.inr ⟨rfl, neither_at (by assumption) (by assumption)⟩)
end
end Mine

/-- the walk's refs as a fresh process has them: open_top leaves walkTop true -/
theorem Mine.off_CallR : True := by
  w_top off
  k_with_none
  trivial
set_option maxRecDepth 100000
namespace Mine
open PySem PySem.W PyProof.Rows PySem.Calls

/-- a tree that looks at the written part and then lays one object -/
theorem wp_peek1 {α : Type} {K : Frag} {M : Model} {A : Around} {E : Value → Shared → Prop} {Q : α → Shared → Prop} {s : Shared} {ob : Obj} {r : Addr → α} (X : K.In s.heap) (q : Q (r s.heap.objs.size) { s with heap := s.heap.push ob }) :
    ∀ (t : Sem α) (g : Addr → Option α), peek1 K ⟨M.prog, M.w.params⟩ t = some (ob, g) → (∀ D, g D = some (r D)) → wpAny M A t Q E s := by
  intro t
  induction t with
  | rule _ k ih | point _ k ih => exact fun g e hg Γ p hΓ => ih () g e hg Γ p hΓ
  | ask k ih => exact fun g e hg Γ p hΓ => ih _ g e hg Γ p hΓ
  | load b _ k ih =>
    intro g e hg Γ p hΓ
    simp only [peek1] at e
    cases hk : K.lookup b with
    | none => rw [hk] at e; cases e
    | some ox => rw [hk] at e; exact ⟨ox, X _ _ hk, ih ox g e hg Γ p hΓ⟩
  | alloc ox k _ =>
    intro g e hg
    obtain ⟨rfl, rfl⟩ : ox = ob ∧ (fun D => peek K ⟨M.prog, M.w.params⟩ (k D)) = g := Prod.mk.inj (Option.some.inj e)
    exact wpAny_bind (m := alloc ox) (f := k) (wpAny_alloc ((Looks.of_peek (M := M) (h := s.heap.push ox) (X.keeps fun _ _ hb => Heap.get?_push_of_some _ hb) (hg s.heap.objs.size)).here (s := { s with heap := s.heap.push ox }) q))
  | _ => intro g e; cases e

section
variable {prog : Program} {w : World} {A₀ A : Around} {s : Shared} {base h₀ : Heap} {outer : List Env} {L : Addr} {m mg mb : Str → Option Value} {env : Env} {own : List (Addr × Obj)} {K : Frag} {p : Program} {loose : List Str} {mean : ExcName → Option Value}
  {Q E : Value → Shared → Prop} {name qual : Str} {params : Arguments} {body : List Stmt} {scope : Scope} {dV kV doc pm cdv ct oc : Value} {an od : Option Addr} {osl : Array (Option Value)} {f : Addr} {vals : List Value} {g₁ : Addr → Option (List (Str × Value))} {binds : Addr → List (Str × Value)} {dp un : Nat}

/-- a call of a def that gathers its arguments into a tuple and has cells -/
theorem call_ownR (x : AIn A dp un env outer) (B : Below A₀ base outer h₀) (F : Fr h₀ L s.heap m) (X₀ : K.In h₀) (N : News h₀ L s.heap own) (T : Top p loose mean mg mb h₀) (hf : env.frame = some L) (hke : env.scope.kind = .function)
    (ho : K.lookup f = some ⟨oc, od, .func (fnOf name qual params body scope dV kV doc pm an cdv ct), osl⟩) (hcd : codeIn K cdv qual = true) (hroom : dp < recursionLimit)
    (hp : peek1 K ⟨prog, w.params⟩ (bindArgs (fnOf name qual params body scope dV kV doc pm an cdv ct) ⟨vals, []⟩) = some (({ cls := .type "tuple", data := .seq vals.toArray } : Obj), g₁)) (hg : ∀ D, g₁ D = some (binds D))
    (hkind : ∀ D, ((binds D).all fun y => scope.names.lookup y.1 == some .local || scope.names.lookup y.1 == some .cell) = true)
    (hnd : ((cellsFrom 0 scope.names []).map (·.1)).Nodup)
    (h : ∀ D g L' h₁ tk cells, s.heap.objs.size = D → (∀ p ∈ own, p.1 < D) → KeepBut s.heap (own.map (·.1)) g → Fr h₀ L g m → Fr g L' h₁ (bindL (envOfC qual scope L' f cdv).kindOf (binds D) fun _ => none) → News g L' h₁ (cells ++ (D, ({ cls := .type "tuple", data := .seq vals.toArray } : Obj)) :: own) →
      CellsAre (bindC (envOfC qual scope L' f cdv).kindOf (binds D) fun _ => none) (cellsFrom (L' + 1) scope.names []) cells → Below (AT dp un env outer) base (env :: outer) g → K.In g → Top p loose mean mg mb g → (∀ p ∈ (D, ({ cls := .type "tuple", data := .seq vals.toArray } : Obj)) :: own, p.1 < L') →
      wpAny (model prog w) ((AT dp un env outer).deeper (envOfC qual scope L' f cdv)) (execs body (envOfC qual scope L' f cdv))
        (fun fl s' => LeaveK h₀ L m g (OwnR own s Q E) (match fl with | .ret v => v | _ => .none) s')
        (fun e s' => wpAny (model prog w) ((AT dp un env outer).deeper (envOfC qual scope L' f cdv)) (leaving (envOfC qual scope L' f cdv) e) (fun _ s'' => E e s'') (fun e' s'' => E e' s'') s')
        { s with heap := h₁, toks := tk })
    (hco : scope.isCoroutine = false) (hgen : scope.isGenerator = false) (hk : scope.kind = .function) : wpAny (model prog w) A (call (.ref f) vals) Q E s := by
  refine wpAny_call (codeAny_room x ?_)
  have X := X₀.keeps F.keep
  refine codeAny_call_function hroom (X _ _ ho) rfl hco hgen rfl (codeRec_of X hcd) ?_
  have lD : ∀ q ∈ own, q.1 < s.heap.objs.size := fun q hq => Heap.lt_size (N q hq).1
  refine wp_peek1 X (r := binds) ?_ _ g₁ hp hg
  generalize hD : s.heap.objs.size = D at lD ⊢
  have F₁ := F.push ({ cls := .type "tuple", data := .seq vals.toArray } : Obj)
  have N₁ := N.push F ({ cls := .type "tuple", data := .seq vals.toArray } : Obj)
  rw [hD] at N₁
  have kp : ∀ b o, s.heap.get? b = some o → (s.heap.push ({ cls := .type "tuple", data := .seq vals.toArray } : Obj)).get? b = some o := fun _ _ e => Heap.get?_push_of_some _ e
  have bD : ∀ b o, s.heap.get? b = some o → b ≠ D := fun b o e => Nat.ne_of_lt (hD ▸ Heap.lt_size e)
  generalize hh : s.heap.push ({ cls := .type "tuple", data := .seq vals.toArray } : Obj) = h' at F₁ N₁ kp ⊢
  generalize hw : ((D, ({ cls := .type "tuple", data := .seq vals.toArray } : Obj)) :: own) = own₁ at N₁
  have hadr : ∀ b, b ≠ D → b ∉ own.map (·.1) → b ∉ own₁.map (·.1) := fun b h1 h2 q => by
    rw [← hw, List.map_cons, List.mem_cons] at q
    exact q.elim h1 h2
  obtain ⟨FG, BG, st, lv⟩ := groundX (s := { s with heap := h' }) (A := AT dp un env outer) (R := OwnR own s Q E) B F₁ N₁ rfl hf hke
  have up : KeepBut s.heap (own.map (·.1)) (hideAll h' (own₁.map (·.1))) := fun b o n e => hideAll_get _ (kp b o e) (hadr b (bD b o e) n)
  refine wpAny_newFunctionEnv_cells hk (kindsX (hkind D) _) fun env' he s' y => ?_
  subst he
  refine ⟨(T.nolimit.keeps F₁.keep).keeps y.toInCall.keep, codeAny_func ?_⟩
  obtain ⟨h₁, tk, rfl, _⟩ := y.done
  have kk := y.toInCall.keep
  obtain ⟨cells, NC, Y⟩ := Cl.news (h₀ := h') (Nat.le_refl _) fun n c hm => ⟨y.cell n c (lookup_of_mem_nodup (cellsFrom_names scope.names 0 (h'.objs.size + 1) [] [] rfl ▸ hnd) hm), y.above n c hm⟩
  have N' : News (hideAll h' (own₁.map (·.1))) h'.objs.size h₁ (cells ++ own₁) := fun q hq => (List.mem_append.mp hq).elim
    (fun hq => ⟨(NC q hq).1, (NC q hq).2.1, by
      cases z : (hideAll h' (own₁.map (·.1))).get? q.1 with
      | none => rfl
      | some o => have z' := of_hideAll _ z; rw [(NC q hq).2.2] at z'; cases z'⟩)
    fun hq => ⟨kk _ _ (N₁ q hq).1, Nat.ne_of_lt (Heap.lt_size (N₁ q hq).1), hideAll_none _ (List.mem_map_of_mem hq)⟩
  have F' : Fr (hideAll h' (own₁.map (·.1))) h'.objs.size h₁ (bindL (envOfC qual scope h'.objs.size f cdv).kindOf (binds D) fun _ => none) := ⟨y.toInCall.ns, fun b o e => kk b o (of_hideAll _ e), Nat.le_of_eq (hideAll_size _ _)⟩
  have lw : ∀ q ∈ own₁, q.1 < h'.objs.size := fun q hq => Heap.lt_size (N₁ q hq).1
  subst hw
  refine wpAny_mono (h D _ h'.objs.size h₁ tk cells hD lD up FG F' N' Y BG (X₀.keeps st) (T.keeps st) lw) (fun fl s' hl => ?_) fun _ _ z => z
  have h2 := lv _ _ hl
  obtain ⟨_, _, _, F'', _, _⟩ := hl
  exact h2 fun b o n e => F''.keep b o (up b o n e)
end
end Mine

/-- the walk's refs as a fresh process has them: open_top leaves walkTop true -/
theorem Mine.off_Bov : True := by
  w_top off
  k_with_none
  trivial
set_option maxRecDepth 100000
namespace Mine
open PySem PySem.W PyProof.Rows PySem.Calls

/-- the def within the def, read off the given program -/
def bovStmt : Stmt := ((PySem.Challenge.rw_bq5029_01.row.prog.main.body[2]?).bind fun s => match s with | .FunctionDef _ _ b _ _ _ _ _ _ _ => b.head? | _ => none).getD (.Pass ⟨0, 0, 0, 0⟩)
def bovParams : Arguments := match bovStmt with | .FunctionDef _ ps _ _ _ _ _ _ _ _ => ps | _ => ⟨[], [], none, [], [], none, []⟩
def bovBody : List Stmt := match bovStmt with | .FunctionDef _ _ b _ _ _ _ _ _ _ => b | _ => []
def bovScope : Scope := match bovStmt with | .FunctionDef _ _ _ _ _ _ sc _ _ _ => sc | _ => { kind := .function, names := [], isGenerator := false, isCoroutine := false }

/-- the reader: its function, its code, its cell, its tuple of words -/
structure Reader (q c' c D : Addr) (oq oc oe : Obj) : Prop where
  fn : ∃ qual dc pm ct vs t, oq = fnMade (Str.ofString "bool_or_value") qual bovParams bovBody bovScope [(Str.ofString "text", c)] dc pm c' ct ∧ oc.data = .fields vs ∧ vs[1]? = some (.str qual t)
  cell : oe.data = .cell (some (.ref D))

abbrev NLt (a b : Nat) : Prop := a < b
abbrev tupObj (vals : List Value) : Obj := { cls := .type "tuple", data := .seq vals.toArray }

section
variable {w : World} {A₀ A : Around} {s : Shared} {base h₀ : Heap} {outer : List Env} {L : Addr} {m mg mb : Str → Option Value} {env : Env} {p : Program} {loose : List Str} {mean : ExcName → Option Value}
    {Q E : Value → Shared → Prop} {x1 x2 x3 : Str} {t1 t2 t3 : Tok}
set_option maxHeartbeats 4000000 in
theorem bos_call0 (hA : AIn A 800 1400 env outer) (B : Below A₀ base outer h₀) (F : Fr h₀ L s.heap m) (X₀ : (hd.heap_39 w.params).In h₀) (T : Top p loose mean mg mb h₀) (hf : env.frame = some L) (hke : env.scope.kind = .function)
    (N : News h₀ L s.heap [(23, tabObj #[])]) (hC : CodeHd h₀ 27 23)
    (ret : ∀ (q c' c D : Addr) (oq oc oe : Obj) (ps : Array Value) (h' : Heap) (tk' : Nat), Reader q c' c D oq oc oe → (NLt 23 D ∧ NLt D c ∧ NLt c c' ∧ NLt c' q) → (∀ b o, s.heap.get? b = some o → NLt b D) → Fr h₀ L h' m → News h₀ L h' [(q, oq), (c', oc), (c, oe), (D, tupObj []), (23, tabObj ps)] → KeepBut s.heap [23] h' →
      Q (.ref q) { s with heap := h', toks := tk' }) :
    wpAny (model PySem.Challenge.rw_bq5029_01.row.prog w) A (call (.ref 28) []) Q E s := by
  revert X₀; k_fill; intro X₀
  refine' call_ownR (own := [(23, tabObj #[])]) (binds := fun D => [(Str.ofString "text", .ref D)]) hA B F X₀ N T hf hke ?ho ?hcd ?hroom ?hp ?hg ?hkind ?hnd ?_ ?c2 ?c3 ?c4
  case ho => k_is
  case hcd => k_is
  case hroom => decide
  case hp => exact rfl
  case hg => exact fun _ => rfl
  case hkind => exact fun _ => rfl
  case hnd => decide +kernel
  case c2 => exact rfl
  case c3 => exact rfl
  case c4 => exact rfl
  intro D' g' L' h' tk' cells' hD lD up' FG' F' N' Y' B' X' T' l1
  k_fold
  (try k_lt lD); (try k_lt l1); k_cells Y'; (try simp only [List.cons_append, List.nil_append] at N')
  have hC' : CodeHd g' 27 23 := hC.keeps FG'.keep
  clear F N FG'
  k_steps
  rename KeepBut s.heap _ _ => kp
  rename News h₀ L _ _ => kN
  have kN' : News h₀ L _ [(_, fnMade (Str.ofString "bool_or_value") _ bovParams bovBody bovScope _ _ _ _ _), (_, _), (_, _), (_, tupObj []), (23, tabObj _)] := kN
  refine ret _ _ _ _ _ _ _ _ _ _ ?rd ?ord ?fr (by assumption) kN' kp
  case rd => exact ⟨⟨_, _, _, _, _, _, rfl, by assumption, by assumption⟩, by assumption⟩
  case ord => exact ⟨by omega, by omega, by omega, by omega⟩
  case fr => exact fun b o e => hD ▸ Heap.lt_size e
set_option maxHeartbeats 4000000 in
theorem bos_call1 (hA : AIn A 800 1400 env outer) (B : Below A₀ base outer h₀) (F : Fr h₀ L s.heap m) (X₀ : (hd.heap_39 w.params).In h₀) (T : Top p loose mean mg mb h₀) (hf : env.frame = some L) (hke : env.scope.kind = .function)
    (N : News h₀ L s.heap [(23, tabObj #[])]) (hC : CodeHd h₀ 27 23)
    (ret : ∀ (q c' c D : Addr) (oq oc oe : Obj) (ps : Array Value) (h' : Heap) (tk' : Nat), Reader q c' c D oq oc oe → (NLt 23 D ∧ NLt D c ∧ NLt c c' ∧ NLt c' q) → (∀ b o, s.heap.get? b = some o → NLt b D) → Fr h₀ L h' m → News h₀ L h' [(q, oq), (c', oc), (c, oe), (D, tupObj [.str x1 t1]), (23, tabObj ps)] → KeepBut s.heap [23] h' →
      Q (.ref q) { s with heap := h', toks := tk' }) :
    wpAny (model PySem.Challenge.rw_bq5029_01.row.prog w) A (call (.ref 28) [.str x1 t1]) Q E s := by
  revert X₀; k_fill; intro X₀
  refine' call_ownR (own := [(23, tabObj #[])]) (binds := fun D => [(Str.ofString "text", .ref D)]) hA B F X₀ N T hf hke ?ho ?hcd ?hroom ?hp ?hg ?hkind ?hnd ?_ ?c2 ?c3 ?c4
  case ho => k_is
  case hcd => k_is
  case hroom => decide
  case hp => exact rfl
  case hg => exact fun _ => rfl
  case hkind => exact fun _ => rfl
  case hnd => decide +kernel
  case c2 => exact rfl
  case c3 => exact rfl
  case c4 => exact rfl
  intro D' g' L' h' tk' cells' hD lD up' FG' F' N' Y' B' X' T' l1
  k_fold
  (try k_lt lD); (try k_lt l1); k_cells Y'; (try simp only [List.cons_append, List.nil_append] at N')
  have hC' : CodeHd g' 27 23 := hC.keeps FG'.keep
  clear F N FG'
  k_steps
  rename KeepBut s.heap _ _ => kp
  rename News h₀ L _ _ => kN
  have kN' : News h₀ L _ [(_, fnMade (Str.ofString "bool_or_value") _ bovParams bovBody bovScope _ _ _ _ _), (_, _), (_, _), (_, tupObj [.str x1 t1]), (23, tabObj _)] := kN
  refine ret _ _ _ _ _ _ _ _ _ _ ?rd ?ord ?fr (by assumption) kN' kp
  case rd => exact ⟨⟨_, _, _, _, _, _, rfl, by assumption, by assumption⟩, by assumption⟩
  case ord => exact ⟨by omega, by omega, by omega, by omega⟩
  case fr => exact fun b o e => hD ▸ Heap.lt_size e
set_option maxHeartbeats 4000000 in
theorem bos_call2 (hA : AIn A 800 1400 env outer) (B : Below A₀ base outer h₀) (F : Fr h₀ L s.heap m) (X₀ : (hd.heap_39 w.params).In h₀) (T : Top p loose mean mg mb h₀) (hf : env.frame = some L) (hke : env.scope.kind = .function)
    (N : News h₀ L s.heap [(23, tabObj #[])]) (hC : CodeHd h₀ 27 23)
    (ret : ∀ (q c' c D : Addr) (oq oc oe : Obj) (ps : Array Value) (h' : Heap) (tk' : Nat), Reader q c' c D oq oc oe → (NLt 23 D ∧ NLt D c ∧ NLt c c' ∧ NLt c' q) → (∀ b o, s.heap.get? b = some o → NLt b D) → Fr h₀ L h' m → News h₀ L h' [(q, oq), (c', oc), (c, oe), (D, tupObj [.str x1 t1, .str x2 t2]), (23, tabObj ps)] → KeepBut s.heap [23] h' →
      Q (.ref q) { s with heap := h', toks := tk' }) :
    wpAny (model PySem.Challenge.rw_bq5029_01.row.prog w) A (call (.ref 28) [.str x1 t1, .str x2 t2]) Q E s := by
  revert X₀; k_fill; intro X₀
  refine' call_ownR (own := [(23, tabObj #[])]) (binds := fun D => [(Str.ofString "text", .ref D)]) hA B F X₀ N T hf hke ?ho ?hcd ?hroom ?hp ?hg ?hkind ?hnd ?_ ?c2 ?c3 ?c4
  case ho => k_is
  case hcd => k_is
  case hroom => decide
  case hp => exact rfl
  case hg => exact fun _ => rfl
  case hkind => exact fun _ => rfl
  case hnd => decide +kernel
  case c2 => exact rfl
  case c3 => exact rfl
  case c4 => exact rfl
  intro D' g' L' h' tk' cells' hD lD up' FG' F' N' Y' B' X' T' l1
  k_fold
  (try k_lt lD); (try k_lt l1); k_cells Y'; (try simp only [List.cons_append, List.nil_append] at N')
  have hC' : CodeHd g' 27 23 := hC.keeps FG'.keep
  clear F N FG'
  k_steps
  rename KeepBut s.heap _ _ => kp
  rename News h₀ L _ _ => kN
  have kN' : News h₀ L _ [(_, fnMade (Str.ofString "bool_or_value") _ bovParams bovBody bovScope _ _ _ _ _), (_, _), (_, _), (_, tupObj [.str x1 t1, .str x2 t2]), (23, tabObj _)] := kN
  refine ret _ _ _ _ _ _ _ _ _ _ ?rd ?ord ?fr (by assumption) kN' kp
  case rd => exact ⟨⟨_, _, _, _, _, _, rfl, by assumption, by assumption⟩, by assumption⟩
  case ord => exact ⟨by omega, by omega, by omega, by omega⟩
  case fr => exact fun b o e => hD ▸ Heap.lt_size e
set_option maxHeartbeats 4000000 in
theorem bos_call3 (hA : AIn A 800 1400 env outer) (B : Below A₀ base outer h₀) (F : Fr h₀ L s.heap m) (X₀ : (hd.heap_39 w.params).In h₀) (T : Top p loose mean mg mb h₀) (hf : env.frame = some L) (hke : env.scope.kind = .function)
    (N : News h₀ L s.heap [(23, tabObj #[])]) (hC : CodeHd h₀ 27 23)
    (ret : ∀ (q c' c D : Addr) (oq oc oe : Obj) (ps : Array Value) (h' : Heap) (tk' : Nat), Reader q c' c D oq oc oe → (NLt 23 D ∧ NLt D c ∧ NLt c c' ∧ NLt c' q) → (∀ b o, s.heap.get? b = some o → NLt b D) → Fr h₀ L h' m → News h₀ L h' [(q, oq), (c', oc), (c, oe), (D, tupObj [.str x1 t1, .str x2 t2, .str x3 t3]), (23, tabObj ps)] → KeepBut s.heap [23] h' →
      Q (.ref q) { s with heap := h', toks := tk' }) :
    wpAny (model PySem.Challenge.rw_bq5029_01.row.prog w) A (call (.ref 28) [.str x1 t1, .str x2 t2, .str x3 t3]) Q E s := by
  revert X₀; k_fill; intro X₀
  refine' call_ownR (own := [(23, tabObj #[])]) (binds := fun D => [(Str.ofString "text", .ref D)]) hA B F X₀ N T hf hke ?ho ?hcd ?hroom ?hp ?hg ?hkind ?hnd ?_ ?c2 ?c3 ?c4
  case ho => k_is
  case hcd => k_is
  case hroom => decide
  case hp => exact rfl
  case hg => exact fun _ => rfl
  case hkind => exact fun _ => rfl
  case hnd => decide +kernel
  case c2 => exact rfl
  case c3 => exact rfl
  case c4 => exact rfl
  intro D' g' L' h' tk' cells' hD lD up' FG' F' N' Y' B' X' T' l1
  k_fold
  (try k_lt lD); (try k_lt l1); k_cells Y'; (try simp only [List.cons_append, List.nil_append] at N')
  have hC' : CodeHd g' 27 23 := hC.keeps FG'.keep
  clear F N FG'
  k_steps
  rename KeepBut s.heap _ _ => kp
  rename News h₀ L _ _ => kN
  have kN' : News h₀ L _ [(_, fnMade (Str.ofString "bool_or_value") _ bovParams bovBody bovScope _ _ _ _ _), (_, _), (_, _), (_, tupObj [.str x1 t1, .str x2 t2, .str x3 t3]), (23, tabObj _)] := kN
  refine ret _ _ _ _ _ _ _ _ _ _ ?rd ?ord ?fr (by assumption) kN' kp
  case rd => exact ⟨⟨_, _, _, _, _, _, rfl, by assumption, by assumption⟩, by assumption⟩
  case ord => exact ⟨by omega, by omega, by omega, by omega⟩
  case fr => exact fun b o e => hD ▸ Heap.lt_size e
end
end Mine

/-- the walk's refs as a fresh process has them: open_top leaves walkTop true -/
theorem Mine.off_Maker : True := by
  w_top off
  k_with_none
  trivial
set_option maxRecDepth 100000
namespace Mine
open PySem PySem.W PyProof.Rows PySem.Calls

theorem news_four {h₀ h : Heap} {L : Addr} {a b c d e : Addr × Obj} {g : List (Addr × Obj)} (N : News h₀ L h [a, b, c, d, e]) (N' : News h₀ L h g) : News h₀ L h (a :: b :: c :: d :: g) := fun q hq => by
  rcases List.mem_cons.mp hq with rfl | hq
  · exact N _ (by simp)
  · rcases List.mem_cons.mp hq with rfl | hq
    · exact N _ (by simp)
    · rcases List.mem_cons.mp hq with rfl | hq
      · exact N _ (by simp)
      · rcases List.mem_cons.mp hq with rfl | hq
        · exact N _ (by simp)
        · exact N' _ hq
theorem News.five {h₀ h : Heap} {L : Addr} {a b c d e : Addr × Obj} {news : List (Addr × Obj)} (N : News h₀ L h news) (h1 : a ∈ news) (h2 : b ∈ news) (h3 : c ∈ news) (h4 : d ∈ news) (h5 : e ∈ news) : News h₀ L h [a, b, c, d, e] := fun q hq => by
  simp only [List.mem_cons, List.not_mem_nil, or_false] at hq
  rcases hq with rfl | rfl | rfl | rfl | rfl
  · exact N _ h1
  · exact N _ h2
  · exact N _ h3
  · exact N _ h4
  · exact N _ h5
theorem made_old {h₀ h g h' : Heap} {L L' : Addr} {m' : Str → Option Value} {own : List (Addr × Obj)} (_N : News h₀ L h own) (N' : News g L' h' own) (F' : Fr g L' h' m') (up : KeepBut h (own.map (·.1)) g) : ∀ b o, h.get? b = some o → ∃ o', h'.get? b = some o' := fun b o e => by
  by_cases hb : b ∈ own.map (·.1)
  · obtain ⟨q, hq, rfl⟩ := List.mem_map.mp hb
    exact ⟨_, (N' q hq).1⟩
  · exact ⟨_, F'.keep b o (up b o hb e)⟩
/-- what was handed in and stands again need not be left out -/
theorem keep_drop {h₀ h h' : Heap} {L a b : Addr} {oa : Obj} {news news' : List (Addr × Obj)} (N : News h₀ L h news) (N' : News h₀ L h' news') (h1 : (a, oa) ∈ news) (h2 : (a, oa) ∈ news') (kp : KeepBut h [a, b] h') : KeepBut h [b] h' := fun x o n e => by
  by_cases hx : x = a
  · subst hx
    have e1 := (N _ h1).1
    rw [e] at e1
    cases e1
    exact (N' _ h2).1
  · exact kp x o (by simp only [List.mem_cons, List.not_mem_nil, or_false, not_or] at n ⊢; exact ⟨hx, n⟩) e

section
variable {w : World} {A₀ A : Around} {s : Shared} {base h₀ : Heap} {outer : List Env} {L : Addr} {m mg mb : Str → Option Value} {env : Env} {p : Program} {loose : List Str} {mean : ExcName → Option Value}
    {Q E : Value → Shared → Prop} {x1 x2 x3 : Str} {t1 t2 t3 : Tok} {news : List (Addr × Obj)} {g : Obj → List (Addr × Obj)} {o : Addr} {n : Nat}
theorem bos_step0 (hA : AIn A 800 1400 env outer) (B : Below A₀ base outer h₀) (F : Fr h₀ L s.heap m) (X₀ : (hd.heap_39 w.params).In h₀) (T : Top p loose mean mg mb h₀) (hf : env.frame = some L) (hke : env.scope.kind = .function)
    (N : News h₀ L s.heap news) (U : UpdF 23 (tabObj #[]) news g) (hC : CodeHd h₀ 27 23)
    (ret : ∀ (q c' c D : Addr) (oq oc oe : Obj) (ps : Array Value) (h' : Heap) (tk' : Nat), Reader q c' c D oq oc oe → (NLt 23 D ∧ NLt D c ∧ NLt c c' ∧ NLt c' q) → (∀ b o, s.heap.get? b = some o → NLt b D) → Fr h₀ L h' m → News h₀ L h' ((q, oq) :: (c', oc) :: (c, oe) :: (D, tupObj []) :: g (tabObj ps)) →
      Q (.ref q) { s with heap := h', toks := tk' }) :
    wpAny (model PySem.Challenge.rw_bq5029_01.row.prog w) A (call (.ref 28) []) Q E s :=
  bos_call0 hA B F X₀ T hf hke (News.one N (UpdF_mem U)) hC fun q c' c D oq oc oe ps h' tk' R o fr F' N' kp => ret q c' c D oq oc oe ps h' tk' R o fr F' (news_four N' (UpdF_keep N U kp (News.get N' (by k_mem))))
theorem bos_step1 (hA : AIn A 800 1400 env outer) (B : Below A₀ base outer h₀) (F : Fr h₀ L s.heap m) (X₀ : (hd.heap_39 w.params).In h₀) (T : Top p loose mean mg mb h₀) (hf : env.frame = some L) (hke : env.scope.kind = .function)
    (N : News h₀ L s.heap news) (U : UpdF 23 (tabObj #[]) news g) (hC : CodeHd h₀ 27 23)
    (ret : ∀ (q c' c D : Addr) (oq oc oe : Obj) (ps : Array Value) (h' : Heap) (tk' : Nat), Reader q c' c D oq oc oe → (NLt 23 D ∧ NLt D c ∧ NLt c c' ∧ NLt c' q) → (∀ b o, s.heap.get? b = some o → NLt b D) → Fr h₀ L h' m → News h₀ L h' ((q, oq) :: (c', oc) :: (c, oe) :: (D, tupObj [.str x1 t1]) :: g (tabObj ps)) →
      Q (.ref q) { s with heap := h', toks := tk' }) :
    wpAny (model PySem.Challenge.rw_bq5029_01.row.prog w) A (call (.ref 28) [.str x1 t1]) Q E s :=
  bos_call1 hA B F X₀ T hf hke (News.one N (UpdF_mem U)) hC fun q c' c D oq oc oe ps h' tk' R o fr F' N' kp => ret q c' c D oq oc oe ps h' tk' R o fr F' (news_four N' (UpdF_keep N U kp (News.get N' (by k_mem))))
theorem bos_step2 (hA : AIn A 800 1400 env outer) (B : Below A₀ base outer h₀) (F : Fr h₀ L s.heap m) (X₀ : (hd.heap_39 w.params).In h₀) (T : Top p loose mean mg mb h₀) (hf : env.frame = some L) (hke : env.scope.kind = .function)
    (N : News h₀ L s.heap news) (U : UpdF 23 (tabObj #[]) news g) (hC : CodeHd h₀ 27 23)
    (ret : ∀ (q c' c D : Addr) (oq oc oe : Obj) (ps : Array Value) (h' : Heap) (tk' : Nat), Reader q c' c D oq oc oe → (NLt 23 D ∧ NLt D c ∧ NLt c c' ∧ NLt c' q) → (∀ b o, s.heap.get? b = some o → NLt b D) → Fr h₀ L h' m → News h₀ L h' ((q, oq) :: (c', oc) :: (c, oe) :: (D, tupObj [.str x1 t1, .str x2 t2]) :: g (tabObj ps)) →
      Q (.ref q) { s with heap := h', toks := tk' }) :
    wpAny (model PySem.Challenge.rw_bq5029_01.row.prog w) A (call (.ref 28) [.str x1 t1, .str x2 t2]) Q E s :=
  bos_call2 hA B F X₀ T hf hke (News.one N (UpdF_mem U)) hC fun q c' c D oq oc oe ps h' tk' R o fr F' N' kp => ret q c' c D oq oc oe ps h' tk' R o fr F' (news_four N' (UpdF_keep N U kp (News.get N' (by k_mem))))
theorem bos_step3 (hA : AIn A 800 1400 env outer) (B : Below A₀ base outer h₀) (F : Fr h₀ L s.heap m) (X₀ : (hd.heap_39 w.params).In h₀) (T : Top p loose mean mg mb h₀) (hf : env.frame = some L) (hke : env.scope.kind = .function)
    (N : News h₀ L s.heap news) (U : UpdF 23 (tabObj #[]) news g) (hC : CodeHd h₀ 27 23)
    (ret : ∀ (q c' c D : Addr) (oq oc oe : Obj) (ps : Array Value) (h' : Heap) (tk' : Nat), Reader q c' c D oq oc oe → (NLt 23 D ∧ NLt D c ∧ NLt c c' ∧ NLt c' q) → (∀ b o, s.heap.get? b = some o → NLt b D) → Fr h₀ L h' m → News h₀ L h' ((q, oq) :: (c', oc) :: (c, oe) :: (D, tupObj [.str x1 t1, .str x2 t2, .str x3 t3]) :: g (tabObj ps)) →
      Q (.ref q) { s with heap := h', toks := tk' }) :
    wpAny (model PySem.Challenge.rw_bq5029_01.row.prog w) A (call (.ref 28) [.str x1 t1, .str x2 t2, .str x3 t3]) Q E s :=
  bos_call3 hA B F X₀ T hf hke (News.one N (UpdF_mem U)) hC fun q c' c D oq oc oe ps h' tk' R o fr F' N' kp => ret q c' c D oq oc oe ps h' tk' R o fr F' (news_four N' (UpdF_keep N U kp (News.get N' (by k_mem))))
local macro_rules | `(tactic| walk_at "call ref") => `(tactic| (k_here; (with_reducible show wpAny _ _ (call (Value.ref 28) _) _ _ _); k_dflt (first
  | (refine' bos_step0 ?hA ?B ?F ?X ?T ?hf ?hke ?N ?U ?hC ?_; (case hA => exact ⟨rfl, Nat.le_of_ble_eq_true rfl, rfl, rfl, Nat.le_of_ble_eq_true rfl⟩); (case B => k_asm); (case F => k_asm); (case X => k_asm); (case T => k_asm); (case hf => exact rfl); (case hke => exact rfl); (case N => k_asm); (case U => k_updF); (case hC => assumption); k_whole)
  | (refine' bos_step1 ?hA ?B ?F ?X ?T ?hf ?hke ?N ?U ?hC ?_; (case hA => exact ⟨rfl, Nat.le_of_ble_eq_true rfl, rfl, rfl, Nat.le_of_ble_eq_true rfl⟩); (case B => k_asm); (case F => k_asm); (case X => k_asm); (case T => k_asm); (case hf => exact rfl); (case hke => exact rfl); (case N => k_asm); (case U => k_updF); (case hC => assumption); k_whole)
  | (refine' bos_step2 ?hA ?B ?F ?X ?T ?hf ?hke ?N ?U ?hC ?_; (case hA => exact ⟨rfl, Nat.le_of_ble_eq_true rfl, rfl, rfl, Nat.le_of_ble_eq_true rfl⟩); (case B => k_asm); (case F => k_asm); (case X => k_asm); (case T => k_asm); (case hf => exact rfl); (case hke => exact rfl); (case N => k_asm); (case U => k_updF); (case hC => assumption); k_whole)
  | (refine' bos_step3 ?hA ?B ?F ?X ?T ?hf ?hke ?N ?U ?hC ?_; (case hA => exact ⟨rfl, Nat.le_of_ble_eq_true rfl, rfl, rfl, Nat.le_of_ble_eq_true rfl⟩); (case B => k_asm); (case F => k_asm); (case X => k_asm); (case T => k_asm); (case hf => exact rfl); (case hke => exact rfl); (case N => k_asm); (case U => k_updF); (case hC => assumption); k_whole)); intro q' c1' c2' D' oq' oc' oe' ps' h' tk' R' lo' fr' F' N'; (try dsimp only at N'); (try k_sweep)))
set_option maxHeartbeats 4000000 in
theorem maker_call0 (hA : AIn A 700 1200 env outer) (B : Below A₀ base outer h₀) (F : Fr h₀ L s.heap m) (X₀ : (hd.heap_39 w.params).In h₀) (T : Top p loose mean mg mb h₀) (hf : env.frame = some L) (hke : env.scope.kind = .function)
    (N : News h₀ L s.heap [(o, listOf #[] n), (23, tabObj #[])]) (ho23 : NLt 23 o) (hC : CodeHd h₀ 27 23)
    (ret : ∀ (q c' c D : Addr) (oq oc oe : Obj) (ps : Array Value) (h' : Heap) (tk' : Nat), Reader q c' c D oq oc oe → (NLt 23 D ∧ NLt D c ∧ NLt c c' ∧ NLt c' q) → (∀ b o, s.heap.get? b = some o → NLt b D) → Fr h₀ L h' m → News h₀ L h' [(q, oq), (c', oc), (c, oe), (D, tupObj []), (23, tabObj ps)] → KeepBut s.heap [23] h' →
      Q (.ref q) { s with heap := h', toks := tk' }) :
    wpAny (model PySem.Challenge.rw_bq5029_01.row.prog w) A (call (.ref 104) [.ref o]) Q E s := by
  revert X₀; k_fill; intro X₀
  refine' call_own (own := [(o, listOf #[] n), (23, tabObj #[])]) (binds := [(Str.ofString "others", .ref o)]) hA B F X₀ N T hf hke ?ho ?hcd ?hroom ?hbind ?hloc ?_ ?c2 ?c3 ?c4 ?c5
  case ho => k_is
  case hcd => k_is
  case hroom => decide
  case hbind => exact BindsTo.of_eq rfl
  case hloc => exact locs rfl
  case c2 => exact rfl
  case c3 => exact rfl
  case c4 => exact rfl
  case c5 => decide
  intro g' L' h' up' FG' F' N' B' X' T' l1
  k_fold
  have hC' : CodeHd g' 27 23 := hC.keeps FG'.keep
  have hold := made_old N N' F' up'
  have ho23' : @LT.lt Nat _ 23 o := ho23
  clear F FG'
  k_lt l1
  k_steps
  rename KeepBut s.heap _ _ => kp
  rename News h₀ L _ _ => kN
  rename (∀ b o, Heap.get? _ b = some o → NLt b _) => fr
  refine ret _ _ _ _ _ _ _ _ _ _ (by assumption) (by assumption) (fun b o e => let ⟨o', e'⟩ := hold b o e; fr b o' e') (by assumption) (News.five kN (by k_mem) (by k_mem) (by k_mem) (by k_mem) (by k_mem)) (keep_drop N kN (by k_mem) (by k_mem) kp)
set_option maxHeartbeats 4000000 in
theorem maker_call1 (hA : AIn A 700 1200 env outer) (B : Below A₀ base outer h₀) (F : Fr h₀ L s.heap m) (X₀ : (hd.heap_39 w.params).In h₀) (T : Top p loose mean mg mb h₀) (hf : env.frame = some L) (hke : env.scope.kind = .function)
    (N : News h₀ L s.heap [(o, listOf #[.str x1 t1] n), (23, tabObj #[])]) (ho23 : NLt 23 o) (hC : CodeHd h₀ 27 23)
    (ret : ∀ (q c' c D : Addr) (oq oc oe : Obj) (ps : Array Value) (h' : Heap) (tk' : Nat), Reader q c' c D oq oc oe → (NLt 23 D ∧ NLt D c ∧ NLt c c' ∧ NLt c' q) → (∀ b o, s.heap.get? b = some o → NLt b D) → Fr h₀ L h' m → News h₀ L h' [(q, oq), (c', oc), (c, oe), (D, tupObj [.str x1 t1]), (23, tabObj ps)] → KeepBut s.heap [23] h' →
      Q (.ref q) { s with heap := h', toks := tk' }) :
    wpAny (model PySem.Challenge.rw_bq5029_01.row.prog w) A (call (.ref 104) [.ref o]) Q E s := by
  revert X₀; k_fill; intro X₀
  refine' call_own (own := [(o, listOf #[.str x1 t1] n), (23, tabObj #[])]) (binds := [(Str.ofString "others", .ref o)]) hA B F X₀ N T hf hke ?ho ?hcd ?hroom ?hbind ?hloc ?_ ?c2 ?c3 ?c4 ?c5
  case ho => k_is
  case hcd => k_is
  case hroom => decide
  case hbind => exact BindsTo.of_eq rfl
  case hloc => exact locs rfl
  case c2 => exact rfl
  case c3 => exact rfl
  case c4 => exact rfl
  case c5 => decide
  intro g' L' h' up' FG' F' N' B' X' T' l1
  k_fold
  have hC' : CodeHd g' 27 23 := hC.keeps FG'.keep
  have hold := made_old N N' F' up'
  have ho23' : @LT.lt Nat _ 23 o := ho23
  clear F FG'
  k_lt l1
  k_steps
  rename KeepBut s.heap _ _ => kp
  rename News h₀ L _ _ => kN
  rename (∀ b o, Heap.get? _ b = some o → NLt b _) => fr
  refine ret _ _ _ _ _ _ _ _ _ _ (by assumption) (by assumption) (fun b o e => let ⟨o', e'⟩ := hold b o e; fr b o' e') (by assumption) (News.five kN (by k_mem) (by k_mem) (by k_mem) (by k_mem) (by k_mem)) (keep_drop N kN (by k_mem) (by k_mem) kp)
set_option maxHeartbeats 4000000 in
theorem maker_call2 (hA : AIn A 700 1200 env outer) (B : Below A₀ base outer h₀) (F : Fr h₀ L s.heap m) (X₀ : (hd.heap_39 w.params).In h₀) (T : Top p loose mean mg mb h₀) (hf : env.frame = some L) (hke : env.scope.kind = .function)
    (N : News h₀ L s.heap [(o, listOf #[.str x1 t1, .str x2 t2] n), (23, tabObj #[])]) (ho23 : NLt 23 o) (hC : CodeHd h₀ 27 23)
    (ret : ∀ (q c' c D : Addr) (oq oc oe : Obj) (ps : Array Value) (h' : Heap) (tk' : Nat), Reader q c' c D oq oc oe → (NLt 23 D ∧ NLt D c ∧ NLt c c' ∧ NLt c' q) → (∀ b o, s.heap.get? b = some o → NLt b D) → Fr h₀ L h' m → News h₀ L h' [(q, oq), (c', oc), (c, oe), (D, tupObj [.str x1 t1, .str x2 t2]), (23, tabObj ps)] → KeepBut s.heap [23] h' →
      Q (.ref q) { s with heap := h', toks := tk' }) :
    wpAny (model PySem.Challenge.rw_bq5029_01.row.prog w) A (call (.ref 104) [.ref o]) Q E s := by
  revert X₀; k_fill; intro X₀
  refine' call_own (own := [(o, listOf #[.str x1 t1, .str x2 t2] n), (23, tabObj #[])]) (binds := [(Str.ofString "others", .ref o)]) hA B F X₀ N T hf hke ?ho ?hcd ?hroom ?hbind ?hloc ?_ ?c2 ?c3 ?c4 ?c5
  case ho => k_is
  case hcd => k_is
  case hroom => decide
  case hbind => exact BindsTo.of_eq rfl
  case hloc => exact locs rfl
  case c2 => exact rfl
  case c3 => exact rfl
  case c4 => exact rfl
  case c5 => decide
  intro g' L' h' up' FG' F' N' B' X' T' l1
  k_fold
  have hC' : CodeHd g' 27 23 := hC.keeps FG'.keep
  have hold := made_old N N' F' up'
  have ho23' : @LT.lt Nat _ 23 o := ho23
  clear F FG'
  k_lt l1
  k_steps
  rename KeepBut s.heap _ _ => kp
  rename News h₀ L _ _ => kN
  rename (∀ b o, Heap.get? _ b = some o → NLt b _) => fr
  refine ret _ _ _ _ _ _ _ _ _ _ (by assumption) (by assumption) (fun b o e => let ⟨o', e'⟩ := hold b o e; fr b o' e') (by assumption) (News.five kN (by k_mem) (by k_mem) (by k_mem) (by k_mem) (by k_mem)) (keep_drop N kN (by k_mem) (by k_mem) kp)
set_option maxHeartbeats 4000000 in
theorem maker_call3 (hA : AIn A 700 1200 env outer) (B : Below A₀ base outer h₀) (F : Fr h₀ L s.heap m) (X₀ : (hd.heap_39 w.params).In h₀) (T : Top p loose mean mg mb h₀) (hf : env.frame = some L) (hke : env.scope.kind = .function)
    (N : News h₀ L s.heap [(o, listOf #[.str x1 t1, .str x2 t2, .str x3 t3] n), (23, tabObj #[])]) (ho23 : NLt 23 o) (hC : CodeHd h₀ 27 23)
    (ret : ∀ (q c' c D : Addr) (oq oc oe : Obj) (ps : Array Value) (h' : Heap) (tk' : Nat), Reader q c' c D oq oc oe → (NLt 23 D ∧ NLt D c ∧ NLt c c' ∧ NLt c' q) → (∀ b o, s.heap.get? b = some o → NLt b D) → Fr h₀ L h' m → News h₀ L h' [(q, oq), (c', oc), (c, oe), (D, tupObj [.str x1 t1, .str x2 t2, .str x3 t3]), (23, tabObj ps)] → KeepBut s.heap [23] h' →
      Q (.ref q) { s with heap := h', toks := tk' }) :
    wpAny (model PySem.Challenge.rw_bq5029_01.row.prog w) A (call (.ref 104) [.ref o]) Q E s := by
  revert X₀; k_fill; intro X₀
  refine' call_own (own := [(o, listOf #[.str x1 t1, .str x2 t2, .str x3 t3] n), (23, tabObj #[])]) (binds := [(Str.ofString "others", .ref o)]) hA B F X₀ N T hf hke ?ho ?hcd ?hroom ?hbind ?hloc ?_ ?c2 ?c3 ?c4 ?c5
  case ho => k_is
  case hcd => k_is
  case hroom => decide
  case hbind => exact BindsTo.of_eq rfl
  case hloc => exact locs rfl
  case c2 => exact rfl
  case c3 => exact rfl
  case c4 => exact rfl
  case c5 => decide
  intro g' L' h' up' FG' F' N' B' X' T' l1
  k_fold
  have hC' : CodeHd g' 27 23 := hC.keeps FG'.keep
  have hold := made_old N N' F' up'
  have ho23' : @LT.lt Nat _ 23 o := ho23
  clear F FG'
  k_lt l1
  k_steps
  rename KeepBut s.heap _ _ => kp
  rename News h₀ L _ _ => kN
  rename (∀ b o, Heap.get? _ b = some o → NLt b _) => fr
  refine ret _ _ _ _ _ _ _ _ _ _ (by assumption) (by assumption) (fun b o e => let ⟨o', e'⟩ := hold b o e; fr b o' e') (by assumption) (News.five kN (by k_mem) (by k_mem) (by k_mem) (by k_mem) (by k_mem)) (keep_drop N kN (by k_mem) (by k_mem) kp)
end
end Mine

/-- the walk's refs as a fresh process has them: open_top leaves walkTop true -/
theorem Mine.off_ModR : True := by
  w_top off
  k_with_none
  trivial
set_option maxRecDepth 100000
namespace Mine
open PySem PySem.W PyProof.Rows PySem.Calls

section
open Builtin Builtin.Str
variable {prog : Program} {w : World} {A : Around} {E : Value → Shared → Prop} {s : Shared}
theorem reprUnder_str {b : Nat} {x : Str} {t : Tok} {Q : Value → Shared → Prop} (hsz : (reprText x).length ≤ sizeLine) (h : Q (.str (reprText x) s.toks) { s with toks := s.toks + 1 }) :
    wpAny (model prog w) A (pyReprObjUnder b (.str x t)) Q E s := by
  unfold pyReprObjUnder pyReprObjBy
  simp only [cRoomFor, show [Value.str x t].any Value.onHeap = false from rfl, Bool.false_eq_true, if_false, pure_bind]
  refine wpAny_bind (wpAny_specialOf (name := Str.ofString "__repr__") (typeIs_str s x t) F.slot_str_repr.lookup ?_)
  refine wpAny_bind (wpAny_callSpecialIfBoundBy?_slotG (name := Str.ofString "__repr__") (typeIs_str s x t) F.slot_str_repr.toG ?_)
  simp only [show reprUnder? (.builtin "str.__repr__") = none from rfl]
  refine call_gives F.slot_str_repr (typeIs_str s x t) F.entry_str_repr (F.args_str_repr_1 _) (gives_str_repr x t) ⟨hsz, ?_⟩
  exact wpAny_bind (wpAny_isInstance (T := "str") (b := true) rfl isSubtype_str_str (wpAny_pure h))
end
local macro_rules | `(tactic| kpc_conv) => `(tactic| (refine wpAny_bind (reprUnder_str (by assumption) ?_); refine wpAny_bind (wpAny_of_eq (a := some _) rfl ?_)))
section
open Builtin Builtin.Str
variable {prog : Program} {w : World} {A : Around} {E : Value → Shared → Prop} {s : Shared}
theorem mod_meets {y : Str} {t u : Tok} (h1 : (reprText y).length ≤ 1000000) (h2 : (reprText y).length ≤ 1000000 → (reprText y).length ≤ sizeLine) :
    Meets («str.__mod__» ⟨[.str ⟨#[83, 116, 114, 105, 110, 103, 32, 105, 115, 32, 110, 111, 116, 32, 116, 114, 117, 101, 47, 102, 97, 108, 115, 101, 58, 32, 37, 114]⟩ t, .str y u], []⟩) (fun _ R s => ∀ t' k, R (.ok (.ret (.str (Str.ofString "String is not true/false: " ++ reprText y) t'))) { s with toks := k }) := by
  have h3 := h2 h1
  clear h2
  apply KPc.meets_of
  intro _ _ _ _ _ _ _
  rw [KPc.entry_is_s]
  unfold Builtin.Str.percentFormat
  refine wpAny_bind (wpAny_isInstance (typeIs_str _ _ _) F.sub_str_tuple ?_)
  refine wpAny_bind (wpAny_of_eq (a := some _) rfl ?_)
  refine wpAny_bind (KPc.wp_fills_str ?_)
  intro _
  kpc_if
  refine wpAny_bind (wpAny_pure ?_)
  refine wpAny_bind ?_
  rw [KPc.range_list]
  refine KPc.start ?_
  intro _ _
  (refine KPc.turn ?_; kpc_check; (repeat kpc_if); (refine wpAny_pure ?_; kpc_piece))
  refine KPc.turn ?_; kpc_check; (repeat kpc_if)
  refine wpAny_bind ?_; refine wpAny_holding ?_; (repeat kpc_if)
  refine wpAny_bind (reprUnder_str h3 ?_)
  refine wpAny_bind (wpAny_of_eq (a := some _) rfl ?_)
  refine wpAny_pure ?_; refine wpAny_pure ?_
  refine KPc.after_str (by kpc_g) h1 (KPc.obj_some rfl) ?_
  intro _ _
  refine KPc.turn ?_; kpc_check; (repeat kpc_if)
  refine wpAny_pure ?_; kpc_if
  refine KPc.finish_ok (N := 0 + (Str.ofString "String is not true/false: ").length + 1000000) (by kpc_g) (by decide +kernel) rfl ?_
  assumption
theorem mod_repr {y : Str} {t u : Tok} {Q : Value → Shared → Prop} (h1 : (reprText y).length ≤ 1000000) (h : ∀ x t' k, Q (.str x t') { s with toks := k }) :
    wpAny (model prog w) A (binaryOp .Mod (.str (Str.ofString "String is not true/false: %r") t) (.str y u)) Q E s := by
  have e : Str.ofString "String is not true/false: %r" = ⟨#[83, 116, 114, 105, 110, 103, 32, 105, 115, 32, 110, 111, 116, 32, 116, 114, 117, 101, 47, 102, 97, 108, 115, 101, 58, 32, 37, 114]⟩ := by decide +kernel
  rw [e]
  exact binaryOp_meets (T := "str") (op := .Mod) (typeIs_str s _ t) (typeIs_str s y u) F.fills_str_mod F.slot_str_mod F.entry_str_mod (F.args_str_mod_2 _ _) (mod_meets h1 fun _ => Nat.le_trans h1 (by rw [sizeLine_eq]; decide)) (fun t' k => ⟨(fun e => nomatch e), h _ t' k⟩)
end
end Mine

/-- the walk's refs as a fresh process has them: open_top leaves walkTop true -/
theorem Mine.off_CallTry : True := by
  w_top off
  k_with_none
  trivial
set_option maxRecDepth 100000
namespace Mine
open PySem PySem.W PyProof.Rows PySem.Calls

section
variable {prog : Program} {w : World} {A₀ A : Around} {s : Shared} {base h₀ : Heap} {L a : Addr} {m mg mb : Str → Option Value} {cn : Str} {cs : Scope} {ccd : Value} {own : List (Addr × Obj)} {K : Frag} {p : Program} {loose : List Str} {mean : ExcName → Option Value}
  {Q E : Value → Shared → Prop} {name qual : Str} {params : Arguments} {body : List Stmt} {scope : Scope} {dV kV doc pm cdv ct oc : Value} {an od : Option Addr} {osl : Array (Option Value)} {f : Addr} {vals : List Value} {binds : List (Str × Value)} {dp un : Nat}

abbrev TryR (own : List (Addr × Obj)) (L : Addr) (s : Shared) (Q E : Value → Shared → Prop) : Result → Shared → Prop := fun r s' => match r with
  | .ok (.ret v) => KeepBut s.heap (L :: own.map (·.1)) s'.heap → Q v s'
  | .ok _ => False
  | .error e => E e s'

/-- a call, from the lowest frame, of a def that catches: all but the frame's slots is kept -/
theorem call_try (x : AIn A dp un (envOf cn cs L a ccd) []) (B : Below A₀ base [] h₀) (F : Fr h₀ L s.heap m) (X₀ : K.In h₀) (N : News h₀ L s.heap own) (T : Top p loose mean mg mb h₀) (hck : cs.kind = .function)
    (ho : K.lookup f = some ⟨oc, od, .func (fnOf name qual params body scope dV kV doc pm an cdv ct), osl⟩) (hcd : codeIn K cdv qual = true) (hroom : dp < recursionLimit)
    (hbind : BindsTo s (fnOf name qual params body scope dV kV doc pm an cdv ct) ⟨vals, []⟩ binds) (hloc : ∀ y ∈ binds, scope.names.lookup y.1 = some .local)
    (h : ∀ g L' h₁, KeepBut s.heap (own.map (·.1)) g → Fr h₀ L g m → Fr g L' h₁ (fun y => binds.reverse.lookup y) → News g L' h₁ own → Below (AT dp un (envOf cn cs L a ccd) []) base [envOf cn cs L a ccd] g → K.In g → Top p loose mean mg mb g → KtsDicts ([envOf cn cs L a ccd].filterMap (·.frame)) g → (∀ p ∈ own, p.1 < L') →
      wpAny (model prog w) ((AT dp un (envOf cn cs L a ccd) []).deeper (envOf qual scope L' f cdv)) (execs body (envOf qual scope L' f cdv))
        (fun fl s' => LeaveS0 ([envOf cn cs L a ccd].filterMap (·.frame)) h₀ L m g (TryR own L s Q E) (match fl with | .ret v => v | _ => .none) s')
        (fun e s' => wpAny (model prog w) ((AT dp un (envOf cn cs L a ccd) []).deeper (envOf qual scope L' f cdv)) (leaving (envOf qual scope L' f cdv) e) (fun _ s'' => E e s'') (fun e' s'' => E e' s'') s')
        { s with heap := h₁, toks := s.toks + binds.length })
    (hco : scope.isCoroutine = false) (hgen : scope.isGenerator = false) (hk : scope.kind = .function)
    (hcell : ∀ x ∈ scope.names, x.2 ≠ .cell) : wpAny (model prog w) A (call (.ref f) vals) Q E s := by
  refine wpAny_call (codeAny_room x ?_)
  have X := X₀.keeps F.keep
  refine codeAny_call_def (fd := fnOf name qual params body scope dV kV doc pm an cdv ct) (body := body) (binds := binds) hroom (X _ _ ho) rfl (T.nolimit.keeps F.keep) (codeRec_of X hcd) rfl hbind hcell hloc (fun h₁ hns hk₁ => ?_) hco hgen hk
  obtain ⟨oL, es, ep, hLg, hLd, hN, hNs, st, B₂⟩ := kts_enter (A := AT dp un (envOf cn cs L a ccd) []) B F N rfl hck
  have up : KeepBut s.heap (own.map (·.1)) (hideAll s.heap (own.map (·.1))) := fun b o n e => hideAll_get _ e n
  have DD : KtsDicts ([envOf cn cs L a ccd].filterMap (·.frame)) (hideAll s.heap (own.map (·.1))) := fun b hb => by
    rcases kts_mem hb with rfl | z
    · exact ⟨oL, es, ep, hLg, hLd⟩
    · simp at z
  refine wpAny_mono (h _ s.heap.objs.size h₁ up ⟨hN _ hLg, st, F.above⟩ ⟨hns, fun b o e => hk₁ b o (of_hideAll _ e), Nat.le_of_eq (hideAll_size _ _)⟩
    (fun p hp => ⟨hk₁ _ _ (N p hp).1, Nat.ne_of_lt (Heap.lt_size (N p hp).1), hideAll_none _ (List.mem_map_of_mem hp)⟩) B₂ (X₀.keeps st) (T.keeps st) DD (fun p hp => Heap.lt_size (N p hp).1)) (fun fl s' hl => ?_) fun _ _ y => y
  obtain ⟨g', L', m', news', T', F', N', k⟩ := hl
  have nf : ∀ b, b ≠ L → b ∉ [envOf cn cs L a ccd].filterMap (·.frame) := fun b hb q => by
    rcases kts_mem q with z | z
    · exact hb z
    · simp at z
  have old : ∀ b o, b ≠ L → (hideAll s.heap (own.map (·.1))).get? b = some o → s'.heap.get? b = some o := fun b o hb e => F'.keep b o (T'.other b o e (nf b hb))
  have h0L : h₀.get? L = none := kts_self F
  obtain ⟨sl, hs⟩ := T'.up hLg
  refine k ⟨hNs sl _ (F'.keep _ _ hs), fun b o e => old b o (fun q => by rw [q, h0L] at e; cases e) (st b o e), F.above⟩ (fun q hq => ⟨(N' q hq).1, fun z => ?_, ?_⟩) (fun b o n e => ?_)
  · have h3 := (N' q hq).2.2; rw [z, hs] at h3; cases h3
  · cases z : h₀.get? q.1 with
    | none => rfl
    | some o =>
      obtain ⟨sl', hs'⟩ := T'.up (st _ _ z)
      have h3 := (N' q hq).2.2
      rw [hs'] at h3
      cases h3
  · rw [List.mem_cons, not_or] at n
    exact old b o n.1 (up b o n.2 e)
end
end Mine

/-- the walk's refs as a fresh process has them: open_top leaves walkTop true -/
theorem Mine.off_Asked : True := by
  w_top off
  k_with_none
  trivial
set_option maxRecDepth 100000
namespace Mine
open PySem PySem.W PyProof.Rows PySem.Calls

theorem lower_core {prog : Program} {w : World} {A : Around} {E : Value → Shared → Prop} {s : Shared} {x wd : Str} {t : Tok} {Q : Value → Shared → Prop} (hc : Txt.lower x = wd) (hx : x.length ≤ 64) (h : ∀ t' k, Q (.str wd t') { s with toks := k }) :
    wpAny (model prog w) A (call (.builtin "str.lower") [.str x t]) Q E s := SCL.lower (by omega) fun _ => by rw [hc]; exact h _ _
local macro_rules | `(tactic| walk_at "call builtin:str.lower") => `(tactic| (k_here; (refine lower_core (by assumption) (by omega) ?_); intro t' k'))
local macro_rules | `(tactic| walk_at "binaryOp Mod str str") => `(tactic| (k_here; (refine mod_repr (by assumption) ?_); intro x' t' k'))

section
variable {w : World} {A₀ A : Around} {s : Shared} {h₀ : Heap} {L a : Addr} {m mg mb : Str → Option Value} {cn : Str} {cs : Scope} {ccd : Value} {p : Program} {loose : List Str} {mean : ExcName → Option Value}
    {Q E : Value → Shared → Prop} {d wd : Str} {t : Tok}
set_option maxHeartbeats 4000000 in
theorem asked_asbool (hA : AIn A 700 1200 (envOf cn cs L a ccd) []) (B : Below A₀ h₀ [] h₀) (F : Fr h₀ L s.heap m) (X₀ : (hd.heap_39 w.params).In h₀) (T : Top p loose mean mg mb h₀) (hck : cs.kind = .function)
    (hdl : d.length ≤ 64) (hc : Txt.lower (Txt.strip d) = wd) (hw : (reprText wd).length ≤ 1000000)
    (ret1 : ∀ (h' : Heap) (tk' : Nat), (yesW.any fun x => x == wd) = true → Fr h₀ L h' m → KeepBut s.heap [L] h' → Q (.bool true) { s with heap := h', toks := tk' })
    (ret2 : ∀ (h' : Heap) (tk' : Nat), (yesW.any fun x => x == wd) = false → (noW.any fun x => x == wd) = true → Fr h₀ L h' m → KeepBut s.heap [L] h' → Q (.bool false) { s with heap := h', toks := tk' })
    (ret3 : ∀ (h' : Heap) (tk' : Nat), (yesW.any fun x => x == wd) = false → (noW.any fun x => x == wd) = false → Fr h₀ L h' m → KeepBut s.heap [L] h' → Q (.ref 36) { s with heap := h', toks := tk' }) :
    wpAny (model PySem.Challenge.rw_bq5029_01.row.prog w) A (call (.ref 97) [.ref 21, .str d t]) Q E s := by
  revert X₀; k_fill; intro X₀
  refine' call_try (own := []) (binds := [(Str.ofString "fn", .ref 21), (Str.ofString "thing", .str d t)]) hA B F X₀ News.nil T hck ?ho ?hcd ?hroom ?hbind ?hloc ?_ ?c2 ?c3 ?c4 ?c5
  case ho => k_is
  case hcd => k_is
  case hroom => decide
  case hbind => exact BindsTo.of_eq rfl
  case hloc => exact locs rfl
  case c2 => exact rfl
  case c3 => exact rfl
  case c4 => exact rfl
  case c5 => decide
  intro g' L' h' up' FG' F' N' B' X' T' D' l1
  k_fold
  clear F FG'
  k_steps
  · rename KeepBut s.heap _ _ => kp
    exact ret1 _ _ (by assumption) (by assumption) kp
  · rename KeepBut s.heap _ _ => kp
    exact ret2 _ _ (by assumption) (by assumption) (by assumption) kp
  · rename KeepBut s.heap _ _ => kp
    exact ret3 _ _ (by assumption) (by assumption) (by assumption) kp
end
end Mine

/-- the walk's refs as a fresh process has them: open_top leaves walkTop true -/
theorem Mine.off_EqX : True := by
  w_top off
  k_with_none
  trivial
set_option maxRecDepth 100000
namespace Mine
open PySem PySem.SeqAt PySem.MeetsSeq
open AutoSeq1 (wpAny_loadPart')

theorem slot_bytes_eq_refl : Slot "bytes" (cmpInfo .Eq).2.2 "bytes.__eq__" :=
  .of (owner := "bytes") (n := "__eq__") (by rw [typeLookup_type, builtinLookup_eq_fast]; kernel_rfl) (by decide +kernel) (by decide +kernel) (by decide +kernel)
    (by first | exact .inl (by decide +kernel) | exact .inr (by decide +kernel)) (by rw [isSubtype_type]; kernel_rfl)
theorem entry_bytes_eq : entryFor table "bytes.__eq__" = some Builtin.«bytes.__eq__» := entryFor_of_tree (by kernel_rfl)
theorem args_bytes_eq_2 (a b : Value) : argsOk "bytes.__eq__" ⟨[a, b], []⟩ := by unfold argsOk; kernel_rfl
theorem sub_bytes_str : isSubtype (.type "bytes") (.type "str") = pure false := by rw [isSubtype_type]; kernel_rfl
theorem sub_dict_str : isSubtype (.type "dict") (.type "str") = pure false := by rw [isSubtype_type]; kernel_rfl
theorem sub_str_dict : isSubtype (.type "str") (.type "dict") = pure false := by rw [isSubtype_type]; kernel_rfl

theorem str_eq_bytes (a : Str) (t : Tok) (b : Array UInt8) (u : Tok) : Gives (Builtin.«str.__eq__» ⟨[.str a t, .bytes b u], []⟩) (.val (Value.notImplemented)) :=
  .of_wp fun M A E s Q h => by obtain ⟨hp, g, d, tk, os⟩ := s; wp_walk; exact ⟨_, rfl, h⟩
theorem bytes_eq_str (b : Array UInt8) (u : Tok) (a : Str) (t : Tok) : Gives (Builtin.«bytes.__eq__» ⟨[.bytes b u, .str a t], []⟩) (.val (Value.notImplemented)) :=
  .of_wp fun M A E s Q h => by obtain ⟨hp, g, d, tk, os⟩ := s; have f1 := F.sub_str_bytes; wp_walk; exact ⟨_, rfl, h⟩
theorem dict_eq_str (l : Addr) (es : Array DictEntry) (n : Nat) (dd : Option Addr) (sl : Array (Option Value)) (b : Str) (u : Tok) :
    Meets (Builtin.«dict.__eq__» ⟨[.ref l, .str b u], []⟩) (fun _ R s => s.heap.get? l = some { cls := .type "dict", dict := dd, data := .dict es n, slots := sl } ∧ R (.ok (.ret .notImplemented)) s) :=
  .of_wp fun prog w A R s h => by obtain ⟨hp, g, d, tk, os⟩ := s; obtain ⟨hl, h⟩ := h; have f1 := sub_str_dict; wp_walk using wpAny_loadPart' hl, wpAny_load hl; exact ⟨_, rfl, h⟩
theorem str_eq_dict (b : Str) (u : Tok) (l : Addr) (es : Array DictEntry) (n : Nat) (dd : Option Addr) (sl : Array (Option Value)) :
    Meets (Builtin.«str.__eq__» ⟨[.str b u, .ref l], []⟩) (fun _ R s => s.heap.get? l = some { cls := .type "dict", dict := dd, data := .dict es n, slots := sl } ∧ R (.ok (.ret .notImplemented)) s) :=
  .of_wp fun prog w A R s h => by obtain ⟨hp, g, d, tk, os⟩ := s; obtain ⟨hl, h⟩ := h; wp_walk using wpAny_loadPart' hl, wpAny_load hl; exact ⟨_, rfl, h⟩

section
variable {A : Around} {s : Shared}
theorem eqAt_str_bytes (a : Str) (t : Tok) (b : Array UInt8) (u : Tok) : EqAt A s (.str a t) (.bytes b u) false := fun prog w E Q h => by
  unfold eqBool
  refine wpAny_holding ?_
  refine wpAny_ite_split (fun hab => absurd (eq_of_beq hab) nofun) (fun _ => ?_)
  refine wpAny_bind (rc_eq_decline_or (k := false) (typeIs_str s a t) (Tb := "bytes") rfl (by decide) sub_bytes_str F.slot_str_eq slot_bytes_eq_refl
    (fun _ hq => call_gives F.slot_str_eq (typeIs_str s a t) F.entry_str_eq (F.args_str_eq_2 _ _) (str_eq_bytes a t b u) hq)
    (fun _ hq => call_gives slot_bytes_eq_refl rfl entry_bytes_eq (args_bytes_eq_2 _ _) (bytes_eq_str b u a t) hq)
    (fun _ hq => wpAny_of_eq (rfl : isSame (.str a t) (.bytes b u) = pure false) hq) (.inl rfl) (wpAny_truthy_bool h))
theorem eqAt_str_dict {l : Addr} {es : Array DictEntry} {n : Nat} {dd : Option Addr} {sl : Array (Option Value)} (b : Str) (u : Tok) (ho : s.heap.get? l = some { cls := .type "dict", dict := dd, data := .dict es n, slots := sl }) (hu : A.units < cLine) : EqAt A s (.str b u) (.ref l) false := fun prog w E Q h => by
  unfold eqBool
  refine wpAny_holding ?_
  refine wpAny_ite_split (fun hab => absurd (eq_of_beq hab) nofun) (fun _ => ?_)
  refine wpAny_bind (rc_eq_decline_or (k := false) (typeIs_str s b u) ⟨_, ho, rfl⟩ (by decide) sub_dict_str F.slot_str_eq F.slot_dict_eq_refl
    (fun _ hq => call_meets F.slot_str_eq (typeIs_str s b u) F.entry_str_eq (F.args_str_eq_2 _ _) (str_eq_dict b u l es n dd sl) ⟨ho, hq⟩)
    (fun _ hq => call_meets F.slot_dict_eq_refl ⟨_, ho, rfl⟩ F.entry_dict_eq (F.args_dict_eq_2 _ _) (dict_eq_str l es n dd sl b u) ⟨ho, hq⟩)
    (fun _ hq => wpAny_of_eq (rfl : isSame (.str b u) (.ref l) = pure false) hq) (.inr hu) (wpAny_truthy_bool h))
end
end Mine

/-- the walk's refs as a fresh process has them: open_top leaves walkTop true -/
theorem Mine.off_Plain : True := by
  w_top off
  k_with_none
  trivial
set_option maxRecDepth 100000
namespace Mine
open PySem PySem.W PyProof.Rows PySem.Calls PySem.SeqAt

/-- what asbool and a reader look at in a value that is no text, in a heap -/
structure Plain (prog : Program) (w : World) (h : Heap) (v : Value) (b : Bool) : Prop where
  isi : ∀ (A : Around) (E Q : Value → Shared → Prop) (s : Shared), s.heap = h → (∀ k, Q (.bool false) { s with toks := k }) → wpAny (model prog w) A (call (.builtin "isinstance") [v, .type "str"]) Q E s
  tru : ∀ (A : Around) (E Q : Value → Shared → Prop) (s : Shared), s.heap = h → (∀ k, Q (.bool b) { s with toks := k }) → wpAny (model prog w) A (call (.type "bool") [v]) Q E s
  ne : ∀ (A : Around) (s : Shared) (x : Str) (t : Tok), s.heap = h → A.units < cLine → EqAt A s (.str x t) v false

theorem meets_bool_of {x : Value} {b : Bool} : Meets (Builtin.«bool.__new__» ⟨[.type "bool", x], []⟩)
    (fun _ R s => (∀ (prog : Program) (w : World) (A : Around) (E : Value → Shared → Prop) (Q : Bool → Shared → Prop), Q b { s with toks := s.toks + 1 + 1 } → wpAny (model prog w) A (truthy x) Q E s) ∧ R (.ok (.ret (.bool b))) { s with toks := s.toks + 1 + 1 }) :=
  Meets.of_wp fun prog w A R s hs => by
    obtain ⟨hp, g, d, tk, os⟩ := s
    obtain ⟨ht, hs⟩ := hs
    have f1 := F.conv_sub_bool
    repeat (any_goals (first | assumption | (with_reducible refine ht _ _ _ _ _ ?_) | wp_step))
    all_goals first | exact ⟨_, rfl, hs⟩ | exact hs | skip

theorem bool_of {prog : Program} {w : World} {A : Around} {E Q : Value → Shared → Prop} {s : Shared} {x : Value} {b : Bool}
    (ht : ∀ (prog : Program) (w : World) (A : Around) (E : Value → Shared → Prop) (Q : Bool → Shared → Prop), Q b { s with toks := s.toks + 1 + 1 } → wpAny (model prog w) A (truthy x) Q E s)
    (h : ∀ k, Q (.bool b) { s with toks := k }) : wpAny (model prog w) A (call (.type "bool") [x]) Q E s :=
  call_bool_1 meets_bool_of ⟨ht, show wants (fun obj s₁ => s₁.TypeIs obj "bool" ∧ Q obj s₁) E _ _ from ⟨rfl, h _⟩⟩

theorem isi_bytes {n : Array UInt8} {u : Tok} {T : String} (hne : (Value.type "bytes" == Value.type T) = false) (hty : typeOf (.type T) = pure (.type "type")) (hsub : isSubtype (.type "bytes") (.type T) = pure false) :
    Meets (Builtin.«isinstance» ⟨[.bytes n u, .type T], []⟩) (fun _ R s => R (.ok (.ret (.bool false))) { s with toks := s.toks + 1 }) :=
  fun _ _ _ _ s hs => by
    obtain ⟨h, g, d, t, os⟩ := s
    exact isinstance_outer (isinstance_nested_false_bytes hne hty hsub hs)
theorem ty_str : typeOf (.type "str") = pure (.type "type") := by kernel_rfl
theorem sub_list_str : isSubtype (.type "list") (.type "str") = pure false := by rw [isSubtype_type]; kernel_rfl
theorem sub_tuple_str : isSubtype (.type "tuple") (.type "str") = pure false := by rw [isSubtype_type]; kernel_rfl
theorem sub_none_str : isSubtype (.type "NoneType") (.type "str") = pure false := by rw [isSubtype_type]; kernel_rfl

theorem dict_len_raw (d : Addr) (n : Nat) (hd : (d == sysModules) = false) :
    Meets (Builtin.«dict.__len__» ⟨[.ref d], []⟩) (fun _ R s => (∃ o es ep, s.heap.get? d = some o ∧ o.data = .dict es ep ∧ es.size = n) ∧ R (.ok (.ret (.int n s.toks))) { s with toks := s.toks + 1 }) :=
  .of_wp fun prog w A R s hs => by
    obtain ⟨⟨o, es, ep, ho, hdat, hn⟩, h⟩ := hs
    show wpAny _ _ (dictSize d >>= _) _ _ s
    unfold dictSize
    refine wpAny_bind (wpAny_bind (wpAny_dictEntries ho hdat (wpAny_pure ?_)))
    show wpAny _ _ (Builtin.Dict.pendingCount d >>= _) _ _ s
    refine wpAny_bind (wpAny_pendingCount_other hd ?_)
    refine wpAny_ret_mkInt ?_
    rw [Nat.add_zero, hn]; exact h
theorem truthy_dict_raw {prog : Program} {w : World} {A : Around} {E : Value → Shared → Prop} {s : Shared} {d : Addr} {o : Obj} {es : Array DictEntry} {ep : Nat} {Q : Bool → Shared → Prop} (hd : (d == sysModules) = false)
    (ho : s.heap.get? d = some o) (hc : o.cls = .type "dict") (hdat : o.data = .dict es ep) (hfit : (es.size : Int) < 2 ^ 63) (h : Q ((es.size : Int) != 0) { s with toks := s.toks + 1 + 1 }) : wpAny (model prog w) A (truthy (.ref d)) Q E s := by
  have hT : s.TypeIs (.ref d) "dict" := ⟨o, ho, hc⟩
  have key : wpAny (model prog w) A (runValue (.builtin "len" ⟨[.ref d], []⟩)) (fun r s' => r = .int es.size (s.toks + 1) ∧ Q ((es.size : Int) != 0) s') E s := by
    refine wpAny_runValue (codeAny_builtin entry_len ?_)
    rw [Around.under_plainId plain_len _]
    refine wpAny_mono (Q := fun fin s' => ∃ r, fin = .done (.ret r) ∧ r = .int es.size (s.toks + 1) ∧ Q ((es.size : Int) != 0) s') ?_ (fun fin s' h' => by obtain ⟨r, rfl, hq⟩ := h'; exact hq) fun _ _ e => e
    unfold Builtin.«len»
    refine wpAny_bind (m := oneArg "len" _) (wpAny_pure ?_)
    refine wpAny_bind (m := callSpecial? (.ref d) (Str.ofString "__len__")) (wpAny_callSpecial?_slot (name := Str.ofString "__len__") hT F.slot_dict_len
      (call_meets F.slot_dict_len hT F.entry_dict_len (F.args_dict_len_1 _) (dict_len_raw d es.size hd) ⟨⟨o, es, ep, ho, hdat, rfl⟩, ?_⟩))
    show wpAny _ _ _ _ _ { s with toks := s.toks + 1 }
    refine wpAny_bind (wpAny_holding (wpAny_pure ?_))
    refine wpAny_bind (wpAny_letGo ?_)
    show wpAny _ _ (if ((es.size : Nat) : Int) < 0 then _ else _) _ _ _
    rw [if_neg (by omega)]
    show wpAny _ _ (if ((es.size : Nat) : Int) ≥ 2 ^ 63 then _ else _) _ _ _
    rw [if_neg (by omega)]
    exact wpAny_bind (wpAny_mkInt (wpAny_pure ⟨_, rfl, rfl, h⟩))
  unfold truthy
  first
    | refine wpAny_bind (wpAny_callSpecial?_none (name := Str.ofString "__bool__") hT noBool_dict ?_)
    | refine wpAny_bind (wpAny_pure (wpAny_bind (wpAny_callSpecial?_none (name := Str.ofString "__bool__") hT noBool_dict ?_)))
  first
    | refine wpAny_bind (wpAny_specialOf (name := Str.ofString "__len__") hT F.slot_dict_len.lookup ?_)
    | refine wpAny_bind (wpAny_pure (wpAny_bind (wpAny_specialOf (name := Str.ofString "__len__") hT F.slot_dict_len.lookup ?_)))
  first
    | exact wpAny_bind (wpAny_mono key (fun r s' h' => by obtain ⟨rfl, hq⟩ := h'; exact wpAny_pure hq) fun _ _ e => e)
    | exact wpAny_bind (wpAny_pure (wpAny_bind (wpAny_mono key (fun r s' h' => by obtain ⟨rfl, hq⟩ := h'; exact wpAny_pure hq) fun _ _ e => e)))

section
variable {prog : Program} {w : World} {h : Heap} {q : Addr} {o : Obj}
theorem Plain.int {n : Int} {t : Tok} : Plain prog w h (.int n t) (n != 0) where
  isi _ _ _ _ _ k := IsiPair.int_str (k _)
  tru _ _ _ _ _ k := call_bool_int (k _)
  ne _ _ _ _ _ _ := EqAt.str_int _ _ _ _
theorem Plain.none : Plain prog w h .none false where
  isi _ _ _ _ _ k := call_isinstance (isinstance_false_none (by decide +kernel) ty_str sub_none_str) (k _)
  tru _ _ _ _ _ k := call_bool_none (k _)
  ne _ _ _ _ _ _ := EqAt.str_none _ _
theorem Plain.bool {b : Bool} : Plain prog w h (.bool b) b where
  isi _ _ _ _ _ k := IsiPair.bool_str (k _)
  tru _ _ _ _ _ k := call_bool_bool (k _)
  ne _ _ _ _ _ _ := EqAt.str_bool _ _ _
theorem Plain.bytes {x : Array UInt8} {t : Tok} {b : Bool} (hb : ((x.size : Int) != 0) = b) (hx : x.size ≤ 1000) : Plain prog w h (.bytes x t) b where
  isi _ _ _ _ _ k := call_isinstance (isi_bytes (by decide +kernel) ty_str sub_bytes_str) (k _)
  tru _ _ _ _ _ k := bool_of (fun _ _ _ _ _ hq => truthy_bytes (by omega) (by rw [hb]; exact hq)) k
  ne _ _ _ _ _ _ := eqAt_str_bytes _ _ _ _
theorem Plain.list {xs : Array Value} {b : Bool} (hl : h.IsList q xs) (hb : (!xs.isEmpty) = b) (hx : xs.size ≤ 1000) : Plain prog w h (.ref q) b where
  isi _ _ _ s e k := call_isinstance (isinstance_false_list (by decide +kernel) ty_str sub_list_str) ⟨by rw [e]; obtain ⟨o, ho, hc, _⟩ := hl; exact ⟨o, ho, hc⟩, k _⟩
  tru _ _ _ s e k := bool_of (fun _ _ _ _ _ hq => wpAny_truthy_list (by rw [e]; exact hl) (by omega) (by rw [hb]; exact hq)) k
  ne _ _ _ _ e hu := EqAt.str_list _ _ (by rw [e]; exact hl) hu
theorem Plain.tuple {xs : Array Value} {b : Bool} (hl : IsTup h q xs) (hb : (!xs.isEmpty) = b) (hx : xs.size ≤ 1000) : Plain prog w h (.ref q) b where
  isi _ _ _ s e k := call_isinstance (isinstance_false_tuple (by decide +kernel) ty_str sub_tuple_str) ⟨by rw [e]; obtain ⟨o, ho, hc, _⟩ := hl; exact ⟨o, ho, hc⟩, k _⟩
  tru _ _ _ s e k := bool_of (fun _ _ _ _ _ hq => truthy_tuple (by rw [e]; exact hl) (by omega) (by rw [hb]; exact hq)) k
  ne _ _ _ _ e hu := EqAt.str_tuple _ _ (by rw [e]; exact hl) hu
theorem Plain.dict {kvs : List (Str × Value)} {b : Bool} (ho : h.get? q = some o) (lo : (q == sysModules) = false) (hd : o.IsDictOf (strKind prog w) kvs) (hb : (!kvs.isEmpty) = b) (hx : kvs.length ≤ 1000) : Plain prog w h (.ref q) b where
  isi _ _ _ s e k := call_isinstance (isinstance_false_dict (by decide +kernel) ty_str sub_dict_str) ⟨by rw [e]; obtain ⟨es, ep, hx, _⟩ := hd; exact ⟨o, ho, hx.1⟩, k _⟩
  tru _ _ _ s e k := by
    obtain ⟨es, ep, hx', hdd, _, hp, _⟩ := hd
    have hn : es.size = kvs.length := by rw [← hp.length]; simp
    refine bool_of (b := b) (fun prog' w' _ _ _ hq => truthy_dict_raw lo (by rw [e]; exact ho) hx'.1 hdd (by omega) ?_) k
    have e2 : ((es.size : Int) != 0) = b := by rw [← hb, hn]; cases kvs <;> simp <;> omega
    rw [e2]; exact hq
  ne _ _ _ _ e hu := by
    obtain ⟨es, ep, hx, hdd, _⟩ := hd
    obtain ⟨c, dd, da, sl⟩ := o
    have hc := hx.1
    simp only at hc hdd
    subst hc hdd
    exact eqAt_str_dict _ _ (by rw [e]; exact ho) hu
end
end Mine

/-- the walk's refs as a fresh process has them: open_top leaves walkTop true -/
theorem Mine.off_Other0 : True := by
  w_top off
  k_with_none
  trivial
set_option maxRecDepth 100000
namespace Mine
open PySem PySem.W PyProof.Rows PySem.Calls

def ItemOk (prog : Program) (w : World) (a : Addr) (news : List (Addr × Obj)) (v : Value) : Prop :=
  ∃ r pl tr q ob, v = .ref r ∧ (r, pairObj pl (.bool tr)) ∈ news ∧ (q, ob) ∈ news ∧ NLt a r ∧ NLt a q ∧ ∀ g : Heap, g.get? q = some ob → Plain prog w g pl tr
section
variable {prog : Program} {w : World} {a r q : Addr} {news : List (Addr × Obj)} {pl : Value} {tr : Bool}
theorem ok_imm (hr : (r, pairObj pl (.bool tr)) ∈ news) (ha : NLt a r) (hp : ∀ g, Plain prog w g pl tr) : ItemOk prog w a news (.ref r) := ⟨_, _, _, _, _, rfl, hr, hr, ha, ha, fun g _ => hp g⟩
theorem ok_list {xs : Array Value} {n : Nat} (hr : (r, pairObj (.ref q) (.bool tr)) ∈ news) (ho : (q, W.listOf xs n) ∈ news) (ha : NLt a r) (hb : NLt a q) (e : (!xs.isEmpty) = tr) (hs : xs.size ≤ 1000) : ItemOk prog w a news (.ref r) :=
  ⟨_, _, _, _, _, rfl, hr, ho, ha, hb, fun _ hg => Plain.list ⟨_, hg, rfl, _, rfl⟩ e hs⟩
theorem ok_tup {xs : Array Value} {n : Nat} (hr : (r, pairObj (.ref q) (.bool tr)) ∈ news) (ho : (q, ({ cls := .type "tuple", data := .seq xs n } : Obj)) ∈ news) (ha : NLt a r) (hb : NLt a q) (e : (!xs.isEmpty) = tr) (hs : xs.size ≤ 1000) : ItemOk prog w a news (.ref r) :=
  ⟨_, _, _, _, _, rfl, hr, ho, ha, hb, fun _ hg => Plain.tuple ⟨_, hg, rfl, _, rfl⟩ e hs⟩
theorem ok_dict {ob : Obj} {kvs : List (Str × Value)} (hr : (r, pairObj (.ref q) (.bool tr)) ∈ news) (ho : (q, ob) ∈ news) (lo : (q == sysModules) = false) (hd : ob.IsDictOf (PySem.strKind prog w) kvs) (ha : NLt a r) (hb : NLt a q) (e : (!kvs.isEmpty) = tr) (hs : kvs.length ≤ 1000) : ItemOk prog w a news (.ref r) :=
  ⟨_, _, _, _, _, rfl, hr, ho, ha, hb, fun _ hg => Plain.dict hg lo hd e hs⟩
end
theorem sub_each {prog : Program} {w : World} {A : Around} {E : Value → Shared → Prop} {s : Shared} {value slice : PySem.Expr} {l : Addr} {vs : List Value} {i : Int} {u : Tok} {Q : Value → Shared → Prop} (P : Value → Prop)
    (hl : s.heap.IsList l vs.toArray) (h0 : 0 ≤ i) (h1 : i < (vs.length : Int)) (hfit : vs.length ≤ 1000) (hp : ∀ v ∈ vs, P v) (h : ∀ v, P v → Q v s)
    (hs : subscripted slice false (.ref l) (.int i u) = operate [.ref l, .int i u] (getItem (.ref l) (.int i u)) := by with_unfolding_all rfl) :
    wpAny (model prog w) A (subscriptTail value slice (.ref l) (.int i u)) Q E s := by
  have hlt : i.toNat < vs.length := by omega
  exact tail_any hl.typeIs slot_list_getitem.lookup (wpAny_getItem_list hl h0 (by omega) (x := vs[i.toNat]) (by simpa using List.getElem?_eq_getElem hlt) (h _ (hp _ (List.getElem_mem hlt)))) hs
theorem News.three {h₀ h : Heap} {L : Addr} {q q' q'' : Addr × Obj} {news : List (Addr × Obj)} (N : News h₀ L h news) (h1 : q ∈ news) (h2 : q' ∈ news) (h3 : q'' ∈ news) : News h₀ L h [q, q', q''] := fun p hp => by
  rcases List.mem_cons.mp hp with rfl | hp
  · exact N _ h1
  · exact News.two N h2 h3 _ hp
theorem sub_ok {prog : Program} {w : World} {A : Around} {E : Value → Shared → Prop} {s : Shared} {value slice : PySem.Expr} {l a L : Addr} {h₀ : Heap} {n : Nat} {news : List (Addr × Obj)} {vs : List Value} {i : Int} {u : Tok} {Q : Value → Shared → Prop}
    (N : News h₀ L s.heap ((l, W.listOf vs.toArray n) :: news)) (h0 : 0 ≤ i) (h1 : i < (vs.length : Int)) (hfit : vs.length ≤ 1000) (hp : ∀ v ∈ vs, ItemOk prog w a ((l, W.listOf vs.toArray n) :: news) v) (h : ∀ v, ItemOk prog w a ((l, W.listOf vs.toArray n) :: news) v → Q v s)
    (hs : subscripted slice false (.ref l) (.int i u) = operate [.ref l, .int i u] (getItem (.ref l) (.int i u)) := by with_unfolding_all rfl) :
    wpAny (model prog w) A (subscriptTail value slice (.ref l) (.int i u)) Q E s :=
  sub_each _ (News.isList N (.head _)) h0 h1 hfit hp h hs
end Mine

/-- the walk's refs as a fresh process has them: open_top leaves walkTop true -/
theorem Mine.off_Other : True := by
  w_top off
  k_with_none
  trivial
set_option maxRecDepth 100000
namespace Mine
open PySem PySem.W PyProof.Rows PySem.Calls

local macro_rules | `(tactic| walk_at "call ref") => `(tactic| (k_here; (with_reducible show wpAny _ _ (call (Value.ref 35) [Value.ref _, Value.int _ _]) _ _ _); k_dflt (refine' next_step ?hA ?B ?F ?X ?T ?hf ?hke ?N ?U ?hl ?hi ?hlen ?b ?b5 ?b6 ?_; (case hA => exact ⟨rfl, Nat.le_of_ble_eq_true rfl, rfl, rfl, Nat.le_of_ble_eq_true rfl⟩); (case B => k_asm); (case F => k_asm); (case X => k_asm); (case T => k_asm); (case hf => exact rfl); (case hke => exact rfl); (case N => k_asm); (case U => k_updF); (case hl => is_list); (case hi => assumption); (case hlen => assumption); (case b => assumption); (case b5 => decide); (case b6 => decide); k_whole); intro r' t' i' ti' x' tx' h' tk' r1' r2' b' F' N'; (try dsimp only at N'); (try k_sweep)))

local macro_rules | `(tactic| walk_at "ok one") => `(tactic| first
  | exact ok_imm (by k_mem) (by omega) (fun _ => Plain.int)
  | exact ok_imm (pl := .int 0 _) (by k_mem) (by omega) (fun _ => Plain.int)
  | exact ok_imm (pl := .int 1 _) (by k_mem) (by omega) (fun _ => Plain.int)
  | exact ok_imm (pl := .int (-1) _) (by k_mem) (by omega) (fun _ => Plain.int)
  | exact ok_imm (pl := .none) (by k_mem) (by omega) (fun _ => Plain.none)
  | exact ok_imm (pl := .bool _) (by k_mem) (by omega) (fun _ => Plain.bool)
  | exact ok_imm (pl := .bytes _ _) (by k_mem) (by omega) (fun _ => Plain.bytes (by rfl) (by exact Nat.le_of_ble_eq_true rfl))
  | exact ok_list (by k_mem) (by k_mem) (by omega) (by omega) (by rfl) (by exact Nat.le_of_ble_eq_true rfl)
  | exact ok_tup (by k_mem) (by k_mem) (by omega) (by omega) (by rfl) (by exact Nat.le_of_ble_eq_true rfl)
  | exact ok_dict (by k_mem) (by k_mem) (by assumption) (by assumption) (by omega) (by omega) (by rfl) (by exact Nat.le_of_ble_eq_true rfl))
local macro_rules | `(tactic| walk_at "ok all") => `(tactic| first | exact List.forall_mem_nil _ | (refine List.forall_mem_cons.mpr ⟨?_, ?_⟩; (focus (walk_at "ok one")); walk_at "ok all"))
section
variable {w : World} {A₀ A : Around} {s : Shared} {base h₀ : Heap} {outer : List Env} {L : Addr} {m mg mb : Str → Option Value} {env : Env} {p : Program} {loose : List Str} {mean : ExcName → Option Value}
    {Q E : Value → Shared → Prop} {a l : Addr} {i x : Int} {ti tx tk : Tok} {n : Nat} {vs : List Value} {ns : List Int} {num : Int}
set_option maxHeartbeats 4000000 in
theorem other_call (hA : AIn A 700 1200 env outer) (B : Below A₀ base outer h₀) (F : Fr h₀ L s.heap m) (X₀ : (hd.heap_39 w.params).In h₀) (T : Top p loose mean mg mb h₀) (hf : env.frame = some L) (hke : env.scope.kind = .function)
    (N : News h₀ L s.heap [(a, stObj l i ti x tx n)]) (hl : s.heap.IsList l vs.toArray) (hi : IntsAre vs ns) (hlen : ns.length ≤ 63)
    (b : 0 ≤ i ∧ i ≤ ns.length ∧ 0 ≤ x ∧ x < 2147483647)
    (ret : ∀ (r : Addr) (pl : Value) (tr : Bool) (q : Addr) (ob : Obj) (i' : Int) (ti' : Tok) (x' : Int) (tx' : Tok) (h' : Heap) (tk' : Nat), (∀ g : Heap, g.get? q = some ob → Plain PySem.Challenge.rw_bq5029_01.row.prog w g pl tr) →
      (0 ≤ i' ∧ i' ≤ ns.length ∧ 0 ≤ x' ∧ x' < 2147483647) → Fr h₀ L h' m → News h₀ L h' [(r, pairObj pl (.bool tr)), (q, ob), (a, stObj l i' ti' x' tx' n)] → (∀ b o, s.heap.get? b = some o → b ≠ r) → (∀ b o, s.heap.get? b = some o → b ≠ q) → KeepBut s.heap [a] h' →
      Q (.ref r) { s with heap := h', toks := tk' }) :
    wpAny (model PySem.Challenge.rw_bq5029_01.row.prog w) A (call (.ref 90) [.ref a, .int num tk]) Q E s := by
  revert X₀; k_fill; intro X₀
  refine' call_own (binds := [(Str.ofString "state", .ref a), (Str.ofString "number", .int num tk)]) hA B F X₀ N T hf hke ?ho ?hcd ?hroom ?hbind ?hloc ?_ ?c2 ?c3 ?c4 ?c5
  case ho => k_is
  case hcd => k_is
  case hroom => decide
  case hbind => exact BindsTo.of_eq rfl
  case hloc => exact locs rfl
  case c2 => exact rfl
  case c3 => exact rfl
  case c4 => exact rfl
  case c5 => decide
  intro g' L' h' up' FG' F' N' B' X' T' l1
  k_fold
  have hg : g'.IsList l vs.toArray := by
    obtain ⟨o, ho, hc, hd⟩ := hl
    refine ⟨o, up' l o ?_ ho, hc, hd⟩
    intro hm
    have e : l = a := List.mem_singleton.mp hm
    subst e
    have h2 := (N _ (List.mem_singleton.mpr rfl)).1
    rw [ho] at h2
    cases h2
    obtain ⟨n', hd⟩ := hd
    cases hd
    cases hi
  clear hl N F FG'
  k_lt l1
  k_steps
  all_goals (rename News _ _ _ _ => N9)
  all_goals (refine sub_ok (a := a) N9 (by assumption) (by assumption) (Nat.le_of_ble_eq_true rfl) ?hitems ?_)
  case hitems => walk_at "ok all"
  intro v hv
  obtain ⟨r, pl, tr, q, ob, rfl, hr, hq, har, haq, hp⟩ := hv
  have N10 := News.three N9 hr hq (by k_mem : (a, _) ∈ _)
  clear N9 hr hq
  k_steps
  all_goals
    rename KeepBut s.heap _ _ => kp
    refine ret r pl tr q ob _ _ _ _ _ _ hp (by assumption) (by assumption) (by assumption) (fresh_of (a := a) (g := g') up' (News.fresh N10 (.head _)) har) (fresh_of (a := a) (g := g') up' (News.fresh N10 (.tail _ (.head _))) haq) kp
end
end Mine

/-- the walk's refs as a fresh process has them: open_top leaves walkTop true -/
theorem Mine.off_AsPlain : True := by
  w_top off
  k_with_none
  trivial
set_option maxRecDepth 100000
namespace Mine
open PySem PySem.W PyProof.Rows PySem.Calls

local macro_rules | `(tactic| walk_at "call builtin:isinstance") => `(tactic| (k_here; rename (∀ g : Heap, (∀ b o, _ → g.get? b = some o) → Plain _ _ g _ _) => hpl'; refine (hpl' _ (Fr.keep (by assumption))).isi _ _ _ _ rfl ?_; intro k'))
local macro_rules | `(tactic| walk_at "call type:bool") => `(tactic| (k_here; rename (∀ g : Heap, (∀ b o, _ → g.get? b = some o) → Plain _ _ g _ _) => hpl'; refine (hpl' _ (Fr.keep (by assumption))).tru _ _ _ _ rfl ?_; intro k'))

section
variable {w : World} {A₀ A : Around} {s : Shared} {base h₀ : Heap} {outer : List Env} {L : Addr} {m mg mb : Str → Option Value} {env : Env} {p : Program} {loose : List Str} {mean : ExcName → Option Value}
    {Q E : Value → Shared → Prop} {v : Value} {tr : Bool}
set_option maxHeartbeats 4000000 in
theorem asbool_plain (hA : AIn A 800 1600 env outer) (B : Below A₀ base outer h₀) (F : Fr h₀ L s.heap m) (X₀ : (hd.heap_39 w.params).In h₀) (T : Top p loose mean mg mb h₀) (hf : env.frame = some L) (hke : env.scope.kind = .function)
    (hp : ∀ g : Heap, (∀ b o, s.heap.get? b = some o → g.get? b = some o) → Plain PySem.Challenge.rw_bq5029_01.row.prog w g v tr)
    (ret : ∀ (h' : Heap) (tk' : Nat), Fr h₀ L h' m → KeepBut s.heap [] h' → Q (.bool tr) { s with heap := h', toks := tk' }) :
    wpAny (model PySem.Challenge.rw_bq5029_01.row.prog w) A (call (.ref 21) [v]) Q E s := by
  revert X₀; k_fill; intro X₀
  refine' call_own (own := []) (binds := [(Str.ofString "obj", v)]) hA B F X₀ News.nil T hf hke ?ho ?hcd ?hroom ?hbind ?hloc ?_ ?c2 ?c3 ?c4 ?c5
  case ho => k_is
  case hcd => k_is
  case hroom => decide
  case hbind => exact BindsTo.of_eq rfl
  case hloc => exact locs rfl
  case c2 => exact rfl
  case c3 => exact rfl
  case c4 => exact rfl
  case c5 => decide
  intro g' L' h' up' FG' F' N' B' X' T' l1
  k_fold
  have hpl : ∀ g : Heap, (∀ b o, g'.get? b = some o → g.get? b = some o) → Plain PySem.Challenge.rw_bq5029_01.row.prog w g v tr := fun g hg => hp g fun b o e => hg b o (up' b o List.not_mem_nil e)
  clear F FG' hp
  k_steps
  all_goals
    rename KeepBut s.heap _ _ => kp
    exact ret _ _ (by assumption) kp
end
end Mine

/-- the walk's refs as a fresh process has them: open_top leaves walkTop true -/
theorem Mine.off_CallF : True := by
  w_top off
  k_with_none
  trivial
set_option maxRecDepth 100000
namespace Mine
open PySem PySem.W PyProof.Rows PySem.Calls PySem.SeqAt
/-- a reader at q of the words vals, in a heap -/
def ReaderAt (h : Heap) (q : Addr) (vals : List Value) : Prop :=
  ∃ c' c D oq oc oe, Reader q c' c D oq oc oe ∧ h.get? q = some oq ∧ h.get? c' = some oc ∧ h.get? c = some oe ∧ h.get? D = some (tupObj vals)
theorem ReaderAt.keeps {h g : Heap} {q : Addr} {vals : List Value} (R : ReaderAt h q vals) (k : ∀ b o, h.get? b = some o → g.get? b = some o) : ReaderAt g q vals := by
  obtain ⟨c', c, D, oq, oc, oe, r, e1, e2, e3, e4⟩ := R
  exact ⟨c', c, D, oq, oc, oe, r, k _ _ e1, k _ _ e2, k _ _ e3, k _ _ e4⟩

section
variable {M : Model} {A : Around} {E : Value → Shared → Prop} {s : Shared} {L a : Addr} {cn : Str} {cs : Scope} {ccd : Value} {cl : List (Str × Addr)}
  {x : Str} {v : Value} {Q : Value → Shared → Prop} {c : Addr} {o : Obj} {pos : Pos}
theorem nameX_Fh (hc : cl.lookup x = some c) (hm : s.heap.get? c = some o) (hd : o.data = .cell (some v)) (h : Q v s)
    (hk : cs.kind = .function := by rfl) (hx : (envX cn cs L a ccd cl).kindOf x = some .free := by rfl) (hb : (x == ("__debug__" : Str)) = false := by decide) (hn : (x == ("__classdict__" : Str)) = false := by decide) :
    wpAny M A (eval (.Name x pos) (envX cn cs L a ccd cl)) Q E s := wpAny_Name (wpAny_loadName_free hk hx hc ⟨o, hm, hd⟩ h hn) hb
end

section
variable {M : Model} {A : Around} {E : Value → Shared → Prop} {s' : Shared} {base g g₂ : Heap} {outer : List Env} {L e t : Addr} {env : Env} {m : Str → Option Value} {Q : Unit → Shared → Prop} {news : List (Addr × Obj)}
theorem kts_memE {b : Addr} (hf : env.frame = some L) (hm : b ∈ (env :: outer).filterMap (·.frame)) : b = L ∨ b ∈ outer.filterMap (·.frame) := by
  obtain ⟨e, he, h⟩ := List.mem_filterMap.mp hm
  rcases List.mem_cons.mp he with rfl | he
  · exact .inl (Option.some.inj (hf ▸ h)).symm
  · exact .inr (List.mem_filterMap.mpr ⟨e, he, h⟩)
theorem leave_onX {cls : Value} (hf : env.frame = some L) (K : Below A base outer g) (F : Fr g L g₂ m) (R : RaisedSN base g₂ (env :: outer) e cls news s'.heap) (hsm : g₂.UpToSlots s'.heap)
    (hQ : ∀ h', RaisedSN base g outer e cls news h' → RaisedN base outer e cls news h' → g.UpToSlots h' → Q () { s' with heap := h' }) :
    wpAny M (A.deeper env) (leaving env (.ref e)) Q E s' := by
  obtain ⟨B, a0, hB, hBG, hl, hfl⟩ := R
  exact wpAny_leaves_onW (Around.frames_deeper K.stack) hf hfl fun h' x1 x2 =>
    have R : RaisedSN base g outer e cls news h' := ⟨B, a0, hB, fun b o q nm => hBG b o (F.keep b o q) (fun hm => by
      rcases kts_memE hf hm with z | z
      · rw [z, kts_self F] at q
        cases q
      · exact nm z), fun q hq => ⟨(hl q hq).1, kts_none F.keep (hl q hq).2.1, (hl q hq).2.2⟩, x1⟩
    hQ h' R R.toN ((Heap.UpToSlots.of_keeps F.keep).trans (hsm.trans x2))
end

section
variable {prog : Program} {w : World} {A₀ A : Around} {s : Shared} {base h₀ : Heap} {outer : List Env} {L : Addr} {m mg mb : Str → Option Value} {env : Env} {own : List (Addr × Obj)} {K : Frag} {p : Program} {loose : List Str} {mean : ExcName → Option Value}
  {Q E : Value → Shared → Prop} {R : Result → Shared → Prop} {name qual : Str} {params : Arguments} {body : List Stmt} {scope : Scope} {cl : List (Str × Addr)} {doc pm ct : Value} {c' f : Addr} {vals : List Value} {binds : List (Str × Value)} {dp un : Nat}

/-- a call of a function object that stands in the heap -/
theorem call_ownF (x : AIn A dp un env outer) (B : Below A₀ base outer h₀) (F : Fr h₀ L s.heap m) (X₀ : K.In h₀) (N : News h₀ L s.heap own) (T : Top p loose mean mg mb h₀) (hf : env.frame = some L) (hke : env.scope.kind = .function)
    (ho : s.heap.get? f = some (fnMade name qual params body scope cl doc pm c' ct)) (hcd : s.heap.CodeRec (.ref c') qual) (hroom : dp < recursionLimit)
    (hbind : BindsTo s (fnX name qual params body scope cl .none .none doc pm none (.ref c') ct) ⟨vals, []⟩ binds) (hloc : ∀ y ∈ binds, scope.names.lookup y.1 = some .local)
    (h : ∀ g L' h₁, KeepBut s.heap (own.map (·.1)) g → Fr h₀ L g m → Fr g L' h₁ (fun y => binds.reverse.lookup y) → News g L' h₁ own → Below (AT dp un env outer) base (env :: outer) g → K.In g → Top p loose mean mg mb g → (∀ p ∈ own, p.1 < L') →
      wpAny (model prog w) ((AT dp un env outer).deeper (envX qual scope L' f (.ref c') cl)) (execs body (envX qual scope L' f (.ref c') cl))
        (fun fl s' => LeaveK h₀ L m g (OwnR own s Q E) (match fl with | .ret v => v | _ => .none) s')
        (fun e s' => wpAny (model prog w) ((AT dp un env outer).deeper (envX qual scope L' f (.ref c') cl)) (leaving (envX qual scope L' f (.ref c') cl) e) (fun _ s'' => E e s'') (fun e' s'' => E e' s'') s')
        { s with heap := h₁, toks := s.toks + binds.length })
    (hco : scope.isCoroutine = false) (hgen : scope.isGenerator = false) (hk : scope.kind = .function)
    (hcell : ∀ x ∈ scope.names, x.2 ≠ .cell) : wpAny (model prog w) A (call (.ref f) vals) Q E s := by
  refine wpAny_call (codeAny_room x ?_)
  obtain ⟨FG, BG, st, lv⟩ := groundX (A := AT dp un env outer) (R := OwnR own s Q E) B F N rfl hf hke
  have BG' : Below (AT dp un env outer) base (env :: outer) (hideAll s.heap (own.map (·.1))) := BG
  refine codeAny_call_def (fd := fnX name qual params body scope cl .none .none doc pm none (.ref c') ct) (body := body) (binds := binds) hroom ho rfl (T.nolimit.keeps F.keep) hcd rfl hbind hcell hloc (fun h₁ hns hk₁ => ?_) hco hgen hk
  have up : KeepBut s.heap (own.map (·.1)) (hideAll s.heap (own.map (·.1))) := fun b o n e => hideAll_get _ e n
  refine wpAny_mono (h _ s.heap.objs.size h₁ up FG ⟨hns, fun b o e => hk₁ b o (of_hideAll _ e), Nat.le_of_eq (hideAll_size _ _)⟩
    (fun p hp => ⟨hk₁ _ _ (N p hp).1, Nat.ne_of_lt (Heap.lt_size (N p hp).1), hideAll_none _ (List.mem_map_of_mem hp)⟩) BG' (X₀.keeps st) (T.keeps st) (fun p hp => Heap.lt_size (N p hp).1)) (fun fl s' hl => ?_) fun _ _ y => y
  have h2 := lv _ _ hl
  obtain ⟨_, _, _, F', _, _⟩ := hl
  exact h2 fun b o n e => F'.keep b o (up b o n e)

/-- the like, within a walk -/
theorem code_made {args : Args} (B : Below A₀ base outer h₀) (F : Fr h₀ L s.heap m) (X₀ : K.In h₀) (N : News h₀ L s.heap own) (T : Top p loose mean mg mb h₀) (hA : A.frames = some (env :: outer)) (hf : env.frame = some L) (hke : env.scope.kind = .function)
    (ho : s.heap.get? f = some (fnMade name qual params body scope cl doc pm c' ct)) (hcd : s.heap.CodeRec (.ref c') qual) (hroom : A.depth < recursionLimit)
    (hbind : BindsTo s (fnX name qual params body scope cl .none .none doc pm none (.ref c') ct) args binds) (hloc : ∀ y ∈ binds, scope.names.lookup y.1 = some .local)
    (h : ∀ g L' h₁, Fr h₀ L g m → Fr g L' h₁ (fun y => binds.reverse.lookup y) → News g L' h₁ own → Below A base (env :: outer) g → K.In g → Top p loose mean mg mb g →
      wpAny (model prog w) (A.deeper (envX qual scope L' f (.ref c') cl)) (execs body (envX qual scope L' f (.ref c') cl))
        (fun fl s' => LeaveK h₀ L m g R (match fl with | .ret v => v | _ => .none) s')
        (fun e s' => wpAny (model prog w) (A.deeper (envX qual scope L' f (.ref c') cl)) (leaving (envX qual scope L' f (.ref c') cl) e) (fun _ s'' => R (.error e) s'') (fun e' s'' => R (.error e') s'') s')
        { s with heap := h₁, toks := s.toks + binds.length })
    (hco : scope.isCoroutine = false) (hgen : scope.isGenerator = false) (hk : scope.kind = .function)
    (hcell : ∀ x ∈ scope.names, x.2 ≠ .cell) : codeAny (model prog w) A (.call (.ref f) args) R s :=
  callX_plain (cl := cl) B F N T.nolimit hA hf hke ho rfl hcd hroom hbind hloc (fun g L' h₁ FG F' N' B' st _ => h g L' h₁ FG F' N' B' (X₀.keeps st) (T.keeps st)) hcell hco hgen hk
end
end Mine

/-- the walk's refs as a fresh process has them: open_top leaves walkTop true -/
theorem Mine.off_ReadP : True := by
  w_top off
  k_with_none
  trivial
set_option maxRecDepth 100000
namespace Mine
open PySem PySem.W PyProof.Rows PySem.Calls PySem.SeqAt

theorem newsNil {h₀ h : Heap} {L : Addr} {m : Str → Option Value} (_ : Fr h₀ L h m) : News h₀ L h [] := News.nil
theorem strs_mem {vals : List Value} {ws : List Str} (h : StrsAre vals ws) : ∀ y ∈ vals, ∃ x t, y = .str x t ∧ x ∈ ws := by
  induction h with
  | nil => intro y hy; cases hy
  | cons a u _ ih =>
    intro y hy
    rcases List.mem_cons.mp hy with rfl | hy
    · exact ⟨_, _, rfl, .head _⟩
    · obtain ⟨x, t, e, hx⟩ := ih y hy
      exact ⟨x, t, e, .tail _ hx⟩
def isStr (x : Str) : Value → Bool | .str y _ => y == x | _ => false
theorem strs_any {vals : List Value} {ws : List Str} (x : Str) (h : StrsAre vals ws) : vals.any (isStr x) = ws.any (· == x) := by
  induction h with
  | nil => rfl
  | cons a u _ ih => rw [List.any_cons, List.any_cons, ih]; rfl

section
variable {prog : Program} {w : World} {A : Around} {E Q : Value → Shared → Prop} {s : Shared} {g : Heap} {D : Addr} {vals : List Value} {ws : List Str} {v : Value} {tr : Bool} {x : Str} {t : Tok}
theorem in_text_plain (hD : g.get? D = some (tupObj vals)) (k : ∀ b o, g.get? b = some o → s.heap.get? b = some o) (hv : StrsAre vals ws) (hp : Plain prog w s.heap v tr) (hu : A.in1.units < cLine) (h : Q (.bool false) s) :
    wpAny (model prog w) A (compareOp .In v (.ref D)) Q E s := by
  refine in_tupleAt (fun _ => false) ⟨_, k _ _ hD, rfl, _, rfl⟩ (fun y hy => ?_) ?_
  · obtain ⟨x, t, rfl, _⟩ := strs_mem hv y (by simpa using hy)
    exact hp.ne _ _ _ _ rfl hu
  · have e : (vals.toArray.any fun _ => false) = false := by simp
    rw [e]; exact h
theorem in_text_str (hD : g.get? D = some (tupObj vals)) (k : ∀ b o, g.get? b = some o → s.heap.get? b = some o) (hv : StrsAre vals ws) (h : Q (.bool (ws.any (· == x))) s) :
    wpAny (model prog w) A (compareOp .In (.str x t) (.ref D)) Q E s := by
  refine in_tupleAt (isStr x) ⟨_, k _ _ hD, rfl, _, rfl⟩ (fun y hy => ?_) ?_
  · obtain ⟨y, u, rfl, _⟩ := strs_mem hv y (by simpa using hy)
    exact EqAt.str_str _ _ _ _
  · have e : vals.toArray.any (isStr x) = ws.any (· == x) := by rw [← strs_any x hv]; simp
    rw [e]; exact h
end

local macro_rules | `(tactic| walk_at "bov") => `(tactic| ((try conv in (occs := *) bovBody => all_goals whnf); (try conv in (occs := *) bovParams => all_goals whnf); (try conv in (occs := *) bovScope => all_goals whnf)))
local macro_rules | `(tactic| walk_at "eval Name") => `(tactic| (k_here; (with_reducible show wpAny _ _ (eval (Expr.Name ("text" : Str) _) _) _ _ _); k_dflt (refine' nameX_Fh ?x1 ?x2 ?x3 ?_; (case x1 => rfl); (case x2 => exact (Fr.keep (by assumption) _ _ (by assumption))); (case x3 => assumption); k_whole)))
local macro_rules | `(tactic| walk_at "compareOp In") => `(tactic| (k_here; rename (∀ g : Heap, (∀ b o, _ → g.get? b = some o) → Plain _ _ g _ _) => hpl'; refine in_text_plain (by assumption) (Fr.keep (by assumption)) (by assumption) (hpl' _ (Fr.keep (by assumption))) (Nat.le_of_ble_eq_true rfl) ?_))
local macro_rules | `(tactic| walk_at "call ref") => `(tactic| (k_here; (with_reducible show wpAny _ _ (call (Value.ref 21) [_]) _ _ _); rename (∀ g : Heap, (∀ b o, _ → g.get? b = some o) → Plain _ _ g _ _) => hpl'; k_dflt (refine' asbool_plain ?hA ?B ?F ?X ?T ?hf ?hke (fun g hk => hpl' g fun b o e => hk b o (Fr.keep (by assumption) b o e)) ?_; (case hA => exact ⟨rfl, Nat.le_of_ble_eq_true rfl, rfl, rfl, Nat.le_of_ble_eq_true rfl⟩); (case B => k_asm); (case F => k_asm); (case X => k_asm); (case T => k_asm); (case hf => exact rfl); (case hke => exact rfl); k_whole); intro h' tk' F' kp'; (have N' := newsNil F'); (try k_sweep)))

section
variable {w : World} {A₀ A : Around} {s : Shared} {base h₀ : Heap} {outer : List Env} {L : Addr} {m mg mb : Str → Option Value} {env : Env} {p : Program} {loose : List Str} {mean : ExcName → Option Value}
    {Q E : Value → Shared → Prop} {v : Value} {tr : Bool} {q : Addr} {vals : List Value} {ws : List Str} {x : Str} {t : Tok}
set_option maxHeartbeats 4000000 in
theorem reader_plain (hA : AIn A 700 1200 env outer) (B : Below A₀ base outer h₀) (F : Fr h₀ L s.heap m) (X₀ : (hd.heap_39 w.params).In h₀) (T : Top p loose mean mg mb h₀) (hf : env.frame = some L) (hke : env.scope.kind = .function)
    (R : ReaderAt s.heap q vals) (hv : StrsAre vals ws)
    (hp : ∀ g : Heap, (∀ b o, s.heap.get? b = some o → g.get? b = some o) → Plain PySem.Challenge.rw_bq5029_01.row.prog w g v tr)
    (ret : ∀ (h' : Heap) (tk' : Nat), Fr h₀ L h' m → KeepBut s.heap [] h' → Q (.bool tr) { s with heap := h', toks := tk' }) :
    wpAny (model PySem.Challenge.rw_bq5029_01.row.prog w) A (call (.ref q) [v]) Q E s := by
  obtain ⟨c', c, D, oq, oc, oe, ⟨⟨qual, dc, pm, ct, vs, tq, rfl, hoc, hvs⟩, hoe⟩, e1, e2, e3, e4⟩ := R
  revert X₀; k_fill; intro X₀
  refine' call_ownF (own := []) (binds := [(Str.ofString "obj", v)]) hA B F X₀ News.nil T hf hke e1 ⟨c', oc, vs, tq, rfl, e2, hoc, hvs⟩ ?hroom ?hbind ?hloc ?_ ?c2 ?c3 ?c4 ?c5
  case hroom => decide
  case hbind => exact BindsTo.of_eq rfl
  case hloc => walk_at "bov"; exact locs rfl
  case c2 => exact rfl
  case c3 => exact rfl
  case c4 => exact rfl
  case c5 => walk_at "bov"; decide
  intro g' L' h' up' FG' F' N' B' X' T' l1
  walk_at "bov"
  k_fold
  have hpl : ∀ g : Heap, (∀ b o, g'.get? b = some o → g.get? b = some o) → Plain PySem.Challenge.rw_bq5029_01.row.prog w g v tr := fun g hg => hp g fun b o e => hg b o (up' b o List.not_mem_nil e)
  have f3 : g'.get? c = some oe := up' _ _ List.not_mem_nil e3
  have f4 : g'.get? D = some (tupObj vals) := up' _ _ List.not_mem_nil e4
  clear F FG' hp e1 e2 e3 e4 hoc hvs
  k_steps
  all_goals
    rename KeepBut s.heap [] _ => kp
    exact ret _ _ (by assumption) kp
end
end Mine

/-- the walk's refs as a fresh process has them: open_top leaves walkTop true -/
theorem Mine.off_ReadS : True := by
  w_top off
  k_with_none
  trivial
set_option maxRecDepth 100000
namespace Mine
open PySem PySem.W PyProof.Rows PySem.Calls PySem.SeqAt

theorem truthy_is {M : Model} {A : Around} {E : Value → Shared → Prop} {Q : Bool → Shared → Prop} {s : Shared} {b c : Bool} (hb : b = c) (h : Q c s) : wpAny M A (truthy (.bool b)) Q E s := by
  subst hb; exact fun _ _ _ => h

local macro_rules | `(tactic| walk_at "bov") => `(tactic| ((try conv in (occs := *) bovBody => all_goals whnf); (try conv in (occs := *) bovParams => all_goals whnf); (try conv in (occs := *) bovScope => all_goals whnf)))
local macro_rules | `(tactic| walk_at "eval Name") => `(tactic| (k_here; (with_reducible show wpAny _ _ (eval (Expr.Name ("text" : Str) _) _) _ _ _); k_dflt (refine' nameX_Fh ?x1 ?x2 ?x3 ?_; (case x1 => rfl); (case x2 => exact (Fr.keep (by assumption) _ _ (by assumption))); (case x3 => assumption); k_whole)))
local macro_rules | `(tactic| walk_at "compareOp In str ref") => `(tactic| (k_here; k_dflt (refine' in_text_str ?x1 ?x2 ?x3 ?_; (case x1 => assumption); (case x2 => exact Fr.keep (by assumption)); (case x3 => assumption); k_whole)))
local macro_rules | `(tactic| walk_at "truthy bool") => `(tactic| (k_here; k_dflt (refine' truthy_is ?x1 ?_; (case x1 => assumption); k_whole)))
local macro_rules | `(tactic| walk_at "call builtin:str.lower") => `(tactic| (k_here; (refine lower_core (by assumption) (by omega) ?_); intro t' k'))

section
variable {w : World} {A₀ A : Around} {s : Shared} {base h₀ : Heap} {outer : List Env} {L : Addr} {m mg mb : Str → Option Value} {env : Env} {p : Program} {loose : List Str} {mean : ExcName → Option Value}
    {Q E : Value → Shared → Prop} {q : Addr} {vals : List Value} {ws : List Str} {x wd : Str} {t : Tok}
set_option maxHeartbeats 4000000 in
/-- a word that the reader keeps -/
theorem reader_in (hA : AIn A 700 1200 env outer) (B : Below A₀ base outer h₀) (F : Fr h₀ L s.heap m) (X₀ : (hd.heap_39 w.params).In h₀) (T : Top p loose mean mg mb h₀) (hf : env.frame = some L) (hke : env.scope.kind = .function)
    (R : ReaderAt s.heap q vals) (hv : StrsAre vals ws) (hin : ws.any (· == x) = true)
    (ret : ∀ (h' : Heap) (tk' : Nat), Fr h₀ L h' m → KeepBut s.heap [] h' → Q (.str x t) { s with heap := h', toks := tk' }) :
    wpAny (model PySem.Challenge.rw_bq5029_01.row.prog w) A (call (.ref q) [.str x t]) Q E s := by
  obtain ⟨c', c, D, oq, oc, oe, ⟨⟨qual, dc, pm, ct, vs, tq, rfl, hoc, hvs⟩, hoe⟩, e1, e2, e3, e4⟩ := R
  revert X₀; k_fill; intro X₀
  refine' call_ownF (own := []) (binds := [(Str.ofString "obj", .str x t)]) hA B F X₀ News.nil T hf hke e1 ⟨c', oc, vs, tq, rfl, e2, hoc, hvs⟩ ?hroom ?hbind ?hloc ?_ ?c2 ?c3 ?c4 ?c5
  case hroom => decide
  case hbind => exact BindsTo.of_eq rfl
  case hloc => walk_at "bov"; exact locs rfl
  case c2 => exact rfl
  case c3 => exact rfl
  case c4 => exact rfl
  case c5 => walk_at "bov"; decide
  intro g' L' h' up' FG' F' N' B' X' T' l1
  walk_at "bov"
  k_fold
  have f3 : g'.get? c = some oe := up' _ _ List.not_mem_nil e3
  have f4 : g'.get? D = some (tupObj vals) := up' _ _ List.not_mem_nil e4
  clear F FG' e1 e2 e3 e4 hoc hvs
  k_steps
  all_goals
    rename KeepBut s.heap [] _ => kp
    exact ret _ _ (by assumption) kp
set_option maxHeartbeats 4000000 in
/-- a word for no that the reader does not keep -/
theorem reader_no (hA : AIn A 700 1200 env outer) (B : Below A₀ base outer h₀) (F : Fr h₀ L s.heap m) (X₀ : (hd.heap_39 w.params).In h₀) (T : Top p loose mean mg mb h₀) (hf : env.frame = some L) (hke : env.scope.kind = .function)
    (R : ReaderAt s.heap q vals) (hv : StrsAre vals ws) (hin : ws.any (· == x) = false) (hxl : x.length ≤ 64) (hc : Txt.lower (Txt.strip x) = wd) (hy : (yesW.any fun x => x == wd) = false) (hn : (noW.any fun x => x == wd) = true)
    (ret : ∀ (h' : Heap) (tk' : Nat), Fr h₀ L h' m → KeepBut s.heap [] h' → Q (.bool false) { s with heap := h', toks := tk' }) :
    wpAny (model PySem.Challenge.rw_bq5029_01.row.prog w) A (call (.ref q) [.str x t]) Q E s := by
  obtain ⟨c', c, D, oq, oc, oe, ⟨⟨qual, dc, pm, ct, vs, tq, rfl, hoc, hvs⟩, hoe⟩, e1, e2, e3, e4⟩ := R
  revert X₀; k_fill; intro X₀
  refine' call_ownF (own := []) (binds := [(Str.ofString "obj", .str x t)]) hA B F X₀ News.nil T hf hke e1 ⟨c', oc, vs, tq, rfl, e2, hoc, hvs⟩ ?hroom ?hbind ?hloc ?_ ?c2 ?c3 ?c4 ?c5
  case hroom => decide
  case hbind => exact BindsTo.of_eq rfl
  case hloc => walk_at "bov"; exact locs rfl
  case c2 => exact rfl
  case c3 => exact rfl
  case c4 => exact rfl
  case c5 => walk_at "bov"; decide
  intro g' L' h' up' FG' F' N' B' X' T' l1
  walk_at "bov"
  k_fold
  have f3 : g'.get? c = some oe := up' _ _ List.not_mem_nil e3
  have f4 : g'.get? D = some (tupObj vals) := up' _ _ List.not_mem_nil e4
  clear F FG' e1 e2 e3 e4 hoc hvs
  k_steps
  all_goals
    rename KeepBut s.heap [] _ => kp
    exact ret _ _ (by assumption) kp
end
end Mine

/-- the walk's refs as a fresh process has them: open_top leaves walkTop true -/
theorem Mine.off_AskR : True := by
  w_top off
  k_with_none
  trivial
set_option maxRecDepth 100000
namespace Mine
open PySem PySem.W PyProof.Rows PySem.Calls PySem.SeqAt

/-- the reader's cell and words, in a heap -/
structure RdH (g : Heap) (q c' c D : Addr) (qual : Str) (dc pm ct : Value) (oc oe : Obj) (vals : List Value) : Prop where
  fn : g.get? q = some (fnMade (Str.ofString "bool_or_value") qual bovParams bovBody bovScope [(Str.ofString "text", c)] dc pm c' ct)
  code : g.CodeRec (.ref c') qual
  cell : g.get? c = some oe
  dat : oe.data = .cell (some (.ref D))
  tup : g.get? D = some (tupObj vals)
theorem RdH.keeps {g h : Heap} {q c' c D : Addr} {qual : Str} {dc pm ct : Value} {oc oe : Obj} {vals : List Value} (H : RdH g q c' c D qual dc pm ct oc oe vals) (k : ∀ b o, g.get? b = some o → h.get? b = some o) : RdH h q c' c D qual dc pm ct oc oe vals :=
  ⟨k _ _ H.fn, by obtain ⟨a, o, vs, t, e, ho, r⟩ := H.code; exact ⟨a, o, vs, t, e, k _ _ ho, r⟩, k _ _ H.cell, H.dat, k _ _ H.tup⟩
theorem ReaderAt.rdh {h : Heap} {q : Addr} {vals : List Value} (R : ReaderAt h q vals) : ∃ c' c D qual dc pm ct oc oe, RdH h q c' c D qual dc pm ct oc oe vals := by
  obtain ⟨c', c, D, oq, oc, oe, ⟨⟨qual, dc, pm, ct, vs, tq, rfl, hoc, hvs⟩, hoe⟩, e1, e2, e3, e4⟩ := R
  exact ⟨c', c, D, qual, dc, pm, ct, oc, oe, e1, ⟨c', oc, vs, tq, rfl, e2, hoc, hvs⟩, e3, hoe, e4⟩

section
variable {prog : Program} {w : World} {M : Model} {A : Around} {E : Value → Shared → Prop} {s : Shared} {L a q c' c D : Addr} {cn : Str} {cs : Scope} {ccd : Value} {cl : List (Str × Addr)} {qual : Str} {dc pm ct : Value} {oc oe : Obj} {vals : List Value} {ws : List Str}
  {x : Str} {t : Tok} {g : Heap} {Q : Value → Shared → Prop} {pos : Pos}
theorem nameX_Rd (H : RdH g q c' c D qual dc pm ct oc oe vals) (k : ∀ b o, g.get? b = some o → s.heap.get? b = some o) (hc : cl.lookup x = some c) (h : Q (.ref D) s)
    (hk : cs.kind = .function := by rfl) (hx : (envX cn cs L a ccd cl).kindOf x = some .free := by rfl) (hb : (x == ("__debug__" : Str)) = false := by decide) (hn : (x == ("__classdict__" : Str)) = false := by decide) :
    wpAny M A (eval (.Name x pos) (envX cn cs L a ccd cl)) Q E s := nameX_Fh hc (k _ _ H.cell) H.dat h hk hx hb hn
theorem in_text_rd (H : RdH g q c' c D qual dc pm ct oc oe vals) (k : ∀ b o, g.get? b = some o → s.heap.get? b = some o) (hv : StrsAre vals ws) (h : Q (.bool (ws.any (· == x))) s) :
    wpAny (model prog w) A (compareOp .In (.str x t) (.ref D)) Q E s := in_text_str H.tup k hv h
theorem fnAt_rd {h : Heap} (H : RdH g q c' c D qual dc pm ct oc oe vals) (k : ∀ b o, g.get? b = some o → h.get? b = some o) : FnAt q h := ⟨_, _, _, _, k _ _ H.fn⟩
end

local macro_rules | `(tactic| walk_at "bov") => `(tactic| ((try conv in (occs := *) bovBody => all_goals whnf); (try conv in (occs := *) bovParams => all_goals whnf); (try conv in (occs := *) bovScope => all_goals whnf)))
local macro_rules | `(tactic| walk_at "eval Name") => `(tactic| (k_here; (with_reducible show wpAny _ _ (eval (Expr.Name ("text" : Str) _) _) _ _ _); k_dflt (refine' nameX_Rd ?x1 ?x2 ?x3 ?_; (case x1 => assumption); (case x2 => exact (Fr.keep (by assumption))); (case x3 => rfl); k_whole)))
local macro_rules | `(tactic| walk_at "compareOp In str ref") => `(tactic| (k_here; k_dflt (refine' in_text_rd ?x1 ?x2 ?x3 ?_; (case x1 => assumption); (case x2 => exact Fr.keep (by assumption)); (case x3 => assumption); k_whole)))
local macro_rules | `(tactic| walk_at "call builtin:str.lower") => `(tactic| (k_here; (refine lower_core (by assumption) (by omega) ?_); intro t' k'))
local macro_rules | `(tactic| walk_at "binaryOp Mod str str") => `(tactic| (k_here; (refine mod_repr (by assumption) ?_); intro x' t' k'))
local macro_rules | `(tactic| walk_at "callWith ref") => `(tactic| (k_here; k_dflt (refine' callWith_F ?k1 ?_; (case k1 => exact fnAt_rd (by assumption) (Fr.keep (by assumption))); k_whole)))
local macro_rules | `(tactic| walk_at "FnAt") => `(tactic| (k_dflt (exact fnAt_rd (by assumption) (Fr.keep (by assumption)))))
local macro_rules | `(tactic| walk_at "call ref") => `(tactic| (k_here; k_dflt (refine wpAny_call ?_; refine' code_made ?k1 ?k2 ?k3 ?k4 ?k5 ?kA ?kF ?kK (RdH.keeps ?kH ?kk).fn (RdH.keeps ?kH ?kk).code ?k8 ?k9 ?kB ?_ ?c2 ?c3 ?c4 ?c5; (case kA => exact rfl); (case kF => exact rfl); (case kK => exact rfl); (case kH => assumption); (case kk => exact Fr.keep (by assumption)); (case k1 => k_asm); (case k2 => k_asm); (case k3 => k_asm); (case k4 => k_asm); (case k5 => k_asm); (case k8 => k_room); (case k9 => exact BindsTo.of_eq rfl); (case c5 => walk_at "bov"; decide); (case kB => walk_at "bov"; exact locs rfl); (case c2 => exact rfl); (case c3 => exact rfl); (case c4 => exact rfl); k_whole); intro g' L' h' FG' F' N' B' X' T'; (have H' := RdH.keeps (by assumption) (Fr.keep FG')); walk_at "bov"; (try dsimp only); (try k_lift B'); (try k_fold)))
local macro_rules | `(tactic| walk_at "leaving ref") => `(tactic| (k_here; k_dflt (refine' leave_onX rfl ?k1 ?k2 ?k3 ?k4 ?_; (case k3 => assumption); (case k2 => assumption); (case k1 => assumption); (case k4 => assumption); k_whole); intro h' S' R' U'; (try dsimp only at S' R' U' ⊢)))

section
variable {w : World} {A₀ A : Around} {s : Shared} {h₀ : Heap} {L a : Addr} {m mg mb : Str → Option Value} {cn : Str} {cs : Scope} {ccd : Value} {p : Program} {loose : List Str} {mean : ExcName → Option Value}
    {Q E : Value → Shared → Prop} {d wd : Str} {t : Tok} {q : Addr} {vals : List Value} {ws : List Str}
set_option maxHeartbeats 4000000 in
theorem asked_reader (hA : AIn A 700 1200 (envOf cn cs L a ccd) []) (B : Below A₀ h₀ [] h₀) (F : Fr h₀ L s.heap m) (X₀ : (hd.heap_39 w.params).In h₀) (T : Top p loose mean mg mb h₀) (hck : cs.kind = .function)
    (R : ReaderAt s.heap q vals) (hv : StrsAre vals ws)
    (hdl : d.length ≤ 64) (hc : Txt.lower (Txt.strip d) = wd) (hw : (reprText wd).length ≤ 1000000)
    (ret0 : ∀ (h' : Heap) (tk' : Nat), ws.any (· == d) = true → Fr h₀ L h' m → KeepBut s.heap [L] h' → Q (.str d t) { s with heap := h', toks := tk' })
    (ret1 : ∀ (h' : Heap) (tk' : Nat), ws.any (· == d) = false → (yesW.any fun x => x == wd) = true → Fr h₀ L h' m → KeepBut s.heap [L] h' → Q (.bool true) { s with heap := h', toks := tk' })
    (ret2 : ∀ (h' : Heap) (tk' : Nat), ws.any (· == d) = false → (yesW.any fun x => x == wd) = false → (noW.any fun x => x == wd) = true → Fr h₀ L h' m → KeepBut s.heap [L] h' → Q (.bool false) { s with heap := h', toks := tk' })
    (ret3 : ∀ (h' : Heap) (tk' : Nat), ws.any (· == d) = false → (yesW.any fun x => x == wd) = false → (noW.any fun x => x == wd) = false → Fr h₀ L h' m → KeepBut s.heap [L] h' → Q (.ref 36) { s with heap := h', toks := tk' }) :
    wpAny (model PySem.Challenge.rw_bq5029_01.row.prog w) A (call (.ref 97) [.ref q, .str d t]) Q E s := by
  obtain ⟨c', c, D, qual, dc, pm, ct, oc, oe, H⟩ := R.rdh
  revert X₀; k_fill; intro X₀
  refine' call_try (own := []) (binds := [(Str.ofString "fn", .ref q), (Str.ofString "thing", .str d t)]) hA B F X₀ News.nil T hck ?ho ?hcd ?hroom ?hbind ?hloc ?_ ?c2 ?c3 ?c4 ?c5
  case ho => k_is
  case hcd => k_is
  case hroom => decide
  case hbind => exact BindsTo.of_eq rfl
  case hloc => exact locs rfl
  case c2 => exact rfl
  case c3 => exact rfl
  case c4 => exact rfl
  case c5 => decide
  intro g' L' h' up' FG' F' N' B' X' T' D' l1
  k_fold
  have H2 : RdH g' q c' c D qual dc pm ct oc oe vals := H.keeps fun b o e => up' b o List.not_mem_nil e
  clear F FG' H R
  k_steps
  · rename KeepBut s.heap _ _ => kp
    exact ret0 _ _ (by assumption) (by assumption) kp
  · rename KeepBut s.heap _ _ => kp
    exact ret1 _ _ (by assumption) (by assumption) (by assumption) kp
  · rename KeepBut s.heap _ _ => kp
    exact ret2 _ _ (by assumption) (by assumption) (by assumption) (by assumption) kp
  · rename KeepBut s.heap _ _ => kp
    exact ret3 _ _ (by assumption) (by assumption) (by assumption) (by assumption) kp
end
end Mine

/-- the walk's refs as a fresh process has them: open_top leaves walkTop true -/
theorem Mine.off_WordLaw : True := by
  w_top off
  k_with_none
  trivial
set_option maxRecDepth 100000
namespace Mine
open PySem PySem.W PyProof.Rows PySem.Calls
open PySem.Builtin.Str

/-- a code that stays as it is -/
def calm (c : Nat) : Bool := Unicode.lowerOf c == [c] && c != 0x3A3
def lowHead (c : Nat) : Nat := (Unicode.lowerOf c).headD c
/-- a word that stays as it is, and neither opens nor ends blank -/
def tame (wd : Str) : Bool := wd.cps.toList.all calm && !(wd.cps.toList.head?.any Unicode.isSpace) && !(wd.cps.toList.getLast?.any Unicode.isSpace)

theorem greats_ok : ∀ p ∈ greats, Unicode.lowerOf p.2 = [p.1] ∧ p.2 ≠ 0x3A3 ∧ Unicode.isSpace p.1 = false ∧ Unicode.isSpace p.2 = false := by decide +kernel
theorem up_low {c c' : Nat} (h : Up1 c c') (hc : calm c = true) : Unicode.lowerOf c' = [c] ∧ c' ≠ 0x3A3 := by
  rcases h with rfl | h
  · simpa [calm] using hc
  · exact ⟨(greats_ok _ h).1, (greats_ok _ h).2.1⟩
theorem up_space {c c' : Nat} (h : Up1 c c') : Unicode.isSpace c' = Unicode.isSpace c := by
  rcases h with rfl | h
  · rfl
  · rw [(greats_ok _ h).2.2.1, (greats_ok _ h).2.2.2]

theorem ups_low : ∀ {r us : List Nat}, Ups r us → r.all calm = true → us.map lowHead = r ∧ ∀ c ∈ us, Unicode.lowerOf c = [lowHead c] ∧ c ≠ 0x3A3
  | _, _, .nil, _ => ⟨rfl, fun _ h => nomatch h⟩
  | _ :: _, _ :: _, .cons (c := c0) (c' := c1) h1 h2, hr => by
    rw [List.all_cons, Bool.and_eq_true] at hr
    obtain ⟨e, h⟩ := ups_low h2 hr.2
    obtain ⟨e1, e2⟩ := up_low h1 hr.1
    have e3 : lowHead c1 = c0 := by unfold lowHead; rw [e1]; rfl
    refine ⟨by rw [List.map_cons, e, e3], fun c hc => ?_⟩
    rcases List.mem_cons.mp hc with rfl | hc
    · exact ⟨by rw [e3]; exact e1, e2⟩
    · exact h c hc

theorem lower_ups {r us : List Nat} (h : Ups r us) (hr : r.all calm = true) : Txt.lower ⟨us.toArray⟩ = ⟨r.toArray⟩ := by
  obtain ⟨e, h⟩ := ups_low h hr
  unfold Txt.lower
  rw [placed_single ⟨us.toArray⟩ _ lowHead fun i c hc => by
    have hc0 : us[i]? = some c := hc
    have hc' : us.toArray[i]? = some c := by simpa using hc0
    obtain ⟨k1, k2⟩ := h c (List.mem_of_getElem? hc0)
    unfold Unicode.lowerAt
    show (match us.toArray[i]? with | none => [] | some c => if c == 0x3A3 && Unicode.endsWord us.toArray i then [0x3C2] else Unicode.lowerOf c) = [lowHead c]
    rw [hc']
    have hne : (c == 0x3A3) = false := by rw [beq_eq_false_iff_ne]; exact k2
    simp only [hne, Bool.false_and, Bool.false_eq_true, if_false]
    exact k1]
  show (⟨us.toArray.map lowHead⟩ : Str) = ⟨r.toArray⟩
  rw [List.map_toArray, e]

theorem ups_head : ∀ {r us : List Nat}, Ups r us → us.head?.any Unicode.isSpace = r.head?.any Unicode.isSpace
  | _, _, .nil => rfl
  | _, _, .cons h _ => up_space h
theorem ups_last : ∀ {r us : List Nat}, Ups r us → us.getLast?.any Unicode.isSpace = r.getLast?.any Unicode.isSpace
  | _, _, .nil => rfl
  | _, _, .cons h .nil => up_space h
  | _, _, .cons _ (.cons h1 h2) => by
    have := ups_last (.cons h1 h2)
    simpa [List.getLast?_cons_cons] using this

theorem takeWhile_all {p : Nat → Bool} : ∀ {a b : List Nat}, (∀ c ∈ a, p c = true) → (a ++ b).takeWhile p = a ++ b.takeWhile p
  | [], _, _ => rfl
  | x :: a, b, h => by
    have hx := h x (.head _)
    rw [List.cons_append, List.takeWhile_cons, hx, if_pos rfl, takeWhile_all fun c hc => h c (.tail _ hc)]; rfl
theorem takeWhile_head {p : Nat → Bool} {b c : List Nat} (hne : b ≠ []) (h : b.head?.any p = false) : (b ++ c).takeWhile p = [] := by
  cases b with
  | nil => exact absurd rfl hne
  | cons x b => simp only [List.head?_cons, Option.any_some] at h; rw [List.cons_append, List.takeWhile_cons, h]; rfl
theorem takeWhile_none {p : Nat → Bool} {b : List Nat} (h : b.head?.any p = false) : b.takeWhile p = [] := by
  cases b with
  | nil => rfl
  | cons x b => simp only [List.head?_cons, Option.any_some] at h; rw [List.takeWhile_cons, h]; rfl

theorem strip_mid {a u b : List Nat} (ha : ∀ c ∈ a, Unicode.isSpace c = true) (hb : ∀ c ∈ b, Unicode.isSpace c = true) (h1 : u.head?.any Unicode.isSpace = false) (h2 : u.getLast?.any Unicode.isSpace = false) :
    Txt.strip ⟨(a ++ u ++ b).toArray⟩ = ⟨u.toArray⟩ := by
  rw [Txt.strip, W.stripBy_eq]
  unfold W.stripped
  simp only [if_true]
  show strSub ⟨(a ++ u ++ b).toArray⟩ ((a ++ u ++ b).takeWhile Unicode.isSpace).length ((a ++ u ++ b).toArray.size - (((a ++ u ++ b).drop ((a ++ u ++ b).takeWhile Unicode.isSpace).length).reverse.takeWhile Unicode.isSpace).length) = _
  unfold strSub
  simp only [List.size_toArray, List.extract_toArray]
  congr 2
  cases u with
  | nil =>
    have e : (a ++ [] ++ b).takeWhile Unicode.isSpace = a ++ b := by
      rw [List.append_nil, takeWhile_all ha, ← List.append_nil b, takeWhile_all hb]; simp
    rw [e]
    simp
  | cons x u =>
    have e : (a ++ (x :: u) ++ b).takeWhile Unicode.isSpace = a := by
      rw [List.append_assoc, takeWhile_all ha, takeWhile_head (List.cons_ne_nil _ _) h1, List.append_nil]
    rw [e, List.append_assoc, List.drop_left, List.reverse_append]
    have e2 : (b.reverse ++ (x :: u).reverse).takeWhile Unicode.isSpace = b.reverse := by
      rw [takeWhile_all fun c hc => hb c (List.mem_reverse.mp hc), takeWhile_none (by rw [List.head?_reverse]; exact h2), List.append_nil]
    rw [e2]
    simp only [List.extract_eq_take_drop, List.length_append, List.length_reverse]
    rw [List.drop_left, show a.length + ((x :: u).length + b.length) - b.length - a.length = (x :: u).length by omega, List.take_left]

theorem blank_space {b : Str} (h : b ∈ blanks) : ∀ c ∈ b.cps.toList, Unicode.isSpace c = true := by
  have k : ∀ b ∈ blanks, ∀ c ∈ b.cps.toList, Unicode.isSpace c = true := by decide +kernel
  exact k b h
theorem yes_tame : ∀ wd ∈ yesW, tame wd = true := by decide +kernel
theorem no_tame : ∀ wd ∈ noW, tame wd = true := by decide +kernel
theorem neither_tame : ∀ wd ∈ neitherW, tame wd = true := by decide +kernel
theorem yes_small : ∀ wd ∈ yesW, wd.cps.toList.all (fun c => decide (c < 16 ^ 8)) = true := by decide +kernel
theorem no_small : ∀ wd ∈ noW, wd.cps.toList.all (fun c => decide (c < 16 ^ 8)) = true := by decide +kernel
theorem neither_small : ∀ wd ∈ neitherW, wd.cps.toList.all (fun c => decide (c < 16 ^ 8)) = true := by decide +kernel
theorem yes_yes : ∀ wd ∈ yesW, (yesW.any fun x => x == wd) = true := by decide +kernel
theorem no_yes : ∀ wd ∈ noW, (yesW.any fun x => x == wd) = false := by decide +kernel
theorem no_no : ∀ wd ∈ noW, (noW.any fun x => x == wd) = true := by decide +kernel
theorem neither_yes : ∀ wd ∈ neitherW, (yesW.any fun x => x == wd) = false := by decide +kernel
theorem neither_no : ∀ wd ∈ neitherW, (noW.any fun x => x == wd) = false := by decide +kernel

theorem dressed_low {wd d : Str} (h : Dressed wd d) (ht : tame wd = true) : Txt.lower (Txt.strip d) = wd := by
  obtain ⟨b₁, b₂, us, h1, h2, hu, rfl⟩ := h
  simp only [tame, Bool.and_eq_true, Bool.not_eq_true'] at ht
  have e : (b₁ ++ ⟨us.toArray⟩ ++ b₂ : Str) = ⟨(b₁.cps.toList ++ us ++ b₂.cps.toList).toArray⟩ := by
    apply Str.ext'
    rw [Str.cps_append, Str.cps_append]
    apply Array.toList_inj.mp
    simp
  rw [e, strip_mid (blank_space h1) (blank_space h2) (by rw [ups_head hu]; exact ht.1.2) (by rw [ups_last hu]; exact ht.2), lower_ups hu ht.1.1]
theorem dressed_len {wd d : Str} (h : Dressed wd d) (hl : wd.length ≤ 20) : d.length ≤ 64 := by
  obtain ⟨b₁, b₂, us, h1, h2, hu, rfl⟩ := h
  rw [Str.length_append, Str.length_append]
  have k1 := blank_len h1
  have k2 := blank_len h2
  have k3 : (⟨us.toArray⟩ : Str).length = us.length := by show us.toArray.size = _; simp
  have k4 := Ups.length hu
  have k5 : wd.cps.toList.length = wd.length := by show _ = wd.cps.size; simp
  omega
theorem repr_small {wd : Str} (hl : wd.length ≤ 20) (h : wd.cps.toList.all (fun c => decide (c < 16 ^ 8)) = true) : (reprText wd).length ≤ 1000000 := by
  have k := StrLaws.reprText_len wd fun c hc => by
    have := List.all_eq_true.mp h c hc
    simpa using this
  omega

/-- what the law needs of a drawn word -/
structure WordIs (d : Str) (due : Value) (wd : Str) : Prop where
  low : Txt.lower (Txt.strip d) = wd
  len : d.length ≤ 64
  rep : (reprText wd).length ≤ 1000000
  due : (due = .bool true ∧ (yesW.any fun x => x == wd) = true) ∨ (due = .bool false ∧ (yesW.any fun x => x == wd) = false ∧ (noW.any fun x => x == wd) = true) ∨ (due = .none ∧ (yesW.any fun x => x == wd) = false ∧ (noW.any fun x => x == wd) = false)
theorem word_is {d : Str} {due : Value} (h : WordOk d due) : ∃ wd, WordIs d due wd := by
  obtain ⟨wd, hd, h⟩ := h
  refine ⟨wd, ?_⟩
  rcases h with ⟨e, hm⟩ | ⟨e, hm⟩ | ⟨e, hm⟩
  · exact ⟨dressed_low hd (yes_tame _ hm), dressed_len hd (yes_len hm), repr_small (yes_len hm) (yes_small _ hm), .inl ⟨e, yes_yes _ hm⟩⟩
  · exact ⟨dressed_low hd (no_tame _ hm), dressed_len hd (no_len hm), repr_small (no_len hm) (no_small _ hm), .inr (.inl ⟨e, no_yes _ hm, no_no _ hm⟩)⟩
  · exact ⟨dressed_low hd (neither_tame _ hm), dressed_len hd (neither_len hm), repr_small (neither_len hm) (neither_small _ hm), .inr (.inr ⟨e, neither_yes _ hm, neither_no _ hm⟩)⟩
end Mine

/-- the walk's refs as a fresh process has them: open_top leaves walkTop true -/
theorem Mine.off_Steps : True := by
  w_top off
  k_with_none
  trivial
set_option maxRecDepth 100000
namespace Mine
open PySem PySem.W PyProof.Rows PySem.Calls

theorem News.keepL {h₀ h h' : Heap} {L : Addr} {news : List (Addr × Obj)} (N : News h₀ L h news) (k : KeepBut h [L] h') : News h₀ L h' news := fun p hp => ⟨k _ _ (fun q => (N p hp).2.1 (List.mem_singleton.mp q)) (N p hp).1, (N p hp).2⟩
theorem News.keep0 {h₀ h h' : Heap} {L : Addr} {news : List (Addr × Obj)} (N : News h₀ L h news) (k : KeepBut h [] h') : News h₀ L h' news := fun p hp => ⟨k _ _ List.not_mem_nil (N p hp).1, (N p hp).2⟩
theorem News.cons1 {h₀ h : Heap} {L : Addr} {q : Addr × Obj} {news news' : List (Addr × Obj)} (N : News h₀ L h news) (hq : q ∈ news) (N' : News h₀ L h news') : News h₀ L h (q :: news') := fun p hp => by
  rcases List.mem_cons.mp hp with rfl | hp
  · exact N _ hq
  · exact N' _ hp
theorem Reader.at {h₀ h : Heap} {L q c' c D : Addr} {oq oc oe : Obj} {vals : List Value} {news : List (Addr × Obj)} (R : Reader q c' c D oq oc oe) (N : News h₀ L h news) (h1 : (q, oq) ∈ news) (h2 : (c', oc) ∈ news) (h3 : (c, oe) ∈ news) (h4 : (D, tupObj vals) ∈ news) : ReaderAt h q vals :=
  ⟨c', c, D, oq, oc, oe, R, (N _ h1).1, (N _ h2).1, (N _ h3).1, (N _ h4).1⟩
theorem Reader.fnAt {h₀ h : Heap} {L q c' c D : Addr} {oq oc oe : Obj} {news : List (Addr × Obj)} (R : Reader q c' c D oq oc oe) (N : News h₀ L h news) (h1 : (q, oq) ∈ news) : FnAt q h := by
  obtain ⟨⟨qual, dc, pm, ct, vs, t, rfl, _⟩, _⟩ := R
  exact ⟨_, _, _, _, (N _ h1).1⟩

/-- what asbool is due to say of a word -/
def dueTold : Value → Value | .bool b => .bool b | _ => .ref 36

section
variable {w : World} {A₀ A : Around} {s : Shared} {base h₀ : Heap} {outer : List Env} {L : Addr} {m mg mb : Str → Option Value} {env : Env} {p : Program} {loose : List Str} {mean : ExcName → Option Value}
    {Q E : Value → Shared → Prop} {a l : Addr} {i x : Int} {ti tx tk : Tok} {n : Nat} {vs : List Value} {ns : List Int} {num : Int} {news : List (Addr × Obj)} {g : Obj → List (Addr × Obj)}
theorem word_step (hA : AIn A 700 1200 env outer) (B : Below A₀ base outer h₀) (F : Fr h₀ L s.heap m) (X₀ : (hd.heap_39 w.params).In h₀) (T : Top p loose mean mg mb h₀) (hf : env.frame = some L) (hke : env.scope.kind = .function)
    (N : News h₀ L s.heap news) (U : UpdF a (stObj l i ti x tx n) news g) (hl : s.heap.IsList l vs.toArray) (hi : IntsAre vs ns) (hlen : ns.length ≤ 63)
    (b : 0 ≤ i ∧ i ≤ ns.length ∧ 0 ≤ x ∧ x < 2147483647)
    (ret : ∀ (r : Addr) (d : Str) (t : Tok) (due : Value) (wd : Str) (i' : Int) (ti' : Tok) (x' : Int) (tx' : Tok) (h' : Heap) (tk' : Nat), WordIs d due wd → (0 ≤ i' ∧ i' ≤ ns.length ∧ 0 ≤ x' ∧ x' < 2147483647) → Fr h₀ L h' m → News h₀ L h' (g (stObj l i' ti' x' tx' n)) → IsTup h' r [.str d t, due].toArray →
      Q (.ref r) { s with heap := h', toks := tk' }) :
    wpAny (model PySem.Challenge.rw_bq5029_01.row.prog w) A (call (.ref 83) [.ref a]) Q E s :=
  word_call hA B F X₀ T hf hke (News.one N (UpdF_mem U)) hl hi hlen b fun r d t due i' ti' x' tx' h' tk' hw b' F' N' _ kp => by
    obtain ⟨wd, hw⟩ := word_is hw
    exact ret r d t due wd i' ti' x' tx' h' tk' hw b' F' (UpdF_keep N U kp (News.get N' (.tail _ (.head _)))) ⟨_, News.get N' (.head _), rfl, _, rfl⟩
theorem other_step (hA : AIn A 700 1200 env outer) (B : Below A₀ base outer h₀) (F : Fr h₀ L s.heap m) (X₀ : (hd.heap_39 w.params).In h₀) (T : Top p loose mean mg mb h₀) (hf : env.frame = some L) (hke : env.scope.kind = .function)
    (N : News h₀ L s.heap news) (U : UpdF a (stObj l i ti x tx n) news g) (hl : s.heap.IsList l vs.toArray) (hi : IntsAre vs ns) (hlen : ns.length ≤ 63)
    (b : 0 ≤ i ∧ i ≤ ns.length ∧ 0 ≤ x ∧ x < 2147483647)
    (ret : ∀ (r : Addr) (pl : Value) (tr : Bool) (q : Addr) (ob : Obj) (i' : Int) (ti' : Tok) (x' : Int) (tx' : Tok) (h' : Heap) (tk' : Nat), (∀ g : Heap, g.get? q = some ob → Plain PySem.Challenge.rw_bq5029_01.row.prog w g pl tr) →
      (0 ≤ i' ∧ i' ≤ ns.length ∧ 0 ≤ x' ∧ x' < 2147483647) → Fr h₀ L h' m → News h₀ L h' ((q, ob) :: g (stObj l i' ti' x' tx' n)) → IsTup h' r [pl, .bool tr].toArray →
      Q (.ref r) { s with heap := h', toks := tk' }) :
    wpAny (model PySem.Challenge.rw_bq5029_01.row.prog w) A (call (.ref 90) [.ref a, .int num tk]) Q E s :=
  other_call hA B F X₀ T hf hke (News.one N (UpdF_mem U)) hl hi hlen b fun r pl tr q ob i' ti' x' tx' h' tk' hp b' F' N' _ _ kp =>
    ret r pl tr q ob i' ti' x' tx' h' tk' hp b' F' (News.cons1 N' (.tail _ (.head _)) (UpdF_keep N U kp (News.get N' (.tail _ (.tail _ (.head _)))))) ⟨_, News.get N' (.head _), rfl, _, rfl⟩
end

section
variable {w : World} {A₀ A : Around} {s : Shared} {h₀ : Heap} {L a : Addr} {m mg mb : Str → Option Value} {cn : Str} {cs : Scope} {ccd : Value} {p : Program} {loose : List Str} {mean : ExcName → Option Value}
    {Q E : Value → Shared → Prop} {d wd : Str} {t : Tok} {q c' c D : Addr} {oq oc oe : Obj} {vals : List Value} {ws : List Str} {due : Value} {news : List (Addr × Obj)}
theorem askedA_step (hA : AIn A 700 1200 (envOf cn cs L a ccd) []) (B : Below A₀ h₀ [] h₀) (F : Fr h₀ L s.heap m) (X₀ : (hd.heap_39 w.params).In h₀) (T : Top p loose mean mg mb h₀) (hck : cs.kind = .function)
    (N : News h₀ L s.heap news) (W : WordIs d due wd)
    (ret : ∀ (h' : Heap) (tk' : Nat), Fr h₀ L h' m → News h₀ L h' news → Q (dueTold due) { s with heap := h', toks := tk' }) :
    wpAny (model PySem.Challenge.rw_bq5029_01.row.prog w) A (call (.ref 97) [.ref 21, .str d t]) Q E s := by
  refine asked_asbool hA B F X₀ T hck W.len W.low W.rep (fun h' tk' hy F' kp => ?_) (fun h' tk' hy hn F' kp => ?_) (fun h' tk' hy hn F' kp => ?_)
  all_goals
    have k := ret h' tk' F' (News.keepL N kp)
    rcases W.due with ⟨rfl, q1⟩ | ⟨rfl, q1, q2⟩ | ⟨rfl, q1, q2⟩
  all_goals first | exact k | (exfalso; simp_all; done)
theorem askedR_step (hA : AIn A 700 1200 (envOf cn cs L a ccd) []) (B : Below A₀ h₀ [] h₀) (F : Fr h₀ L s.heap m) (X₀ : (hd.heap_39 w.params).In h₀) (T : Top p loose mean mg mb h₀) (hck : cs.kind = .function)
    (N : News h₀ L s.heap news) (R : Reader q c' c D oq oc oe) (h1 : (q, oq) ∈ news) (h2 : (c', oc) ∈ news) (h3 : (c, oe) ∈ news) (h4 : (D, tupObj vals) ∈ news) (hv : StrsAre vals ws) (W : WordIs d due wd)
    (ret1 : ∀ (h' : Heap) (tk' : Nat), (ws.any fun x => x == d) = true → Fr h₀ L h' m → News h₀ L h' news → Q (.str d t) { s with heap := h', toks := tk' })
    (ret2 : ∀ (h' : Heap) (tk' : Nat), (ws.any fun x => x == d) = false → Fr h₀ L h' m → News h₀ L h' news → Q (dueTold due) { s with heap := h', toks := tk' }) :
    wpAny (model PySem.Challenge.rw_bq5029_01.row.prog w) A (call (.ref 97) [.ref q, .str d t]) Q E s := by
  refine asked_reader hA B F X₀ T hck (R.at N h1 h2 h3 h4) hv W.len W.low W.rep (fun h' tk' hi F' kp => ret1 h' tk' hi F' (News.keepL N kp)) (fun h' tk' hi hy F' kp => ?_) (fun h' tk' hi hy hn F' kp => ?_) (fun h' tk' hi hy hn F' kp => ?_)
  all_goals
    have k := ret2 h' tk' hi F' (News.keepL N kp)
    rcases W.due with ⟨rfl, q1⟩ | ⟨rfl, q1, q2⟩ | ⟨rfl, q1, q2⟩
  all_goals first | exact k | (exfalso; simp_all; done)
theorem askedA3 (hA : AIn A 700 1200 (envOf cn cs L a ccd) []) (B : Below A₀ h₀ [] h₀) (F : Fr h₀ L s.heap m) (X₀ : (hd.heap_39 w.params).In h₀) (T : Top p loose mean mg mb h₀) (hck : cs.kind = .function)
    (N : News h₀ L s.heap news) (W : WordIs d due wd)
    (ret1 : ∀ (h' : Heap) (tk' : Nat), due = .bool true → Fr h₀ L h' m → News h₀ L h' news → Q (.bool true) { s with heap := h', toks := tk' })
    (ret2 : ∀ (h' : Heap) (tk' : Nat), due = .bool false → Fr h₀ L h' m → News h₀ L h' news → Q (.bool false) { s with heap := h', toks := tk' })
    (ret3 : ∀ (h' : Heap) (tk' : Nat), due = .none → Fr h₀ L h' m → News h₀ L h' news → Q (.ref 36) { s with heap := h', toks := tk' }) :
    wpAny (model PySem.Challenge.rw_bq5029_01.row.prog w) A (call (.ref 97) [.ref 21, .str d t]) Q E s :=
  askedA_step hA B F X₀ T hck N W fun h' tk' F' N' => by
    rcases W.due with ⟨rfl, _⟩ | ⟨rfl, _, _⟩ | ⟨rfl, _, _⟩
    · exact ret1 h' tk' rfl F' N'
    · exact ret2 h' tk' rfl F' N'
    · exact ret3 h' tk' rfl F' N'
theorem askedR_t (hA : AIn A 700 1200 (envOf cn cs L a ccd) []) (B : Below A₀ h₀ [] h₀) (F : Fr h₀ L s.heap m) (X₀ : (hd.heap_39 w.params).In h₀) (T : Top p loose mean mg mb h₀) (hck : cs.kind = .function)
    (N : News h₀ L s.heap news) (R : Reader q c' c D oq oc oe) (h1 : (q, oq) ∈ news) (h2 : (c', oc) ∈ news) (h3 : (c, oe) ∈ news) (h4 : (D, tupObj vals) ∈ news) (hv : StrsAre vals ws) (W : WordIs d (.bool true) wd)
    (ret1 : ∀ (h' : Heap) (tk' : Nat), (ws.any fun x => x == d) = true → Fr h₀ L h' m → News h₀ L h' news → Q (.str d t) { s with heap := h', toks := tk' })
    (ret2 : ∀ (h' : Heap) (tk' : Nat), (ws.any fun x => x == d) = false → Fr h₀ L h' m → News h₀ L h' news → Q (.bool true) { s with heap := h', toks := tk' }) :
    wpAny (model PySem.Challenge.rw_bq5029_01.row.prog w) A (call (.ref 97) [.ref q, .str d t]) Q E s :=
  askedR_step hA B F X₀ T hck N R h1 h2 h3 h4 hv W ret1 ret2
theorem askedR_f (hA : AIn A 700 1200 (envOf cn cs L a ccd) []) (B : Below A₀ h₀ [] h₀) (F : Fr h₀ L s.heap m) (X₀ : (hd.heap_39 w.params).In h₀) (T : Top p loose mean mg mb h₀) (hck : cs.kind = .function)
    (N : News h₀ L s.heap news) (R : Reader q c' c D oq oc oe) (h1 : (q, oq) ∈ news) (h2 : (c', oc) ∈ news) (h3 : (c, oe) ∈ news) (h4 : (D, tupObj vals) ∈ news) (hv : StrsAre vals ws) (W : WordIs d (.bool false) wd)
    (ret1 : ∀ (h' : Heap) (tk' : Nat), (ws.any fun x => x == d) = true → Fr h₀ L h' m → News h₀ L h' news → Q (.str d t) { s with heap := h', toks := tk' })
    (ret2 : ∀ (h' : Heap) (tk' : Nat), (ws.any fun x => x == d) = false → Fr h₀ L h' m → News h₀ L h' news → Q (.bool false) { s with heap := h', toks := tk' }) :
    wpAny (model PySem.Challenge.rw_bq5029_01.row.prog w) A (call (.ref 97) [.ref q, .str d t]) Q E s :=
  askedR_step hA B F X₀ T hck N R h1 h2 h3 h4 hv W ret1 ret2
theorem askedR_n (hA : AIn A 700 1200 (envOf cn cs L a ccd) []) (B : Below A₀ h₀ [] h₀) (F : Fr h₀ L s.heap m) (X₀ : (hd.heap_39 w.params).In h₀) (T : Top p loose mean mg mb h₀) (hck : cs.kind = .function)
    (N : News h₀ L s.heap news) (R : Reader q c' c D oq oc oe) (h1 : (q, oq) ∈ news) (h2 : (c', oc) ∈ news) (h3 : (c, oe) ∈ news) (h4 : (D, tupObj vals) ∈ news) (hv : StrsAre vals ws) (W : WordIs d (.none) wd)
    (ret1 : ∀ (h' : Heap) (tk' : Nat), (ws.any fun x => x == d) = true → Fr h₀ L h' m → News h₀ L h' news → Q (.str d t) { s with heap := h', toks := tk' })
    (ret2 : ∀ (h' : Heap) (tk' : Nat), (ws.any fun x => x == d) = false → Fr h₀ L h' m → News h₀ L h' news → Q (.ref 36) { s with heap := h', toks := tk' }) :
    wpAny (model PySem.Challenge.rw_bq5029_01.row.prog w) A (call (.ref 97) [.ref q, .str d t]) Q E s :=
  askedR_step hA B F X₀ T hck N R h1 h2 h3 h4 hv W ret1 ret2
end

section
variable {w : World} {A₀ A : Around} {s : Shared} {base h₀ : Heap} {outer : List Env} {L : Addr} {m mg mb : Str → Option Value} {env : Env} {p : Program} {loose : List Str} {mean : ExcName → Option Value}
    {Q E : Value → Shared → Prop} {q c' c D z o : Addr} {oq oc oe oz : Obj} {vals : List Value} {ws : List Str} {pl : Value} {tr : Bool} {news : List (Addr × Obj)} {g : Obj → List (Addr × Obj)} {x : Str} {t : Tok} {n : Nat}
theorem plainA_step (hA : AIn A 800 1600 env outer) (B : Below A₀ base outer h₀) (F : Fr h₀ L s.heap m) (X₀ : (hd.heap_39 w.params).In h₀) (T : Top p loose mean mg mb h₀) (hf : env.frame = some L) (hke : env.scope.kind = .function)
    (hp : ∀ g : Heap, g.get? z = some oz → Plain PySem.Challenge.rw_bq5029_01.row.prog w g pl tr) (N : News h₀ L s.heap news) (hz : (z, oz) ∈ news)
    (ret : ∀ (h' : Heap) (tk' : Nat), Fr h₀ L h' m → News h₀ L h' news → Q (.bool tr) { s with heap := h', toks := tk' }) :
    wpAny (model PySem.Challenge.rw_bq5029_01.row.prog w) A (call (.ref 21) [pl]) Q E s :=
  asbool_plain hA B F X₀ T hf hke (fun g k => hp g (k _ _ (N _ hz).1)) fun h' tk' F' kp => ret h' tk' F' (News.keep0 N kp)
theorem plainR_step (hA : AIn A 700 1200 env outer) (B : Below A₀ base outer h₀) (F : Fr h₀ L s.heap m) (X₀ : (hd.heap_39 w.params).In h₀) (T : Top p loose mean mg mb h₀) (hf : env.frame = some L) (hke : env.scope.kind = .function)
    (hp : ∀ g : Heap, g.get? z = some oz → Plain PySem.Challenge.rw_bq5029_01.row.prog w g pl tr) (N : News h₀ L s.heap news) (hz : (z, oz) ∈ news)
    (R : Reader q c' c D oq oc oe) (h1 : (q, oq) ∈ news) (h2 : (c', oc) ∈ news) (h3 : (c, oe) ∈ news) (h4 : (D, tupObj vals) ∈ news) (hv : StrsAre vals ws)
    (ret : ∀ (h' : Heap) (tk' : Nat), Fr h₀ L h' m → News h₀ L h' news → Q (.bool tr) { s with heap := h', toks := tk' }) :
    wpAny (model PySem.Challenge.rw_bq5029_01.row.prog w) A (call (.ref q) [pl]) Q E s :=
  reader_plain hA B F X₀ T hf hke (R.at N h1 h2 h3 h4) hv (fun g k => hp g (k _ _ (N _ hz).1)) fun h' tk' F' kp => ret h' tk' F' (News.keep0 N kp)
theorem inR_step (hA : AIn A 700 1200 env outer) (B : Below A₀ base outer h₀) (F : Fr h₀ L s.heap m) (X₀ : (hd.heap_39 w.params).In h₀) (T : Top p loose mean mg mb h₀) (hf : env.frame = some L) (hke : env.scope.kind = .function)
    (N : News h₀ L s.heap news) (R : Reader q c' c D oq oc oe) (h1 : (q, oq) ∈ news) (h2 : (c', oc) ∈ news) (h3 : (c, oe) ∈ news) (h4 : (D, tupObj vals) ∈ news) (hv : StrsAre vals ws) (hin : ws.any (· == x) = true)
    (ret : ∀ (h' : Heap) (tk' : Nat), Fr h₀ L h' m → News h₀ L h' news → Q (.str x t) { s with heap := h', toks := tk' }) :
    wpAny (model PySem.Challenge.rw_bq5029_01.row.prog w) A (call (.ref q) [.str x t]) Q E s :=
  reader_in hA B F X₀ T hf hke (R.at N h1 h2 h3 h4) hv hin fun h' tk' F' kp => ret h' tk' F' (News.keep0 N kp)
theorem noR_step (hA : AIn A 700 1200 env outer) (B : Below A₀ base outer h₀) (F : Fr h₀ L s.heap m) (X₀ : (hd.heap_39 w.params).In h₀) (T : Top p loose mean mg mb h₀) (hf : env.frame = some L) (hke : env.scope.kind = .function)
    (N : News h₀ L s.heap news) (R : Reader q c' c D oq oc oe) (h1 : (q, oq) ∈ news) (h2 : (c', oc) ∈ news) (h3 : (c, oe) ∈ news) (h4 : (D, tupObj []) ∈ news)
    (ret : ∀ (h' : Heap) (tk' : Nat), Fr h₀ L h' m → News h₀ L h' news → Q (.bool false) { s with heap := h', toks := tk' }) :
    wpAny (model PySem.Challenge.rw_bq5029_01.row.prog w) A (call (.ref q) [.str (Str.ofString "no") t]) Q E s :=
  reader_no (ws := []) (wd := Str.ofString "no") hA B F X₀ T hf hke (R.at N h1 h2 h3 h4) .nil rfl (by decide +kernel) (by decide +kernel) (by decide +kernel) (by decide +kernel) fun h' tk' F' kp => ret h' tk' F' (News.keep0 N kp)
theorem maker_step (hA : AIn A 700 1200 env outer) (B : Below A₀ base outer h₀) (F : Fr h₀ L s.heap m) (X₀ : (hd.heap_39 w.params).In h₀) (T : Top p loose mean mg mb h₀) (hf : env.frame = some L) (hke : env.scope.kind = .function)
    (N : News h₀ L s.heap ((o, listOf vals.toArray n) :: news)) (U : UpdF 23 (tabObj #[]) news g) (ho23 : NLt 23 o) (hC : CodeHd h₀ 27 23) (hv : StrsAre vals ws) (hlen : ws.length ≤ 3)
    (ret : ∀ (q c' c D : Addr) (oq oc oe : Obj) (ps : Array Value) (h' : Heap) (tk' : Nat), Reader q c' c D oq oc oe → (NLt 23 D ∧ NLt D c ∧ NLt c c' ∧ NLt c' q) → (∀ p ∈ news, NLt p.1 D) → Fr h₀ L h' m → News h₀ L h' ((q, oq) :: (c', oc) :: (c, oe) :: (D, tupObj vals) :: g (tabObj ps)) →
      Q (.ref q) { s with heap := h', toks := tk' }) :
    wpAny (model PySem.Challenge.rw_bq5029_01.row.prog w) A (call (.ref 104) [.ref o]) Q E s := by
  have Nt : News h₀ L s.heap news := fun p hp => N p (.tail _ hp)
  have N2 := News.two N (.head _) (.tail _ (UpdF_mem U))
  have fin : ∀ (q c' c D : Addr) (oq oc oe : Obj) (ps : Array Value) (h' : Heap) (tk' : Nat), Reader q c' c D oq oc oe → (NLt 23 D ∧ NLt D c ∧ NLt c c' ∧ NLt c' q) → (∀ b o, s.heap.get? b = some o → NLt b D) → Fr h₀ L h' m → News h₀ L h' [(q, oq), (c', oc), (c, oe), (D, tupObj vals), (23, tabObj ps)] → KeepBut s.heap [23] h' →
      Q (.ref q) { s with heap := h', toks := tk' } := fun q c' c D oq oc oe ps h' tk' R ord fr F' N' kp =>
    ret q c' c D oq oc oe ps h' tk' R ord (fun p hp => fr _ _ (Nt p hp).1) F' (news_four N' (UpdF_keep Nt U kp (News.get N' (by k_mem))))
  cases hv with
  | nil => exact maker_call0 hA B F X₀ T hf hke N2 ho23 hC fin
  | cons x1 t1 hv => cases hv with
    | nil => exact maker_call1 hA B F X₀ T hf hke N2 ho23 hC fin
    | cons x2 t2 hv => cases hv with
      | nil => exact maker_call2 hA B F X₀ T hf hke N2 ho23 hC fin
      | cons x3 t3 hv => cases hv with
        | nil => exact maker_call3 hA B F X₀ T hf hke N2 ho23 hC fin
        | cons x4 t4 hv => simp only [List.length_cons] at hlen; omega
end
end Mine

/-- the walk's refs as a fresh process has them: open_top leaves walkTop true -/
theorem Mine.off_Loops : True := by
  w_top off
  k_with_none
  trivial
set_option maxRecDepth 100000
namespace Mine
open PySem PySem.W PyProof.Rows PySem.Calls

abbrev Bd (len : Nat) (i x : Int) : Prop := 0 ≤ i ∧ i ≤ (len : Int) ∧ 0 ≤ x ∧ x < 2147483647
structure St1 where
  i : Int
  ti : Tok
  x : Int
  tx : Tok
  vals : List Value
  ws : List Str
  n : Nat
abbrev Led1 (o a l : Addr) (vs : List Value) (na nl : Nat) (c : St1) : List (Addr × Obj) := [(o, W.listOf c.vals.toArray c.n), (a, stObj l c.i c.ti c.x c.tx na), (l, W.listOf vs.toArray nl), (23, tabObj #[])]
abbrev Fac1 (len : Nat) (c : St1) : Prop := Bd len c.i c.x ∧ StrsAre c.vals c.ws
abbrev blank : Str := Str.ofString "_"
structure St2 where
  i : Int
  ti : Tok
  x : Int
  tx : Tok
abbrev Led2 (q c' c D o a l : Addr) (oq oc oe : Obj) (vals : List Value) (n : Nat) (vs : List Value) (na nl : Nat) (pt : Array Value) (z : St2) : List (Addr × Obj) :=
  [(q, oq), (c', oc), (c, oe), (D, tupObj vals), (o, W.listOf vals.toArray n), (a, stObj l z.i z.ti z.x z.tx na), (l, W.listOf vs.toArray nl), (23, tabObj pt)]
abbrev stored2 : List Str := [Str.ofString "thing", Str.ofString "due", Str.ofString "told", Str.ofString "taken", Str.ofString "plain", Str.ofString "truth"]

section
variable {prog : Program} {w : World} {A : Around} {E : Value → Shared → Prop} {s : Shared} {env : Env} {h₀ : Heap} {body : List Stmt} {Q : Flow → Shared → Prop} {m₀ : Str → Option Value} {r o a l q c' c D L : Addr} {b₀ i x : Int} {ti tx t₀ u₀ v₀ : Tok} {na nl n : Nat} {vs vals : List Value} {ws : List Str} {len : Nat} {oq oc oe : Obj} {pt : Array Value}
abbrev K1 (o a l : Addr) (vs : List Value) (na nl len : Nat) (m₀ : Str → Option Value) (pre : List Int) : (Str → Option Value) → List (Addr × Obj) → Prop :=
  KstS (Led1 o a l vs na nl) (fun _ => []) (Fac1 len) blank [] m₀ (fun pre c => c.ws.length = pre.length) pre
theorem loop1 (hh : A.handled = none) (hr : IsRange s.heap r 0 b₀ 1 t₀ u₀ v₀) (hb : 0 ≤ b₀ ∧ b₀ ≤ 15) (F : Fr h₀ env.locals s.heap m₀)
    (N : News h₀ env.locals s.heap [(o, W.listOf #[] n), (a, stObj l i ti x tx na), (l, W.listOf vs.toArray nl), (23, tabObj #[])]) (b : Bd len i x)
    (turn : ∀ (vals : List Value) (ws : List Str) (n : Nat) (i : Int) (ti : Tok) (x : Int) (tx : Tok) (pre : List Int) (k : Int) (t : Tok) (h : Heap) (tk : Nat) (own : List (Addr × Obj)), Bd len i x → StrsAre vals ws → ws.length = pre.length → vals.length ≤ 15 → OwnOff own [o, a, l, 23] →
      Fr h₀ env.locals h (fun y => if y = blank then some (.int k t) else m₀ y) → News h₀ env.locals h ((o, W.listOf vals.toArray n) :: (a, stObj l i ti x tx na) :: (l, W.listOf vs.toArray nl) :: (23, tabObj #[]) :: own) →
      wpAny (model prog w) A (execs body env) (InvPostN h₀ env.locals (K1 o a l vs na nl len m₀ (pre ++ [k])) own [o, a, l, 23] { s with heap := h, toks := tk } Q) E { s with heap := h, toks := tk })
    (done : ∀ (vals : List Value) (ws : List Str) (n : Nat) (i : Int) (ti : Tok) (x : Int) (tx : Tok) (u : Str → Option Value) (h : Heap) (tk : Nat), Bd len i x → StrsAre vals ws → (ws.length : Int) = b₀ → vals.length ≤ 15 →
      Fr h₀ env.locals h (fun y => if y = blank then u y else m₀ y) → News h₀ env.locals h [(o, W.listOf vals.toArray n), (a, stObj l i ti x tx na), (l, W.listOf vs.toArray nl), (23, tabObj #[])] → Q .next { s with heap := h, toks := tk }) :
    wpAny (model prog w) A (pyIter (.ref r)) (fun it s₂ => LoopAtV prog w A h₀ env blank body Q E it s₂) E s := by
  have e0 : ∀ (u m : Str → Option Value) , (fun y => kstB (fun z => if ([] : List Str).contains z = true then u z else m z) [] y) = m := fun u m => by
    funext y; show (if ([] : List Str).contains y = true then u y else m y) = m y; simp
  refine kst_range (σ := St1) (n := (b₀ - 0).toNat) (Led1 o a l vs na nl) (fun _ => []) (Fac1 len) [] (fun pre c => c.ws.length = pre.length) ⟨i, ti, x, tx, [], [], n⟩ hh hr (small_one (by omega) (by omega) (by omega) (by omega)) (rangeSize_nat _ _) F N ⟨b, .nil⟩ (fun _ h => nomatch h) rfl ?_ ?_
  · rintro ⟨i, ti, x, tx, vals, ws, n⟩ pre k t u h tk own _ hlt hoff ⟨hb', hv⟩ hp F' N'
    refine turn vals ws n i ti x tx pre k t h tk own hb' hv hp (by have := StrsAre.length hv; dsimp only at this hp; omega) hoff ?_ N'
    have e : (fun y => if y = blank then some (Value.int k t) else kstB (fun z => if ([] : List Str).contains z = true then u z else m₀ z) [] y) = fun y => if y = blank then some (.int k t) else m₀ y := by
      funext y; rw [congrFun (e0 u m₀) y]
    rw [← e]; exact F'
  · rintro ⟨i, ti, x, tx, vals, ws, n⟩ u h tk ⟨hb', hv⟩ hp F' N'
    have hl : (ws.length : Int) = b₀ := by rw [hp, rangeKs_length]; omega
    refine done vals ws n i ti x tx u h tk hb' hv hl (by have := StrsAre.length hv; dsimp only at this; omega) ?_ N'
    have e : (fun y => if y = blank then u y else kstB (fun z => if ([] : List Str).contains z = true then u z else m₀ z) [] y) = fun y => if y = blank then u y else m₀ y := by
      funext y; rw [congrFun (e0 u m₀) y]
    rw [← e]; exact F'
theorem end1 {m' : Str → Option Value} {own news' : List (Addr × Obj)} {s₁ : Shared} {h' : Heap} {tk : Nat} {pre : List Int} (F : Fr h₀ L h' m') (N : News h₀ L h' news') (h1 : (o, W.listOf vals.toArray n) ∈ news') (h2 : (a, stObj l i ti x tx na) ∈ news') (h3 : (l, W.listOf vs.toArray nl) ∈ news') (h4 : (23, tabObj #[]) ∈ news') (ho : ∀ p ∈ own, p ∈ news')
    (b : Bd len i x) (hv : StrsAre vals ws) (hk : ws.length = pre.length) (hm : ∀ z, z ≠ blank → m' z = m₀ z) : InvEndN h₀ L (K1 o a l vs na nl len m₀ pre) own [o, a, l, 23] s₁ { s₁ with heap := h', toks := tk } :=
  kst_end (⟨i, ti, x, tx, vals, ws, n⟩ : St1) F N (List.forall_mem_cons.mpr ⟨h1, List.forall_mem_cons.mpr ⟨h2, List.forall_mem_cons.mpr ⟨h3, List.forall_mem_cons.mpr ⟨h4, List.forall_mem_nil _⟩⟩⟩⟩) ho rfl ⟨b, hv⟩ (fun _ h => nomatch h) (fun z h1 _ _ => hm z h1) hk

abbrev K2 (q c' c D o a l : Addr) (oq oc oe : Obj) (vals : List Value) (n : Nat) (vs : List Value) (na nl len : Nat) (pt : Array Value) (m₀ : Str → Option Value) (pre : List Int) : (Str → Option Value) → List (Addr × Obj) → Prop :=
  KstS (Led2 q c' c D o a l oq oc oe vals n vs na nl pt) (fun _ => []) (fun z => Bd len z.i z.x) blank stored2 m₀ (fun _ _ => True) pre
theorem loop2 (_R : Reader q c' c D oq oc oe) (hh : A.handled = none) (hr : IsRange s.heap r 0 b₀ 1 t₀ u₀ v₀) (hb : 0 ≤ b₀ ∧ b₀ ≤ 16) (F : Fr h₀ env.locals s.heap m₀)
    (N : News h₀ env.locals s.heap [(q, oq), (c', oc), (c, oe), (D, tupObj vals), (o, W.listOf vals.toArray n), (a, stObj l i ti x tx na), (l, W.listOf vs.toArray nl), (23, tabObj pt)]) (b : Bd len i x)
    (turn : ∀ (i : Int) (ti : Tok) (x : Int) (tx : Tok) (pre : List Int) (k : Int) (t : Tok) (u : Str → Option Value) (h : Heap) (tk : Nat) (own : List (Addr × Obj)), Bd len i x → OwnOff own [q, c', c, D, o, a, l, 23] →
      Fr h₀ env.locals h (fun y => if y = blank then some (.int k t) else if stored2.contains y then u y else m₀ y) → News h₀ env.locals h ((q, oq) :: (c', oc) :: (c, oe) :: (D, tupObj vals) :: (o, W.listOf vals.toArray n) :: (a, stObj l i ti x tx na) :: (l, W.listOf vs.toArray nl) :: (23, tabObj pt) :: own) →
      wpAny (model prog w) A (execs body env) (InvPostN h₀ env.locals (K2 q c' c D o a l oq oc oe vals n vs na nl len pt m₀ (pre ++ [k])) own [q, c', c, D, o, a, l, 23] { s with heap := h, toks := tk } Q) E { s with heap := h, toks := tk })
    (done : ∀ (i : Int) (ti : Tok) (x : Int) (tx : Tok) (u : Str → Option Value) (h : Heap) (tk : Nat), Bd len i x →
      Fr h₀ env.locals h (fun y => if y = blank then u y else if stored2.contains y then u y else m₀ y) → News h₀ env.locals h [(q, oq), (c', oc), (c, oe), (D, tupObj vals), (o, W.listOf vals.toArray n), (a, stObj l i ti x tx na), (l, W.listOf vs.toArray nl), (23, tabObj pt)] → Q .next { s with heap := h, toks := tk }) :
    wpAny (model prog w) A (pyIter (.ref r)) (fun it s₂ => LoopAtV prog w A h₀ env blank body Q E it s₂) E s :=
  kst_range (σ := St2) (n := (b₀ - 0).toNat) (Led2 q c' c D o a l oq oc oe vals n vs na nl pt) (fun _ => []) (fun z => Bd len z.i z.x) stored2 (fun _ _ => True) ⟨i, ti, x, tx⟩ hh hr (small_one (by omega) (by omega) (by omega) (by omega)) (rangeSize_nat _ _) F N b (fun _ h => nomatch h) True.intro
    (fun ⟨i, ti, x, tx⟩ pre k t u h tk own _ _ hoff hb' _ F' N' => turn i ti x tx pre k t u h tk own hb' hoff F' N')
    (fun ⟨i, ti, x, tx⟩ u h tk hb' _ F' N' => done i ti x tx u h tk hb' F' N')
theorem end2 {m' : Str → Option Value} {own news' : List (Addr × Obj)} {s₁ : Shared} {h' : Heap} {tk : Nat} {pre : List Int} (F : Fr h₀ L h' m') (N : News h₀ L h' news')
    (h1 : (q, oq) ∈ news') (h2 : (c', oc) ∈ news') (h3 : (c, oe) ∈ news') (h4 : (D, tupObj vals) ∈ news') (h5 : (o, W.listOf vals.toArray n) ∈ news') (h6 : (a, stObj l i ti x tx na) ∈ news') (h7 : (l, W.listOf vs.toArray nl) ∈ news') (h8 : (23, tabObj pt) ∈ news') (ho : ∀ p ∈ own, p ∈ news')
    (b : Bd len i x) (hm : ∀ z, z ≠ blank → stored2.contains z = false → m' z = m₀ z) : InvEndN h₀ L (K2 q c' c D o a l oq oc oe vals n vs na nl len pt m₀ pre) own [q, c', c, D, o, a, l, 23] s₁ { s₁ with heap := h', toks := tk } :=
  kst_end (⟨i, ti, x, tx⟩ : St2) F N (List.forall_mem_cons.mpr ⟨h1, List.forall_mem_cons.mpr ⟨h2, List.forall_mem_cons.mpr ⟨h3, List.forall_mem_cons.mpr ⟨h4, List.forall_mem_cons.mpr ⟨h5, List.forall_mem_cons.mpr ⟨h6, List.forall_mem_cons.mpr ⟨h7, List.forall_mem_cons.mpr ⟨h8, List.forall_mem_nil _⟩⟩⟩⟩⟩⟩⟩⟩) ho rfl b (fun _ h => nomatch h) (fun z h1 _ h3 => hm z h1 h3) True.intro
end
end Mine

/-- the walk's refs as a fresh process has them: open_top leaves walkTop true -/
theorem Mine.off_NilCmp : True := by
  w_top off
  k_with_none
  trivial
set_option maxRecDepth 100000
namespace Mine
open PySem PySem.W PyProof.Rows PySem.Calls PySem.Spec

open PySem.SeqAt
section
variable {prog : Program} {w : World} {A : Around} {E : Value → Shared → Prop} {s : Shared} {o e : Addr} {vals : List Value} {ws : List Str} {Q : Value → Shared → Prop} {h₀ : Heap} {L : Addr} {news : List (Addr × Obj)} {n k : Nat} {x : Str} {t : Tok}
theorem ne_nil0 (N : News h₀ L s.heap news) (ha : (o, W.listOf ([] : List Value).toArray n) ∈ news) (hb : (e, W.listOf ([] : List Value).toArray k) ∈ news) (hu : A.units < cLine) (h : Q (.bool false) s) :
    wpAny (model prog w) A (compareOp .NotEq (.ref o) (.ref e)) Q E s := by
  show wpAny _ _ (richCompare .NotEq (.ref o) (.ref e)) Q E s
  exact RcNeAt.lists (e := fun _ => true) (News.isList N ha) (News.isList N hb) rfl hu (fun j h1 _ => absurd h1 (Nat.not_lt_zero j)) _ _ _ _ h
theorem eq_nil0 (N : News h₀ L s.heap news) (ha : (o, W.listOf ([] : List Value).toArray n) ∈ news) (hb : (e, W.listOf ([] : List Value).toArray k) ∈ news) (hu : A.units < cLine) (h : Q (.bool true) s) :
    wpAny (model prog w) A (compareOp .Eq (.ref o) (.ref e)) Q E s := by
  show wpAny _ _ (richCompare .Eq (.ref o) (.ref e)) Q E s
  exact RcAt.lists (e := fun _ => true) (News.isList N ha) (News.isList N hb) rfl hu (fun j h1 _ => absurd h1 (Nat.not_lt_zero j)) _ _ _ _ h
theorem ne_nil1 (N : News h₀ L s.heap news) (ha : (o, W.listOf (Value.str x t :: vals).toArray n) ∈ news) (hb : (e, W.listOf ([] : List Value).toArray k) ∈ news) (hu : A.units < cLine) (h : Q (.bool true) s) :
    wpAny (model prog w) A (compareOp .NotEq (.ref o) (.ref e)) Q E s := by
  show wpAny _ _ (richCompare .NotEq (.ref o) (.ref e)) Q E s
  exact RcNeAt.lists_lengths (News.isList N ha) (News.isList N hb) (by simp) hu _ _ _ _ h
theorem eq_nil1 (N : News h₀ L s.heap news) (ha : (o, W.listOf (Value.str x t :: vals).toArray n) ∈ news) (hb : (e, W.listOf ([] : List Value).toArray k) ∈ news) (hu : A.units < cLine) (h : Q (.bool false) s) :
    wpAny (model prog w) A (compareOp .Eq (.ref o) (.ref e)) Q E s := by
  show wpAny _ _ (richCompare .Eq (.ref o) (.ref e)) Q E s
  exact RcAt.lists_lengths (News.isList N ha) (News.isList N hb) (by simp) hu _ _ _ _ h
theorem item_first {value slice : Expr} {u : Tok} (N : News h₀ L s.heap news) (ha : (o, W.listOf (Value.str x t :: vals).toArray n) ∈ news) (h : Q (.str x t) s)
    (hs : subscripted slice false (.ref o) (.int 0 u) = operate [.ref o, .int 0 u] (getItem (.ref o) (.int 0 u)) := by with_unfolding_all rfl) :
    wpAny (model prog w) A (subscriptTail value slice (.ref o) (.int 0 u)) Q E s :=
  tail_any (News.isList N ha).typeIs slot_list_getitem.lookup (wpAny_getItem_list (News.isList N ha) (by decide) (by decide) (x := .str x t) (by simp) h) hs
end
end Mine

/-- the walk's refs as a fresh process has them: open_top leaves walkTop true -/
theorem Mine.off_Law : True := by
  w_top off
  k_with_none
  trivial
set_option maxRecDepth 100000
namespace Mine
open PySem PySem.W PyProof.Rows PySem.Calls

theorem join_int {M : Model} {A : Around} {E : Value → Shared → Prop} {s : Shared} {t : Sem Value} {Q : Value → Shared → Prop} {h₀ : Heap} {L : Addr} {m : Str → Option Value} {news : List (Addr × Obj)} (_F : Fr h₀ L s.heap m) (_N : News h₀ L s.heap news)
    (h : wpAny M A t (fun v s' => ∃ num tk h' k, v = .int num tk ∧ s' = { s with heap := h', toks := k } ∧ Fr h₀ L h' m ∧ News h₀ L h' news) E s)
    (hq : ∀ (num : Int) (tk : Tok) (h' : Heap) (k : Nat), Fr h₀ L h' m → News h₀ L h' news → Q (.int num tk) { s with heap := h', toks := k }) : wpAny M A t Q E s :=
  wpAny_mono h (fun v s' h' => by obtain ⟨num, tk, h', k, rfl, rfl, F', N'⟩ := h'; exact hq num tk h' k F' N') fun _ _ e => e
theorem pos_of_ne {ns : List Int} (h : decide (ns = []) = false) : (0 : Int) < ns.length := by
  cases ns with
  | nil => simp at h
  | cons a r => simp only [List.length_cons]; omega

theorem strs_snoc {vals : List Value} {ws : List Str} {y : Str} {t : Tok} (h : StrsAre vals ws) : StrsAre (vals ++ [.str y t]) (ws ++ [y]) := by
  induction h with
  | nil => exact .cons _ _ .nil
  | cons a u _ ih => exact .cons _ _ ih
def strOf : Value → Str | .str y _ => y | _ => Str.empty
def isStrV : Value → Bool | .str _ _ => true | _ => false
theorem strs_lit : ∀ (vals : List Value), vals.all isStrV = true → StrsAre vals (vals.map strOf)
  | [], _ => .nil
  | v :: r, h => by
    cases v with
    | str y t => exact .cons _ _ (strs_lit r (by rw [List.all_cons, Bool.and_eq_true] at h; exact h.2))
    | _ => rw [List.all_cons, Bool.and_eq_true] at h; exact absurd h.1 Bool.false_ne_true
theorem ne_self {prog : Program} {w : World} {A : Around} {E : Value → Shared → Prop} {s : Shared} {Q : Value → Shared → Prop} {x : Str} {t u : Tok} (h : Q (.bool false) s) : wpAny (model prog w) A (compareOp .NotEq (.str x t) (.str x u)) Q E s :=
  PyProof.Rows.ne_str (by have e : (x != x) = false := by simp [bne]
                          rw [e]; exact h)
theorem eq_self {prog : Program} {w : World} {A : Around} {E : Value → Shared → Prop} {s : Shared} {Q : Value → Shared → Prop} {x : Str} {t u : Tok} (h : Q (.bool true) s) : wpAny (model prog w) A (compareOp .Eq (.str x t) (.str x u)) Q E s :=
  PyProof.Rows.eq_str (by have e : (x == x) = true := by simp
                          rw [e]; exact h)
theorem small_vals0 {vals : List Value} (h : vals.length ≤ 15) : vals.toArray.size ≤ sizeLine := by
  rw [List.size_toArray]; exact Nat.le_trans h (by decide)
section
variable {prog : Program} {w : World} {M : Model} {A : Around} {E : Value → Shared → Prop} {s : Shared} {Q : Value → Shared → Prop} {h₀ : Heap} {L o : Addr} {news : List (Addr × Obj)} {vals : List Value} {ws : List Str} {x : Str} {t u : Tok} {n : Nat} {b : Bool}
open PySem.SeqAt in
theorem in_list_is (N : News h₀ L s.heap news) (ho : (o, W.listOf vals.toArray n) ∈ news) (hv : StrsAre vals ws) (hb : (ws.any fun y => y == x) = b) (h : Q (.bool b) s) :
    wpAny (model prog w) A (compareOp .In (.str x t) (.ref o)) Q E s := by
  refine in_listAt (isStr x) ⟨_, (N _ ho).1, rfl, _, rfl⟩ (fun y hy => ?_) ?_
  · obtain ⟨y, u, rfl, _⟩ := strs_mem hv y (by simpa using hy)
    exact EqAt.str_str _ _ _ _
  · have e : vals.toArray.any (isStr x) = b := by rw [← hb, ← strs_any x hv]; simp
    rw [e]; exact h
end
theorem small_vals {vals : List Value} (h : vals.length ≤ 15) : vals.toArray.size ≤ sizeLine := by
  rw [List.size_toArray]; exact Nat.le_trans h (by decide)
local macro_rules | `(tactic| walk_at "call ref") => `(tactic| (k_here; (with_reducible show wpAny _ _ (call (Value.ref 35) [Value.ref _, Value.int _ _]) _ _ _); k_dflt (refine' next_step ?hA ?B ?F ?X ?T ?hf ?hke ?N ?U ?hl ?hi ?hlen ?b ?b5 ?b6 ?_; (case hA => exact ⟨rfl, Nat.le_of_ble_eq_true rfl, rfl, rfl, Nat.le_of_ble_eq_true rfl⟩); (case B => k_asm); (case F => k_asm); (case X => k_asm); (case T => k_asm); (case hf => exact rfl); (case hke => exact rfl); (case N => k_asm); (case U => k_updF); (case hl => is_list); (case hi => assumption); (case hlen => first | assumption | omega); (case b => first | assumption | omega); (case b5 => decide); (case b6 => decide); k_whole); intro r' t' i' ti' x' tx' h' tk' r1' r2' b' F' N'; (try dsimp only at N'); (try k_sweep)))
local macro_rules | `(tactic| walk_at "call ref") => `(tactic| (k_here; (with_reducible show wpAny _ _ (call (Value.ref 83) [Value.ref _]) _ _ _); k_dflt (refine' word_step ?hA ?B ?F ?X ?T ?hf ?hke ?N ?U ?hl ?hi ?hlen ?b ?_; (case hA => exact ⟨rfl, Nat.le_of_ble_eq_true rfl, rfl, rfl, Nat.le_of_ble_eq_true rfl⟩); (case B => k_asm); (case F => k_asm); (case X => k_asm); (case T => k_asm); (case hf => exact rfl); (case hke => exact rfl); (case N => k_asm); (case U => k_updF); (case hl => is_list); (case hi => assumption); (case hlen => first | assumption | omega); (case b => first | assumption | omega); k_whole); intro r' d' t' due' wd' i' ti' x' tx' h' tk' W' b' F' N' I'; (try dsimp only at N'); (try k_sweep)))
local macro_rules | `(tactic| walk_at "call type:range") => `(tactic| (k_here; (rename Fr _ _ _ _ => lF'); (rename News _ _ _ _ => lN'); (refine range1_rows lF' lN' ?_); intro h' tk' t1 u1 v1 R' F' N' K'; clear K' lF' lN'))
local macro_rules | `(tactic| walk_at "exec For Name Call cons nil") => `(tactic| (k_here; (rename Fr _ _ _ _ => lF'); (with_unfolding_all refine' For_invVF lF' ?k1 ?k2 ?_; (case k1 => exact rfl); (case k2 => exact rfl); k_whole)))
local macro_rules | `(tactic| walk_at "eval IfExp") => `(tactic| (k_here; (with_reducible show wpAny _ _ (eval (Expr.IfExp (Expr.Compare (Expr.Name ("script" : Str) _) _ _ _) _ _ _) _) _ _ _); (rename Fr _ _ _ _ => lF'); (rename News _ _ _ _ => lN'); (refine' join_int lF' lN' ?jn ?kq); (case' kq => (intro num' tn' h' k' F' N'; clear lF' lN'))))
local macro_rules | `(tactic| walk_at "Exists") => `(tactic| ((with_reducible show ∃ _ _ _ _, Value.int _ _ = Value.int _ _ ∧ _); (rename News _ _ _ _ => nL'); exact ⟨_, _, _, _, rfl, rfl, by assumption, kst_newsOf nL' (by k_allIn)⟩))
local macro_rules | `(tactic| walk_at "subscriptTail") => `(tactic| (k_here; (with_reducible show wpAny _ _ (subscriptTail _ _ (Value.ref _) (Value.int 0 _)) _ _ _); k_dflt (refine' item_list_ints ?l ?i ?h0 ?h1 ?h2 ?_; (case l => is_list); (case i => assumption); (case h0 => decide); (case h1 => exact pos_of_ne (by assumption)); (case h2 => decide); k_whole); intro t'))
local macro_rules | `(tactic| walk_at "subscriptTail") => `(tactic| (k_here; (with_reducible show wpAny _ _ (subscriptTail _ _ (Value.ref _) (Value.int 0 _)) _ _ _); k_dflt (refine' item_tupleT ?l ?h0 ?h1 ?h2 ?h3 ?_; (case l => assumption); (case h0 => decide); (case h1 => decide); (case h2 => rfl); (case h3 => rfl); k_whole)))
local macro_rules | `(tactic| walk_at "subscriptTail") => `(tactic| (k_here; (with_reducible show wpAny _ _ (subscriptTail _ (Expr.Call _ _ _ _) (Value.ref _) (Value.int _ _)) _ _ _); k_dflt (refine' KTb.item_list ?l ?sw ?h0 ?h1 ?h2 ?_; (case l => is_list); (case sw => exact strs_lit _ rfl); (case h0 => assumption); (case h1 => assumption); (case h2 => omega); k_whole); intro t' hj'))
local macro_rules | `(tactic| walk_at "call builtin:list.append") => `(tactic| (k_here; (with_reducible show wpAny _ _ (call (Value.builtin _) [Value.ref _, _]) _ _ _); k_dflt (refine' append_K ?k1 ?k2 ?k3 ?_ ?z; (case k1 => k_asm); (case k2 => k_asm); (case k3 => k_upd); (case z => exact small_vals (by assumption)); k_whole); intro h' F' N'; (try k_sweep)))
local macro_rules | `(tactic| walk_at "call type:list") => `(tactic| (k_here; (with_reducible show wpAny _ _ (call (Value.type _) [Value.ref _]) _ _ _); k_dflt (refine' list_copyK ?k1 ?k2 ?k3 ?_ ?z; (case k1 => k_asm); (case k2 => k_asm); (case k3 => is_list); (case z => exact small_vals0 (by assumption)); k_whole); intro D' c' h' F' N' l1; (try k_lt l1); (try k_sweep)))
local macro_rules | `(tactic| walk_at "call ref") => `(tactic| (k_here; (with_reducible show wpAny _ _ (call (Value.ref 104) [Value.ref _]) _ _ _); k_dflt (refine' maker_step ?hA ?B ?F ?X ?T ?hf ?hke ?N ?U ?ho23 ?hC ?hv ?hlen ?_; (case hA => exact ⟨rfl, Nat.le_of_ble_eq_true rfl, rfl, rfl, Nat.le_of_ble_eq_true rfl⟩); (case B => k_asm); (case F => k_asm); (case X => k_asm); (case T => k_asm); (case hf => exact rfl); (case hke => exact rfl); (case N => k_asm); (case U => k_updF); (case ho23 => omega); (case hC => assumption); (case hv => assumption); (case hlen => omega); k_whole); intro q' c1' c2' D' oq' oc' oe' ps' h' tk' R' ord' all' F' N'; (try dsimp only at N'); (simp only [List.forall_mem_cons, List.not_mem_nil, false_implies, implies_true, and_true] at all'); (try k_sweep)))
local macro_rules | `(tactic| walk_at "InvEndN") => `(tactic| ((rename News _ _ _ _ => nE'); (try simp only [List.push_toArray] at nE'); (refine end1 (by assumption) nE' (by k_mem) (by k_mem) (by k_mem) (by k_mem) (by (intro p hp; kst_mem)) (by assumption) (strs_snoc (by assumption)) (by (simp only [List.length_append, List.length_cons, List.length_nil]; omega)) (by (intro z hz; simp [hz])))))
local macro_rules | `(tactic| walk_at "call ref") => `(tactic| (k_here; (with_reducible show wpAny _ _ (call (Value.ref 97) [Value.ref 21, Value.str _ _]) _ _ _); k_dflt ((rename WordIs _ _ _ => W9); (refine' askedA3 ?hA ?B ?F ?X ?T ?hck ?N W9 ?_ ?_ ?_); (case hA => exact ⟨rfl, Nat.le_of_ble_eq_true rfl, rfl, rfl, Nat.le_of_ble_eq_true rfl⟩); (case B => k_asm); (case F => k_asm); (case X => k_asm); (case T => k_asm); (case hck => exact rfl); (case N => k_asm); k_whole); (all_goals (intro h' tk' e9 F' N'; subst e9))))
local macro_rules | `(tactic| walk_at "call ref") => `(tactic| (k_here; (with_reducible show wpAny _ _ (call (Value.ref 97) [Value.ref _, Value.str _ _]) _ _ _); k_dflt ((rename WordIs _ _ _ => W9); (rename Reader _ _ _ _ _ _ _ => rdX); (refine' askedR_n ?hA ?B ?F ?X ?T ?hck ?N rdX ?h1 ?h2 ?h3 ?h4 ?hv W9 ?_ ?_); (case hA => exact ⟨rfl, Nat.le_of_ble_eq_true rfl, rfl, rfl, Nat.le_of_ble_eq_true rfl⟩); (case B => k_asm); (case F => k_asm); (case X => k_asm); (case T => k_asm); (case hck => exact rfl); (case N => k_asm); (case h1 => k_mem); (case h2 => k_mem); (case h3 => k_mem); (case h4 => k_mem); (case hv => assumption); k_whole); (all_goals (intro h' tk' hi' F' N'))))
local macro_rules | `(tactic| walk_at "call ref") => `(tactic| (k_here; (with_reducible show wpAny _ _ (call (Value.ref 97) [Value.ref _, Value.str _ _]) _ _ _); k_dflt ((rename WordIs _ _ _ => W9); (rename Reader _ _ _ _ _ _ _ => rdX); (refine' askedR_t ?hA ?B ?F ?X ?T ?hck ?N rdX ?h1 ?h2 ?h3 ?h4 ?hv W9 ?_ ?_); (case hA => exact ⟨rfl, Nat.le_of_ble_eq_true rfl, rfl, rfl, Nat.le_of_ble_eq_true rfl⟩); (case B => k_asm); (case F => k_asm); (case X => k_asm); (case T => k_asm); (case hck => exact rfl); (case N => k_asm); (case h1 => k_mem); (case h2 => k_mem); (case h3 => k_mem); (case h4 => k_mem); (case hv => assumption); k_whole); (all_goals (intro h' tk' hi' F' N'))))
local macro_rules | `(tactic| walk_at "call ref") => `(tactic| (k_here; (with_reducible show wpAny _ _ (call (Value.ref 97) [Value.ref _, Value.str _ _]) _ _ _); k_dflt ((rename WordIs _ _ _ => W9); (rename Reader _ _ _ _ _ _ _ => rdX); (refine' askedR_f ?hA ?B ?F ?X ?T ?hck ?N rdX ?h1 ?h2 ?h3 ?h4 ?hv W9 ?_ ?_); (case hA => exact ⟨rfl, Nat.le_of_ble_eq_true rfl, rfl, rfl, Nat.le_of_ble_eq_true rfl⟩); (case B => k_asm); (case F => k_asm); (case X => k_asm); (case T => k_asm); (case hck => exact rfl); (case N => k_asm); (case h1 => k_mem); (case h2 => k_mem); (case h3 => k_mem); (case h4 => k_mem); (case hv => assumption); k_whole); (all_goals (intro h' tk' hi' F' N'))))
local macro_rules | `(tactic| walk_at "compareOp In str ref") => `(tactic| (k_here; k_dflt (refine' in_list_is ?N ?ho ?hv ?hb ?_; (case N => k_asm); (case ho => k_mem); (case hv => assumption); (case hb => assumption); k_whole)))
local macro_rules | `(tactic| walk_at "call ref") => `(tactic| (k_here; (with_reducible show wpAny _ _ (call (Value.ref 90) [Value.ref _, Value.int _ _]) _ _ _); k_dflt (refine' other_step ?hA ?B ?F ?X ?T ?hf ?hke ?N ?U ?hl ?hi ?hlen ?b ?_; (case hA => exact ⟨rfl, Nat.le_of_ble_eq_true rfl, rfl, rfl, Nat.le_of_ble_eq_true rfl⟩); (case B => k_asm); (case F => k_asm); (case X => k_asm); (case T => k_asm); (case hf => exact rfl); (case hke => exact rfl); (case N => k_asm); (case U => k_updF); (case hl => is_list); (case hi => assumption); (case hlen => first | assumption | omega); (case b => first | assumption | omega); k_whole); intro r' pl' tr' z' oz' i' ti' x' tx' h' tk' hpl' b' F' N' I'; (try dsimp only at N'); (try k_sweep)))
local macro_rules | `(tactic| walk_at "call ref") => `(tactic| (k_here; (with_reducible show wpAny _ _ (call (Value.ref 21) [_]) _ _ _); k_dflt (refine' plainA_step ?hA ?B ?F ?X ?T ?hf ?hke ?hp ?N ?hz ?_; (case hA => exact ⟨rfl, Nat.le_of_ble_eq_true rfl, rfl, rfl, Nat.le_of_ble_eq_true rfl⟩); (case B => k_asm); (case F => k_asm); (case X => k_asm); (case T => k_asm); (case hf => exact rfl); (case hke => exact rfl); (case hp => assumption); (case N => k_asm); (case hz => k_mem); k_whole); intro h' tk' F' N'))
local macro_rules | `(tactic| walk_at "call ref") => `(tactic| (k_here; k_dflt ((rename Reader _ _ _ _ _ _ _ => rdX); (refine' plainR_step ?hA ?B ?F ?X ?T ?hf ?hke ?hp ?N ?hz rdX ?h1 ?h2 ?h3 ?h4 ?hv ?_); (case hA => exact ⟨rfl, Nat.le_of_ble_eq_true rfl, rfl, rfl, Nat.le_of_ble_eq_true rfl⟩); (case B => k_asm); (case F => k_asm); (case X => k_asm); (case T => k_asm); (case hf => exact rfl); (case hke => exact rfl); (case hp => assumption); (case N => k_asm); (case hz => k_mem); (case h1 => k_mem); (case h2 => k_mem); (case h3 => k_mem); (case h4 => k_mem); (case hv => assumption); k_whole); intro h' tk' F' N'))
local macro_rules | `(tactic| walk_at "call ref") => `(tactic| (k_here; (with_reducible show wpAny _ _ (call (Value.ref _) [Value.str _ _]) _ _ _); k_dflt ((rename Reader _ _ _ _ _ _ _ => rdX); (refine' inR_step ?hA ?B ?F ?X ?T ?hf ?hke ?N rdX ?h1 ?h2 ?h3 ?h4 ?hv ?hin ?_); (case hA => exact ⟨rfl, Nat.le_of_ble_eq_true rfl, rfl, rfl, Nat.le_of_ble_eq_true rfl⟩); (case B => k_asm); (case F => k_asm); (case X => k_asm); (case T => k_asm); (case hf => exact rfl); (case hke => exact rfl); (case N => k_asm); (case h1 => k_mem); (case h2 => k_mem); (case h3 => k_mem); (case h4 => k_mem); (case hv => exact StrsAre.cons _ _ (by assumption)); (case hin => simp); k_whole); intro h' tk' F' N'))
local macro_rules | `(tactic| walk_at "call ref") => `(tactic| (k_here; (with_reducible show wpAny _ _ (call (Value.ref _) [Value.str _ _]) _ _ _); k_dflt ((rename Reader _ _ _ _ _ _ _ => rdX); (refine' noR_step ?hA ?B ?F ?X ?T ?hf ?hke ?N rdX ?h1 ?h2 ?h3 ?h4 ?_); (case hA => exact ⟨rfl, Nat.le_of_ble_eq_true rfl, rfl, rfl, Nat.le_of_ble_eq_true rfl⟩); (case B => k_asm); (case F => k_asm); (case X => k_asm); (case T => k_asm); (case hf => exact rfl); (case hke => exact rfl); (case N => k_asm); (case h1 => k_mem); (case h2 => k_mem); (case h3 => k_mem); (case h4 => k_mem); k_whole); intro h' tk' F' N'))
local macro_rules | `(tactic| walk_at "callWith ref") => `(tactic| (k_here; k_dflt ((rename Reader _ _ _ _ _ _ _ => rdX); refine' callWith_F ?k1 ?_; (case k1 => exact Reader.fnAt rdX (by k_asm) (by k_mem)); k_whole)))
local macro_rules | `(tactic| walk_at "FnAt") => `(tactic| (k_dflt ((rename Reader _ _ _ _ _ _ _ => rdX); exact Reader.fnAt rdX (by k_asm) (by k_mem))))
local macro_rules | `(tactic| walk_at "compareOp NotEq str str") => `(tactic| (k_here; refine ne_self ?_))
local macro_rules | `(tactic| walk_at "compareOp Eq str str") => `(tactic| (k_here; refine eq_self ?_))
local macro_rules | `(tactic| walk_at "compareOp IsNot bool bool") => `(tactic| (k_here; k_dflt (refine' wpAny_isNot_self ?pz ?_; (case pz => rfl); k_whole)))
local macro_rules | `(tactic| walk_at "compareOp IsNot") => `(tactic| (k_here; refine wpAny_isNot_self (by rfl) ?_))
local macro_rules | `(tactic| walk_at "InvEndN") => `(tactic| ((goal_has Mine.K2); (rename News _ _ _ _ => nE'); (refine end2 (by assumption) nE' (by k_mem) (by k_mem) (by k_mem) (by k_mem) (by k_mem) (by k_mem) (by k_mem) (by k_mem) (by (intro p hp; kst_mem)) (by assumption) (by (intro z h1 h3; (simp only [List.contains_cons, List.contains_nil, Bool.or_false, Bool.or_eq_false_iff, beq_eq_false_iff_ne, ne_eq] at h3); simp [h1, h3])))))
local macro_rules | `(tactic| walk_at "compareOp NotEq ref ref") => `(tactic| (k_here; k_dflt (refine' ne_nil0 ?N ?ha ?hb ?hu ?_; (case N => k_asm); (case ha => k_mem); (case hb => k_mem); (case hu => exact Nat.le_of_ble_eq_true rfl); k_whole)))
local macro_rules | `(tactic| walk_at "compareOp NotEq ref ref") => `(tactic| (k_here; k_dflt (refine' ne_nil1 ?N ?ha ?hb ?hu ?_; (case N => k_asm); (case ha => k_mem); (case hb => k_mem); (case hu => exact Nat.le_of_ble_eq_true rfl); k_whole)))
local macro_rules | `(tactic| walk_at "compareOp Eq ref ref") => `(tactic| (k_here; k_dflt (refine' eq_nil0 ?N ?ha ?hb ?hu ?_; (case N => k_asm); (case ha => k_mem); (case hb => k_mem); (case hu => exact Nat.le_of_ble_eq_true rfl); k_whole)))
local macro_rules | `(tactic| walk_at "compareOp Eq ref ref") => `(tactic| (k_here; k_dflt (refine' eq_nil1 ?N ?ha ?hb ?hu ?_; (case N => k_asm); (case ha => k_mem); (case hb => k_mem); (case hu => exact Nat.le_of_ble_eq_true rfl); k_whole)))
local macro_rules | `(tactic| walk_at "subscriptTail") => `(tactic| (k_here; (with_reducible show wpAny _ _ (subscriptTail _ _ (Value.ref _) (Value.int 0 _)) _ _ _); k_dflt (refine' item_first ?N ?ha ?_; (case N => k_asm); (case ha => k_mem); k_whole)))
def Stop (P : Prop) : Prop := P
theorem stop_here {P : Prop} (h : Stop P) : P := h
theorem Stop.go {P : Prop} (h : P) : Stop P := h
local macro_rules | `(tactic| walk_at "pyIter ref") => `(tactic| (refine stop_here ?_))
set_option maxHeartbeats 8000000 in
theorem law_top : PySem.Challenge.rw_bq5029_01.Holds := hd (by
  k_go0
  (all_goals try k_fold)
  k_steps
  refine Stop.go ?_
  (rename Fr _ _ _ _ => lF')
  (rename News _ _ _ _ => lN')
  (rename IsRange _ _ _ _ _ _ _ _ => rgX)
  refine' loop1 ?zhh rgX ?zhb lF' lN' ?zb ?zturn ?zdone
  case zhh => exact rfl
  case zhb => omega
  case zb => first | assumption | omega
  case zturn =>
    clear lF' lN' rgX
    intro vals' ws' n' i' ti' x' tx' pre' k' t' h' tk' own' b' hv' hp' hz' hoff' F' N'
    k_steps
  case zdone =>
    clear lF' lN' rgX
    intro vals' ws' n' i' ti' x' tx' u' h' tk' b' hv' hlen' hz' F' N'
    k_steps
    refine Stop.go ?_
    (rename Fr _ _ _ _ => lF')
    (rename News _ _ _ _ => lN')
    (rename IsRange _ _ _ _ _ _ _ _ => rgX)
    (rename Reader _ _ _ _ _ _ _ => rdX)
    refine' loop2 rdX ?yhh rgX ?yhb lF' lN' ?yb ?yturn ?ydone
    case yhh => exact rfl
    case yhb => omega
    case yb => first | assumption | omega
    case yturn =>
      clear lF' lN' rgX
      intro i' ti' x' tx' pre' k' t' u' h' tk' own' b' hoff' F' N'
      k_steps
    case ydone =>
      clear lF' lN' rgX
      intro i' ti' x' tx' u' h' tk' b' F' N'
      cases hv' with
      | nil =>
        k_steps
      | cons xx tt hv2 =>
        k_steps)
end Mine

set_option maxHeartbeats 8000000 in
theorem PySem.Challenge.cw_bq5029_01_holds : PySem.Challenge.rw_bq5029_01.Holds := by
  exact Mine.law_top
