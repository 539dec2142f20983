import PyProof.Rows.All
import Wide.All
import OpenK.AllK
import Wide.FinOn
import Lean
import PySem.Challenge.RW_wu0005_01
open PySem PySem.W PyProof.Rows PySem.Calls PySem.Spec
set_option Elab.async false
set_option maxRecDepth 100000
set_option maxHeartbeats 8000000
namespace Mine
open_top hd for PySem.Challenge.rw_wu0005_01
end Mine

namespace Mine
/-- the room around a call -/
abbrev Aw (dp un : Nat) (fr : Option (List Env)) (gd : Option (List Code)) : Around := { handled := none, depth := dp, frames := fr, guards := gd, units := un }

theorem enter {prog : Program} {w : World} {A : Around} {E : Value → Shared → Prop} {s : Shared} {K : Frag} {Q : Value → Shared → Prop} {name qual : Str} {params : Arguments} {body : List Stmt} {scope : Scope} {dV kV doc pm cdv ct oc : Value} {an od : Option Addr} {osl : Array (Option Value)} {f : Addr} {vs : List Value} {binds : List (Str × Value)}
    (X : K.In s.heap) (NL : s.heap.NoLimit) (hroom : A.depth < recursionLimit)
    (ho : K.lookup f = some ⟨oc, od, .func (fnOf name qual params body scope dV kV doc pm an cdv ct), osl⟩) (hcd : codeIn K cdv qual = true)
    (hbind : BindsTo s (fnOf name qual params body scope dV kV doc pm an cdv ct) ⟨vs, []⟩ binds) (hloc : ∀ y ∈ binds, scope.names.lookup y.1 = some .local)
    (h : ∀ L h₁, Fr s.heap L h₁ (fun y => binds.reverse.lookup y) → News s.heap L h₁ [] →
      wpAny (model prog w) (A.deeper (envOf qual scope L f cdv)) (execs body (envOf qual scope L f cdv))
        (fun fl s' => Q (match fl with | .ret v => v | _ => .none) s') (fun _ _ => False) { s with heap := h₁, toks := s.toks + binds.length })
    (hco : scope.isCoroutine = false) (hgen : scope.isGenerator = false) (hk : scope.kind = .function) (hcell : ∀ x ∈ scope.names, x.2 ≠ .cell) :
    wpAny (model prog w) A (call (.ref f) vs) Q E s := by
  refine wpAny_call (codeAny_call_def (fd := fnOf name qual params body scope dV kV doc pm an cdv ct) (body := body) (binds := binds) hroom (X _ _ ho) rfl NL (codeRec_of X hcd) rfl hbind hcell hloc (fun h₁ hns hk₁ => ?_) hco hgen hk)
  exact wpAny_mono (h s.heap.objs.size h₁ ⟨hns, hk₁, Nat.le_refl _⟩ News.nil) (fun _ _ x => x) (fun _ _ x => x.elim)

theorem enterC {prog : Program} {w : World} {A : Around} {E : Value → Shared → Prop} {s : Shared} {K : Frag} {Q : Value → Shared → Prop} {name qual : Str} {params : Arguments} {body : List Stmt} {scope : Scope} {dV kV doc pm cdv ct oc : Value} {an od : Option Addr} {osl : Array (Option Value)} {f : Addr} {vs : List Value} {binds : List (Str × Value)}
    (X : K.In s.heap) (NL : s.heap.NoLimit) (hroom : A.depth < recursionLimit)
    (ho : K.lookup f = some ⟨oc, od, .func (fnOf name qual params body scope dV kV doc pm an cdv ct), osl⟩) (hcd : codeIn K cdv qual = true)
    (hbind : BindsTo s (fnOf name qual params body scope dV kV doc pm an cdv ct) ⟨vs, []⟩ binds)
    (hkind : (binds.all fun y => scope.names.lookup y.1 == some .local || scope.names.lookup y.1 == some .cell) = true)
    (hnd : ((cellsFrom 0 scope.names []).map (·.1)).Nodup)
    (h : ∀ L h₁ tk cells, Fr s.heap L h₁ (bindL (envOfC qual scope L f cdv).kindOf binds fun _ => none) → News s.heap L h₁ cells →
      CellsAre (bindC (envOfC qual scope L f cdv).kindOf binds fun _ => none) (cellsFrom (L + 1) scope.names []) cells →
      wpAny (model prog w) (A.deeper (envOfC qual scope L f cdv)) (execs body (envOfC qual scope L f cdv))
        (fun fl s' => Q (match fl with | .ret v => v | _ => .none) s') (fun _ _ => False) { s with heap := h₁, toks := tk })
    (hco : scope.isCoroutine = false) (hgen : scope.isGenerator = false) (hk : scope.kind = .function) :
    wpAny (model prog w) A (call (.ref f) vs) Q E s := by
  refine wpAny_call (codeAny_call_function hroom (X _ _ ho) rfl hco hgen rfl (codeRec_of X hcd) (hbind _ _ _ _ ?_))
  refine wpAny_newFunctionEnv_cells hk (kindsX hkind _) fun env' he s' x => ?_
  subst he
  refine ⟨NL.keeps x.toInCall.keep, codeAny_func ?_⟩
  obtain ⟨h₁, tk, rfl, _⟩ := x.done
  have hk₁ := x.toInCall.keep
  obtain ⟨cells, NC, Y⟩ := Cl.news (h₀ := s.heap) (Nat.le_refl _) fun n c hm => ⟨x.cell n c (lookup_of_mem_nodup (cellsFrom_names scope.names 0 (s.heap.objs.size + 1) [] [] rfl ▸ hnd) hm), x.above n c hm⟩
  exact wpAny_mono (h s.heap.objs.size h₁ tk cells ⟨x.toInCall.ns, hk₁, Nat.le_refl _⟩ NC Y) (fun _ _ x => x) (fun _ _ x => x.elim)
end Mine
namespace Mine
structure Ok (w : World) (h : Heap) : Prop where
  K : (hd.heap_39 w.params).In h
  T : ∃ mean mg mb, Top hd.view_39 (looseW hd.view_39 []) mean mg mb h
theorem Ok.keeps {w : World} {h h' : Heap} (x : Ok w h) (k : h.StaysIn h') : Ok w h' := ⟨x.K.keeps k, let ⟨a, b, c, T⟩ := x.T; ⟨a, b, c, T.keeps k⟩⟩
end Mine
namespace Mine
def CallP (w : World) (k : Nat) (f : Addr) (vs : List Value) (P : Heap → Prop) (R : Value → Heap → Prop) : Prop :=
  ∀ (dp un : Nat) (fr : Option (List Env)) (gd : Option (List Code)) (s : Shared) (Q E : Value → Shared → Prop), Ok w s.heap → P s.heap → dp + k < recursionLimit → un + 8 * k < cLine →
    (∀ v h' tk', s.heap.StaysIn h' → R v h' → Q v { s with heap := h', toks := tk' }) →
    wpAny (model PySem.Challenge.rw_wu0005_01.row.prog w) (Aw dp un fr gd) (call (.ref f) vs) Q E s
theorem CallP.use {w : World} {k : Nat} {f : Addr} {vs : List Value} {P : Heap → Prop} {R : Value → Heap → Prop} (C : CallP w k f vs P R)
    {mean : ExcName → Option Value} {mg mb : Str → Option Value} {dp un : Nat} {fr : Option (List Env)} {gd : Option (List Code)} {s : Shared} {Q E : Value → Shared → Prop} {h₀ : Heap} {L : Addr} {m : Str → Option Value} {news : List (Addr × Obj)}
    (F : Fr h₀ L s.heap m) (N : News h₀ L s.heap news) (X : (hd.heap_39 w.params).In h₀) (T : Top hd.view_39 (looseW hd.view_39 []) mean mg mb h₀)
    (hp : P s.heap) (hdp : dp + k < recursionLimit) (hu : un + 8 * k < cLine)
    (h : ∀ v h' tk', Fr h₀ L h' m → News h₀ L h' news → s.heap.StaysIn h' → R v h' → Q v { s with heap := h', toks := tk' }) :
    wpAny (model PySem.Challenge.rw_wu0005_01.row.prog w) (Aw dp un fr gd) (call (.ref f) vs) Q E s :=
  C dp un fr gd s Q E ⟨X.keeps F.keep, _, _, _, T.keeps F.keep⟩ hp hdp hu fun v h' tk' st r => h v h' tk' (F.keeps st) (N.grown st) st r
end Mine

namespace Mine
section
variable {prog : Program} {w : World} {A : Around} {E : Value → Shared → Prop} {s : Shared} {h₀ : Heap} {L : Addr} {m : Str → Option Value} {env : Env} {ct elt iter : Expr} {x : Str} {px pos : Pos} {scope : Scope} {cl : List (Str × Addr)} {news : List (Addr × Obj)}

/-- the source of a comprehension stands in the ledger, a tuple -/
def SrcTup (ax : Addr) (its : Array Value) (news : List (Addr × Obj)) : Prop := ∃ o, (ax, o) ∈ news ∧ o.cls = .type "tuple" ∧ ∃ n, o.data = .seq its n
theorem SrcTup.tup {h : Heap} {ax : Addr} {its : Array Value} (x : SrcTup ax its news) (N : News h₀ L h news) : h.IsTuple ax its := by
  obtain ⟨o, hm, r⟩ := x
  exact ⟨o, (N _ hm).1, r⟩

/-- the walk stops here -/
def Stop (P : Prop) : Prop := P
theorem comp_tup {Q : Value → Shared → Prop} (_F₀ : Fr h₀ L s.heap m)
    (hclos : closureFor scope env = pure cl) (hcell : ∀ y ∈ scope.names, y.2 ≠ .cell) (hkind : scope.kind = .function)
    (hnames : ∀ y ∈ scope.names, y.2 = .local → scope.names.lookup y.1 = some .local) (hx : scope.names.lookup x = some .local)
    (h : wpAny (model prog w) A (eval iter env) (fun xv s₁ => Stop (∀ P : Prop, (∀ ax its news, xv = .ref ax → A.handled = none → Fr h₀ L s₁.heap m → News h₀ L s₁.heap news → SrcTup ax its news → its.size ≤ sizeLine →
      (∀ g, LCg.CompRest prog w A h₀ L m env elt x scope cl { s₁ with heap := g } (SrcTup ax its) (fun i v => its[i]? = some v) (LCg.FinE h₀ L m { s₁ with heap := g } Q) its.size 0 [] news) → P) → P)) E s)
    (hs : ∀ x, foldedSetIterable iter env x = pure x := by intro _; rfl) :
    wpAny (model prog w) A (eval (.ListComp elt [⟨.Name x px, iter, [], 0⟩] scope pos) env) Q E s := by
  rw [eval_ListComp]
  refine wpAny_comprehension_free (use := none) rfl hs hclos hkind hnames (wpAny_mono h (fun xv s₁ h₁ => ?_) fun _ _ e => e)
  refine h₁ _ ?_
  clear h₁
  rintro ax its news rfl hh F N S hsz R
  have hl := S.tup N
  have hlt : ax < s₁.heap.objs.size := hl.elim fun _ q => Heap.lt_size q.1
  refine wpAny_pyIter_tuple hl ?_
  have up : ∀ b o, s₁.heap.get? b = some o → (s₁.heap.push { cls := .type "tuple_iterator", data := .fields #[.ref ax, .int 0 0] }).get? b = some o := fun b o e => Heap.get?_push_of_some _ e
  refine LCg.block_U (Walks.tuple hh s₁.heap.objs.size ax (Nat.ne_of_lt hlt) its) hsz (fun i h st => st.1.elim fun o q => ⟨o, q.1⟩)
    (fun i h h' o nw st e e' k N S => ⟨by obtain ⟨o', q, r⟩ := st.1; rw [e] at q; cases q; exact ⟨o, e', r⟩, S.tup N⟩)
    hcell hkind hx ⟨⟨_, Heap.get?_push_size _ rfl, rfl, rfl⟩, hl.push _⟩ (fun b hb => ?_)
    (F.keeps up) (N.grown up) (Nat.ne_of_lt F.ns.lt) (next_is_new F) (fun p hp => Nat.ne_of_lt (Heap.lt_size (N p hp).1)) S (R _) ?_
  · show b < (s₁.heap.push _).objs.size
    rw [Heap.size_push]
    rcases List.mem_cons.mp hb with rfl | hb
    · exact Nat.lt_succ_self _
    · rw [List.mem_singleton.mp hb]; exact Nat.lt_succ_of_lt hlt
  · intro D C h' tk m' ys news' F' N' o1 hn hC₀ hD₀ hCL hDL hCD offC fin
    refine ⟨m', hn, fun h'' hs'' => fin D h'' tk (F'.change hs'' hCL hC₀) (fun p hp => ?_) o1⟩
    refine ⟨hs''.extBut _ _ ?_ (N' p hp).1, (N' p hp).2⟩
    rcases List.mem_cons.mp hp with rfl | hp
    · exact Ne.symm hCD
    · exact offC p hp

/-- a turn's end: the ledger as it was, and what is said of the element -/
def Turned (news : List (Addr × Obj)) (F : Value → Prop) (y : Value) (news' : List (Addr × Obj)) : Prop := news' = news ∧ F y

theorem end_next {I C D : Addr} {oI oC oD : Obj} {S : List (Addr × Obj) → Prop} {F : Value → Prop} {rest : Value → List (Addr × Obj) → Prop} {y y' : Value} {s₂ : Shared}
    (h : LCg.CompEnd h₀ L m s I oI C oC D oD S (Turned news F) y s₂) (k : F y → rest y' news) : LCg.CompEnd h₀ L m s I oI C oC D oD S rest y' s₂ := by
  obtain ⟨h', tk', nw, e, F', N', off', hS', rfl, hy'⟩ := h
  exact ⟨h', tk', nw, e, F', N', off', hS', k hy'⟩
/-- all turns of a comprehension without a test -/
theorem rest_gen {S : List (Addr × Obj) → Prop} {P : Nat → Value → Prop} {Fin : List Value → List (Addr × Obj) → Prop} {n : Nat} (G : Nat → Value → Prop) (hS : S news)
    (turn : ∀ i v I oI C oC D m₂ ys h tk (E' : Value → Shared → Prop), i < n → P i v → LCg.NsObj oC m₂ → m₂ x = some v → Fr h₀ L h m → News h₀ L h ((I, oI) :: (C, oC) :: (D, LCg.lst ys) :: news) → LCg.Off3 I C D news → ((@Ne Nat I C) ∧ (@Ne Nat I D) ∧ (@Ne Nat C D)) → S news →
      wpAny (model prog w) A (eval elt (compEnvC scope cl C env)) (LCg.CompEnd h₀ L m { s with heap := h, toks := tk } I oI C oC D (LCg.lst ys) S (Turned news (G i))) E' { s with heap := h, toks := tk })
    (fin : ∀ ys, ys.length = n → (∀ i y, ys[i]? = some y → G i y) → Fin ys news) :
    LCg.CompRest prog w A h₀ L m env elt x scope cl s S P Fin n 0 [] news := by
  have key : ∀ (j i : Nat) (ys : List Value), i + j = n → ys.length = i → (∀ i y, ys[i]? = some y → G i y) → LCg.CompRest prog w A h₀ L m env elt x scope cl s S P Fin j i ys news := by
    intro j
    induction j with
    | zero =>
      intro i ys hi hy hG
      exact LCg.CompRest.zero (fin ys (by omega) hG)
    | succ j ih =>
      intro i ys hi hy hG
      refine LCg.CompRest.succ ?_
      intro v I oI C oC D m₂ h tk E' hv hC hx F N off ne
      refine wpAny_mono (turn i v I oI C oC D m₂ ys h tk E' (by omega) hv hC hx F N off ne hS) (fun y s₂ hq => ?_) fun _ _ e => e
      refine end_next hq fun hy' => ih (i + 1) _ (by omega) (by simp [hy]) fun k z hk => ?_
      rw [List.getElem?_append] at hk
      split at hk
      · exact hG k z hk
      · rename_i hlt
        have : k = i := by
          rcases Nat.lt_or_ge (k - ys.length) 1 with q | q
          · omega
          · rw [List.getElem?_eq_none (by simpa using q)] at hk; cases hk
        subst this
        rw [hy, Nat.sub_self] at hk
        cases hk
        exact hy'
  exact key n 0 [] (by omega) rfl (by simp)

/-- all turns of a comprehension with one test, over a written source -/
theorem rest_test {S : List (Addr × Obj) → Prop} {P : Nat → Value → Prop} {Fin : List Value → List (Addr × Obj) → Prop} {n : Nat} (ok : Nat → Bool) (G : Nat → Value → Prop) (hS : S news)
    (turn : ∀ i v I oI C oC D m₂ ys h tk (E' : Value → Shared → Prop), i < n → P i v → LCg.NsObj oC m₂ → m₂ x = some v → Fr h₀ L h m → News h₀ L h ((I, oI) :: (C, oC) :: (D, LCg.lst ys) :: news) → LCg.Off3 I C D news → ((@Ne Nat I C) ∧ (@Ne Nat I D) ∧ (@Ne Nat C D)) → S news →
      wpAny (model prog w) A (isTrue ct (compEnvC scope cl C env) (eval ct (compEnvC scope cl C env))) (fun b s' => b = ok i ∧ if b = true then
        wpAny (model prog w) A (eval elt (compEnvC scope cl C env)) (LCg.CompEnd h₀ L m { s with heap := h, toks := tk } I oI C oC D (LCg.lst ys) S (Turned news (G i))) E' s'
        else LCg.CompEnd h₀ L m { s with heap := h, toks := tk } I oI C oC D (LCg.lst ys) S (Turned news fun _ => True) Value.none s') E' { s with heap := h, toks := tk })
    (fin : ∀ ys, Paired G ((List.range n).filter ok) ys → Fin ys news) :
    LCt.CompRestT prog w A h₀ L m env ct elt x scope cl s S P Fin n 0 [] news := by
  have key : ∀ (j i : Nat) (ys : List Value), i + j = n → Paired G ((List.range i).filter ok) ys → LCt.CompRestT prog w A h₀ L m env ct elt x scope cl s S P Fin j i ys news := by
    intro j
    induction j with
    | zero =>
      intro i ys hi hy
      have : i = n := by omega
      subst this
      exact LCt.CompRestT.zero (fin ys hy)
    | succ j ih =>
      intro i ys hi hy
      refine LCt.CompRestT.succ ?_
      intro v I oI C oC D m₂ h tk E' hv hC hx F N off ne
      refine wpAny_mono (turn i v I oI C oC D m₂ ys h tk E' (by omega) hv hC hx F N off ne hS) (fun b s₂ hq => ?_) fun _ _ e => e
      obtain ⟨hb, hq⟩ := hq
      cases b with
      | true =>
        simp only [if_true] at hq ⊢
        refine wpAny_mono hq (fun y s₃ hr => ?_) fun _ _ e => e
        refine end_next hr fun hy' => ih (i + 1) _ (by omega) ?_
        rw [List.range_succ, List.filter_append, List.filter_cons_of_pos hb.symm]
        exact hy.snoc hy'
      | false =>
        simp only [Bool.false_eq_true, if_false] at hq ⊢
        refine end_next hq fun _ => ih (i + 1) _ (by omega) ?_
        rw [List.range_succ, List.filter_append, List.filter_cons_of_neg (by rw [← hb]; exact Bool.false_ne_true)]
        simpa using hy
  exact key n 0 [] (by omega) (by simpa using Paired.nil)
/-- the library's comprehension rules; the walk stops at the source -/
theorem comp_U {Q : Value → Shared → Prop} (F₀ : Fr h₀ L s.heap m)
    (hclos : closureFor scope env = pure cl) (hcell : ∀ y ∈ scope.names, y.2 ≠ .cell) (hkind : scope.kind = .function)
    (hnames : ∀ y ∈ scope.names, y.2 = .local → scope.names.lookup y.1 = some .local) (hx : scope.names.lookup x = some .local)
    (h : wpAny (model prog w) A (eval iter env) (fun xv s₁ => Stop (LCg.CompSrc prog w A h₀ L m env elt x scope cl (fun s₂ => LCg.FinE h₀ L m s₂ Q) xv s₁)) E s)
    (hs : ∀ x, foldedSetIterable iter env x = pure x := by intro _; rfl) :
    wpAny (model prog w) A (eval (.ListComp elt [⟨.Name x px, iter, [], 0⟩] scope pos) env) Q E s := LCg.ListComp_U F₀ hclos hcell hkind hnames hx h hs
theorem comp_T {Q : Value → Shared → Prop} (F₀ : Fr h₀ L s.heap m)
    (hclos : closureFor scope env = pure cl) (hcell : ∀ y ∈ scope.names, y.2 ≠ .cell) (hkind : scope.kind = .function)
    (hnames : ∀ y ∈ scope.names, y.2 = .local → scope.names.lookup y.1 = some .local) (hx : scope.names.lookup x = some .local)
    (h : wpAny (model prog w) A (eval iter env) (fun xv s₁ => Stop (LCt.CompSrcT prog w A h₀ L m env ct elt x scope cl (fun s₂ => LCg.FinE h₀ L m s₂ Q) xv s₁)) E s)
    (hs : ∀ x, foldedSetIterable iter env x = pure x := by intro _; rfl) :
    wpAny (model prog w) A (eval (.ListComp elt [⟨.Name x px, iter, [ct], 0⟩] scope pos) env) Q E s := LCt.ListComp_T F₀ hclos hcell hkind hnames hx h hs
theorem asg_T {y : Str} {py spos : Pos} {Q : Flow → Shared → Prop} (F₀ : Fr h₀ L s.heap m) (hLe : env.locals = L)
    (hsw : swapsWith (.ListComp elt [⟨.Name x px, iter, [ct], 0⟩] scope pos) (some (.Name y py)) spos.line env = pure true)
    (hclos : closureFor scope env = pure cl) (hcell : ∀ z ∈ scope.names, z.2 ≠ .cell) (hkind : scope.kind = .function)
    (hnames : ∀ z ∈ scope.names, z.2 = .local → scope.names.lookup z.1 = some .local) (hx : scope.names.lookup x = some .local)
    (hy : env.kindOf y = some .local) (hp : (env.scope.kind == .class || (env.scope.kind == .module && env.locals != env.globals)) = false)
    (h : wpAny (model prog w) A (eval iter env) (fun xv s₁ => Stop (LCt.CompSrcT prog w A h₀ L m env ct elt x scope cl (fun s₂ => LCg.FinA h₀ L m s₂ y Q) xv s₁)) E s)
    (hs : ∀ x, foldedSetIterable iter env x = pure x := by intro _; rfl) :
    wpAny (model prog w) A (exec (.Assign [.Name y py] (.ListComp elt [⟨.Name x px, iter, [ct], 0⟩] scope pos) spos) env) Q E s := LCt.Assign_ListComp_T F₀ hLe hsw hclos hcell hkind hnames hx hy hp h hs
theorem Stop.go {P : Prop} (h : Stop P) : P := h
/-- one stop of the walk at an if -/
inductive Mark : Prop where | mk
/-- a statement's ways joined -/
theorem join_dict {M : Model} {A : Around} {E : Value → Shared → Prop} {s : Shared} {h₀ : Heap} {L d : Addr} {m : Str → Option Value} {st : Stmt} {env : Env} {o : Obj} {news : List (Addr × Obj)} {Q : Flow → Shared → Prop} (G : Obj → Prop)
    (_F : Fr h₀ L s.heap m) (_N : News h₀ L s.heap ((d, o) :: news))
    (h1 : wpAny M A (exec st env) (fun fl s₁ => Stop (fl = .next ∧ ∃ h tk o, s₁ = { s with heap := h, toks := tk } ∧ Fr h₀ L h m ∧ News h₀ L h ((d, o) :: news) ∧ G o)) E s)
    (h2 : ∀ h tk o, Fr h₀ L h m → News h₀ L h ((d, o) :: news) → G o → Q .next { s with heap := h, toks := tk }) : wpAny M A (exec st env) Q E s :=
  wpAny_mono h1 (fun fl s₁ hj => by obtain ⟨rfl, h, tk, o, rfl, F, N, g⟩ := hj; exact h2 h tk o F N g) fun _ _ e => e
theorem Fr.same {h₀ h : Heap} {L : Addr} {m : Str → Option Value} {x : Str} {v : Value} (F : Fr h₀ L h m) (hm : m x = some v) : Fr h₀ L h (fun y => if y = x then some v else m y) := by
  have e : (fun y => if y = x then some v else m y) = m := by
    funext y
    by_cases hy : y = x
    · subst hy; simp [hm]
    · simp [hy]
  rw [e]; exact F
theorem join_name {M : Model} {A : Around} {E : Value → Shared → Prop} {s : Shared} {h₀ : Heap} {L : Addr} {m : Str → Option Value} {st : Stmt} {env : Env} {news : List (Addr × Obj)} {Q : Flow → Shared → Prop} (x : Str) (G : Value → Prop)
    (_F : Fr h₀ L s.heap m) (_N : News h₀ L s.heap news)
    (h1 : wpAny M A (exec st env) (fun fl s₁ => Stop (fl = .next ∧ ∃ h tk v, s₁ = { s with heap := h, toks := tk } ∧ Fr h₀ L h (fun y => if y = x then some v else m y) ∧ News h₀ L h news ∧ G v)) E s)
    (h2 : ∀ h tk v, Fr h₀ L h (fun y => if y = x then some v else m y) → News h₀ L h news → G v → Q .next { s with heap := h, toks := tk }) : wpAny M A (exec st env) Q E s :=
  wpAny_mono h1 (fun fl s₁ hj => by obtain ⟨rfl, h, tk, v, rfl, F, N, g⟩ := hj; exact h2 h tk v F N g) fun _ _ e => e
end
end Mine

namespace Mine
section
variable {prog : Program} {w : World} {A : Around} {E : Value → Shared → Prop} {s : Shared} {h₀ : Heap} {env : Env}

/-- a loop's turn went on -/
def WentOn (h₀ : Heap) (L : Addr) (own : List (Addr × Obj)) (J : (Str → Option Value) → List (Addr × Obj) → Prop) (s s₃ : Shared) : Prop :=
  ∀ P : Prop, (∀ h' tk' m₂ news₂, s₃ = { s with heap := h', toks := tk' } → Fr h₀ L h' m₂ → News h₀ L h' (own ++ news₂) → (∀ p ∈ news₂, ∀ q ∈ own, p.1 ≠ q.1) → J m₂ news₂ → P) → P
/-- how a loop's turn ends -/
def LoopEnd (h₀ : Heap) (L : Addr) (own : List (Addr × Obj)) (J : (Str → Option Value) → List (Addr × Obj) → Prop) (s : Shared) (Qr : Value → Shared → Prop) (Qb : Shared → Prop) (f : Flow) (s₃ : Shared) : Prop :=
  match f with
  | .ret v => Qr v s₃
  | .brk => Qb s₃
  | _ => WentOn h₀ L own J s s₃
theorem LoopEnd.intro {L : Addr} {own all : List (Addr × Obj)} {J : (Str → Option Value) → List (Addr × Obj) → Prop} {Qr : Value → Shared → Prop} {Qb : Shared → Prop} {h' : Heap} {tk' : Nat} {m₂ : Str → Option Value}
    (news₂ : List (Addr × Obj)) (F : Fr h₀ L h' m₂) (N : News h₀ L h' all) (sub : ∀ p ∈ own ++ news₂, p ∈ all) (off : ∀ p ∈ news₂, ∀ q ∈ own, p.1 ≠ q.1) (j : J m₂ news₂) :
    LoopEnd h₀ L own J s Qr Qb .next { s with heap := h', toks := tk' } := fun _ k => k h' tk' m₂ news₂ rfl F (fun p hp => N p (sub p hp)) off j

theorem News.sub {L : Addr} {h : Heap} {a b : List (Addr × Obj)} (N : News h₀ L h a) (s : ∀ p ∈ b, p ∈ a) : News h₀ L h b := fun p hp => N p (s p hp)

theorem enum_list {L l : Addr} {items : Array Value} {m : Str → Option Value} {news : List (Addr × Obj)} {Q : Value → Shared → Prop} (F : Fr h₀ L s.heap m) (N : News h₀ L s.heap news) (hl : s.heap.PlainList l items)
    (h : ∀ e it h', Fr h₀ L h' m → News h₀ L h' news → IsEnum h' e it 0 .none → h'.IsListIter it l 0 → (e ≠ it ∧ e ≠ L ∧ it ≠ L ∧ l ≠ e ∧ l ≠ it ∧ h₀.get? e = none ∧ h₀.get? it = none) → (∀ p ∈ news, p.1 ≠ e ∧ p.1 ≠ it) → Q (.ref e) { s with heap := h' }) :
    wpAny (model prog w) A (call (.type "enumerate") [.ref l]) Q E s := by
  obtain ⟨n, hl⟩ := hl
  refine call_enumerate_1 hl fun h' he hit hz hk => ?_
  have hL : L < s.heap.objs.size := F.ns.lt
  have hlt : l < s.heap.objs.size := Heap.lt_size hl
  have fresh : ∀ a, s.heap.objs.size ≤ a → h₀.get? a = none := fun a ha => by
    cases q : h₀.get? a with
    | none => rfl
    | some o => exact absurd (Heap.lt_size (F.keep _ _ q)) (Nat.not_lt.mpr ha)
  refine h _ _ h' (F.keeps hk) (N.grown hk) he hit ⟨Nat.succ_ne_self _, ?_, Nat.ne_of_gt hL, ?_, Nat.ne_of_lt hlt, fresh _ (Nat.le_succ _), fresh _ (Nat.le_refl _)⟩ fun p hp => ?_
  · exact Nat.ne_of_gt (Nat.lt_succ_of_lt hL)
  · exact Nat.ne_of_lt (Nat.lt_succ_of_lt hlt)
  · have := Heap.lt_size (N p hp).1
    exact ⟨Nat.ne_of_lt (Nat.lt_succ_of_lt this), Nat.ne_of_lt this⟩
end
end Mine

namespace Mine
section
variable {prog : Program} {w : World} {A : Around} {E : Value → Shared → Prop} {s : Shared} {h₀ : Heap} {env : Env}
theorem store_passes {M : Model} {E E' : Value → Shared → Prop} {x : Str} {v : Value} {body : List Stmt} {P : Flow → Shared → Prop} (hE : ∀ e s, E e s → E' e s)
    (h : wpAny M A (storeName env x v) (fun _ s₂ => wpAny M A (execs body env) P E s₂) E s) : wpAny M A (storeName env x v) (fun _ s₂ => wpAny M A (execs body env) P E' s₂) E' s :=
  wpAny_mono h (fun _ _ h₁ => wpAny_mono h₁ (fun _ _ x => x) hE) hE
theorem store2_passes {M : Model} {E E' : Value → Shared → Prop} {x y : Str} {v u : Value} {body : List Stmt} {P : Flow → Shared → Prop} (hE : ∀ e s, E e s → E' e s)
    (h : wpAny M A (storeName env x v) (fun _ s₁ => wpAny M A (storeName env y u) (fun _ s₂ => wpAny M A (execs body env) P E s₂) E s₁) E s) :
    wpAny M A (storeName env x v) (fun _ s₁ => wpAny M A (storeName env y u) (fun _ s₂ => wpAny M A (execs body env) P E' s₂) E' s₁) E' s :=
  wpAny_mono h (fun _ _ h₁ => store_passes hE h₁) hE
/-- what holds ahead of a loop's turn -/
def EnumInv (h₀ : Heap) (L e it l : Addr) (J : Nat → (Str → Option Value) → List (Addr × Obj) → Prop) (n : Nat) (s : Shared) (k : Nat) (s' : Shared) : Prop :=
  ∀ P : Prop, (∀ h' tk m' news' i old, s' = { s with heap := h', toks := tk } → IsEnum h' e it ((i : Nat) : Int) old → h'.IsListIter it l i → Fr h₀ L h' m' → News h₀ L h' news' → (∀ p ∈ news', p.1 ≠ e ∧ p.1 ≠ it) → J i m' news' → i ≤ n → k = n + 1 - i → P) → P
def WlkInv (h₀ : Heap) (L I : Addr) (St : Nat → Heap → Prop) (J : Nat → (Str → Option Value) → List (Addr × Obj) → Prop) (n : Nat) (s : Shared) (k : Nat) (s' : Shared) : Prop :=
  ∀ P : Prop, (∀ h' tk m' news' i, s' = { s with heap := h', toks := tk } → St i h' → Fr h₀ L h' m' → News h₀ L h' news' → (∀ p ∈ news', p.1 ≠ I) → J i m' news' → i ≤ n → k = n + 1 - i → P) → P
theorem less_turns {n i : Nat} (h : i < n) : n + 1 - (i + 1) < n + 1 - i := Nat.sub_lt_sub_left (Nat.lt_succ_of_lt h) (Nat.lt_succ_self i)
/-- the same, the two names stored by the walk -/
theorem codeAny_enumC {R : Result → Shared → Prop} {xi xv : Str} {pi pv pt : Pos} {x1} {body orelse : List Stmt} {e it l : Addr} {items : Array Value} {m : Str → Option Value} {news : List (Addr × Obj)}
    (hh : A.handled = none)
    (ne : e ≠ it ∧ e ≠ env.locals ∧ it ≠ env.locals ∧ l ≠ e ∧ l ≠ it ∧ h₀.get? e = none ∧ h₀.get? it = none)
    (he : IsEnum s.heap e it 0 .none) (hit : s.heap.IsListIter it l 0) (F : Fr h₀ env.locals s.heap m) (N : News h₀ env.locals s.heap news) (off : ∀ p ∈ news, p.1 ≠ e ∧ p.1 ≠ it)
    (J : Nat → (Str → Option Value) → List (Addr × Obj) → Prop) (h0 : J 0 m news) (hJS : ∀ i m n, J i m n → LCg.SrcAt h₀ l items n)
    (step : ∀ i v tk m₁ news₁ oe oi h tk₁, items[i]? = some v → J i m₁ news₁ → (∀ p ∈ news₁, p.1 ≠ e ∧ p.1 ≠ it) →
      Fr h₀ env.locals h m₁ → News h₀ env.locals h ((e, oe) :: (it, oi) :: news₁) →
      wpAny (model prog w) A (storeName env xi (.int i tk)) (fun _ s₁ => wpAny (model prog w) A (storeName env xv v) (fun _ s₂ =>
        wpAny (model prog w) A (execs body env) (LoopEnd h₀ env.locals [(e, oe), (it, oi)] (J (i + 1)) { s with heap := h, toks := tk₁ } (fun v s' => R (.ok (.ret v)) s') (fun s' => R (.ok .next) s')) (notedBy (model prog w) A env fun e s' => R (.error e) s') s₂)
        (notedBy (model prog w) A env fun e s' => R (.error e) s') s₁) (notedBy (model prog w) A env fun e s' => R (.error e) s') { s with heap := h, toks := tk₁ })
    (hR : ∀ h' tk m' news', Fr h₀ env.locals h' m' → News h₀ env.locals h' news' → J items.size m' news' → wpAny (model prog w) A (execs orelse env) (fun f s₃ => R (.ok f) s₃) (notedBy (model prog w) A env fun e s' => R (.error e) s') { s with heap := h', toks := tk }) :
    codeAny (model prog w) A (.forLoop (.Tuple [.Name xi pi, .Name xv pv] x1 pt) (.ref e) body orelse env) R s := by
  have hei := ne.1
  have heL := ne.2.1
  have hiL := ne.2.2.1
  have he0 := ne.2.2.2.2.2.1
  have hi0 := ne.2.2.2.2.2.2
  refine codeAny_forLoop_any (EnumInv h₀ env.locals e it l J items.size s) ?_ (items.size + 1) (fun _ k => k s.heap s.toks m news 0 .none rfl he hit F N off h0 (Nat.zero_le _) rfl)
  intro k s' inv
  refine inv _ ?_
  clear inv
  rintro H tk m' news' i old rfl he' hit' F' N' off' hJ hi rfl
  have hl' : H.IsList l items := (hJS _ _ _ hJ).list F'.keep N'
  cases hv : items[i]? with
  | none =>
    have hsz : i = items.size := Nat.le_antisymm hi (by simpa using hv)
    subst hsz
    refine wpAny_pyNext_enum_end hh he' hit' hl' hv fun h₁ he₁ => ?_
    refine hR h₁ tk m' news' ⟨F'.ns.extBut he₁ (Ne.symm hiL), fun b o x => he₁ b o (by rintro rfl; rw [hi0] at x; cases x) (F'.keep b o x), F'.above⟩ (fun p hp => ⟨he₁ _ _ (off' p hp).2 (N' p hp).1, (N' p hp).2⟩) hJ
  | some v =>
    have hlt : i < items.size := (Array.getElem?_eq_some_iff.mp hv).1
    have heH : e < H.objs.size := Heap.lt_size he'
    have hLH : env.locals < H.objs.size := F'.ns.lt
    have hiH : it < H.objs.size := hit'.elim fun _ q => Heap.lt_size q.1
    refine wpAny_pyNext_enum_item he' hit' hl' hv hei fun h₁ heo hit₁ ht₁ hz₁ hk₁ => ?_
    refine wpAny_letOwnedTupleGo_enum heo fun h₂ he₂ hs₂ => ?_
    replace hs₂ : Heap.SameBut e h₁ h₂ := hs₂
    have ht₂ : h₂.IsTuple H.objs.size #[.int i tk, v] := ⟨_, (hs₂.2 _ (Nat.ne_of_gt heH)).trans ht₁, rfl, _, rfl⟩
    have hz₂ : h₂.objs.size = H.objs.size + 1 := hs₂.1.trans hz₁
    refine wpAny_assign_Tuple hh ht₂ rfl rfl fun h₃ hx₃ => ?_
    replace hx₃ : Heap.ExtBut h₂.objs.size h₂ h₃ := hx₃
    have old₃ : ∀ b o, b < H.objs.size → h₂.get? b = some o → h₃.get? b = some o := fun b o hb x => hx₃ b o (by rw [hz₂]; exact Nat.ne_of_lt (Nat.lt_succ_of_lt hb)) x
    have up₃ : ∀ b o, b ≠ e → b ≠ it → H.get? b = some o → h₃.get? b = some o := fun b o hbe hbi x => old₃ b o (Heap.lt_size x) (hs₂.extBut b o hbe (hk₁ b o hbe hbi x))
    have F₃ : Fr h₀ env.locals h₃ m' := ⟨F'.ns.at' fun o x => up₃ _ o (Ne.symm heL) (Ne.symm hiL) x, fun b o x => up₃ b o (by rintro rfl; rw [he0] at x; cases x) (by rintro rfl; rw [hi0] at x; cases x) (F'.keep b o x), F'.above⟩
    show wpAny _ A (do holding [v] (assign (.Name xi pi) env (.int i tk)); do holding [] (assign (.Name xv pv) env v); pure ()) _ _ _
    have e₃ : h₃.get? e = some _ := old₃ e _ heH he₂
    have i₂ : h₂.IsListIter it l (i + 1) := hit₁.extBut hs₂.extBut (Ne.symm hei)
    obtain ⟨oi₅, hoi₂, hci₂⟩ := id i₂
    have i₃ : h₃.get? it = some oi₅ := old₃ it _ hiH hoi₂
    have st := step i v tk m' news' { cls := .type "enumerate", data := .fields #[.none, .bool false, .ref it, rawInt ((i : Int) + 1), .none, v] } oi₅ h₃ (tk + 1) hv hJ off' F₃ (fun p hp => by
      rcases List.mem_cons.mp hp with rfl | hp
      · exact ⟨e₃, heL, he0⟩
      · rcases List.mem_cons.mp hp with rfl | hp
        · exact ⟨i₃, hiL, hi0⟩
        · exact ⟨up₃ _ _ (off' p hp).1 (off' p hp).2 (N' p hp).1, (N' p hp).2⟩)
    refine wpAny_bind (wpAny_holding (wpAny_assign_Name ?_))
    refine wpAny_mono st (fun _ s₁ h₁' => ?_) fun _ _ x => x
    refine wpAny_bind (wpAny_holding (wpAny_assign_Name ?_))
    refine wpAny_mono h₁' (fun _ s₂ h₂' => wpAny_pure ?_) fun _ _ x => x
    refine wpAny_mono h₂' (fun f s₃ h₆ => ?_) fun _ _ x => x
    have fin : ∀ s₃, WentOn h₀ env.locals [(e, _), (it, oi₅)] (J (i + 1)) { s with heap := h₃, toks := tk + 1 } s₃ → ∃ m, m < items.size + 1 - i ∧ EnumInv h₀ env.locals e it l J items.size s m s₃ := fun s₃ went =>
      ⟨items.size + 1 - (i + 1), less_turns hlt, fun _ k => went _ fun h₆ tk₆ m₂ news₂ e₀ F₆ N₆ off₆ hJ₆ =>
        k h₆ tk₆ m₂ news₂ (i + 1) v e₀ (N₆ _ (List.mem_append_left _ (.head _))).1 ⟨_, (N₆ (it, oi₅) (List.mem_append_left _ (.tail _ (.head _)))).1, hci₂⟩ F₆ N₆.right (fun p hp => ⟨off₆ p hp _ (.head _), off₆ p hp (it, oi₅) (.tail _ (.head _))⟩) hJ₆ hlt rfl⟩
    cases f with
    | next => exact fin _ h₆
    | cont => exact fin _ h₆
    | brk => exact h₆
    | ret v => exact h₆

theorem For_enumC {Q : Flow → Shared → Prop} {xi xv : Str} {pi pv pt pos : Pos} {x1} {iter : Expr} {body orelse : List Stmt}
    {L : Addr} {h₀₀ : Heap} {m₀₀ : Str → Option Value} (_F₀ : Fr h₀₀ L s.heap m₀₀) (hLe : env.locals = L) (hh : A.handled = none)
    (h : wpAny (model prog w) A (eval iter env) (fun xval s₁ => Stop (∀ P : Prop, (∀ (h₀ : Heap) (e it l : Addr) (items : Array Value) (m : Str → Option Value) (news : List (Addr × Obj)) (J : Nat → (Str → Option Value) → List (Addr × Obj) → Prop),
      xval = .ref e →
      (e ≠ it ∧ e ≠ L ∧ it ≠ L ∧ l ≠ e ∧ l ≠ it ∧ h₀.get? e = none ∧ h₀.get? it = none) →
      IsEnum s₁.heap e it 0 .none →
      s₁.heap.IsListIter it l 0 →
      Fr h₀ L s₁.heap m →
      News h₀ L s₁.heap news →
      (∀ p ∈ news, p.1 ≠ e ∧ p.1 ≠ it) →
      J 0 m news →
      (∀ i m n, J i m n → LCg.SrcAt h₀ l items n) →
      (∀ i v tk m₁ news₁ oe oi h tk₁, items[i]? = some v → J i m₁ news₁ → (∀ p ∈ news₁, p.1 ≠ e ∧ p.1 ≠ it) →
        Fr h₀ L h m₁ → News h₀ L h ((e, oe) :: (it, oi) :: news₁) →
        wpAny (model prog w) A (storeName env xi (.int i tk)) (fun _ s₂ => wpAny (model prog w) A (storeName env xv v) (fun _ s₃ =>
          wpAny (model prog w) A (execs body env) (LoopEnd h₀ L [(e, oe), (it, oi)] (J (i + 1)) { s₁ with heap := h, toks := tk₁ } (fun v s' => Q (.ret v) s') (fun s' => Q .next s')) E s₃) E s₂) E { s₁ with heap := h, toks := tk₁ }) →
      (∀ h' tk m' news', Fr h₀ L h' m' → News h₀ L h' news' → J items.size m' news' → wpAny (model prog w) A (execs orelse env) Q E { s₁ with heap := h', toks := tk }) → P) → P)) E s)
    (hs : ∀ x, foldedSetIterable iter env x = pure x := by intro _; rfl)
    (hE : PassesOwn (model prog w) A env E := by passes_own) :
    wpAny (model prog w) A (exec (.For (.Tuple [.Name xi pi, .Name xv pv] x1 pt) iter body orelse pos) env) Q E s := by
  subst hLe
  refine wpAny_For (wpAny_mono h (fun xval s₁ h₁ => ?_) fun _ _ x => x) hs
  refine h₁ _ ?_
  clear h₁
  rintro h₀ e it l items m news J rfl ne he hit F N off h0 hJS step hR
  exact wpAny_pyIter_enum he (codeAny_enumC (R := fun r s' => match r with | .ok f => Q f s' | .error e => cameBackBy (model prog w) A env E e s') hh ne he hit F N off J h0 hJS
    (fun i v tk m₁ news₁ oe oi h tk₁ a b c d f => store2_passes hE (step i v tk m₁ news₁ oe oi h tk₁ a b c d f)) (fun h' tk m' news' a b c => wpAny_passesOwn hE (hR h' tk m' news' a b c)))

/-- the same for whatever walks -/
theorem codeAny_wlkC {R : Result → Shared → Prop} {x : Str} {px : Pos} {body orelse : List Stmt} {I : Addr} {fp : List Addr} {n : Nat} {P : Nat → Value → Prop} {St : Nat → Heap → Prop} {S : List (Addr × Obj) → Prop} {m : Str → Option Value} {news : List (Addr × Obj)}
    (W : Walks prog w A I fp [I] n P St) (hIo : ∀ i h, St i h → ∃ o, h.get? I = some o)
    (hSt : ∀ i h h' o nw, St i h → h.get? I = some o → h'.get? I = some o → (∀ b o, h₀.get? b = some o → h'.get? b = some o) → News h₀ env.locals h' nw → S nw → St i h')
    (hIL : env.locals ≠ I) (hI₀ : h₀.get? I = none) (hst : St 0 s.heap) (F : Fr h₀ env.locals s.heap m) (N : News h₀ env.locals s.heap news) (off : ∀ p ∈ news, p.1 ≠ I)
    (J : Nat → (Str → Option Value) → List (Addr × Obj) → Prop) (h0 : J 0 m news) (hJS : ∀ i m n, J i m n → S n)
    (step : ∀ i v m₁ news₁ oI h tk₁, i < n → P i v → J i m₁ news₁ → (∀ p ∈ news₁, p.1 ≠ I) →
      Fr h₀ env.locals h m₁ → News h₀ env.locals h ((I, oI) :: news₁) →
      wpAny (model prog w) A (storeName env x v) (fun _ s₁ => wpAny (model prog w) A (execs body env) (LoopEnd h₀ env.locals [(I, oI)] (J (i + 1)) { s with heap := h, toks := tk₁ } (fun v s' => R (.ok (.ret v)) s') (fun s' => R (.ok .next) s'))
        (notedBy (model prog w) A env fun e s' => R (.error e) s') s₁) (notedBy (model prog w) A env fun e s' => R (.error e) s') { s with heap := h, toks := tk₁ })
    (hR : ∀ h' tk m' news', Fr h₀ env.locals h' m' → News h₀ env.locals h' news' → J n m' news' → wpAny (model prog w) A (execs orelse env) (fun f s₃ => R (.ok f) s₃) (notedBy (model prog w) A env fun e s' => R (.error e) s') { s with heap := h', toks := tk }) :
    codeAny (model prog w) A (.forLoop (.Name x px) (.ref I) body orelse env) R s := by
  refine codeAny_forLoop (WlkInv h₀ env.locals I St J n s) ?_ (n + 1) (fun _ k => k s.heap s.toks m news 0 rfl hst F N off h0 (Nat.zero_le _) rfl)
  intro k s' inv
  refine inv _ ?_
  clear inv
  rintro h' tk m' news' i rfl hst' F' N' off' hJ hi rfl
  have next : ∀ h₁ : Heap, (∀ b o, b ∉ [I] → h'.get? b = some o → h₁.get? b = some o) → Fr h₀ env.locals h₁ m' ∧ News h₀ env.locals h₁ news' := fun h₁ hk₁ =>
    ⟨LCg.fr_but F' hk₁ hIL hI₀, LCg.news_but N' hk₁ off'⟩
  by_cases hlt : i < n
  · refine W.item i _ _ _ hlt hst' fun v h₁ tk₁ hP hst₁ hk₁ => ?_
    obtain ⟨F₁, N₁⟩ := next h₁ hk₁
    obtain ⟨oI, heI⟩ := hIo _ _ hst₁
    refine wpAny_assign_Name ?_
    have st := step i v m' news' oI h₁ tk₁ hlt hP hJ off' F₁ (fun p hp => by
      rcases List.mem_cons.mp hp with rfl | hp
      · exact ⟨heI, Ne.symm hIL, hI₀⟩
      · exact N₁ p hp)
    refine wpAny_mono st (fun _ s₂ h₂ => ?_) fun _ _ x => x
    refine wpAny_mono h₂ (fun f s₃ h₆ => ?_) fun _ _ x => x
    have fin : ∀ s₃, WentOn h₀ env.locals [(I, oI)] (J (i + 1)) { s with heap := h₁, toks := tk₁ } s₃ → ∃ k, k < n + 1 - i ∧ WlkInv h₀ env.locals I St J n s k s₃ := fun s₃ went =>
      ⟨n + 1 - (i + 1), less_turns hlt, fun _ k => went _ fun h₆ tk₆ m₂ news₂ e₀ F₆ N₆ off₆ hJ₆ =>
        k h₆ tk₆ m₂ news₂ (i + 1) e₀ (hSt _ _ _ _ _ hst₁ heI (N₆ (I, oI) (List.mem_append_left _ (.head _))).1 F₆.keep N₆.right (hJS _ _ _ hJ₆)) F₆ N₆.right (fun p hp => off₆ p hp (I, oI) (.head _)) hJ₆ hlt rfl⟩
    cases f with
    | next => exact fin _ h₆
    | cont => exact fin _ h₆
    | brk => exact h₆
    | ret v => exact h₆
  · have hin : i = n := by omega
    subst hin
    refine W.done _ _ _ hst' fun h₁ tk₁ hk₁ => ?_
    obtain ⟨F₁, N₁⟩ := next h₁ hk₁
    exact hR h₁ tk₁ m' news' F₁ N₁ hJ

/-- for x in range(a, b), the name stored by the walk -/
theorem For_rngC {Q : Flow → Shared → Prop} {x : Str} {px pos : Pos} {iter : Expr} {body orelse : List Stmt}
    {L : Addr} {h₀₀ : Heap} {m₀₀ : Str → Option Value} (_F₀ : Fr h₀₀ L s.heap m₀₀) (hLe : env.locals = L) (hh : A.handled = none)
    (h : wpAny (model prog w) A (eval iter env) (fun xval s₁ => Stop (∀ P : Prop, (∀ (h₀ : Heap) (r : Addr) (a b : Int) (t u v : Tok) (n : Nat) (m : Str → Option Value) (news : List (Addr × Obj)) (J : Nat → (Str → Option Value) → List (Addr × Obj) → Prop),
      xval = .ref r →
      IsRange s₁.heap r a b 1 t u v →
      Builtin.Range.small a b 1 = true →
      Builtin.Range.rangeSize a b 1 = ((n : Nat) : Int) →
      Fr h₀ L s₁.heap m →
      News h₀ L s₁.heap news →
      J 0 m news →
      (∀ i tk m₁ news₁ I oI h tk₁, i < n → J i m₁ news₁ → (∀ p ∈ news₁, p.1 ≠ I) →
        Fr h₀ L h m₁ → News h₀ L h ((I, oI) :: news₁) →
        wpAny (model prog w) A (storeName env x (.int (a + (i : Int)) tk)) (fun _ s₂ => wpAny (model prog w) A (execs body env) (LoopEnd h₀ L [(I, oI)] (J (i + 1)) { s₁ with heap := h, toks := tk₁ } (fun v s' => Q (.ret v) s') (fun s' => Q .next s')) E s₂) E { s₁ with heap := h, toks := tk₁ }) →
      (∀ h' tk m' news', Fr h₀ L h' m' → News h₀ L h' news' → J n m' news' → wpAny (model prog w) A (execs orelse env) Q E { s₁ with heap := h', toks := tk }) → P) → P)) E s)
    (hs : ∀ x, foldedSetIterable iter env x = pure x := by intro _; rfl)
    (hE : PassesOwn (model prog w) A env E := by passes_own) :
    wpAny (model prog w) A (exec (.For (.Name x px) iter body orelse pos) env) Q E s := by
  subst hLe
  refine wpAny_For (wpAny_mono h (fun xval s₁ h₁ => ?_) fun _ _ x => x) hs
  refine h₁ _ ?_
  clear h₁
  rintro h₀ r a b t u v n m news J rfl hr hsm hn F N h0 step hR
  refine wpAny_pyIter_range hr hsm ?_
  exact codeAny_wlkC (R := fun r s' => match r with | .ok f => Q f s' | .error e => cameBackBy (model prog w) A env E e s') (S := fun _ => True) (LCg.range_walks hh a n) (fun i h st => ⟨_, st⟩) LCg.range_st
    (Nat.ne_of_lt F.ns.lt) (next_is_new F) (by show IsRangeIter _ _ _ _ _; rw [hn]; simpa using Heap.get?_push_size _ rfl) (F.keeps fun _ _ e => Heap.get?_push_of_some _ e) (N.grown fun _ _ e => Heap.get?_push_of_some _ e)
    (fun p hp => Nat.ne_of_lt (Heap.lt_size (N p hp).1)) J h0 (fun _ _ _ _ => trivial)
    (fun i v m₁ news₁ oI h tk₁ hi hP hJ off F' N' => hP.elim fun tk e => e ▸ store_passes hE (step i tk m₁ news₁ _ oI h tk₁ hi hJ off F' N')) (fun h' tk m' news' a b c => wpAny_passesOwn hE (hR h' tk m' news' a b c))

end
end Mine

namespace Mine
section
variable {prog : Program} {w : World} {A : Around} {E : Value → Shared → Prop} {s : Shared} {h₀ : Heap} {env : Env}

theorem stored {h₀ h h₄ : Heap} {L : Addr} {news : List (Addr × Obj)} (N : News h₀ L h news) (hs : Heap.SameBut L h h₄) : News h₀ L h₄ news := fun p hp => ⟨hs.extBut _ _ (N p hp).2.1 (N p hp).1, (N p hp).2⟩
/-- for x in whatever walks -/
theorem codeAny_wlk {R : Result → Shared → Prop} {x : Str} {px : Pos} {body orelse : List Stmt} {I : Addr} {fp : List Addr} {n : Nat} {P : Nat → Value → Prop} {St : Nat → Heap → Prop} {S : List (Addr × Obj) → Prop} {m : Str → Option Value} {news : List (Addr × Obj)}
    (W : Walks prog w A I fp [I] n P St) (hIo : ∀ i h, St i h → ∃ o, h.get? I = some o)
    (hSt : ∀ i h h' o nw, St i h → h.get? I = some o → h'.get? I = some o → (∀ b o, h₀.get? b = some o → h'.get? b = some o) → News h₀ env.locals h' nw → S nw → St i h')
    (hx : env.kindOf x = some .local) (hp : (env.scope.kind == .class || (env.scope.kind == .module && env.locals != env.globals)) = false)
    (hIL : env.locals ≠ I) (hI₀ : h₀.get? I = none) (hst : St 0 s.heap) (F : Fr h₀ env.locals s.heap m) (N : News h₀ env.locals s.heap news) (off : ∀ p ∈ news, p.1 ≠ I)
    (J : Nat → (Str → Option Value) → List (Addr × Obj) → Prop) (h0 : J 0 m news) (hJS : ∀ i m n, J i m n → S n)
    (step : ∀ i v m₁ news₁ oI h tk₁, i < n → P i v → J i m₁ news₁ → (∀ p ∈ news₁, p.1 ≠ I) →
      Fr h₀ env.locals h (fun y => if y = x then some v else m₁ y) → News h₀ env.locals h ((I, oI) :: news₁) →
      wpAny (model prog w) A (execs body env) (LoopEnd h₀ env.locals [(I, oI)] (J (i + 1)) { s with heap := h, toks := tk₁ } (fun v s' => R (.ok (.ret v)) s') (fun s' => R (.ok .next) s')) (notedBy (model prog w) A env fun e s' => R (.error e) s') { s with heap := h, toks := tk₁ })
    (hR : ∀ h' tk m' news', Fr h₀ env.locals h' m' → News h₀ env.locals h' news' → J n m' news' → wpAny (model prog w) A (execs orelse env) (fun f s₃ => R (.ok f) s₃) (notedBy (model prog w) A env fun e s' => R (.error e) s') { s with heap := h', toks := tk }) :
    codeAny (model prog w) A (.forLoop (.Name x px) (.ref I) body orelse env) R s := by
  refine codeAny_wlkC W hIo hSt hIL hI₀ hst F N off J h0 hJS (fun i v m₁ news₁ oI h tk₁ hi hP hJ off' F' N' => ?_) hR
  refine wpAny_storeName_local hx F'.ns (fun h₄ hn₄ hs₄ => ?_) hp
  exact step i v m₁ news₁ oI h₄ (tk₁ + 1) hi hP hJ off' (F'.set hn₄ hs₄) (stored N' hs₄)

/-- for x in range(a, b) -/
theorem For_rng {Q : Flow → Shared → Prop} {x : Str} {px pos : Pos} {iter : Expr} {body orelse : List Stmt}
    {L : Addr} {h₀₀ : Heap} {m₀₀ : Str → Option Value} (_F₀ : Fr h₀₀ L s.heap m₀₀) (hLe : env.locals = L) (hh : A.handled = none) (hx : env.kindOf x = some .local)
    (hp : (env.scope.kind == .class || (env.scope.kind == .module && env.locals != env.globals)) = false)
    (h : wpAny (model prog w) A (eval iter env) (fun xval s₁ => Stop (∀ P : Prop, (∀ (h₀ : Heap) (r : Addr) (a b : Int) (t u v : Tok) (n : Nat) (m : Str → Option Value) (news : List (Addr × Obj)) (J : Nat → (Str → Option Value) → List (Addr × Obj) → Prop),
      xval = .ref r →
      IsRange s₁.heap r a b 1 t u v →
      Builtin.Range.small a b 1 = true →
      Builtin.Range.rangeSize a b 1 = ((n : Nat) : Int) →
      Fr h₀ L s₁.heap m →
      News h₀ L s₁.heap news →
      J 0 m news →
      (∀ i tk m₁ news₁ I oI h tk₁, i < n → J i m₁ news₁ → (∀ p ∈ news₁, p.1 ≠ I) →
        Fr h₀ L h (fun y => if y = x then some (.int (a + (i : Int)) tk) else m₁ y) → News h₀ L h ((I, oI) :: news₁) →
        wpAny (model prog w) A (execs body env) (LoopEnd h₀ L [(I, oI)] (J (i + 1)) { s₁ with heap := h, toks := tk₁ } (fun v s' => Q (.ret v) s') (fun s' => Q .next s')) E { s₁ with heap := h, toks := tk₁ }) →
      (∀ h' tk m' news', Fr h₀ L h' m' → News h₀ L h' news' → J n m' news' → wpAny (model prog w) A (execs orelse env) Q E { s₁ with heap := h', toks := tk }) → P) → P)) E s)
    (hs : ∀ x, foldedSetIterable iter env x = pure x := by intro _; rfl)
    (hE : PassesOwn (model prog w) A env E := by passes_own) :
    wpAny (model prog w) A (exec (.For (.Name x px) iter body orelse pos) env) Q E s := by
  subst hLe
  refine wpAny_For (wpAny_mono h (fun xval s₁ h₁ => ?_) fun _ _ x => x) hs
  refine h₁ _ ?_
  clear h₁
  rintro h₀ r a b t u v n m news J rfl hr hsm hn F N h0 step hR
  refine wpAny_pyIter_range hr hsm ?_
  exact codeAny_wlk (R := fun r s' => match r with | .ok f => Q f s' | .error e => cameBackBy (model prog w) A env E e s') (S := fun _ => True) (LCg.range_walks hh a n) (fun i h st => ⟨_, st⟩) LCg.range_st hx hp
    (Nat.ne_of_lt F.ns.lt) (next_is_new F) (by show IsRangeIter _ _ _ _ _; rw [hn]; simpa using Heap.get?_push_size _ rfl) (F.keeps fun _ _ e => Heap.get?_push_of_some _ e) (N.grown fun _ _ e => Heap.get?_push_of_some _ e)
    (fun p hp => Nat.ne_of_lt (Heap.lt_size (N p hp).1)) J h0 (fun _ _ _ _ => trivial)
    (fun i v m₁ news₁ oI h tk₁ hi hP hJ off F' N' => hP.elim fun tk e => wpAny_passesOwn hE (step i tk m₁ news₁ _ oI h tk₁ hi hJ off (e ▸ F') N')) (fun h' tk m' news' a b c => wpAny_passesOwn hE (hR h' tk m' news' a b c))

/-- for x in a list -/
theorem For_lst {Q : Flow → Shared → Prop} {x : Str} {px pos : Pos} {iter : Expr} {body orelse : List Stmt}
    {L : Addr} {h₀₀ : Heap} {m₀₀ : Str → Option Value} (_F₀ : Fr h₀₀ L s.heap m₀₀) (hLe : env.locals = L) (hh : A.handled = none) (hx : env.kindOf x = some .local)
    (hp : (env.scope.kind == .class || (env.scope.kind == .module && env.locals != env.globals)) = false)
    (h : wpAny (model prog w) A (eval iter env) (fun xval s₁ => Stop (∀ P : Prop, (∀ (h₀ : Heap) (l : Addr) (its : Array Value) (m : Str → Option Value) (news : List (Addr × Obj)) (J : Nat → (Str → Option Value) → List (Addr × Obj) → Prop),
      xval = .ref l →
      Fr h₀ L s₁.heap m →
      News h₀ L s₁.heap news →
      J 0 m news →
      (∀ i m n, J i m n → LCg.SrcAt h₀ l its n) →
      (∀ i v m₁ news₁ I oI h tk₁, its[i]? = some v → J i m₁ news₁ → (∀ p ∈ news₁, p.1 ≠ I) →
        Fr h₀ L h (fun y => if y = x then some v else m₁ y) → News h₀ L h ((I, oI) :: news₁) →
        wpAny (model prog w) A (execs body env) (LoopEnd h₀ L [(I, oI)] (J (i + 1)) { s₁ with heap := h, toks := tk₁ } (fun v s' => Q (.ret v) s') (fun s' => Q .next s')) E { s₁ with heap := h, toks := tk₁ }) →
      (∀ h' tk m' news', Fr h₀ L h' m' → News h₀ L h' news' → J its.size m' news' → wpAny (model prog w) A (execs orelse env) Q E { s₁ with heap := h', toks := tk }) → P) → P)) E s)
    (hs : ∀ x, foldedSetIterable iter env x = pure x := by intro _; rfl)
    (hE : PassesOwn (model prog w) A env E := by passes_own) :
    wpAny (model prog w) A (exec (.For (.Name x px) iter body orelse pos) env) Q E s := by
  subst hLe
  refine wpAny_For (wpAny_mono h (fun xval s₁ h₁ => ?_) fun _ _ x => x) hs
  refine h₁ _ ?_
  clear h₁
  rintro h₀ l its m news J rfl F N h0 hJS step hR
  have hl := (hJS _ _ _ h0).list F.keep N
  have hlt : l < s₁.heap.objs.size := hl.elim fun _ q => Heap.lt_size q.1
  refine wpAny_pyIter_list hl ?_
  have up : ∀ b o, s₁.heap.get? b = some o → (s₁.heap.push { cls := .type "list_iterator", data := .fields #[.ref l, .int 0 0] }).get? b = some o := fun b o e => Heap.get?_push_of_some _ e
  refine codeAny_wlk (R := fun r s' => match r with | .ok f => Q f s' | .error e => cameBackBy (model prog w) A env E e s') (S := LCg.SrcAt h₀ l its) (Walks.list hh s₁.heap.objs.size l (Nat.ne_of_lt hlt) its) (fun i h st => st.1.elim fun o q => ⟨o, q.1⟩) LCg.list_st hx hp
    (Nat.ne_of_lt F.ns.lt) (next_is_new F) ⟨⟨_, Heap.get?_push_size _ rfl, rfl, rfl⟩, hl.push _⟩ (F.keeps up) (N.grown up)
    (fun p hp => Nat.ne_of_lt (Heap.lt_size (N p hp).1)) J h0 hJS (fun i v m₁ news₁ oI h tk₁ _ hP hJ off F' N' => wpAny_passesOwn hE (step i v m₁ news₁ _ oI h tk₁ hP hJ off F' N')) (fun h' tk m' news' a b c => wpAny_passesOwn hE (hR h' tk m' news' a b c))

/-- for x in a tuple of the ledger -/
theorem For_tup {Q : Flow → Shared → Prop} {x : Str} {px pos : Pos} {iter : Expr} {body orelse : List Stmt}
    {L : Addr} {h₀₀ : Heap} {m₀₀ : Str → Option Value} (_F₀ : Fr h₀₀ L s.heap m₀₀) (hLe : env.locals = L) (hh : A.handled = none) (hx : env.kindOf x = some .local)
    (hp : (env.scope.kind == .class || (env.scope.kind == .module && env.locals != env.globals)) = false)
    (h : wpAny (model prog w) A (eval iter env) (fun xval s₁ => Stop (∀ P : Prop, (∀ (h₀ : Heap) (l : Addr) (its : Array Value) (m : Str → Option Value) (news : List (Addr × Obj)) (J : Nat → (Str → Option Value) → List (Addr × Obj) → Prop),
      xval = .ref l →
      Fr h₀ L s₁.heap m →
      News h₀ L s₁.heap news →
      J 0 m news →
      (∀ i m n, J i m n → SrcTup l its n) →
      (∀ i v m₁ news₁ I oI h tk₁, its[i]? = some v → J i m₁ news₁ → (∀ p ∈ news₁, p.1 ≠ I) →
        Fr h₀ L h (fun y => if y = x then some v else m₁ y) → News h₀ L h ((I, oI) :: news₁) →
        wpAny (model prog w) A (execs body env) (LoopEnd h₀ L [(I, oI)] (J (i + 1)) { s₁ with heap := h, toks := tk₁ } (fun v s' => Q (.ret v) s') (fun s' => Q .next s')) E { s₁ with heap := h, toks := tk₁ }) →
      (∀ h' tk m' news', Fr h₀ L h' m' → News h₀ L h' news' → J its.size m' news' → wpAny (model prog w) A (execs orelse env) Q E { s₁ with heap := h', toks := tk }) → P) → P)) E s)
    (hs : ∀ x, foldedSetIterable iter env x = pure x := by intro _; rfl)
    (hE : PassesOwn (model prog w) A env E := by passes_own) :
    wpAny (model prog w) A (exec (.For (.Name x px) iter body orelse pos) env) Q E s := by
  subst hLe
  refine wpAny_For (wpAny_mono h (fun xval s₁ h₁ => ?_) fun _ _ x => x) hs
  refine h₁ _ ?_
  clear h₁
  rintro h₀ l its m news J rfl F N h0 hJS step hR
  have hl := (hJS _ _ _ h0).tup N
  have hlt : l < s₁.heap.objs.size := hl.elim fun _ q => Heap.lt_size q.1
  refine wpAny_pyIter_tuple hl ?_
  have up : ∀ b o, s₁.heap.get? b = some o → (s₁.heap.push { cls := .type "tuple_iterator", data := .fields #[.ref l, .int 0 0] }).get? b = some o := fun b o e => Heap.get?_push_of_some _ e
  refine codeAny_wlk (R := fun r s' => match r with | .ok f => Q f s' | .error e => cameBackBy (model prog w) A env E e s') (S := SrcTup l its) (Walks.tuple hh s₁.heap.objs.size l (Nat.ne_of_lt hlt) its) (fun i h st => st.1.elim fun o q => ⟨o, q.1⟩) (fun i h h' o nw st e e' k N S => ⟨by obtain ⟨o', q, r⟩ := st.1; rw [e] at q; cases q; exact ⟨o, e', r⟩, S.tup N⟩) hx hp
    (Nat.ne_of_lt F.ns.lt) (next_is_new F) ⟨⟨_, Heap.get?_push_size _ rfl, rfl, rfl⟩, hl.push _⟩ (F.keeps up) (N.grown up)
    (fun p hp => Nat.ne_of_lt (Heap.lt_size (N p hp).1)) J h0 hJS (fun i v m₁ news₁ oI h tk₁ _ hP hJ off F' N' => wpAny_passesOwn hE (step i v m₁ news₁ _ oI h tk₁ hP hJ off F' N')) (fun h' tk m' news' a b c => wpAny_passesOwn hE (hR h' tk m' news' a b c))

end
end Mine

namespace Mine
namespace FF
theorem owner_filter : Manifest.owners.lookup (String.ofList ['r', 'e', 't', 'l', 'i', 'f'].reverse) = some Manifest.sig_filter := by kernel_rfl
theorem slot_next : Slot "filter" "__next__" "filter.__next__" :=
  .of (owner := "filter") (n := "__next__") (by rw [typeLookup_type, builtinLookup_eq_fast]; kernel_rfl) (by decide +kernel) (by decide +kernel) (by decide +kernel)
    (by first | exact .inl (by decide +kernel) | exact .inr (by decide +kernel)) (by rw [isSubtype_type]; kernel_rfl)
theorem slot_iter : Slot "filter" "__iter__" "filter.__iter__" :=
  .of (owner := "filter") (n := "__iter__") (by rw [typeLookup_type, builtinLookup_eq_fast]; kernel_rfl) (by decide +kernel) (by decide +kernel) (by decide +kernel)
    (by first | exact .inl (by decide +kernel) | exact .inr (by decide +kernel)) (by rw [isSubtype_type]; kernel_rfl)
theorem slot_init : Slot "filter" "__init__" "object.__init__" :=
  .of (owner := "object") (n := "__init__") (by rw [typeLookup_type, builtinLookup_eq_fast]; kernel_rfl) (by decide +kernel) (by decide +kernel) (by decide +kernel)
    (by first | exact .inl (by decide +kernel) | exact .inr (by decide +kernel)) (by rw [isSubtype_type]; kernel_rfl)
theorem args_next (a : Value) : argsOk "filter.__next__" ⟨[a], []⟩ := by
  unfold argsOk; rw [signature?_of (id := "filter.__next__") (n := ['_', '_', 't', 'x', 'e', 'n', '_', '_']) (o := ['r', 'e', 't', 'l', 'i', 'f']) (by kernel_rfl) owner_filter]; kernel_rfl
theorem args_iter (a : Value) : argsOk "filter.__iter__" ⟨[a], []⟩ := by
  unfold argsOk; rw [signature?_of (id := "filter.__iter__") (n := ['_', '_', 'r', 'e', 't', 'i', '_', '_']) (o := ['r', 'e', 't', 'l', 'i', 'f']) (by kernel_rfl) owner_filter]; kernel_rfl
theorem entry_next : entryFor table "filter.__next__" = some Builtin.«filter.__next__» := entryFor_of_tree (by kernel_rfl)
theorem entry_iter : entryFor table "filter.__iter__" = some Builtin.«dict_keyiterator.__iter__» :=
  entryFor_alias (id' := "dict_keyiterator.__iter__") (by rw [fastTable_eq_tree]; kernel_rfl) (by decide +kernel) (by decide +kernel) (by rw [fastTable_eq_tree]; kernel_rfl)
theorem entry_new : entryFor table "filter.__new__" = some Builtin.«filter.__new__» := entryFor_of_tree (by kernel_rfl)
theorem mro_filter : mroOf (.type "filter") = pure [.type "filter", .type "object"] := by rw [mroOf_type]; kernel_rfl
theorem lookup_new : typeLookup (.type "filter") "__new__" = pure (some (.builtin "filter.__new__")) := by rw [typeLookup_type, builtinLookup_eq_fast]; kernel_rfl
theorem called : TypeCalled "filter" "filter.__new__" "object.__init__" :=
  ⟨by decide +kernel, by decide +kernel, ⟨_, _, mro_filter⟩, madeBy_type mro_filter lookup_new (by decide +kernel), by decide +kernel, by rw [isSubtype_type]; kernel_rfl, slot_init⟩
theorem typeCall (a b : Value) : checkTypeCall "filter" ⟨[a, b], []⟩ = pure () := by kernel_rfl
theorem newCall (a b : Value) : checkBuiltinCall "filter.__new__" ⟨[.type "filter", a, b], []⟩ = pure () := by kernel_rfl
theorem args_init (a b c : Value) : argsOk "object.__init__" ⟨[a, b, c], []⟩ := F.args_object_init_3 a b c
theorem sub_filter : isSubtype (.type "filter") (.type "filter") = pure true := by rw [isSubtype_type]; kernel_rfl
end FF
end Mine
namespace Mine
section
variable {prog : Program} {w : World} {K : Type} [DecidableEq K] {knd : KeyKind prog w K} {A : Around} {E : Value → Shared → Prop} {s : Shared}
/-- one step of a dict's value iterator, asked by its slot alone -/
theorem vals_step {it d : Addr} {i ep : Nat} {kvs : List (K × Value)} {Q : Option Value → Shared → Prop} (hh : A.handled = none) (hit : s.heap.IsValIter it d i kvs.length ep) (hm : s.heap.DictAt knd d kvs ep)
    (item : ∀ k v h', kvs[i]? = some (k, v) → h'.IsValIter it d (i + 1) kvs.length ep → Heap.SameBut it s.heap h' → Q (some v) { s with heap := h' })
    (fin : ∀ h' e, kvs[i]? = none → Heap.ExtBut it s.heap h' → (∃ o, h'.get? e = some o ∧ o.cls = .type "StopIteration") → E (.ref e) { s with heap := h' }) :
    wpAny (model prog w) A (callSpecial? (.ref it) "__next__") Q E s := by
  obtain ⟨o, ho, hc, hd⟩ := id hit
  obtain ⟨od, es, hod, hcd, hdd, hk, hp, hn⟩ := id hm
  have hown : Builtin.Dict_items.ownsTuple "dict_valueiterator" = false := by decide
  have hsz : es.size = kvs.length := by rw [← hp.length]; simp
  refine wpAny_callSpecial?_slot (name := Str.ofString "__next__") hit.typeIs F.slot_dict_valueiterator_next
    (wpAny_call_entry F.slot_dict_valueiterator_next hit.typeIs F.entry_dict_valueiterator_next ?_ (F.args_dict_valueiterator_next_1 _))
  refine wpAny_bind (wpAny_pure ?_)
  refine wpAny_bind ?_
  refine wpAny_bind ?_
  first | refine wpAny_bind (wpAny_typeNameOfWhole_valiter hit.typeIs (wpAny_pure ?_)) | refine wpAny_bind (wpAny_typeNameOf_valiter hit.typeIs (wpAny_pure ?_))
  refine wpAny_bind (wpAny_fieldsOf ho hd ?_)
  simp only [hown, Bool.false_eq_true, if_false]
  show wpAny _ _ (if (Value.ref d == Value.none) = true then _ else _) _ _ s
  rw [if_neg (show ¬ ((Value.ref d == Value.none) = true) from Bool.false_ne_true)]
  refine wpAny_bind (wpAny_pure ?_)
  refine wpAny_bind (wpAny_dictEntries hod hdd ?_)
  rw [if_neg (by rw [hsz]; simp)]
  refine wpAny_bind (wpAny_pure ?_)
  refine wpAny_bind (wpAny_dictEpoch hod hdd ?_)
  rw [if_neg (by simp)]
  refine wpAny_pure ?_
  cases hx : kvs[i]? with
  | some kv =>
    obtain ⟨k, v⟩ := kv
    have hlt : i < es.size := by rw [hsz]; exact (List.getElem?_eq_some_iff.mp hx).1
    have hval : es[i].val = v := (hp.get? (e := es[i]) (by simp [hlt]) hx).2
    simp only [show ¬ ((i : Int) < 0) from by omega, if_false, Int.toNat_natCast, Array.getElem?_eq_getElem hlt]
    refine wpAny_bind ?_
    first | refine wpAny_bind (wpAny_typeNameOfWhole_valiter hit.typeIs (wpAny_pure ?_)) | refine wpAny_bind (wpAny_typeNameOf_valiter hit.typeIs (wpAny_pure ?_))
    refine wpAny_bind (wpAny_isOneOf_valiter hit.typeIs ?_)
    show wpAny _ _ (setField (.ref it) 1 (rawInt ((i : Int) + 1)) >>= _) _ _ s
    refine wpAny_bind (wpAny_setField ho hd (by simp) ?_)
    have hit' : (s.heap.update it (Obj.mapFields (·.setIfInBounds 1 (rawInt ((i : Int) + 1))))).IsValIter it d (i + 1) kvs.length ep :=
      ⟨_, Heap.get?_update_self _ ho (Obj.isFreed_of_fields (Obj.data_mapFields hd _)), (Obj.cls_mapFields ..).trans hc, by rw [Obj.data_mapFields hd]; simp [rawInt]⟩
    refine wpAny_bind (wpAny_holding ?_)
    refine wpAny_bind (wpAny_isOneOf_valiter (s := { s with heap := s.heap.update it (Obj.mapFields (·.setIfInBounds 1 (rawInt ((i : Int) + 1)))) }) hit'.typeIs ?_)
    refine wpAny_bind (wpAny_isOneOf_valiter (s := { s with heap := s.heap.update it (Obj.mapFields (·.setIfInBounds 1 (rawInt ((i : Int) + 1)))) }) hit'.typeIs ?_)
    show wpAny _ _ (pure es[i].val) _ _ _
    exact wpAny_pure (wpAny_pure ⟨_, rfl, hval ▸ item _ _ _ hx hit' (Heap.SameBut.update ..)⟩)
  | none =>
    have hge : es.size ≤ i := by rw [hsz]; simpa using hx
    simp only [show ¬ ((i : Int) < 0) from by omega, if_false, Int.toNat_natCast, Array.getElem?_eq_none hge]
    refine wpAny_bind ?_
    first | refine wpAny_bind (wpAny_typeNameOfWhole_valiter hit.typeIs (wpAny_pure ?_)) | refine wpAny_bind (wpAny_typeNameOf_valiter hit.typeIs (wpAny_pure ?_))
    show wpAny _ _ (setField (.ref it) 0 .none >>= _) _ _ s
    refine wpAny_bind (wpAny_setField ho hd (by simp) ?_)
    show wpAny _ _ (newExc (.type "StopIteration") [] >>= _) _ _ _
    refine wpAny_bind ?_
    simp only [newExc, newTuple]
    refine wpAny_bind (wpAny_newObj_type ?_ (by size_fits))
    refine wpAny_bind (m := firstArgMember _ _) (wpAny_of_eq (a := Value.none) (by first | rfl | (simp only [firstArgMember]; rfl)) ?_)
    refine wpAny_newObj_type ?_ (by size_fits)
    simp only [raiseNew]
    refine wpAny_bind (wpAny_handled ?_)
    first | rw [show A.in1.handled = none from hh] | rw [hh]
    refine wpAny_bind (wpAny_pure (wpAny_throw ?_))
    exact fin _ _ hx (((Heap.SameBut.update ..).extBut.push _).push _) ⟨_, Heap.get?_push_size _ rfl, rfl⟩
end
end Mine
namespace Mine
abbrev IsFilt (h : Heap) (f it : Addr) : Prop := h.get? f = some { cls := .type "filter", dict := none, data := .fields #[.none, .ref it], slots := #[] }
/-- what a value may be here, and its truth -/
def TruV (v : Value) (b : Bool) : Prop := (∃ n t, v = .int n t ∧ b = (n != 0)) ∨ (v = .none ∧ b = false)
section
variable {prog : Program} {w : World} {K : Type} [DecidableEq K] {knd : KeyKind prog w K} {A : Around} {E : Value → Shared → Prop} {s : Shared}
theorem TruV.go {v : Value} {b : Bool} {Q : Bool → Shared → Prop} (x : TruV v b) (h : Q b s) : wpAny (model prog w) A (truthy v) Q E s := by
  rcases x with ⟨n, t, rfl, rfl⟩ | ⟨rfl, rfl⟩
  · exact P.truthy_int h
  · exact wpAny_pure h
theorem filt_body {f it d : Addr} {ep : Nat} {kvs : List (K × Value)} {bs : Nat → Bool} {R : Result → Shared → Prop} (hh : A.handled = none) (hne : f ≠ it) (hnd : d ≠ it) (hfd : d ≠ f)
    (hb : ∀ j k v, kvs[j]? = some (k, v) → TruV v (bs j)) :
    ∀ (c i : Nat) (s : Shared), kvs.length - i = c → i ≤ kvs.length → IsFilt s.heap f it → s.heap.IsValIter it d i kvs.length ep → s.heap.DictAt knd d kvs ep →
    (∀ j k v h' tk, i ≤ j → (∀ l, i ≤ l → l < j → bs l = false) → bs j = true → kvs[j]? = some (k, v) → h'.IsValIter it d (j + 1) kvs.length ep → (∀ b o, b ≠ it → s.heap.get? b = some o → h'.get? b = some o) → R (.ok (.ret v)) { s with heap := h', toks := tk }) →
    (∀ h' tk e, (∀ l, i ≤ l → l < kvs.length → bs l = false) → (∀ b o, b ≠ it → s.heap.get? b = some o → h'.get? b = some o) → (∃ o, h'.get? e = some o ∧ o.cls = .type "StopIteration") → R (.error (.ref e)) { s with heap := h', toks := tk }) →
    wpAny (model prog w) A.in1 (Builtin.«filter.__next__» ⟨[.ref f], []⟩) (fun fin s' => match fin with | .done q => R (.ok q) s' | .again c' => c'.quiet = true ∧ codeAny (model prog w) A c' R s') (fun e s' => R (.error e) s') s := by
  intro c
  induction c with
  | zero =>
    intro i s hc hi hf hit hm hR hE
    have hz : kvs[i]? = none := by simp; omega
    show wpAny _ _ (field (.ref f) 0 >>= _) _ _ s
    refine wpAny_bind (wpAny_field hf rfl (x := .none) rfl ?_)
    show wpAny _ _ (field (.ref f) 1 >>= _) _ _ s
    refine wpAny_bind (wpAny_field hf rfl (x := .ref it) rfl ?_)
    refine wpAny_bind (vals_step hh hit hm (fun k v h' hx _ _ => by rw [hz] at hx; cases hx) fun h' e _ hk he => ?_)
    exact hE h' s.toks e (fun l h1 h2 => by omega) (fun b o hb' => hk b o hb') he
  | succ c ih =>
    intro i s hc hi hf hit hm hR hE
    show wpAny _ _ (field (.ref f) 0 >>= _) _ _ s
    refine wpAny_bind (wpAny_field hf rfl (x := .none) rfl ?_)
    show wpAny _ _ (field (.ref f) 1 >>= _) _ _ s
    refine wpAny_bind (wpAny_field hf rfl (x := .ref it) rfl ?_)
    refine wpAny_bind (vals_step hh hit hm (fun k v h' hx hit' hs' => ?_) fun h' e hx hk he => ?_)
    · show wpAny _ _ (holding [v] _ >>= _) _ _ _
      refine wpAny_bind (wpAny_holding ?_)
      show wpAny _ _ (do rule "filter.__next__.own-truth"; truthy v) _ _ _
      refine wpAny_bind (wpAny_rule ?_)
      refine (hb i k v hx).go ?_
      have hf' : IsFilt h' f it := (hs'.2 f hne).trans hf
      cases hbi : bs i with
      | true =>
        show wpAny _ _ (ret v) _ _ _
        exact wpAny_pure (hR i k v h' s.toks (Nat.le_refl _) (fun l h1 h2 => by omega) hbi hx hit' fun b o hb' e => (hs'.2 b hb').trans e)
      | false =>
        show wpAny _ _ (again (.builtin "filter.__next__" ⟨[.ref f], []⟩)) _ _ _
        refine wpAny_pure ⟨plainId_quiet FF.slot_next.plain _, codeAny_builtin FF.entry_next ?_⟩
        rw [Around.under_plainId FF.slot_next.plain _]
        have hlt : i < kvs.length := (List.getElem?_eq_some_iff.mp hx).1
        have hm' : h'.DictAt knd d kvs ep := hm.extBut hs'.extBut hnd
        refine ih (i + 1) { s with heap := h' } (by omega) hlt hf' hit' hm' (fun j k' v' h'' tk h1 h2 h3 h4 h5 h6 => ?_) (fun h'' tk e h2 h6 he => ?_)
        · exact hR j k' v' h'' tk (by omega) (fun l l1 l2 => by
            by_cases hl : l = i
            · rw [hl]; exact hbi
            · exact h2 l (by omega) l2) h3 h4 h5 fun b o hb' e => h6 b o hb' ((hs'.2 b hb').trans e)
        · exact hE h'' tk e (fun l l1 l2 => by
            by_cases hl : l = i
            · rw [hl]; exact hbi
            · exact h2 l (by omega) l2) (fun b o hb' e => h6 b o hb' ((hs'.2 b hb').trans e)) he
    · exfalso
      have : i < kvs.length := by omega
      rw [List.getElem?_eq_getElem this] at hx; cases hx
end
end Mine
namespace Mine
section
variable {prog : Program} {w : World} {K : Type} [DecidableEq K] {knd : KeyKind prog w K} {A : Around} {E : Value → Shared → Prop} {s : Shared}
theorem filt_call {f it d : Addr} {i ep : Nat} {kvs : List (K × Value)} {bs : Nat → Bool} {R : Result → Shared → Prop} (hh : A.handled = none) (hne : f ≠ it) (hnd : d ≠ it) (hfd : d ≠ f)
    (hb : ∀ j k v, kvs[j]? = some (k, v) → TruV v (bs j)) (hi : i ≤ kvs.length) (hf : IsFilt s.heap f it) (hit : s.heap.IsValIter it d i kvs.length ep) (hm : s.heap.DictAt knd d kvs ep)
    (item : ∀ j k v h' tk, i ≤ j → (∀ l, i ≤ l → l < j → bs l = false) → bs j = true → kvs[j]? = some (k, v) → h'.IsValIter it d (j + 1) kvs.length ep → (∀ b o, b ≠ it → s.heap.get? b = some o → h'.get? b = some o) → R (.ok (.ret v)) { s with heap := h', toks := tk })
    (fin : ∀ h' tk e, (∀ l, i ≤ l → l < kvs.length → bs l = false) → (∀ b o, b ≠ it → s.heap.get? b = some o → h'.get? b = some o) → (∃ o, h'.get? e = some o ∧ o.cls = .type "StopIteration") → R (.error (.ref e)) { s with heap := h', toks := tk }) :
    codeAny (model prog w) A (.call (.builtin "filter.__next__") ⟨[.ref f], []⟩) R s :=
  codeAny_call_builtin FF.slot_next.plain FF.entry_next (FF.slot_next.check _ _ _ _ _ _ _ _ ⟨_, hf, rfl⟩ (FF.args_next _) (filt_body hh hne hnd hfd hb _ i s rfl hi hf hit hm item fin))
theorem filt_next {f it d : Addr} {i ep : Nat} {kvs : List (K × Value)} {bs : Nat → Bool} {Q : Option Value → Shared → Prop} (hh : A.handled = none) (hne : f ≠ it) (hnd : d ≠ it) (hfd : d ≠ f)
    (hb : ∀ j k v, kvs[j]? = some (k, v) → TruV v (bs j)) (hi : i ≤ kvs.length) (hf : IsFilt s.heap f it) (hit : s.heap.IsValIter it d i kvs.length ep) (hm : s.heap.DictAt knd d kvs ep)
    (item : ∀ j k v h' tk, i ≤ j → (∀ l, i ≤ l → l < j → bs l = false) → bs j = true → kvs[j]? = some (k, v) → h'.IsValIter it d (j + 1) kvs.length ep → (∀ b o, b ≠ it → s.heap.get? b = some o → h'.get? b = some o) → Q (some v) { s with heap := h', toks := tk })
    (fin : ∀ h' tk, (∀ l, i ≤ l → l < kvs.length → bs l = false) → (∀ b o, b ≠ it → s.heap.get? b = some o → h'.get? b = some o) → Q none { s with heap := h', toks := tk }) :
    wpAny (model prog w) A (pyNext (.ref f)) Q E s := by
  have hT : s.TypeIs (.ref f) "filter" := ⟨_, hf, rfl⟩
  unfold pyNext
  refine wpAny_bind (wpAny_attempt (wpAny_callSpecial?_slot (name := Str.ofString "__next__") hT FF.slot_next
    (wpAny_call (filt_call hh hne hnd hfd hb hi hf hit hm (fun j k v h' tk h1 h2 h3 h4 h5 h6 => ?_) fun h' tk e h2 h6 he => ?_))))
  · exact wpAny_pure (item j k v h' tk h1 h2 h3 h4 h5 h6)
  · refine wpAny_bind (wpAny_isInstance (T := "StopIteration") (b := true) (by obtain ⟨o, ho, hc⟩ := he; exact ⟨o, ho, hc⟩) isSubtype_stop ?_)
    exact wpAny_pure (fin h' tk h2 h6)
/-- what max has found so far -/
def bestF (b : Option Int) (l : List Int) : Option Int := l.foldl (fun b n => match b with | none => some n | some m => some (if n > m then n else m)) b
def bestV (b : Option Int) (vs : Array Value) : Prop := match b with
  | none => vs = #[]
  | some m => ∃ t, vs = #[.int m t, .int m t]
/-- the true ints of the values from place i on -/
def nums (val : Nat → Int) (bs : Nat → Bool) (i n : Nat) : List Int := ((List.range' i (n - i)).filter bs).map val
theorem nums_skip {val : Nat → Int} {bs : Nat → Bool} {n : Nat} : ∀ {i j : Nat}, i ≤ j → j < n → (∀ l, i ≤ l → l < j → bs l = false) → bs j = true → nums val bs i n = val j :: nums val bs (j + 1) n := by
  intro i j hij hj hs hb
  obtain ⟨k, rfl⟩ := Nat.le.dest hij
  clear hij
  induction k generalizing i with
  | zero =>
    unfold nums
    have : n - i = (n - (i + 1)) + 1 := by omega
    rw [this, List.range'_succ, List.filter_cons_of_pos (by simpa using hb)]
    rfl
  | succ k ih =>
    have h0 : bs i = false := hs i (Nat.le_refl _) (by omega)
    have : nums val bs i n = nums val bs (i + 1) n := by
      unfold nums
      have : n - i = (n - (i + 1)) + 1 := by omega
      rw [this, List.range'_succ, List.filter_cons_of_neg (by simp [h0])]
    rw [this]
    have e : i + (k + 1) = i + 1 + k := by omega
    rw [e] at hj hb hs ⊢
    exact ih hj (fun l h1 h2 => hs l (by omega) h2) hb
theorem nums_none {val : Nat → Int} {bs : Nat → Bool} {i n : Nat} (hs : ∀ l, i ≤ l → l < n → bs l = false) : nums val bs i n = [] := by
  unfold nums
  rw [List.filter_eq_nil_iff.mpr fun l hl => by
    obtain ⟨h1, h2⟩ := List.mem_range'_1.mp hl
    simp [hs l h1 (by omega)]]
  rfl
end
end Mine
namespace Mine
section
variable {prog : Program} {w : World} {K : Type} [DecidableEq K] {knd : KeyKind prog w K} {A : Around} {E : Value → Shared → Prop}
theorem gt_ints {a b : Int} {t u : Tok} {s : Shared} {Q : Value → Shared → Prop} (h : Q (.bool (decide (a > b))) s) : wpAny (model prog w) A (richCompare .Gt (.int a t) (.int b u)) Q E s :=
  CmpOf.ints_gt (A := A) (P := fun i v => (i = 0 ∧ v = .int a t) ∨ (i = 1 ∧ v = .int b u)) (fun i => if i = 0 then a else b)
    (fun i v hv => by rcases hv with ⟨rfl, rfl⟩ | ⟨rfl, rfl⟩ <;> exact ⟨_, rfl⟩) 0 1 _ _ s Q E (.inl ⟨rfl, rfl⟩) (.inr ⟨rfl, rfl⟩) h
theorem max_loop {f it d S : Addr} {ep : Nat} {kvs : List (K × Value)} {bs : Nat → Bool} {val : Nat → Int} {dflt : Value} {R : Result → Shared → Prop} (hh : A.handled = none) (hne : f ≠ it) (hnd : d ≠ it) (hfd : d ≠ f) (hSf : S ≠ f) (hSi : S ≠ it) (hSd : S ≠ d)
    (hb : ∀ j k v, kvs[j]? = some (k, v) → TruV v (bs j)) (hv : ∀ j k v, kvs[j]? = some (k, v) → bs j = true → ∃ t, v = .int (val j) t) :
    ∀ (n i : Nat) (b : Option Int) (vs : Array Value) (c : Nat) (s : Shared), kvs.length - i ≤ n → i ≤ kvs.length → bestV b vs → IsFilt s.heap f it → s.heap.IsValIter it d i kvs.length ep → s.heap.DictAt knd d kvs ep →
    s.heap.get? S = some { cls := .type "list", dict := none, data := .seq vs c, slots := #[] } →
    (∀ h' tk v, (match bestF b (nums val bs i kvs.length) with | none => v = dflt | some m => ∃ t, v = .int m t) → (∀ a o, a ≠ it → a ≠ S → s.heap.get? a = some o → h'.get? a = some o) → R (.ok (.ret v)) { s with heap := h', toks := tk }) →
    codeAny (model prog w) A (.builtin "max.loop" ⟨[.ref f, .none, .ref S], [("default", dflt)]⟩) R s := by
  have hname : (toString "max" ++ toString ".loop" : String) = "max.loop" := by decide
  intro n
  induction n with
  | zero =>
    intro i b vs c s hn hi hbv hf hit hm hS hR
    refine codeAny_builtin F.entry_max_loop ?_
    rw [Around.under_plainId F.plain_max_loop _]
    show wpAny _ A.in1 (seqItems? (.ref S) >>= _) _ _ s
    refine wpAny_bind (wpAny_seqItems hS rfl ?_)
    show wpAny _ A.in1 (tryCatch (pyNext (.ref f)) _ >>= _) _ _ s
    refine wpAny_bind (wpAny_tryCatch (filt_next (A := A.in1) hh hne hnd hfd hb hi hf hit hm (fun j k v h' tk h1 h2 h3 h4 h5 h6 => ?_) fun h' tk h2 h6 => ?_))
    · have := (List.getElem?_eq_some_iff.mp h4).1; omega
    · have hS' := h6 S _ hSi hS
      have hnm : nums val bs i kvs.length = [] := nums_none h2
      rw [hnm] at hR
      cases b with
      | none =>
        have hbv' : vs = #[] := hbv
        subst hbv'
        show wpAny _ A.in1 (do rule "max.default"; ret dflt) _ _ _
        refine wpAny_bind (wpAny_rule ?_)
        exact wpAny_pure (hR h' tk dflt rfl fun a o h1 _ e => h6 a o h1 e)
      | some m =>
        obtain ⟨tm, rfl⟩ := hbv
        show wpAny _ A.in1 (updateSeq S (fun _ => #[]) >>= _) _ _ _
        refine wpAny_bind ?_
        refine wpAny_updateSeq hS' rfl (wpAny_bind (wpAny_letGo (wpAny_pure ?_)))
        exact hR _ tk _ ⟨tm, rfl⟩ fun a o h1 h2 e => (Heap.get?_update_other _ _ (Ne.symm h2)).trans (h6 a o h1 e)
  | succ n ih =>
    intro i b vs c s hn hi hbv hf hit hm hS hR
    refine codeAny_builtin F.entry_max_loop ?_
    rw [Around.under_plainId F.plain_max_loop _]
    show wpAny _ A.in1 (seqItems? (.ref S) >>= _) _ _ s
    refine wpAny_bind (wpAny_seqItems hS rfl ?_)
    show wpAny _ A.in1 (tryCatch (pyNext (.ref f)) _ >>= _) _ _ s
    refine wpAny_bind (wpAny_tryCatch (filt_next (A := A.in1) hh hne hnd hfd hb hi hf hit hm (fun j k v h' tk h1 h2 h3 h4 h5 h6 => ?_) fun h' tk h2 h6 => ?_))
    · obtain ⟨t, rfl⟩ := hv j k v h4 h3
      have hS' := h6 S _ hSi hS
      have hlt := (List.getElem?_eq_some_iff.mp h4).1
      have hnm : nums val bs i kvs.length = val j :: nums val bs (j + 1) kvs.length := nums_skip h1 hlt h2 h3
      have hm' : h'.DictAt knd d kvs ep := hm.extBut h6 hnd
      have hf' : IsFilt h' f it := h6 f _ hne hf
      cases b with
      | none =>
        have hbv' : vs = #[] := hbv
        subst hbv'
        show wpAny _ A.in1 (updateSeq S (fun _ => #[.int (val j) t, .int (val j) t]) >>= _) _ _ _
        refine wpAny_bind ?_
        refine wpAny_updateSeq hS' rfl ?_
        rw [hname]
        refine wpAny_pure ⟨plainId_quiet F.plain_max_loop _, ih (j + 1) (some (val j)) _ _ _ (by omega) hlt ⟨t, rfl⟩ ?_ ?_ ?_ (Heap.get?_update_self _ hS' rfl) fun h'' tk'' v hv' hk'' => ?_⟩
        · exact (Heap.get?_update_other _ _ hSf).trans hf'
        · exact h5.extBut (Heap.SameBut.update ..).extBut (Ne.symm hSi)
        · exact hm'.extBut (Heap.SameBut.update ..).extBut (Ne.symm hSd)
        · exact hR h'' tk'' v (by rw [hnm]; exact hv') fun a o h1 h2 e => hk'' a o h1 h2 ((Heap.get?_update_other _ _ (Ne.symm h2)).trans (h6 a o h1 e))
      | some m =>
        obtain ⟨tm, rfl⟩ := hbv
        show wpAny _ A.in1 (tryCatch (holding [.int (val j) t, .int (val j) t] (richCompare .Gt (.int (val j) t) (.int m tm) >>= _)) _ >>= _) _ _ _
        refine wpAny_bind (wpAny_tryCatch (wpAny_holding (wpAny_bind (gt_ints ?_))))
        refine wpAny_bind (wpAny_holding (wpAny_truthy_bool ?_))
        refine wpAny_bind (wpAny_letGo (wpAny_pure ?_))
        have hbf : bestF (some m) (nums val bs i kvs.length) = bestF (some (if val j > m then val j else m)) (nums val bs (j + 1) kvs.length) := by rw [hnm]; rfl
        by_cases hgt : val j > m
        · rw [decide_eq_true hgt]
          rw [if_pos hgt] at hbf
          simp only [if_true]
          refine wpAny_bind ?_
          refine wpAny_updateSeq hS' rfl (wpAny_bind (wpAny_letGo ?_))
          rw [hname]
          refine wpAny_pure ⟨plainId_quiet F.plain_max_loop _, ih (j + 1) (some (val j)) _ _ _ (by omega) hlt ⟨t, rfl⟩ ?_ ?_ ?_ (Heap.get?_update_self _ hS' rfl) fun h'' tk'' v hv' hk'' => ?_⟩
          · exact (Heap.get?_update_other _ _ hSf).trans hf'
          · exact h5.extBut (Heap.SameBut.update ..).extBut (Ne.symm hSi)
          · exact hm'.extBut (Heap.SameBut.update ..).extBut (Ne.symm hSd)
          · exact hR h'' tk'' v (by rw [hbf]; exact hv') fun a o h1 h2 e => hk'' a o h1 h2 ((Heap.get?_update_other _ _ (Ne.symm h2)).trans (h6 a o h1 e))
        · rw [decide_eq_false hgt]
          rw [if_neg hgt] at hbf
          simp only [Bool.false_eq_true, if_false]
          refine wpAny_bind (wpAny_letGo ?_)
          rw [hname]
          refine wpAny_pure ⟨plainId_quiet F.plain_max_loop _, ih (j + 1) (some m) _ _ _ (by omega) hlt ⟨tm, rfl⟩ hf' h5 hm' hS' fun h'' tk'' v hv' hk'' => ?_⟩
          exact hR h'' tk'' v (by rw [hbf]; exact hv') fun a o h1 h2 e => hk'' a o h1 h2 (h6 a o h1 e)
    · have hS' := h6 S _ hSi hS
      have hnm : nums val bs i kvs.length = [] := nums_none h2
      rw [hnm] at hR
      cases b with
      | none =>
        have hbv' : vs = #[] := hbv
        subst hbv'
        show wpAny _ A.in1 (do rule "max.default"; ret dflt) _ _ _
        refine wpAny_bind (wpAny_rule ?_)
        exact wpAny_pure (hR h' tk dflt rfl fun a o h1 _ e => h6 a o h1 e)
      | some m =>
        obtain ⟨tm, rfl⟩ := hbv
        show wpAny _ A.in1 (updateSeq S (fun _ => #[]) >>= _) _ _ _
        refine wpAny_bind ?_
        refine wpAny_updateSeq hS' rfl (wpAny_bind (wpAny_letGo (wpAny_pure ?_)))
        exact hR _ tk _ ⟨tm, rfl⟩ fun a o h1 h2 e => (Heap.get?_update_other _ _ (Ne.symm h2)).trans (h6 a o h1 e)
end
end Mine
namespace Mine
section
variable {prog : Program} {w : World} {K : Type} [DecidableEq K] {knd : KeyKind prog w K} {A : Around} {E : Value → Shared → Prop} {s : Shared}
theorem iter_filt {f it : Addr} {Q : Value → Shared → Prop} (hf : IsFilt s.heap f it) (h : Q (.ref f) s) : wpAny (model prog w) A (pyIter (.ref f)) Q E s := by
  have hT : s.TypeIs (.ref f) "filter" := ⟨_, hf, rfl⟩
  refine wpAny_pyIter_slot hT FF.slot_iter (wpAny_call_entry FF.slot_iter hT FF.entry_iter ?_ (FF.args_iter _))
  show wpAny _ _ (ret (.ref f)) _ _ s
  exact wpAny_pure ⟨_, rfl, "filter", _, hT, FF.slot_next.lookup, h⟩
theorem args_max_kw (a v : Value) : argsOk "max" ⟨[a], [("default", v)]⟩ := by unfold argsOk; kernel_rfl
theorem call_max_dflt {f it d : Addr} {ep : Nat} {kvs : List (K × Value)} {bs : Nat → Bool} {val : Nat → Int} {dflt : Value} {Q : Value → Shared → Prop} (hh : A.handled = none) (hne : f ≠ it) (hnd : d ≠ it) (hfd : d ≠ f)
    (hb : ∀ j k v, kvs[j]? = some (k, v) → TruV v (bs j)) (hv : ∀ j k v, kvs[j]? = some (k, v) → bs j = true → ∃ t, v = .int (val j) t)
    (hf : IsFilt s.heap f it) (hit : s.heap.IsValIter it d 0 kvs.length ep) (hm : s.heap.DictAt knd d kvs ep)
    (hQ : ∀ h' tk v, (match bestF none (nums val bs 0 kvs.length) with | none => v = dflt | some m => ∃ t, v = .int m t) → (∀ a o, a ≠ it → s.heap.get? a = some o → h'.get? a = some o) → Q v { s with heap := h', toks := tk }) :
    wpAny (model prog w) A (call (.builtin "max") [.ref f] [("default", dflt)]) Q E s := by
  have hname : (toString "max" ++ toString ".loop" : String) = "max.loop" := by decide
  refine wpAny_call (codeAny_call_builtin F.plain_max F.entry_max ?_)
  have hk := F.kind_max
  simp only [checkBuiltinCall, hk]
  have ha := args_max_kw (.ref f) dflt
  have body : wpAny (model prog w) A.in1 (Builtin.«max» ⟨[.ref f], [("default", dflt)]⟩) (fun fin s' => match fin with
      | .done q => (match (Except.ok q : Result) with | .ok (.ret v) => Q v s' | .ok _ => False | .error e => E e s')
      | .again c' => c'.quiet = true ∧ codeAny (model prog w) A c' (fun r s' => match r with | .ok (.ret v) => Q v s' | .ok _ => False | .error e => E e s') s') E s := by
    show wpAny _ A.in1 (Builtin.Builtins.bindParams "max" ["key", "default"] 0 ⟨[], [("default", dflt)]⟩ >>= _) _ _ s
    refine wpAny_bind (wpAny_of_eq (show Builtin.Builtins.bindParams "max" ["key", "default"] 0 ⟨[], [("default", dflt)]⟩ = pure [none, some dflt] from rfl) ?_)
    refine wpAny_bind (wpAny_pure ?_)
    refine wpAny_bind (iter_filt hf ?_)
    refine wpAny_bind (wpAny_newObj_type ?_)
    have hz : ∀ b o, s.heap.get? b = some o → b ≠ s.heap.objs.size := fun b o e => Nat.ne_of_lt (Heap.lt_size e)
    obtain ⟨oi, hoi, hci, hdi⟩ := id hit
    obtain ⟨od, es, hod, r⟩ := id hm
    rw [hname]
    refine wpAny_pure ⟨plainId_quiet F.plain_max_loop _, max_loop (S := s.heap.objs.size) hh hne hnd hfd (Ne.symm (hz _ _ hf)) (Ne.symm (hz _ _ hoi)) (Ne.symm (hz _ _ hod)) hb hv kvs.length 0 none _ _ _ (by omega) (Nat.zero_le _) rfl (Heap.get?_push_of_some _ hf) ⟨oi, Heap.get?_push_of_some _ hoi, hci, hdi⟩
      ⟨od, es, Heap.get?_push_of_some _ hod, r⟩ (Heap.get?_push_size _ rfl) fun h' tk v hv' hk' => ?_⟩
    exact hQ h' tk v hv' fun a o h1 e => hk' a o h1 (hz a o e) (Heap.get?_push_of_some _ e)
  cases hsig : Manifest.signature? "max" with
  | none => exact wpAny_pure body
  | some sig =>
    simp only [argsOk, hsig] at ha
    have h2 : Bind.checkArgs "max" sig ⟨[.ref f], [("default", dflt)]⟩ = pure () := ha
    show wpAny _ A.in1 (Bind.checkArgs "max" sig ⟨[.ref f], [("default", dflt)]⟩) _ _ s
    rw [h2]; exact wpAny_pure body
theorem meets_filter (knd : KeyKind prog w K) (v d : Addr) (kvs : List (K × Value)) (ep : Nat) :
    MeetsIn prog w (Builtin.«filter.__new__» ⟨[.type "filter", .none, .ref v], []⟩) (fun _ R s => s.heap.IsValuesView v d ∧ s.heap.DictAt knd d kvs ep ∧
      R (.ok (.ret (.ref (s.heap.push { cls := .type "dict_valueiterator", data := .fields #[.ref d, .int 0 0, .int kvs.length 0, .int ep 0] }).objs.size)))
        { s with heap := (s.heap.push { cls := .type "dict_valueiterator", data := .fields #[.ref d, .int 0 0, .int kvs.length 0, .int ep 0] }).push { cls := .type "filter", data := .fields #[.none, .ref s.heap.objs.size] } }) :=
  .of_wp fun A R s h => by
    obtain ⟨hp, g, d, tk, os⟩ := s; obtain ⟨hv, hm, h⟩ := h
    have hsub := FF.sub_filter
    have hV : Heap.IsValuesView (Shared.heap ⟨hp, g, d, tk, os⟩) v _ := hv
    have hD := hm
    wp_walk using wpAny_pyIter_values hv hm
    exact ⟨_, rfl, h⟩
end
end Mine
namespace Mine
section
variable {prog : Program} {w : World} {K : Type} [DecidableEq K] {knd : KeyKind prog w K} {A : Around} {E : Value → Shared → Prop} {s : Shared} {h₀ : Heap} {L : Addr} {m : Str → Option Value} {news : List (Addr × Obj)}
theorem k_valmeth {d : Addr} {kvs : List (K × Value)} {pl : Sem Bool} {Q : Value × List Value → Shared → Prop} (hD : s.heap.DictOf knd d kvs) (h : Q (.builtin "dict.values", [.ref d]) s) :
    wpAny (model prog w) A (getMethod (.ref d) "values" pl) Q E s := getMethod_builtin hD.typeIs PySem.F.plainAttrs_dict PySem.F.slot_dict_values PySem.F.type_dict_values hD.mapOf.noDict h
theorem k_values {d : Addr} {kvs : List (K × Value)} {Q : Value → Shared → Prop} (F : Fr h₀ L s.heap m) (N : News h₀ L s.heap news) (hD : s.heap.DictOf knd d kvs) (lo : (d == sysModules) = false)
    (h : ∀ v h', Fr h₀ L h' m → News h₀ L h' news → h'.IsValuesView v d → s.heap.StaysIn h' → Q (.ref v) { s with heap := h' }) : wpAny (model prog w) A (call (.builtin "dict.values") [.ref d]) Q E s := by
  refine call_meetsIn PySem.F.slot_dict_values hD.typeIs PySem.F.entry_dict_values (PySem.F.args_dict_values_1 _) (meets_dict_values knd d lo) ⟨⟨kvs, hD⟩, ?_⟩
  have st : s.heap.StaysIn (s.heap.push { cls := .type "dict_values", data := .fields #[.ref d] }) := fun b o e => Heap.get?_push_of_some _ e
  exact h _ _ (F.keeps st) (N.grown st) ⟨_, Heap.get?_push_size _ rfl, rfl, rfl⟩ st
theorem k_filter {v d : Addr} {ep : Nat} {kvs : List (K × Value)} {Q : Value → Shared → Prop} (F : Fr h₀ L s.heap m) (N : News h₀ L s.heap news) (hV : s.heap.IsValuesView v d) (hm : s.heap.DictAt knd d kvs ep)
    (h : ∀ f it h', Fr h₀ L h' m → News h₀ L h' news → IsFilt h' f it → h'.IsValIter it d 0 kvs.length ep → (f ≠ it ∧ d ≠ it ∧ d ≠ f ∧ it ≠ L ∧ h₀.get? it = none ∧ ∀ p ∈ news, p.1 ≠ it) → s.heap.StaysIn h' → Q (.ref f) { s with heap := h' }) :
    wpAny (model prog w) A (call (.type "filter") [.none, .ref v]) Q E s := by
  obtain ⟨od, es, hod, r⟩ := id hm
  have hdl : d < s.heap.objs.size := Heap.lt_size hod
  have hLl : L < s.heap.objs.size := F.ns.lt
  refine callType_newIn FF.called (by decide) (FF.typeCall _ _) (FF.newCall _ _) (fun obj => FF.args_init obj _ _) FF.entry_new (meets_filter knd v d kvs ep) ⟨hV, hm, ?_⟩
  have z1 : (s.heap.push { cls := .type "dict_valueiterator", data := .fields #[.ref d, .int 0 0, .int kvs.length 0, .int ep 0] }).objs.size = s.heap.objs.size + 1 := Heap.size_push ..
  have st : s.heap.StaysIn ((s.heap.push { cls := .type "dict_valueiterator", data := .fields #[.ref d, .int 0 0, .int kvs.length 0, .int ep 0] }).push { cls := .type "filter", data := .fields #[.none, .ref s.heap.objs.size] }) :=
    fun b o e => Heap.get?_push_of_some _ (Heap.get?_push_of_some _ e)
  have g : IsFilt ((s.heap.push { cls := .type "dict_valueiterator", data := .fields #[.ref d, .int 0 0, .int kvs.length 0, .int ep 0] }).push { cls := .type "filter", data := .fields #[.none, .ref s.heap.objs.size] }) (s.heap.push { cls := .type "dict_valueiterator", data := .fields #[.ref d, .int 0 0, .int kvs.length 0, .int ep 0] }).objs.size s.heap.objs.size := Heap.get?_push_size _ rfl
  refine ⟨⟨_, g, rfl⟩, h _ s.heap.objs.size _ (F.keeps st) (N.grown st) g ⟨_, Heap.get?_push_of_some _ (Heap.get?_push_size _ rfl), rfl, rfl⟩ ⟨?_, Nat.ne_of_lt hdl, ?_, Ne.symm (Nat.ne_of_lt hLl), ?_, fun p hp => Nat.ne_of_lt (Heap.lt_size (N p hp).1)⟩ st⟩
  · rw [z1]; exact Nat.succ_ne_self _
  · rw [z1]; exact Nat.ne_of_lt (Nat.lt_succ_of_lt hdl)
  · cases q : h₀.get? s.heap.objs.size with
    | none => rfl
    | some o => exact absurd (Heap.lt_size (F.keep _ _ q)) (Nat.lt_irrefl _)
theorem k_max {f it d : Addr} {ep : Nat} {kvs : List (K × Value)} {bs : Nat → Bool} {val : Nat → Int} {dflt : Value} {Q : Value → Shared → Prop} (F : Fr h₀ L s.heap m) (N : News h₀ L s.heap news) (hh : A.handled = none)
    (ne : f ≠ it ∧ d ≠ it ∧ d ≠ f ∧ it ≠ L ∧ h₀.get? it = none ∧ ∀ p ∈ news, p.1 ≠ it)
    (hb : ∀ j k v, kvs[j]? = some (k, v) → TruV v (bs j)) (hv : ∀ j k v, kvs[j]? = some (k, v) → bs j = true → ∃ t, v = .int (val j) t)
    (hf : IsFilt s.heap f it) (hit : s.heap.IsValIter it d 0 kvs.length ep) (hm : s.heap.DictAt knd d kvs ep)
    (hQ : ∀ h' tk v, Fr h₀ L h' m → News h₀ L h' news → (match bestF none (nums val bs 0 kvs.length) with | none => v = dflt | some m => ∃ t, v = .int m t) → Q v { s with heap := h', toks := tk }) :
    wpAny (model prog w) A (call (.builtin "max") [.ref f] [("default", dflt)]) Q E s :=
  call_max_dflt hh ne.1 ne.2.1 ne.2.2.1 hb hv hf hit hm fun h' tk v hv' hk =>
    hQ h' tk v ⟨F.ns.at' fun o e => hk _ o (Ne.symm ne.2.2.2.1) e, fun b o e => hk b o (by rintro rfl; rw [ne.2.2.2.2.1] at e; cases e) (F.keep b o e), F.above⟩ (fun p hp => ⟨hk _ _ (ne.2.2.2.2.2 p hp) (N p hp).1, (N p hp).2⟩) hv'
end
end Mine
namespace Mine
namespace FF
theorem plain_cont : plainId "proto.contains_iter" = true := by decide +kernel
theorem entry_cont : entryFor table "proto.contains_iter" = some Builtin.«proto.contains_iter» := entryFor_of_tree (by kernel_rfl)
end FF
section
variable {prog : Program} {w : World} {K : Type} [DecidableEq K] {knd : KeyKind prog w K} {A : Around} {E : Value → Shared → Prop}
theorem eqb_none {v : Value} {b : Bool} {s : Shared} {Q : Bool → Shared → Prop} (hv : (∃ n t, v = .int n t ∧ b = false) ∨ (v = .none ∧ b = true)) (h : Q b s) : wpAny (model prog w) A (eqBool v .none) Q E s := by
  rcases hv with ⟨n, t, rfl, rfl⟩ | ⟨rfl, rfl⟩
  · unfold eqBool
    refine wpAny_holding ?_
    show wpAny _ _ (if ((Value.int n t) == Value.none) = true then _ else _) _ _ _
    rw [if_neg (show ¬ ((Value.int n t == Value.none) = true) from Bool.false_ne_true)]
    show wpAny _ _ (richCompare .Eq (.int n t) .none >>= truthOfDropped) _ _ _
    refine wpAny_bind (show wpAny _ _ (compareOp .Eq (.int n t) .none) _ _ _ from EqNone.eq_int_none ?_)
    exact wpAny_truthy_bool h
  · unfold eqBool
    refine wpAny_holding ?_
    show wpAny _ _ (if (Value.none == Value.none) = true then _ else _) _ _ _
    rw [if_pos (show ((Value.none == Value.none) = true) from rfl)]
    exact wpAny_bind (wpAny_rule (wpAny_pure h))
theorem cont_loop {it d : Addr} {ep : Nat} {kvs : List (K × Value)} {isN : Nat → Bool} {R : Result → Shared → Prop} (hh : A.handled = none) (hnd : d ≠ it)
    (hb : ∀ j k v, kvs[j]? = some (k, v) → (∃ n t, v = .int n t ∧ isN j = false) ∨ (v = .none ∧ isN j = true)) :
    ∀ (n i : Nat) (s : Shared), kvs.length - i ≤ n → i ≤ kvs.length → s.heap.IsValIter it d i kvs.length ep → s.heap.DictAt knd d kvs ep →
    (∀ h' tk, (∀ b o, b ≠ it → s.heap.get? b = some o → h'.get? b = some o) → R (.ok (.ret (.bool ((List.range' i (kvs.length - i)).any isN)))) { s with heap := h', toks := tk }) →
    codeAny (model prog w) A (.builtin "proto.contains_iter" ⟨[.ref it, .none], []⟩) R s := by
  intro n
  induction n with
  | zero =>
    intro i s hn hi hit hm hR
    refine codeAny_builtin FF.entry_cont ?_
    rw [Around.under_plainId FF.plain_cont _]
    show wpAny _ A.in1 (pyNext (.ref it) >>= _) _ _ s
    refine wpAny_bind (wpAny_pyNext_values_end (A := A.in1) hh hit hm (by simp; omega) fun h' hk => ?_)
    refine wpAny_bind (wpAny_rule (wpAny_pure ?_))
    have := hR h' s.toks hk
    rw [show kvs.length - i = 0 by omega] at this
    exact this
  | succ n ih =>
    intro i s hn hi hit hm hR
    refine codeAny_builtin FF.entry_cont ?_
    rw [Around.under_plainId FF.plain_cont _]
    show wpAny _ A.in1 (pyNext (.ref it) >>= _) _ _ s
    by_cases hlt : i < kvs.length
    · have hx : kvs[i]? = some (kvs[i].1, kvs[i].2) := List.getElem?_eq_getElem hlt
      refine wpAny_bind (wpAny_pyNext_values_item (A := A.in1) hit hm hx fun h' hit' hs' => ?_)
      refine wpAny_bind (eqb_none (hb i _ _ hx) ?_)
      have hr : List.range' i (kvs.length - i) = i :: List.range' (i + 1) (kvs.length - (i + 1)) := by
        rw [show kvs.length - i = (kvs.length - (i + 1)) + 1 by omega, List.range'_succ]
      cases hbi : isN i with
      | true =>
        refine wpAny_bind (wpAny_rule (wpAny_pure ?_))
        have := hR h' s.toks (fun b o hb' e => (hs'.2 b hb').trans e)
        rw [hr, List.any_cons, hbi] at this
        exact this
      | false =>
        show wpAny _ _ (again (.builtin "proto.contains_iter" ⟨[.ref it, .none], []⟩)) _ _ _
        refine wpAny_pure ⟨plainId_quiet FF.plain_cont _, ih (i + 1) { s with heap := h' } (by omega) hlt hit' (hm.extBut hs'.extBut hnd) fun h'' tk hk => ?_⟩
        have := hR h'' tk (fun b o hb' e => hk b o hb' ((hs'.2 b hb').trans e))
        rw [hr, List.any_cons, hbi] at this
        exact this
    · refine wpAny_bind (wpAny_pyNext_values_end (A := A.in1) hh hit hm (by simp; omega) fun h' hk => ?_)
      refine wpAny_bind (wpAny_rule (wpAny_pure ?_))
      have := hR h' s.toks hk
      rw [show kvs.length - i = 0 by omega] at this
      exact this
end
end Mine
namespace Mine
section
variable {prog : Program} {w : World} {K : Type} [DecidableEq K] {knd : KeyKind prog w K} {A : Around} {E : Value → Shared → Prop} {s : Shared} {h₀ : Heap} {L : Addr} {m : Str → Option Value} {news : List (Addr × Obj)}
theorem FF.no_contains : typeLookup (.type "dict_values") "__contains__" = pure none := by rw [typeLookup_type, builtinLookup_eq_fast]; kernel_rfl
theorem k_in_none {v d : Addr} {ep : Nat} {kvs : List (K × Value)} {isN : Nat → Bool} {Q : Value → Shared → Prop} (F : Fr h₀ L s.heap m) (N : News h₀ L s.heap news) (hh : A.handled = none) (hV : s.heap.IsValuesView v d) (hm : s.heap.DictAt knd d kvs ep)
    (hb : ∀ j k v, kvs[j]? = some (k, v) → (∃ n t, v = .int n t ∧ isN j = false) ∨ (v = .none ∧ isN j = true))
    (h : ∀ h' tk, Fr h₀ L h' m → News h₀ L h' news → Q (.bool ((List.range' 0 (kvs.length - 0)).any isN)) { s with heap := h', toks := tk }) :
    wpAny (model prog w) A (compareOp .In .none (.ref v)) Q E s := by
  show wpAny _ _ (do return .bool (← contains (.ref v) .none)) Q E s
  refine wpAny_bind ?_
  unfold contains
  try with_reducible refine wpAny_holding ?_
  refine wpAny_bind (wpAny_specialOf hV.typeIs FF.no_contains ?_)
  show wpAny _ _ (if ((none : Option Value) == some Value.none) = true then _ else _) _ E s
  rw [if_neg (by decide)]
  show wpAny _ _ (callSpecialUnlessNone? (.ref v) "__contains__" [.none] _ >>= _) _ E s
  refine wpAny_bind ?_
  unfold callSpecialUnlessNone?
  refine wpAny_bind (wpAny_specialOf hV.typeIs FF.no_contains (wpAny_pure ?_))
  refine wpAny_bind (wpAny_rule ?_)
  refine wpAny_bind (wpAny_tryCatch (wpAny_pyIter_values hV hm ?_))
  have st : s.heap.StaysIn (s.heap.push { cls := .type "dict_valueiterator", data := .fields #[.ref d, .int 0 0, .int kvs.length 0, .int ep 0] }) := fun b o e => Heap.get?_push_of_some _ e
  obtain ⟨od, es, hod, _⟩ := id hm
  refine wpAny_bind (wpAny_runValue (cont_loop hh (Nat.ne_of_lt (Heap.lt_size hod)) hb kvs.length 0 _ (by omega) (Nat.zero_le _) ⟨_, Heap.get?_push_size _ rfl, rfl, rfl⟩ (hm.keep st) fun h' tk hk => ?_))
  have hk' : s.heap.StaysIn h' := fun b o e => hk b o (Nat.ne_of_lt (Heap.lt_size e)) (st b o e)
  exact wpAny_pure (wpAny_pure (h h' tk (F.keeps hk') (N.grown hk')))
end
end Mine

local macro_rules | `(tactic| walk_at $s:str) => `(tactic| k_extra $s)

namespace Mine
def signs : List Nat := [45, 65, 97, 126]
def chrF (i : Int) : Nat := signs.getD i.toNat 0
def wordF (v : Int) : Str := ⟨#[chrF (v.fdiv 16), chrF ((v.fdiv 4).fmod 4), chrF (v.fmod 4)]⟩
theorem item_sign {k : Int} (h0 : 0 ≤ k) (h1 : k < 4) : Txt.item (Str.ofString "-Aa~") k = ⟨#[chrF k]⟩ := by
  have : k = 0 ∨ k = 1 ∨ k = 2 ∨ k = 3 := by omega
  rcases this with rfl | rfl | rfl | rfl <;> decide +kernel
theorem digits_bd {a : Int} (h0 : 0 ≤ a) (h1 : a < 64) : (0 ≤ a.fdiv 16 ∧ a.fdiv 16 < 4) ∧ (0 ≤ (a.fdiv 4).fmod 4 ∧ (a.fdiv 4).fmod 4 < 4) ∧ (0 ≤ a.fmod 4 ∧ a.fmod 4 < 4) := by
  refine ⟨?_, ?_, ?_⟩
  · rw [Int.fdiv_eq_ediv_of_nonneg _ (by decide)]; omega
  · rw [Int.fmod_eq_emod_of_nonneg _ (by decide)]; omega
  · rw [Int.fmod_eq_emod_of_nonneg _ (by decide)]; omega
theorem len3 {α : Type} {l : List α} (h : l.length = 3) : ∃ a b c, l = [a, b, c] := by
  match l, h with
  | [a, b, c], _ => exact ⟨a, b, c, rfl⟩
theorem len4 {α : Type} {l : List α} (h : l.length = 4) : ∃ a b c d, l = [a, b, c, d] := by
  match l, h with
  | [a, b, c, d], _ => exact ⟨a, b, c, d, rfl⟩
theorem len6 {α : Type} {l : List α} (h : l.length = 6) : ∃ a b c d e f, l = [a, b, c, d, e, f] := by
  match l, h with
  | [a, b, c, d, e, f], _ => exact ⟨a, b, c, d, e, f, rfl⟩
theorem three_at {v : Value} {a b c : Int} {ta tb tc : Tok} {i : Nat} (h : (#[Value.int a ta, Value.int b tb, Value.int c tc] : Array Value)[i]? = some v) : ∃ k t, [a, b, c][i]? = some k ∧ v = .int k t := by
  match i, h with
  | 0, h => exact ⟨a, ta, rfl, by cases h; rfl⟩
  | 1, h => exact ⟨b, tb, rfl, by cases h; rfl⟩
  | 2, h => exact ⟨c, tc, rfl, by cases h; rfl⟩
  | i + 3, h => simp at h
theorem three_bd {a k : Int} {i : Nat} (h0 : 0 ≤ a) (h1 : a < 64) (h : [(a.fdiv 16), ((a.fdiv 4).fmod 4), (a.fmod 4)][i]? = some k) : 0 ≤ k ∧ k < 4 := by
  have hob := digits_bd h0 h1
  obtain ⟨e1, e2, e3⟩ := hob
  match i, h with
  | 0, h => cases h; exact e1
  | 1, h => cases h; exact e2
  | 2, h => cases h; exact e3
  | i + 3, h => simp at h
section
theorem c_word (w : World) (a : Int) (t : Tok) : CallP w 3 110 [.int a t] (fun _ => 0 ≤ a ∧ a < 64) (fun v _ => ∃ t, v = .str (wordF a) t) := by
  w_top off
  k_with_none
  k_with "eval ListComp" => (k_here; k_dflt (refine comp_tup (_F₀ := by k_asm) (by with_unfolding_all rfl) (by decide) (by rfl) (by decide) (by rfl) ?_))
  intro dp un fr gd s Q E O hP hdp hun hQ
  have hfill : (fun (_ : OpenLaw) (_ : Params → Frag) => True) PySem.Challenge.rw_wu0005_01 hd.heap_39 := by k_fill; trivial
  clear hfill
  obtain ⟨X, mean, mg, mb, T⟩ := O
  k_dflt (refine' enter X T.nolimit ?c1 ?c2 ?c3 ?c4 ?c5 ?_ ?c6 ?c7 ?c8 ?c9)
  case c1 => (dsimp only [Aw]; omega)
  case c2 => k_is
  case c3 => k_is
  case c4 => exact BindsTo.of_eq rfl
  case c5 => exact locs rfl
  case c6 => exact rfl
  case c7 => exact rfl
  case c8 => exact rfl
  case c9 => decide
  intro L h₁ F N
  (try dsimp only); (try k_fold)
  k_steps
  unfold Stop
  (rename Fr _ _ _ _ => F'); (rename News _ _ _ _ => N')
  intro Pk kk
  refine kk _ _ _ rfl rfl F' N' ⟨_, .head _, rfl, _, rfl⟩ (by size_fits) fun g => rest_gen (fun i y => ∃ (k : Int) (t' : Tok), [(a.fdiv 16), ((a.fdiv 4).fmod 4), (a.fmod 4)][i]? = some k ∧ y = .str ⟨#[chrF k]⟩ t') ⟨_, .head _, rfl, _, rfl⟩ ?_ ?_ <;> clear kk Pk
  · clear F' N'
    intro i v I oI C oC D m₂ ys h tk E' hi hv hC hx F' N' off ne S
    have hob := three_at hv
    obtain ⟨k, t', hk, hv'⟩ := hob
    have hob := three_bd hP.1 hP.2 hk
    obtain ⟨h0, h1⟩ := hob
    subst hv'
    try k_fold
    k_steps
    exact LCg.CompEnd.intro F' N' _ (fun _ h => h) off S ⟨rfl, _, _, hk, by rw [item_sign h0 h1]⟩
  · intro ys hl hy
    have hob := len3 hl
    obtain ⟨y0, y1, y2, rfl⟩ := hob
    clear hl
    have hob := hy 0 y0 rfl
    obtain ⟨k0, t0, e0, rfl⟩ := hob
    have hob := hy 1 y1 rfl
    obtain ⟨k1, t1, e1, rfl⟩ := hob
    have hob := hy 2 y2 rfl
    obtain ⟨k2, t2, e2, rfl⟩ := hob
    cases e0; cases e1; cases e2
    intro D h tk F' N' off
    (try dsimp only)
    (try k_fold)
    k_steps
    refine join_listC (News.isList N' (.head _)) (.cons _ _ (.cons _ _ (.cons _ _ .nil))) (by decide) (by with_unfolding_all exact Nat.le_of_ble_eq_true rfl) (fun t' k => ?_)
    exact hQ _ _ _ F'.keep ⟨t', congrArg (Value.str · t') (by with_unfolding_all rfl)⟩
end

def lineF (v : Int) : Int := 20000 * v.fdiv 16 + 2000 * (v.fdiv 4).fmod 4 + ([0, 3, 40, 500] : List Int).getD (v.fmod 4).toNat 0
theorem tail_list {prog : Program} {w : World} {A : Around} {E : Value → Shared → Prop} {s : Shared} {value slice : Expr} {l : Addr} {its : Array Value} {k : Int} {t : Tok} {v : Value} {Q : Value → Shared → Prop} (hl : s.heap.IsList l its) (h0 : 0 ≤ k) (h1 : k < 1000) (hx : its[k.toNat]? = some v)
    (h : Q v s) (hs : subscripted slice false (.ref l) (.int k t) = operate [.ref l, .int k t] (getItem (.ref l) (.int k t))) :
    wpAny (model prog w) A (subscriptTail value slice (.ref l) (.int k t)) Q E s :=
  tail_any hl.typeIs slot_list_getitem.lookup (wpAny_getItem_list hl h0 (by omega) hx h) hs
theorem four_at {a b c d k : Int} (ta tb tc td : Tok) (h0 : 0 ≤ k) (h1 : k < 4) : ∃ t, (#[Value.int a ta, Value.int b tb, Value.int c tc, Value.int d td] : Array Value)[k.toNat]? = some (.int ([a, b, c, d].getD k.toNat 0) t) := by
  have : k = 0 ∨ k = 1 ∨ k = 2 ∨ k = 3 := by omega
  rcases this with rfl | rfl | rfl | rfl <;> exact ⟨_, rfl⟩
theorem tail_four {prog : Program} {w : World} {A : Around} {E : Value → Shared → Prop} {s : Shared} {h₀ : Heap} {L : Addr} {news : List (Addr × Obj)} {value slice : Expr} {l : Addr} {a b c d k : Int} {ta tb tc td t : Tok} {n : Nat} {Q : Value → Shared → Prop} (N : News h₀ L s.heap news)
    (hm : (l, W.listOf #[Value.int a ta, Value.int b tb, Value.int c tc, Value.int d td] n) ∈ news) (h0 : 0 ≤ k) (h1 : k < 4) (h : ∀ t, Q (.int ([a, b, c, d].getD k.toNat 0) t) s)
    (hs : subscripted slice false (.ref l) (.int k t) = operate [.ref l, .int k t] (getItem (.ref l) (.int k t))) : wpAny (model prog w) A (subscriptTail value slice (.ref l) (.int k t)) Q E s := by
  have hob := four_at (a := a) (b := b) (c := c) (d := d) ta tb tc td h0 h1
  obtain ⟨t', hx⟩ := hob
  exact tail_list (News.isList N hm) h0 (by omega) hx (h t') hs
section
theorem c_line (w : World) (a : Int) (t : Tok) : CallP w 3 117 [.int a t] (fun _ => 0 ≤ a ∧ a < 64) (fun v _ => ∃ t, v = .int (lineF a) t) := by
  w_top off
  k_with_none
  k_with "subscriptTail" => (k_here; (with_reducible show wpAny _ _ (subscriptTail _ _ (.ref _) (.int _ _)) _ _ _); refine Stop.go ?_)
  intro dp un fr gd s Q E O hP hdp hun hQ
  have hfill : (fun (_ : OpenLaw) (_ : Params → Frag) => True) PySem.Challenge.rw_wu0005_01 hd.heap_39 := by k_fill; trivial
  clear hfill
  obtain ⟨X, mean, mg, mb, T⟩ := O
  k_dflt (refine' enter X T.nolimit ?c1 ?c2 ?c3 ?c4 ?c5 ?_ ?c6 ?c7 ?c8 ?c9)
  case c1 => (dsimp only [Aw]; omega)
  case c2 => k_is
  case c3 => k_is
  case c4 => exact BindsTo.of_eq rfl
  case c5 => exact locs rfl
  case c6 => exact rfl
  case c7 => exact rfl
  case c8 => exact rfl
  case c9 => decide
  intro L h₁ F N
  (try dsimp only); (try k_fold)
  k_steps
  unfold Stop
  (rename Fr _ _ _ _ => F'); (rename News _ _ _ _ => N')
  have hob := digits_bd hP.1 hP.2
  obtain ⟨e1, e2, e3, e4⟩ := hob
  k_dflt (refine tail_four N' (.head _) e3 e4 ?_ (by with_unfolding_all rfl))
  intro t'
  k_steps
  (rename Fr _ _ _ _ => F')
  exact hQ _ _ _ F'.keep ⟨_, rfl⟩
end
theorem c_xfrm (w : World) (a : Str) (t : Tok) : CallP w 3 35 [.str a t] (fun _ => True) (fun v _ => ∃ t, v = .str a t) := by
  w_top off
  k_with_none
  intro dp un fr gd s Q E O hP hdp hun hQ
  have hfill : (fun (_ : OpenLaw) (_ : Params → Frag) => True) PySem.Challenge.rw_wu0005_01 hd.heap_39 := by k_fill; trivial
  clear hfill
  obtain ⟨X, mean, mg, mb, T⟩ := O
  k_dflt (refine' enter X T.nolimit ?c1 ?c2 ?c3 ?c4 ?c5 ?_ ?c6 ?c7 ?c8 ?c9)
  case c1 => (dsimp only [Aw]; omega)
  case c2 => k_is
  case c3 => k_is
  case c4 => exact BindsTo.of_eq rfl
  case c5 => exact locs rfl
  case c6 => exact rfl
  case c7 => exact rfl
  case c8 => exact rfl
  case c9 => decide
  intro L h₁ F N
  (try dsimp only); (try k_fold)
  k_steps
  all_goals ((rename Fr _ _ _ _ => F'); exact hQ _ _ _ F'.keep ⟨_, rfl⟩)
theorem c_gt (w : World) (a b : Str) (t u : Tok) : CallP w 3 56 [.str a t, .str b u] (fun _ => True) (fun v _ => ∃ _t : Tok, v = .bool (decide (b.cps.toList < a.cps.toList))) := by
  w_top off
  k_with_none
  intro dp un fr gd s Q E O hP hdp hun hQ
  have hfill : (fun (_ : OpenLaw) (_ : Params → Frag) => True) PySem.Challenge.rw_wu0005_01 hd.heap_39 := by k_fill; trivial
  clear hfill
  obtain ⟨X, mean, mg, mb, T⟩ := O
  k_dflt (refine' enter X T.nolimit ?c1 ?c2 ?c3 ?c4 ?c5 ?_ ?c6 ?c7 ?c8 ?c9)
  case c1 => (dsimp only [Aw]; omega)
  case c2 => k_is
  case c3 => k_is
  case c4 => exact BindsTo.of_eq rfl
  case c5 => exact locs rfl
  case c6 => exact rfl
  case c7 => exact rfl
  case c8 => exact rfl
  case c9 => decide
  intro L h₁ F N
  (try dsimp only); (try k_fold)
  k_steps
  all_goals ((rename Fr _ _ _ _ => F'); exact hQ _ _ _ F'.keep ⟨t, rfl⟩)
theorem c_lt (w : World) (a b : Str) (t u : Tok) : CallP w 3 42 [.str a t, .str b u] (fun _ => True) (fun v _ => ∃ _t : Tok, v = .bool (decide (a.cps.toList < b.cps.toList))) := by
  w_top off
  k_with_none
  intro dp un fr gd s Q E O hP hdp hun hQ
  have hfill : (fun (_ : OpenLaw) (_ : Params → Frag) => True) PySem.Challenge.rw_wu0005_01 hd.heap_39 := by k_fill; trivial
  clear hfill
  obtain ⟨X, mean, mg, mb, T⟩ := O
  k_dflt (refine' enter X T.nolimit ?c1 ?c2 ?c3 ?c4 ?c5 ?_ ?c6 ?c7 ?c8 ?c9)
  case c1 => (dsimp only [Aw]; omega)
  case c2 => k_is
  case c3 => k_is
  case c4 => exact BindsTo.of_eq rfl
  case c5 => exact locs rfl
  case c6 => exact rfl
  case c7 => exact rfl
  case c8 => exact rfl
  case c9 => decide
  intro L h₁ F N
  (try dsimp only); (try k_fold)
  k_steps
  all_goals ((rename Fr _ _ _ _ => F'); exact hQ _ _ _ F'.keep ⟨t, rfl⟩)
theorem c_ne (w : World) (a b : Str) (t u : Tok) : CallP w 3 49 [.str a t, .str b u] (fun _ => True) (fun v _ => ∃ _t : Tok, v = .bool (a != b)) := by
  w_top off
  k_with_none
  intro dp un fr gd s Q E O hP hdp hun hQ
  have hfill : (fun (_ : OpenLaw) (_ : Params → Frag) => True) PySem.Challenge.rw_wu0005_01 hd.heap_39 := by k_fill; trivial
  clear hfill
  obtain ⟨X, mean, mg, mb, T⟩ := O
  k_dflt (refine' enter X T.nolimit ?c1 ?c2 ?c3 ?c4 ?c5 ?_ ?c6 ?c7 ?c8 ?c9)
  case c1 => (dsimp only [Aw]; omega)
  case c2 => k_is
  case c3 => k_is
  case c4 => exact BindsTo.of_eq rfl
  case c5 => exact locs rfl
  case c6 => exact rfl
  case c7 => exact rfl
  case c8 => exact rfl
  case c9 => decide
  intro L h₁ F N
  (try dsimp only); (try k_fold)
  k_steps
  all_goals ((rename Fr _ _ _ _ => F'); exact hQ _ _ _ F'.keep ⟨t, rfl⟩)
theorem c_subb (w : World) (a b : Bool) : CallP w 3 77 [.bool a, .bool b] (fun _ => True) (fun v _ => ∃ t, v = .int (b2i a - b2i b) t) := by
  w_top off
  k_with_none
  intro dp un fr gd s Q E O hP hdp hun hQ
  have hfill : (fun (_ : OpenLaw) (_ : Params → Frag) => True) PySem.Challenge.rw_wu0005_01 hd.heap_39 := by k_fill; trivial
  clear hfill
  obtain ⟨X, mean, mg, mb, T⟩ := O
  k_dflt (refine' enter X T.nolimit ?c1 ?c2 ?c3 ?c4 ?c5 ?_ ?c6 ?c7 ?c8 ?c9)
  case c1 => (dsimp only [Aw]; omega)
  case c2 => k_is
  case c3 => k_is
  case c4 => exact BindsTo.of_eq rfl
  case c5 => exact locs rfl
  case c6 => exact rfl
  case c7 => exact rfl
  case c8 => exact rfl
  case c9 => decide
  intro L h₁ F N
  (try dsimp only); (try k_fold)
  k_steps
  all_goals ((rename Fr _ _ _ _ => F'); exact hQ _ _ _ F'.keep ⟨_, rfl⟩)
theorem c_sub (w : World) (a b : Int) (t u : Tok) : CallP w 3 77 [.int a t, .int b u] (fun _ => True) (fun v _ => ∃ t, v = .int (a - b) t) := by
  w_top off
  k_with_none
  intro dp un fr gd s Q E O hP hdp hun hQ
  have hfill : (fun (_ : OpenLaw) (_ : Params → Frag) => True) PySem.Challenge.rw_wu0005_01 hd.heap_39 := by k_fill; trivial
  clear hfill
  obtain ⟨X, mean, mg, mb, T⟩ := O
  k_dflt (refine' enter X T.nolimit ?c1 ?c2 ?c3 ?c4 ?c5 ?_ ?c6 ?c7 ?c8 ?c9)
  case c1 => (dsimp only [Aw]; omega)
  case c2 => k_is
  case c3 => k_is
  case c4 => exact BindsTo.of_eq rfl
  case c5 => exact locs rfl
  case c6 => exact rfl
  case c7 => exact rfl
  case c8 => exact rfl
  case c9 => decide
  intro L h₁ F N
  (try dsimp only); (try k_fold)
  k_steps
  all_goals ((rename Fr _ _ _ _ => F'); exact hQ _ _ _ F'.keep ⟨_, rfl⟩)
theorem c_add (w : World) (a b : Int) (t u : Tok) : CallP w 3 63 [.int a t, .int b u] (fun _ => True) (fun v _ => ∃ t, v = .int (a + b) t) := by
  w_top off
  k_with_none
  intro dp un fr gd s Q E O hP hdp hun hQ
  have hfill : (fun (_ : OpenLaw) (_ : Params → Frag) => True) PySem.Challenge.rw_wu0005_01 hd.heap_39 := by k_fill; trivial
  clear hfill
  obtain ⟨X, mean, mg, mb, T⟩ := O
  k_dflt (refine' enter X T.nolimit ?c1 ?c2 ?c3 ?c4 ?c5 ?_ ?c6 ?c7 ?c8 ?c9)
  case c1 => (dsimp only [Aw]; omega)
  case c2 => k_is
  case c3 => k_is
  case c4 => exact BindsTo.of_eq rfl
  case c5 => exact locs rfl
  case c6 => exact rfl
  case c7 => exact rfl
  case c8 => exact rfl
  case c9 => decide
  intro L h₁ F N
  (try dsimp only); (try k_fold)
  k_steps
  all_goals ((rename Fr _ _ _ _ => F'); exact hQ _ _ _ F'.keep ⟨_, rfl⟩)
section

theorem c_mul (w : World) (a b : Int) (t u : Tok) : CallP w 3 70 [.int a t, .int b u] (fun _ => IntMulOk a b) (fun v _ => ∃ t, v = .int (a * b) t) := by
  w_top off
  k_with_none
  intro dp un fr gd s Q E O hP hdp hun hQ
  have hfill : (fun (_ : OpenLaw) (_ : Params → Frag) => True) PySem.Challenge.rw_wu0005_01 hd.heap_39 := by k_fill; trivial
  clear hfill
  obtain ⟨X, mean, mg, mb, T⟩ := O
  k_dflt (refine' enter X T.nolimit ?c1 ?c2 ?c3 ?c4 ?c5 ?_ ?c6 ?c7 ?c8 ?c9)
  case c1 => (dsimp only [Aw]; omega)
  case c2 => k_is
  case c3 => k_is
  case c4 => exact BindsTo.of_eq rfl
  case c5 => exact locs rfl
  case c6 => exact rfl
  case c7 => exact rfl
  case c8 => exact rfl
  case c9 => decide
  intro L h₁ F N
  (try dsimp only); (try k_fold)
  (try dsimp only at hP)
  k_steps
  all_goals ((rename Fr _ _ _ _ => F'); exact hQ _ _ _ F'.keep ⟨_, rfl⟩)
end
theorem c_coll (w : World) (a b : Str) (t u : Tok) : CallP w 3 28 [.str a t, .str b u] (fun _ => True) (fun v _ => ∃ t, v = .int (b2i (decide (b.cps.toList < a.cps.toList)) - b2i (decide (a.cps.toList < b.cps.toList))) t) := by
  w_top off
  k_with_none
  intro dp un fr gd s Q E O hP hdp hun hQ
  have hfill : (fun (_ : OpenLaw) (_ : Params → Frag) => True) PySem.Challenge.rw_wu0005_01 hd.heap_39 := by k_fill; trivial
  clear hfill
  obtain ⟨X, mean, mg, mb, T⟩ := O
  k_dflt (refine' enter X T.nolimit ?c1 ?c2 ?c3 ?c4 ?c5 ?_ ?c6 ?c7 ?c8 ?c9)
  case c1 => (dsimp only [Aw]; omega)
  case c2 => k_is
  case c3 => k_is
  case c4 => exact BindsTo.of_eq rfl
  case c5 => exact locs rfl
  case c6 => exact rfl
  case c7 => exact rfl
  case c8 => exact rfl
  case c9 => decide
  intro L h₁ F N
  (try dsimp only); (try k_fold)
  k_steps
  all_goals ((rename Fr _ _ _ _ => F'); exact hQ _ _ _ F'.keep ⟨_, rfl⟩)
end Mine

namespace Mine
section
theorem c_index (w : World) (l : Addr) (a b c : Bool) : CallP w 3 91 [.ref l, .bool true] (fun h => h.PlainList l #[.bool a, .bool b, .bool c, .bool true]) (fun v _ => ∃ t, v = .int (if a then 0 else if b then 1 else if c then 2 else 3) t) := by
  w_top off
  k_with_none
  k_with "eval Call" => (k_here; k_fold)
  k_with "eval BinOp" => (k_here; k_fold)
  k_with "eval Compare" => (k_here; k_fold)
  k_with "eval Name" => (k_here; k_dflt (refine' ld ?k1 ?k2 ?_; (case k1 => k_asm); (case k2 => assumption); k_whole))
  k_with "exec For Tuple Call" => (k_here; k_dflt (refine For_enumC (_F₀ := by k_asm) (by rfl) (by rfl) ?_))
  k_with "call type:enumerate" => (k_here; (rename Fr _ _ _ _ => Fe'); (rename Heap.PlainList _ _ _ => pl'); k_dflt (refine enum_list Fe' (by k_asm) (pl'.at fun o e => Fe'.keep _ o e) ?_); intro e' it' h' F' N' hE' hIt' ne' off')
  intro dp un fr gd s Q E O hP hdp hun hQ
  have hfill : (fun (_ : OpenLaw) (_ : Params → Frag) => True) PySem.Challenge.rw_wu0005_01 hd.heap_39 := by k_fill; trivial
  clear hfill
  obtain ⟨X, mean, mg, mb, T⟩ := O
  k_dflt (refine' enter X T.nolimit ?c1 ?c2 ?c3 ?c4 ?c5 ?_ ?c6 ?c7 ?c8 ?c9)
  case c1 => (dsimp only [Aw]; omega)
  case c2 => k_is
  case c3 => k_is
  case c4 => exact BindsTo.of_eq rfl
  case c5 => exact locs rfl
  case c6 => exact rfl
  case c7 => exact rfl
  case c8 => exact rfl
  case c9 => decide
  intro L h₁ F N
  (try dsimp only); (try k_fold)
  (try dsimp only at hP)
  k_steps
  unfold Stop
  rename Heap.PlainList _ _ _ => pl
  (rename Fr _ _ _ _ => F'); (rename News _ _ _ _ => N'); rename IsEnum _ _ _ _ _ => hE; rename Heap.IsListIter _ _ _ _ => hI; rename _ ∧ _ => ne
  intro Pk kk
  refine kk _ _ _ _ _ _ _ (fun i m n => n = [] ∧ (∀ j < i, [a, b, c, true][j]? = some false) ∧ m (Str.ofString "a") = some (.ref l) ∧ m (Str.ofString "b") = some (.bool true)) rfl ne hE hI F' N' (by assumption) ⟨rfl, fun j hj => absurd hj (Nat.not_lt_zero _), by with_unfolding_all rfl, by with_unfolding_all rfl⟩ (fun _ _ _ _ => .inl pl.isList) ?_ ?_ <;> clear kk Pk
  · clear F' N' hE hI
    rintro i v tk m₁ news₁ oe oi h tk₁ hi ⟨rfl, hpre, ha, hb⟩ off F' N'
    obtain ⟨f, rfl, hf⟩ : ∃ f, v = .bool f ∧ [a, b, c, true][i]? = some f := by
      match i, hi with
      | 0, hi => exact ⟨a, by simpa using hi.symm, rfl⟩
      | 1, hi => exact ⟨b, by simpa using hi.symm, rfl⟩
      | 2, hi => exact ⟨c, by simpa using hi.symm, rfl⟩
      | 3, hi => exact ⟨true, by simpa using hi.symm, rfl⟩
      | i + 4, hi => simp at hi
    (try dsimp only); (try k_fold)
    k_steps
    · rename _ = true => ht
      have ht : f = true := by cases f <;> first | rfl | cases ht
      subst ht
      (rename Fr _ _ _ _ => F')
      refine hQ _ _ _ F'.keep ⟨_, congrArg (Value.int · _) ?_⟩
      match i, hf with
      | 0, hf => simp at hf; simp [hf]
      | 1, hf => have h0 := hpre 0 (by omega); simp at hf h0; simp [hf, h0]
      | 2, hf => have h0 := hpre 0 (by omega); have h1 := hpre 1 (by omega); simp at hf h0 h1; simp [hf, h0, h1]
      | 3, hf => have h0 := hpre 0 (by omega); have h1 := hpre 1 (by omega); have h2 := hpre 2 (by omega); simp at hf h0 h1 h2; simp [hf, h0, h1, h2]
      | i + 4, hf => simp at hf
    · rename _ = false => ht
      have ht : f = false := by cases f <;> first | rfl | cases ht
      subst ht
      (rename Fr _ _ _ _ => F'); (rename News _ _ _ _ => N')
      refine LoopEnd.intro [] F' N' (fun _ h => h) (by simp) ⟨rfl, fun j hj => ?_, ha, hb⟩
      by_cases hji : j = i
      · subst hji; exact hf
      · exact hpre j (by omega)
  · rintro h tk m' n' F' N' ⟨rfl, hpre, ha, hb⟩
    exact absurd (hpre 3 (by simp)) (by simp)
end
def costF (a b : Str) : Int := if (a == b) = true then 0 else if (Txt.lower a == Txt.lower b) = true then 1 else 2
section
theorem c_subst (w : World) (a b : Str) (t u : Tok) : CallP w 3 98 [.str a t, .str b u] (fun _ => a.length ≤ 8 ∧ b.length ≤ 8) (fun v _ => ∃ t, v = .int (costF a b) t) := by
  w_top off
  k_with_none
  k_with "eval Call" => (k_here; k_fold)
  k_with "eval BinOp" => (k_here; k_fold)
  k_with "eval Compare" => (k_here; k_fold)
  k_with "call builtin:str.lower" => (refine SCL.lower (by omega) ?_; intro _; (try dsimp only))
  intro dp un fr gd s Q E O hP hdp hun hQ
  have hfill : (fun (_ : OpenLaw) (_ : Params → Frag) => True) PySem.Challenge.rw_wu0005_01 hd.heap_39 := by k_fill; trivial
  clear hfill
  obtain ⟨X, mean, mg, mb, T⟩ := O
  k_dflt (refine' enter X T.nolimit ?c1 ?c2 ?c3 ?c4 ?c5 ?_ ?c6 ?c7 ?c8 ?c9)
  case c1 => (dsimp only [Aw]; omega)
  case c2 => k_is
  case c3 => k_is
  case c4 => exact BindsTo.of_eq rfl
  case c5 => exact locs rfl
  case c6 => exact rfl
  case c7 => exact rfl
  case c8 => exact rfl
  case c9 => decide
  intro L h₁ F N
  (try dsimp only); (try k_fold)
  obtain ⟨hP0, hP1⟩ := hP
  k_steps
  all_goals (unfold costF at hQ; (rename Fr _ _ _ _ => F'); exact hQ _ _ _ F'.keep ⟨_, congrArg (Value.int · _) (by simp only [*]; simp)⟩)
end

theorem c_width0 (w : World)  : CallP w 3 21 [.none] (fun _ => True) (fun v _ => ∃ t, v = .int 0 t) := by
  w_top off
  k_with_none
  k_with "eval Call" => (k_here; k_fold)
  k_with "eval BinOp" => (k_here; k_fold)
  k_with "eval Compare" => (k_here; k_fold)
  intro dp un fr gd s Q E O hP hdp hun hQ
  have hfill : (fun (_ : OpenLaw) (_ : Params → Frag) => True) PySem.Challenge.rw_wu0005_01 hd.heap_39 := by k_fill; trivial
  clear hfill
  obtain ⟨X, mean, mg, mb, T⟩ := O
  k_dflt (refine' enter X T.nolimit ?c1 ?c2 ?c3 ?c4 ?c5 ?_ ?c6 ?c7 ?c8 ?c9)
  case c1 => (dsimp only [Aw]; omega)
  case c2 => k_is
  case c3 => k_is
  case c4 => exact BindsTo.of_eq rfl
  case c5 => exact locs rfl
  case c6 => exact rfl
  case c7 => exact rfl
  case c8 => exact rfl
  case c9 => decide
  intro L h₁ F N
  (try dsimp only); (try k_fold)
  k_steps
  all_goals ((rename Fr _ _ _ _ => F'); exact hQ _ _ _ F'.keep ⟨_, rfl⟩)
def widthF (g : Int) (b : Bool) : Int := if g = 0 then 0 else if g < 1000 then (if b then 4 else 3) else if g < 10000 then 4 else 5
def gapVals (g : Int) (b : Bool) (kvs : List (Int × Value)) : Prop := ∃ t₀ t₁ t₂, kvs.map (·.2) = [.int (g.fdiv 100) t₀, .int g t₁, .int (g.fdiv 10) t₂] ++ if b then [.none] else []
def GapTab (w : World) (h : Heap) (d : Addr) (g : Int) (b : Bool) : Prop := ∃ kvs, h.DictOf (intKind PySem.Challenge.rw_wu0005_01.row.prog w) d kvs ∧ gapVals g b kvs
def PriceTab (w : World) (h : Heap) (p : Addr) (high middle low same : Int) : Prop :=
  ∃ kvs, h.DictOf (intKind PySem.Challenge.rw_wu0005_01.row.prog w) p kvs ∧ (∃ t, valueAt kvs 0 = some (.int same t)) ∧ (∃ t, valueAt kvs 3 = some (.int low t)) ∧ (∃ t, valueAt kvs 4 = some (.int middle t)) ∧ (∃ t, valueAt kvs 5 = some (.int high t))
theorem PriceTab.keep {w : World} {h h' : Heap} {p : Addr} {high middle low same : Int} (x : PriceTab w h p high middle low same) (k : h.StaysIn h') : PriceTab w h' p high middle low same :=
  let ⟨kvs, d, r⟩ := x; ⟨kvs, d.keep k, r⟩
def priceF (k high middle low same : Int) : Int := if k = 0 then same else if k = 3 then low else if k = 4 then middle else high
theorem PriceTab.at {w : World} {h : Heap} {p : Addr} {high middle low same k : Int} (x : PriceTab w h p high middle low same) (hk : k = 0 ∨ k = 3 ∨ k = 4 ∨ k = 5) :
    ∃ kvs t, h.DictOf (intKind PySem.Challenge.rw_wu0005_01.row.prog w) p kvs ∧ valueAt kvs k = some (.int (priceF k high middle low same) t) := by
  obtain ⟨kvs, d, ⟨t0, h0⟩, ⟨t3, h3⟩, ⟨t4, h4⟩, ⟨t5, h5⟩⟩ := x
  rcases hk with rfl | rfl | rfl | rfl
  · exact ⟨kvs, t0, d, h0⟩
  · exact ⟨kvs, t3, d, h3⟩
  · exact ⟨kvs, t4, d, h4⟩
  · exact ⟨kvs, t5, d, h5⟩
section
variable {prog : Program} {w : World} {A : Around} {E : Value → Shared → Prop} {s : Shared}
theorem tail_dict {value slice : Expr} {p : Addr} {kvs : List (Int × Value)} {k : Int} {t : Tok} {v : Value} {Q : Value → Shared → Prop} (hd : s.heap.DictOf (intKind prog w) p kvs) (hv : valueAt kvs k = some v)
    (h : Q v { s with toks := s.toks + 1 }) (hs : subscripted slice false (.ref p) (.int k t) = operate [.ref p, .int k t] (getItem (.ref p) (.int k t))) :
    wpAny (model prog w) A (subscriptTail value slice (.ref p) (.int k t)) Q E s :=
  tail_any hd.typeIs slot_dict_getitem.lookup (wpAny_getItem_of (intKind_is _ _ _ _) hd.mapOf hv h) hs
end
section
theorem c_getitem (w : World) (p : Addr) (k high middle low same : Int) (t : Tok) : CallP w 3 84 [.ref p, .int k t] (fun h => PriceTab w h p high middle low same ∧ (k = 0 ∨ k = 3 ∨ k = 4 ∨ k = 5)) (fun v _ => ∃ t, v = .int (priceF k high middle low same) t) := by
  w_top off
  k_with_none
  k_with "eval Call" => (k_here; k_fold)
  k_with "eval BinOp" => (k_here; k_fold)
  k_with "eval Compare" => (k_here; k_fold)
  k_with "subscriptTail Name Name ref int" => (k_here; (rename Heap.DictOf _ _ _ _ => hdct); (rename Fr _ _ _ _ => F'); k_dflt (refine tail_dict (hdct.keep F'.keep) (by assumption) ?_ (by with_unfolding_all rfl)))
  intro dp un fr gd s Q E O hP hdp hun hQ
  have hfill : (fun (_ : OpenLaw) (_ : Params → Frag) => True) PySem.Challenge.rw_wu0005_01 hd.heap_39 := by k_fill; trivial
  clear hfill
  obtain ⟨X, mean, mg, mb, T⟩ := O
  k_dflt (refine' enter X T.nolimit ?c1 ?c2 ?c3 ?c4 ?c5 ?_ ?c6 ?c7 ?c8 ?c9)
  case c1 => (dsimp only [Aw]; omega)
  case c2 => k_is
  case c3 => k_is
  case c4 => exact BindsTo.of_eq rfl
  case c5 => exact locs rfl
  case c6 => exact rfl
  case c7 => exact rfl
  case c8 => exact rfl
  case c9 => decide
  intro L h₁ F N
  (try dsimp only); (try k_fold)
  have hob := hP.1.at hP.2
  obtain ⟨kvs, t', hd, hv⟩ := hob
  k_steps
  all_goals ((rename Fr _ _ _ _ => F'); exact hQ _ _ _ F'.keep ⟨_, rfl⟩)
end
end Mine

namespace Mine
def vw (g : Int) (j : Nat) : Int := [g.fdiv 100, g, g.fdiv 10].getD j 0
def bw (g : Int) (j : Nat) : Bool := vw g j != 0
theorem fd_small {g : Int} (h0 : 0 ≤ g) : 0 ≤ g.fdiv 100 ∧ g.fdiv 100 ≤ g ∧ 0 ≤ g.fdiv 10 ∧ g.fdiv 10 ≤ g := by
  rw [Int.fdiv_eq_ediv_of_nonneg _ (by decide), Int.fdiv_eq_ediv_of_nonneg _ (by decide)]; omega
theorem nums_w (g : Int) (n : Nat) (hn : n = 3 ∨ n = 4) : nums (vw g) (bw g) 0 n = ([g.fdiv 100, g, g.fdiv 10].filter fun x => x != 0) := by
  have e : ∀ n, n = 3 ∨ n = 4 → nums (vw g) (bw g) 0 n = ([g.fdiv 100, g, g.fdiv 10].filter fun x => x != 0) := by
    rintro n (rfl | rfl)
    · show ((List.filter (bw g) [0, 1, 2]).map (vw g)) = _
      simp only [List.filter_cons, List.filter_nil]
      have h0 : bw g 0 = (g.fdiv 100 != 0) := rfl
      have h1 : bw g 1 = (g != 0) := rfl
      have h2 : bw g 2 = (g.fdiv 10 != 0) := rfl
      rw [h0, h1, h2]
      cases (g.fdiv 100 != 0) <;> cases (g != 0) <;> cases (g.fdiv 10 != 0) <;> rfl
    · show ((List.filter (bw g) [0, 1, 2, 3]).map (vw g)) = _
      simp only [List.filter_cons, List.filter_nil]
      have h0 : bw g 0 = (g.fdiv 100 != 0) := rfl
      have h1 : bw g 1 = (g != 0) := rfl
      have h2 : bw g 2 = (g.fdiv 10 != 0) := rfl
      have h3 : bw g 3 = false := rfl
      rw [h0, h1, h2, h3]
      cases (g.fdiv 100 != 0) <;> cases (g != 0) <;> cases (g.fdiv 10 != 0) <;> rfl
  exact e n hn
theorem best_w (g : Int) (h0 : 0 ≤ g) (n : Nat) (hn : n = 3 ∨ n = 4) : bestF none (nums (vw g) (bw g) 0 n) = if g = 0 then none else some g := by
  rw [nums_w g n hn]
  have hob := fd_small h0
  obtain ⟨a0, a1, b0, b1⟩ := hob
  by_cases hg : g = 0
  · subst hg; rfl
  · rw [if_neg hg]
    generalize g.fdiv 100 = a at *
    generalize g.fdiv 10 = b at *
    have hg' : (g != 0) = true := by simp [hg]
    simp only [List.filter_cons, List.filter_nil, hg', if_true]
    have hbg : ¬ b > g := by omega
    have hmx : (if g > a then g else a) = g := by split <;> omega
    by_cases ha : a = 0
    · by_cases hb : b = 0
      · subst ha hb; rfl
      · subst ha
        have : (b != 0) = true := by simp [hb]
        rw [this]
        show some (if b > g then b else g) = some g
        rw [if_neg hbg]
    · have hA : (a != 0) = true := by simp [ha]
      rw [hA]
      by_cases hb : b = 0
      · subst hb
        show some (if g > a then g else a) = some g
        rw [hmx]
      · have : (b != 0) = true := by simp [hb]
        rw [this]
        show some (if b > (if g > a then g else a) then b else (if g > a then g else a)) = some g
        rw [hmx, if_neg hbg]
theorem gap_tru {g : Int} {b : Bool} {kvs : List (Int × Value)} (h : gapVals g b kvs) : (kvs.length = 3 ∨ kvs.length = 4) ∧ (∀ j k v, kvs[j]? = some (k, v) → TruV v (bw g j)) ∧ (∀ j k v, kvs[j]? = some (k, v) → bw g j = true → ∃ t, v = .int (vw g j) t) := by
  obtain ⟨t₀, t₁, t₂, e⟩ := h
  have key : ∀ j k v, kvs[j]? = some (k, v) → (kvs.map (·.2))[j]? = some v := fun j k v hx => by rw [List.getElem?_map, hx]; rfl
  rw [e] at key
  refine ⟨?_, fun j k v hx => ?_, fun j k v hx hb => ?_⟩
  · have : kvs.length = (kvs.map (·.2)).length := by rw [List.length_map]
    rw [this, e]
    cases b <;> simp
  · have hx := key j k v hx
    match j with
    | 0 => cases hx; exact .inl ⟨_, _, rfl, rfl⟩
    | 1 => cases hx; exact .inl ⟨_, _, rfl, rfl⟩
    | 2 => cases hx; exact .inl ⟨_, _, rfl, rfl⟩
    | 3 => cases b <;> cases hx; exact .inr ⟨rfl, rfl⟩
    | j + 4 => cases b <;> cases hx
  · have hx := key j k v hx
    match j with
    | 0 => cases hx; exact ⟨_, rfl⟩
    | 1 => cases hx; exact ⟨_, rfl⟩
    | 2 => cases hx; exact ⟨_, rfl⟩
    | 3 => cases hb
    | j + 4 => cases b <;> cases hx
theorem gap_none {g : Int} {b : Bool} {kvs : List (Int × Value)} (h : gapVals g b kvs) : (∀ j k v, kvs[j]? = some (k, v) → (∃ n t, v = .int n t ∧ (j == 3) = false) ∨ (v = .none ∧ (j == 3) = true)) ∧ ((List.range' 0 (kvs.length - 0)).any fun j => j == 3) = b := by
  obtain ⟨t₀, t₁, t₂, e⟩ := h
  have key : ∀ j k v, kvs[j]? = some (k, v) → (kvs.map (·.2))[j]? = some v := fun j k v hx => by rw [List.getElem?_map, hx]; rfl
  rw [e] at key
  refine ⟨fun j k v hx => ?_, ?_⟩
  · have hx := key j k v hx
    match j with
    | 0 => cases hx; exact .inl ⟨_, _, rfl, rfl⟩
    | 1 => cases hx; exact .inl ⟨_, _, rfl, rfl⟩
    | 2 => cases hx; exact .inl ⟨_, _, rfl, rfl⟩
    | 3 => cases b <;> cases hx; exact .inr ⟨rfl, rfl⟩
    | j + 4 => cases b <;> cases hx
  · have hl : kvs.length = (kvs.map (·.2)).length := by rw [List.length_map]
    rw [hl, e]
    cases b <;> rfl
theorem len_int {g : Int} (h0 : 0 ≤ g) {k : Nat} (hk : 0 < k) : (Str.ofString (toString g)).length ≤ k ↔ g < ((10 ^ k : Nat) : Int) := by
  have hob := Int.eq_ofNat_of_zero_le h0
  obtain ⟨n, rfl⟩ := hob
  rw [PySem.ofString_length, show toString ((n : Nat) : Int) = n.repr from rfl, Nat.length_repr_le_iff hk]
  omega
theorem len_w {g : Int} (h0 : 0 ≤ g) (h1 : g < 100000) : (g < 1000 → (Str.ofString (toString g)).length ≤ 3) ∧ (1000 ≤ g → g < 10000 → (Str.ofString (toString g)).length = 4) ∧ (10000 ≤ g → (Str.ofString (toString g)).length = 5) := by
  have h3 := len_int h0 (k := 3) (by decide)
  have h4 := len_int h0 (k := 4) (by decide)
  have h5 := len_int h0 (k := 5) (by decide)
  simp only [show (10 ^ 3 : Nat) = 1000 from rfl, show (10 ^ 4 : Nat) = 10000 from rfl, show (10 ^ 5 : Nat) = 100000 from rfl] at h3 h4 h5
  omega
theorem width_eq {g : Int} {n : Nat} {b : Bool} (hg : ¬ g = 0) (hl : (g < 1000 → n ≤ 3) ∧ (1000 ≤ g → g < 10000 → n = 4) ∧ (10000 ≤ g → n = 5)) :
    ((if (n : Int) > 3 then (n : Int) else 3) < 4 → b = true → 4 = widthF g b) ∧ ((if (n : Int) > 3 then (n : Int) else 3) < 4 → b = false → (if (n : Int) > 3 then (n : Int) else 3) = widthF g b) ∧ (¬ (if (n : Int) > 3 then (n : Int) else 3) < 4 → (if (n : Int) > 3 then (n : Int) else 3) = widthF g b) := by
  unfold widthF
  rw [if_neg hg]
  obtain ⟨l3, l4, l5⟩ := hl
  by_cases h3 : g < 1000
  · have := l3 h3
    rw [if_pos h3, if_neg (show ¬ ((n : Int) > 3) by omega)]
    refine ⟨fun _ hb => ?_, fun _ hb => ?_, fun h => absurd h (by decide)⟩ <;> rw [hb] <;> rfl
  · rw [if_neg h3]
    by_cases h4 : g < 10000
    · have := l4 (by omega) h4
      subst this
      rw [if_pos h4]
      refine ⟨fun h => absurd h (by decide), fun h => absurd h (by decide), fun _ => rfl⟩
    · have := l5 (by omega)
      subst this
      rw [if_neg h4]
      refine ⟨fun h => absurd h (by decide), fun h => absurd h (by decide), fun _ => rfl⟩
theorem c_width (w : World) (d : Addr) (g : Int) (b : Bool) : CallP w 3 21 [.ref d] (fun h => GapTab w h d g b ∧ (d == sysModules) = false ∧ 0 ≤ g ∧ g < 100000) (fun v _ => ∃ t, v = .int (widthF g b) t) := by
  w_top off
  k_with_none
  k_with "eval Call" => (k_here; k_fold)
  k_with "eval BinOp" => (k_here; k_fold)
  k_with "eval Compare" => (k_here; k_fold)
  k_with "getMethod ref" => (k_here; (with_reducible show wpAny _ _ (getMethod (Value.ref _) (Str.ofString "values") _) _ _ _); (rename Heap.DictOf _ _ _ _ => hD'); (rename Fr _ _ _ _ => F'); k_dflt (refine k_valmeth (hD'.keep F'.keep) ?_))
  k_with "call builtin:dict.values" => (k_here; (rename Heap.DictOf _ _ _ _ => hD'); (rename Fr _ _ _ _ => F'); (rename News _ _ _ _ => N'); k_dflt (refine k_values F' N' (hD'.keep F'.keep) (by assumption) ?_); clear F' N'; intro v' h' F' N' hV' st')
  k_with "call type:filter" => (k_here; (rename Heap.DictAt _ _ _ _ _ => hA'); (rename Heap.IsValuesView _ _ _ => hV'); (rename Fr _ _ _ _ => F'); (rename News _ _ _ _ => N'); k_dflt (refine k_filter F' N' hV' (hA'.keep F'.keep) ?_); clear F' N'; intro f' it' h' F' N' hf' hi' ne' st')
  k_with "compareOp In none ref" => (k_here; (rename Heap.DictAt _ _ _ _ _ => hA'); (rename Heap.IsValuesView _ _ _ => hV'); (rename Fr _ _ _ _ => F'); (rename News _ _ _ _ => N'); (rename _ ∧ _ = _ => hgn'); k_dflt (refine k_in_none F' N' rfl hV' (hA'.keep F'.keep) hgn'.1 ?_); clear F' N'; intro h' tk' F' N'; rw [hgn'.2])
  intro dp un fr gd s Q E O hP hdp hun hQ
  have hfill : (fun (_ : OpenLaw) (_ : Params → Frag) => True) PySem.Challenge.rw_wu0005_01 hd.heap_39 := by k_fill; trivial
  clear hfill
  obtain ⟨X, mean, mg, mb, T⟩ := O
  k_dflt (refine' enter X T.nolimit ?c1 ?c2 ?c3 ?c4 ?c5 ?_ ?c6 ?c7 ?c8 ?c9)
  case c1 => (dsimp only [Aw]; omega)
  case c2 => k_is
  case c3 => k_is
  case c4 => exact BindsTo.of_eq rfl
  case c5 => exact locs rfl
  case c6 => exact rfl
  case c7 => exact rfl
  case c8 => exact rfl
  case c9 => decide
  intro L h₁ F N
  (try dsimp only); (try k_fold)
  obtain ⟨⟨kvs, hD, hgv⟩, lo, hg0, hg1⟩ := hP
  have hob := hD.dictAt
  obtain ⟨ep, hA⟩ := hob
  have hob := gap_tru hgv
  obtain ⟨hn, hb, hv⟩ := hob
  have hgn := gap_none hgv
  have hlw := len_w hg0 hg1
  k_steps
  (rename Fr _ _ _ _ => F'); (rename News _ _ _ _ => N'); rename IsFilt _ _ _ => hf; rename Heap.IsValIter _ _ _ _ _ _ => hi; rename _ ≠ _ ∧ _ => ne; rename Heap.DictAt _ _ _ _ _ => hA
  with_unfolding_all refine k_max F' N' rfl ne hb hv hf hi (hA.keep F'.keep) ?_
  clear F' N'
  intro h' tk v F' N' hbest
  rw [best_w g hg0 _ hn] at hbest
  by_cases hg : g = 0
  · rw [if_pos hg] at hbest
    have hbest : v = _ := hbest
    subst hbest
    k_steps
    all_goals ((rename Fr _ _ _ _ => F'); exact hQ _ _ _ F'.keep ⟨_, by rw [widthF, if_pos hg]⟩)
  · rw [if_neg hg] at hbest
    obtain ⟨t, rfl⟩ : ∃ t, v = .int g t := hbest
    have hgp : 0 < g := by omega
    have hw := width_eq (b := b) hg hlw
    k_steps
    · exfalso; omega
    · (rename Fr _ _ _ _ => F'); rename b = true => hbt; rename _ < _ => hlt
      exact hQ _ _ _ F'.keep ⟨_, congrArg (Value.int · _) (hw.1 hlt hbt)⟩
    · (rename Fr _ _ _ _ => F'); rename b = false => hbt; rename _ < _ => hlt
      exact hQ _ _ _ F'.keep ⟨_, congrArg (Value.int · _) (hw.2.1 hlt hbt)⟩
    · (rename Fr _ _ _ _ => F'); rename ¬ _ < _ => hlt
      exact hQ _ _ _ F'.keep ⟨_, congrArg (Value.int · _) (hw.2.2 hlt)⟩
end Mine

namespace Mine
def turnF (one other : Int) : Int := b2i (decide ((wordF other).cps.toList < (wordF one).cps.toList)) - b2i (decide ((wordF one).cps.toList < (wordF other).cps.toList))
def gapF (one other : Int) : Int := turnF one other * (lineF one - lineF other)
theorem gap_all : ∀ i j : Fin 64, 0 ≤ gapF ((i.1 : Nat) : Int) ((j.1 : Nat) : Int) ∧ gapF ((i.1 : Nat) : Int) ((j.1 : Nat) : Int) < 100000 := by decide +kernel
theorem gap_bd {one other : Int} (h0 : 0 ≤ one) (h1 : one < 64) (h2 : 0 ≤ other) (h3 : other < 64) : 0 ≤ gapF one other ∧ gapF one other < 100000 := by
  have hob := Int.eq_ofNat_of_zero_le h0
  obtain ⟨n, rfl⟩ := hob
  have hob := Int.eq_ofNat_of_zero_le h2
  obtain ⟨m, rfl⟩ := hob
  exact gap_all ⟨n, by omega⟩ ⟨m, by omega⟩
theorem width_in (g : Int) (b : Bool) : widthF g b = 0 ∨ widthF g b = 3 ∨ widthF g b = 4 ∨ widthF g b = 5 := by unfold widthF; split <;> (try split) <;> (try split) <;> simp
theorem width_if (c : Prop) [Decidable c] (g : Int) (b : Bool) : (if c then 0 else widthF g b) = 0 ∨ (if c then 0 else widthF g b) = 3 ∨ (if c then 0 else widthF g b) = 4 ∨ (if c then 0 else widthF g b) = 5 := by
  split
  · exact .inl rfl
  · exact width_in g b
theorem mok_s {p x : Int} (h0 : -100000 ≤ p) (h1 : p ≤ 100000) : IntMulOk p x := .of_left (intBits_le_64 (by omega) (by omega))
theorem mok_r {p x : Int} (h0 : -100000 ≤ p) (h1 : p ≤ 100000) : IntMulOk x p := .of_right (intBits_le_64 (by omega) (by omega))
theorem b2i_two (a : Bool) : 0 ≤ b2i a ∧ b2i a ≤ 1 := by cases a <;> decide
theorem mok_b (a b : Bool) (x : Int) : IntMulOk (b2i a - b2i b) x := mok_s (by have := b2i_two a; have := b2i_two b; omega) (by have := b2i_two a; have := b2i_two b; omega)
theorem mok_c (a b c d : Bool) (x : Int) : IntMulOk x ((b2i a - b2i b) + (1 - (b2i c - b2i d) * (b2i c - b2i d))) := by
  have h : -2 ≤ ((b2i a - b2i b) + (1 - (b2i c - b2i d) * (b2i c - b2i d))) ∧ ((b2i a - b2i b) + (1 - (b2i c - b2i d) * (b2i c - b2i d))) ≤ 2 := by cases a <;> cases b <;> cases c <;> cases d <;> decide
  exact mok_r (by omega) (by omega)
theorem join_lines {M : Model} {A : Around} {E : Value → Shared → Prop} {s : Shared} {h₀ : Heap} {L d : Addr} {o : Obj} {m : Str → Option Value} {st : Stmt} {env : Env} {news : List (Addr × Obj)} {Q : Flow → Shared → Prop} (x : Str) (c : Prop)
    (F : Fr h₀ L s.heap m) (N : News h₀ L s.heap ((d, o) :: news))
    (h1 : wpAny M A (exec st env) (fun fl s₁ => Stop (fl = .next ∧ ∃ h tk v, s₁ = { s with heap := h, toks := tk } ∧ Fr h₀ L h (fun y => if y = x then some v else m y) ∧ News h₀ L h ((d, o) :: news) ∧ ((c ∧ v = .none) ∨ (¬ c ∧ v = .ref d)))) E s)
    (h2 : ∀ h tk v, Fr h₀ L h (fun y => if y = x then some v else m y) → News h₀ L h ((d, o) :: news) → ((c ∧ v = .none) ∨ (¬ c ∧ v = .ref d)) → Q .next { s with heap := h, toks := tk }) : wpAny M A (exec st env) Q E s :=
  join_name x _ F N h1 h2
theorem c_widthA (w : World) (v : Value) (g : Int) (b : Bool) (c : Prop) [Decidable c] : CallP w 3 21 [v] (fun h => ((c ∧ v = .none) ∨ (¬ c ∧ ∃ d, v = .ref d ∧ GapTab w h d g b ∧ (d == sysModules) = false)) ∧ 0 ≤ g ∧ g < 100000) (fun v _ => ∃ t, v = .int (if c then 0 else widthF g b) t) := by
  intro dp un fr gd s Q E O hP hdp hun hQ
  obtain ⟨⟨hc, rfl⟩ | ⟨hc, d, rfl, hg, hlo⟩, hb⟩ := hP
  · exact c_width0 w dp un fr gd s Q E O trivial hdp hun (by simpa only [if_pos hc] using hQ)
  · exact c_width w d g b dp un fr gd s Q E O ⟨hg, hlo, hb⟩ hdp hun (by simpa only [if_neg hc] using hQ)
def placeF (a b c : Bool) : Int := if a then 0 else if b then 1 else if c then 2 else 3
theorem place_bd (a b c : Bool) : 0 ≤ placeF a b c ∧ placeF a b c ≤ 3 := by cases a <;> cases b <;> cases c <;> decide
theorem c_indexA (w : World) (l : Addr) (a b c : Bool) : CallP w 3 91 [.ref l, .bool true] (fun h => h.PlainList l #[.bool a, .bool b, .bool c, .bool true]) (fun v _ => ∃ t, v = .int (placeF a b c) t) := c_index w l a b c
def Small (x : Int) : Prop := -1000 ≤ x ∧ x ≤ 1000
theorem price_bd (k : Int) {high middle low same : Int} (h1 : Small high) (h2 : Small middle) (h3 : Small low) (h4 : Small same) : -100000 ≤ priceF k high middle low same ∧ priceF k high middle low same ≤ 100000 := by
  unfold Small at h1 h2 h3 h4
  unfold priceF
  split <;> (try split) <;> (try split) <;> omega
def signAt (a b : Int) (k : Int) : Bool := Txt.item (wordF a) k != Txt.item (wordF b) k
def partF (a b : Int) : Int := placeF (signAt a b ((0 : Nat) : Int)) (signAt a b ((1 : Nat) : Int)) (signAt a b ((2 : Nat) : Int))
def aliF (one other : Int) : Int := 1 - turnF one other * turnF one other
def prcF (one other high middle low same : Int) (bare : Bool) : Int := priceF (if one = other ∧ one.fmod 2 = 1 then 0 else widthF (gapF one other) (!bare)) high middle low same
def cstF (one other : Int) : Int := costF (Txt.item (wordF one ++ Str.ofString ".") (partF one other)) (Txt.item (wordF other ++ Str.ofString ".") (partF one other))
def entryF (one other high middle low same : Int) (bare : Bool) : Int :=
  prcF one other high middle low same bare * (cstF one other + aliF one other) * (turnF other one + aliF one other)
theorem c_entry (w : World) (one other : Int) (t u : Tok) (p : Addr) (bare : Bool) (high middle low same : Int) : CallP w 12 122 [.int one t, .int other u, .ref p, .bool bare]
    (fun h => (0 ≤ one ∧ one < 64) ∧ (0 ≤ other ∧ other < 64) ∧ PriceTab w h p high middle low same ∧ Small high ∧ Small middle ∧ Small low ∧ Small same) (fun v _ => ∃ t, v = .int (entryF one other high middle low same bare) t) := by
  w_top off
  k_with_none
  k_with "eval Call" => (k_here; k_fold)
  k_with "eval BinOp" => (k_here; k_fold)
  k_with "eval Compare" => (k_here; k_fold)
  k_with "mine use" => ((case F => k_asm); (case N => k_asm); (case X => assumption); (case T => assumption); (case D => (try simp only [Aw, depth_under_make, depth_under_kw, depth_in1, depth_deeper, depth_caller]); omega); (case U => (try simp only [Aw, units_in1, units_deeper, Around.mark_units, units_caller]); omega); intro v' h' tk' F' N' st' r'; obtain ⟨t', e'⟩ := r'; subst e')
  k_with "call ref" => (k_here; (with_reducible show wpAny _ _ (call (.ref 110) [.int _ _]) _ _ _); k_dflt (refine' CallP.use (c_word _ _ _) ?F ?N ?X ?T ?P ?D ?U ?_); (case P => (constructor <;> omega)); walk_at "mine use")
  k_with "call ref" => (k_here; (with_reducible show wpAny _ _ (call (.ref 117) [.int _ _]) _ _ _); k_dflt (refine' CallP.use (c_line _ _ _) ?F ?N ?X ?T ?P ?D ?U ?_); (case P => (constructor <;> omega)); walk_at "mine use")
  k_with "call ref" => (k_here; (with_reducible show wpAny _ _ (call (.ref 35) [.str _ _]) _ _ _); k_dflt (refine' CallP.use (c_xfrm _ _ _) ?F ?N ?X ?T ?P ?D ?U ?_); (case P => trivial); walk_at "mine use")
  k_with "call ref" => (k_here; (with_reducible show wpAny _ _ (call (.ref 56) [.str _ _, .str _ _]) _ _ _); k_dflt (refine' CallP.use (c_gt _ _ _ _ _) ?F ?N ?X ?T ?P ?D ?U ?_); (case P => trivial); walk_at "mine use")
  k_with "call ref" => (k_here; (with_reducible show wpAny _ _ (call (.ref 42) [.str _ _, .str _ _]) _ _ _); k_dflt (refine' CallP.use (c_lt _ _ _ _ _) ?F ?N ?X ?T ?P ?D ?U ?_); (case P => trivial); walk_at "mine use")
  k_with "call ref" => (k_here; (with_reducible show wpAny _ _ (call (.ref 49) [.str _ _, .str _ _]) _ _ _); k_dflt (refine' CallP.use (c_ne _ _ _ _ _) ?F ?N ?X ?T ?P ?D ?U ?_); (case P => trivial); walk_at "mine use")
  k_with "call ref" => (k_here; (with_reducible show wpAny _ _ (call (.ref 28) [.str _ _, .str _ _]) _ _ _); k_dflt (refine' CallP.use (c_coll _ _ _ _ _) ?F ?N ?X ?T ?P ?D ?U ?_); (case P => trivial); walk_at "mine use")
  k_with "call ref" => (k_here; (with_reducible show wpAny _ _ (call (.ref 77) [.bool _, .bool _]) _ _ _); k_dflt (refine' CallP.use (c_subb _ _ _) ?F ?N ?X ?T ?P ?D ?U ?_); (case P => trivial); walk_at "mine use")
  k_with "call ref" => (k_here; (with_reducible show wpAny _ _ (call (.ref 77) [.int _ _, .int _ _]) _ _ _); k_dflt (refine' CallP.use (c_sub _ _ _ _ _) ?F ?N ?X ?T ?P ?D ?U ?_); (case P => trivial); walk_at "mine use")
  k_with "call ref" => (k_here; (with_reducible show wpAny _ _ (call (.ref 63) [.int _ _, .int _ _]) _ _ _); k_dflt (refine' CallP.use (c_add _ _ _ _ _) ?F ?N ?X ?T ?P ?D ?U ?_); (case P => trivial); walk_at "mine use")
  k_with "call ref" => (k_here; (with_reducible show wpAny _ _ (call (.ref 70) [.int _ _, .int _ _]) _ _ _); k_dflt (refine' CallP.use (c_mul _ _ _ _ _) ?F ?N ?X ?T ?P ?D ?U ?_); (case P => first | exact mok_b _ _ _ | exact mok_c _ _ _ _ _ | exact mok_s (by assumption) (by assumption)); walk_at "mine use")
  k_with "call ref" => (k_here; (with_reducible show wpAny _ _ (call (.ref 84) [.ref _, .int _ _]) _ _ _); (rename PriceTab _ _ _ _ _ _ _ => pt'); (rename Fr _ _ _ _ => F'); k_dflt (refine' CallP.use (c_getitem _ _ _ _ _ _ _ _) ?F ?N ?X ?T (by exact ⟨pt'.keep F'.keep, by exact width_if _ _ _⟩) ?D ?U ?_); walk_at "mine use")
  k_with "exec If" => (k_here; (with_reducible show wpAny _ _ (exec (.If _ _ _ _) _) _ _ _); (rename Mark => hmk'); clear hmk'; refine Stop.go ?_)
  k_with "eval ListComp" => (k_here; k_dflt (refine comp_U (F₀ := by k_asm) (by with_unfolding_all rfl) (by decide) (by rfl) (by decide) (by rfl) ?_))
  k_with "call ref" => (k_here; (with_reducible show wpAny _ _ (call (.ref 98) [.str _ _, .str _ _]) _ _ _); k_dflt (refine' CallP.use (c_subst _ _ _ _ _) ?F ?N ?X ?T (by exact ⟨by rw [len_item]; decide, by rw [len_item]; decide⟩) ?D ?U ?_); walk_at "mine use")
  intro dp un fr gd s Q E O hP hdp hun hQ
  have hfill : (fun (_ : OpenLaw) (_ : Params → Frag) => True) PySem.Challenge.rw_wu0005_01 hd.heap_39 := by k_fill; trivial
  clear hfill
  obtain ⟨X, mean, mg, mb, T⟩ := O
  k_dflt (refine' enterC X T.nolimit ?c1 ?c2 ?c3 ?c4 ?c5 ?c10 ?_ ?c6 ?c7 ?c8)
  case c1 => (dsimp only [Aw]; omega)
  case c2 => k_is
  case c3 => k_is
  case c4 => exact BindsTo.of_eq rfl
  case c5 => exact rfl
  case c6 => exact rfl
  case c7 => exact rfl
  case c8 => exact rfl
  case c10 => decide
  intro L h₁ tk cells F N Y
  k_cells Y
  (try simp only [List.cons_append, List.nil_append] at N)
  (try dsimp only); (try k_fold)
  obtain ⟨⟨hP0, hP1⟩, ⟨hP2, hP3⟩, hP4, hS1, hS2, hS3, hS4⟩ := hP
  have hob := price_bd (if one = other ∧ one.fmod 2 = 1 then 0 else widthF (gapF one other) (!bare)) hS1 hS2 hS3 hS4
  obtain ⟨hq0, hq1⟩ := hob
  have hg := gap_bd hP0 hP1 hP2 hP3
  have mk1 := Mark.mk
  have mk2 := Mark.mk
  k_steps
  (rename Fr _ _ _ _ => F'); (rename News _ _ _ _ => N'); rename Obj.IsDictOf _ _ _ => hdo; rename (_ == sysModules) = false => hlo
  refine join_dict (fun o => ∃ kvs, o.IsDictOf (intKind PySem.Challenge.rw_wu0005_01.row.prog w) kvs ∧ gapVals (gapF one other) (!bare) kvs) F' N' ?_ ?_
  · clear mk1
    (try dsimp only); (try k_fold)
    k_steps
    · rename bare = true => hb
      (rename Fr _ _ _ _ => F'); (rename News _ _ _ _ => N'); rename Obj.IsDictOf _ _ _ => hdo'
      subst hb
      exact ⟨rfl, _, _, _, rfl, F', N', _, hdo', _, _, _, rfl⟩
    · rename bare = false => hb
      (rename Fr _ _ _ _ => F'); (rename News _ _ _ _ => N'); rename Obj.IsDictOf _ _ _ => hdo'
      subst hb
      exact ⟨rfl, _, _, _, rfl, F', N', _, hdo', _, _, _, rfl⟩
  intro h tk o F' N' hG
  k_steps
  (rename Fr _ _ _ _ => F'); (rename News _ _ _ _ => N')
  obtain ⟨kvs, hdo, hgv⟩ := hG
  refine join_lines (Str.ofString "lines") (one = other ∧ one.fmod 2 = 1) F' N' ?_ ?_
  · (try dsimp only); (try k_fold)
    k_steps
    · (rename Fr _ _ _ _ => F'); (rename News _ _ _ _ => N')
      exact ⟨rfl, _, _, _, rfl, F', N', .inl ⟨⟨by assumption, by assumption⟩, rfl⟩⟩
    · (rename Fr _ _ _ _ => F'); (rename News _ _ _ _ => N')
      exact ⟨rfl, _, _, _, rfl, Fr.same F' (by with_unfolding_all rfl), N', .inr ⟨fun q => absurd q.2 (by assumption), rfl⟩⟩
    · (rename Fr _ _ _ _ => F'); (rename News _ _ _ _ => N')
      exact ⟨rfl, _, _, _, rfl, Fr.same F' (by with_unfolding_all rfl), N', .inr ⟨fun q => absurd q.1 (by assumption), rfl⟩⟩
  intro h tk v F' N' hv
  k_steps
  (rename Fr _ _ _ _ => F'); (rename News _ _ _ _ => N')
  k_dflt (refine' CallP.use (c_widthA w v (gapF one other) (!bare) (one = other ∧ one.fmod 2 = 1)) ?F ?N ?X ?T (by exact ⟨hv.imp id (fun q => ⟨q.1, _, q.2, ⟨kvs, Heap.dictOf_iff.mpr ⟨_, (N' _ (.head _)).1, hdo⟩, hgv⟩, hlo⟩), hg⟩) ?D ?U ?_)
  walk_at "mine use"
  have hw1 : (wordF one).length = 3 := rfl
  have hw2 : (wordF other).length = 3 := rfl
  k_steps
  unfold Stop
  (rename Fr _ _ _ _ => F'); (rename News _ _ _ _ => N'); rename IsRange _ _ _ _ _ _ _ _ => hr
  refine LCg.CompSrc.range rfl F' N' hr (by decide) (n := 3) rfl (by decide) fun g => rest_gen (fun i y => y = .bool (Txt.item (wordF one) i != Txt.item (wordF other) i)) trivial ?_ ?_
  · clear F' N'
    rintro i v' I oI C oC D m₂ ys h tk E' hi ⟨t', rfl⟩ hC hx F' N' off ne S
    have h0 : (0 : Int) + (i : Int) = (i : Int) := Int.zero_add _
    rw [h0] at hx
    have hi' : (i : Int) < 3 := by omega
    have hi0 : (0 : Int) ≤ i := by omega
    (try dsimp only); (try k_fold)
    k_steps
    (rename Fr _ _ _ _ => F'); (rename News _ _ _ _ => N')
    exact LCg.CompEnd.intro F' N' _ (fun _ h => h) off S ⟨rfl, rfl⟩
  intro ys hl hy
  have hob := len3 hl
  obtain ⟨y0, y1, y2, rfl⟩ := hob
  clear hl
  have e0 := hy 0 y0 rfl
  have e1 := hy 1 y1 rfl
  have e2 := hy 2 y2 rfl
  subst e0 e1 e2
  intro D h tk F' N' off
  (try dsimp only); (try k_fold)
  have hf1 : (wordF one ++ Str.ofString ".").length = 4 := rfl
  have hf2 : (wordF other ++ Str.ofString ".").length = 4 := rfl
  k_steps
  (rename Fr _ _ _ _ => F'); (rename News _ _ _ _ => N')
  have hpl := place_bd (Txt.item (wordF one) ((0 : Nat) : Int) != Txt.item (wordF other) ((0 : Nat) : Int)) (Txt.item (wordF one) ((1 : Nat) : Int) != Txt.item (wordF other) ((1 : Nat) : Int)) (Txt.item (wordF one) ((2 : Nat) : Int) != Txt.item (wordF other) ((2 : Nat) : Int))
  k_dflt (refine' CallP.use (c_indexA w _ _ _ _) F' N' X T (by exact ⟨_, (N' _ (.head _)).1⟩) ?D ?U ?_)
  case D => (try simp only [Aw, depth_under_make, depth_under_kw, depth_in1, depth_deeper, depth_caller]); omega
  case U => (try simp only [Aw, units_in1, units_deeper, Around.mark_units, units_caller]); omega
  clear F' N'
  intro v' h' tk' F' N' st' r'
  obtain ⟨t', rfl⟩ := r'
  k_steps
  (rename Fr _ _ _ _ => F')
  exact hQ _ _ _ F'.keep ⟨_, rfl⟩
end Mine

namespace Mine
def In64 (v : Int) : Prop := 0 ≤ v ∧ v < 64
abbrev RowO := Addr × Array Value × Nat
def rowObjs (R : List RowO) : List (Addr × Obj) := R.map fun r => (r.1, W.listOf r.2.1 r.2.2)
def RowOk (f : Nat → Int) (k n : Nat) (vs : Array Value) : Prop := vs.size = n ∧ ∀ j, k < j → j < n → ∃ t, vs[j]? = some (.int (f j) t)
theorem RowOk.push {f : Nat → Int} {k n : Nat} {vs : Array Value} {t : Tok} (x : RowOk f k n vs) : RowOk f k (n + 1) (vs.push (.int (f n) t)) := by
  obtain ⟨hs, hx⟩ := x
  refine ⟨by rw [Array.size_push, hs], fun j h1 h2 => ?_⟩
  rw [Array.getElem?_push]
  split
  · rename_i e; rw [hs] at e; subst e; exact ⟨t, rfl⟩
  · rename_i e; rw [hs] at e; exact hx j h1 (by omega)
def PushJ (x : Str) (m₀ : Str → Option Value) (D : Addr) (oD : Obj) (row : Addr) (rest : List (Addr × Obj)) (G : Nat → Array Value → Prop) : Nat → (Str → Option Value) → List (Addr × Obj) → Prop :=
  fun i m n => ∃ ov vs c, m = (fun y => if y = x then ov else m₀ y) ∧ n = (D, oD) :: (row, W.listOf vs c) :: rest ∧ G i vs
theorem upd0 (x : Str) (m₀ : Str → Option Value) : m₀ = fun y => if y = x then m₀ x else m₀ y := by
  funext y; split
  · rename_i e; rw [e]
  · rfl
theorem upd2 (x : Str) (m₀ : Str → Option Value) (a b : Option Value) : (fun y => if y = x then a else if y = x then b else m₀ y) = fun y => if y = x then a else m₀ y := by
  funext y; split <;> rfl
theorem PushJ.start {x : Str} {m₀ : Str → Option Value} {D row : Addr} {oD : Obj} {rest : List (Addr × Obj)} {G : Nat → Array Value → Prop} {i : Nat} {vs : Array Value} {c : Nat} (g : G i vs) :
    PushJ x m₀ D oD row rest G i m₀ ((D, oD) :: (row, W.listOf vs c) :: rest) := ⟨_, vs, c, upd0 x m₀, rfl, g⟩
theorem PushJ.next {x : Str} {m₀ : Str → Option Value} {D row : Addr} {oD : Obj} {rest : List (Addr × Obj)} {G : Nat → Array Value → Prop} {i : Nat} {vs : Array Value} {c : Nat} {a b : Option Value} (g : G i vs) :
    PushJ x m₀ D oD row rest G i (fun y => if y = x then a else if y = x then b else m₀ y) ((D, oD) :: (row, W.listOf vs c) :: rest) := ⟨_, vs, c, upd2 x m₀ a b, rfl, g⟩
theorem PushJ.src {x : Str} {m₀ : Str → Option Value} {h₀ : Heap} {D row : Addr} {its : Array Value} {c : Nat} {rest : List (Addr × Obj)} {G : Nat → Array Value → Prop} :
    ∀ i m n, PushJ x m₀ D (W.listOf its c) row rest G i m n → LCg.SrcAt h₀ D its n := by
  rintro i m n ⟨ov, vs, c', rfl, rfl, g⟩
  exact .inr ⟨_, .head _, rfl, _, rfl⟩
def AllNe (I : Addr) : List (Addr × Obj) → Prop
  | [] => True
  | p :: r => @Ne Nat p.1 I ∧ AllNe I r
theorem allNe {I : Addr} : ∀ {l : List (Addr × Obj)}, (∀ p ∈ l, p.1 ≠ I) → AllNe I l
  | [], _ => trivial
  | p :: _, h => ⟨h p (.head _), allNe fun q hq => h q (.tail _ hq)⟩
theorem of_allNe {I : Addr} : ∀ {l : List (Addr × Obj)}, AllNe I l → ∀ p ∈ l, p.1 ≠ I
  | [], _, _, h => absurd h List.not_mem_nil
  | _ :: _, h, q, hq => by
    rcases List.mem_cons.mp hq with rfl | hq
    · exact h.1
    · exact of_allNe h.2 q hq
def keyObj (R : List RowO) (c : Nat) : Obj := W.listOf (R.reverse.map fun r => Value.ref r.1).toArray c
theorem keyObj_push (R : List RowO) (r : RowO) (c : Nat) : W.listOf ((R.reverse.map fun r => Value.ref r.1).toArray.push (.ref r.1)) c = keyObj (r :: R) c := by
  unfold keyObj
  rw [List.push_toArray, List.reverse_cons, List.map_append]
  rfl
theorem same_addr {I a b : Addr} {o₁ o₂ o₃ : Obj} {r : List (Addr × Obj)} (h : AllNe I ((a, o₁) :: (b, o₂) :: r)) : AllNe I ((a, o₁) :: (b, o₃) :: r) := h
theorem RowOk.last {f : Nat → Int} {k : Nat} {vs : Array Value} {t : Tok} (h : RowOk f k 6 vs) : RowOk (fun j => if j = 6 then 1 else f j) k 7 (vs.toList ++ (#[Value.int 1 t] : Array Value).toList).toArray := by
  obtain ⟨hs, hx⟩ := h
  have e : (vs.toList ++ (#[Value.int 1 t] : Array Value).toList).toArray = vs.push (.int 1 t) := by
    rw [← Array.toArray_toList (xs := vs.push (.int 1 t)), Array.toList_push]
  rw [e]
  refine ⟨by rw [Array.size_push, hs], fun j h1 h2 => ?_⟩
  rw [Array.getElem?_push, hs]
  by_cases hj : j = 6
  · subst hj; exact ⟨t, rfl⟩
  · rw [if_neg hj]; simp only [if_neg hj]; exact hx j h1 (by omega)
def tabF (V : List Int) (high middle low same : Int) (bare : Bool) (k j : Nat) : Int := if j = 6 then 1 else entryF (V.getD k 0) (V.getD j 0) high middle low same bare
def RowAt (h : Heap) (r : Addr) (f : Nat → Int) (k : Nat) : Prop := ∃ vs, h.PlainList r vs ∧ RowOk f k 7 vs
def TableAt (h : Heap) (tb : Addr) (f : Nat → Nat → Int) : Prop := ∃ r0 r1 r2 r3 r4 r5, h.PlainList tb #[.ref r0, .ref r1, .ref r2, .ref r3, .ref r4, .ref r5] ∧
  RowAt h r0 (f 0) 0 ∧ RowAt h r1 (f 1) 1 ∧ RowAt h r2 (f 2) 2 ∧ RowAt h r3 (f 3) 3 ∧ RowAt h r4 (f 4) 4 ∧ RowAt h r5 (f 5) 5
theorem TableAt.of {h₀ h : Heap} {L tb r0 r1 r2 r3 r4 r5 : Addr} {c : Nat} {f : Nat → Nat → Int} {news : List (Addr × Obj)} (N : News h₀ L h news) (hm : (tb, W.listOf #[.ref r0, .ref r1, .ref r2, .ref r3, .ref r4, .ref r5] c) ∈ news)
    (h0 : RowAt h r0 (f 0) 0) (h1 : RowAt h r1 (f 1) 1) (h2 : RowAt h r2 (f 2) 2) (h3 : RowAt h r3 (f 3) 3) (h4 : RowAt h r4 (f 4) 4) (h5 : RowAt h r5 (f 5) 5) : TableAt h tb f :=
  ⟨r0, r1, r2, r3, r4, r5, ⟨_, (N _ hm).1⟩, h0, h1, h2, h3, h4, h5⟩
theorem RowAt.of {h₀ h : Heap} {L r : Addr} {vs : Array Value} {c k : Nat} {f : Nat → Int} {news : List (Addr × Obj)} (N : News h₀ L h news) (hm : (r, W.listOf vs c) ∈ news) (x : RowOk f k 7 vs) : RowAt h r f k := ⟨vs, ⟨_, (N _ hm).1⟩, x⟩
def Fresh (B h : Heap) (d : Addr) (o : Obj) : Prop := B.get? d = none ∧ h.get? d = some o
def RowNew (B h : Heap) (r : Addr) (f : Nat → Int) (k : Nat) : Prop := ∃ vs n, Fresh B h r (W.listOf vs n) ∧ RowOk f k 7 vs
def TableNew (B h : Heap) (tb : Addr) (f : Nat → Nat → Int) : Prop := ∃ r0 r1 r2 r3 r4 r5 n, Fresh B h tb (W.listOf #[.ref r0, .ref r1, .ref r2, .ref r3, .ref r4, .ref r5] n) ∧
  RowNew B h r0 (f 0) 0 ∧ RowNew B h r1 (f 1) 1 ∧ RowNew B h r2 (f 2) 2 ∧ RowNew B h r3 (f 3) 3 ∧ RowNew B h r4 (f 4) 4 ∧ RowNew B h r5 (f 5) 5
theorem TableNew.of {B h : Heap} {L tb r0 r1 r2 r3 r4 r5 : Addr} {c : Nat} {f : Nat → Nat → Int} {news : List (Addr × Obj)} (N : News B L h news) (hm : (tb, W.listOf #[.ref r0, .ref r1, .ref r2, .ref r3, .ref r4, .ref r5] c) ∈ news)
    (h0 : RowNew B h r0 (f 0) 0) (h1 : RowNew B h r1 (f 1) 1) (h2 : RowNew B h r2 (f 2) 2) (h3 : RowNew B h r3 (f 3) 3) (h4 : RowNew B h r4 (f 4) 4) (h5 : RowNew B h r5 (f 5) 5) : TableNew B h tb f :=
  ⟨r0, r1, r2, r3, r4, r5, _, ⟨(N _ hm).2.2, (N _ hm).1⟩, h0, h1, h2, h3, h4, h5⟩
theorem RowNew.of {B h : Heap} {L r : Addr} {vs : Array Value} {c k : Nat} {f : Nat → Int} {news : List (Addr × Obj)} (N : News B L h news) (hm : (r, W.listOf vs c) ∈ news) (x : RowOk f k 7 vs) : RowNew B h r f k := ⟨vs, _, ⟨(N _ hm).2.2, (N _ hm).1⟩, x⟩
theorem ints_at {ws : List Value} {ns : List Int} {k : Nat} (h : IntsAre ws ns) (hk : k < ns.length) : ∃ t, ws[k]? = some (.int (ns.getD k 0) t) := by
  have hl := IntsAre.length h
  have hob := h.int_at k ws[k] (List.getElem?_eq_getElem (by omega))
  obtain ⟨t, e⟩ := hob
  exact ⟨t, by rw [List.getElem?_eq_getElem (by omega), e]⟩
theorem upd3 (a b c : Str) (m₀ : Str → Option Value) (x y z x' y' z' : Option Value) :
    (fun q => if q = a then x else if q = b then y else if q = c then z else if q = a then x' else if q = b then y' else if q = c then z' else m₀ q) = fun q => if q = a then x else if q = b then y else if q = c then z else m₀ q := by
  funext q; split
  · rfl
  · split
    · rfl
    · split <;> rfl
theorem upd3₀ (a b c : Str) (m₀ : Str → Option Value) (x : Option Value) : (fun q => if q = a then x else m₀ q) = fun q => if q = a then x else if q = b then m₀ b else if q = c then m₀ c else m₀ q := by
  funext q; split
  · rfl
  · split
    · rename_i e; rw [e]
    · split
      · rename_i e; rw [e]
      · rfl
theorem ne_of_allLt {d : Addr} : ∀ {l : List (Addr × Obj)}, AllLt d l → ∀ p ∈ l, p.1 ≠ d
  | [], _, _, h => absurd h List.not_mem_nil
  | _ :: _, h, q, hq => by
    rcases List.mem_cons.mp hq with rfl | hq
    · exact Nat.ne_of_lt h.1
    · exact ne_of_allLt h.2 q hq
end Mine
local macro_rules | `(tactic| k_all) => `(tactic| (intro p' hp'; (rename (∀ p ∈ Mine.rowObjs _, _) => hlt'); have hq' := hlt' p' hp'; refine neN ?_; omega))
local macro_rules | `(tactic| k_all) => `(tactic| exact Mine.ne_of_allLt (by simp only [*]))
namespace Mine
def TabRows (f : Nat → Nat → Int) : List RowO → Prop
  | [] => True
  | r :: R => RowOk (f R.length) R.length 7 r.2.1 ∧ TabRows f R
def TabJ (f : Nat → Nat → Int) (m₀ : Str → Option Value) (tb : Addr) : Nat → (Str → Option Value) → List (Addr × Obj) → Prop :=
  fun i m n => ∃ (oo orw op : Option Value) (R : List RowO) (c : Nat), m = (fun q => if q = Str.ofString "other" then oo else if q = Str.ofString "row" then orw else if q = Str.ofString "place" then op else m₀ q) ∧
    n = (tb, keyObj R c) :: rowObjs R ∧ R.length = i ∧ TabRows f R ∧ (∀ p ∈ rowObjs R, @LT.lt Nat _ tb p.1)
theorem TabJ.start {f : Nat → Nat → Int} {m₀ : Str → Option Value} {tb : Addr} : TabJ f m₀ tb 0 m₀ [(tb, W.listOf #[] 0)] :=
  ⟨m₀ (Str.ofString "other"), m₀ (Str.ofString "row"), m₀ (Str.ofString "place"), [], 0, by
    funext q; split
    · rename_i e; rw [e]
    · split
      · rename_i e; rw [e]
      · split
        · rename_i e; rw [e]
        · rfl, rfl, rfl, trivial, fun _ h => absurd h List.not_mem_nil⟩
theorem in64_at {V : List Int} {k : Nat} (hin : ∀ x ∈ V, In64 x) (hk : k < V.length) : In64 (V.getD k 0) := by
  rw [List.getD_eq_getElem?_getD, List.getElem?_eq_getElem hk]; exact hin _ (List.getElem_mem _)
theorem drop_at {V : List Int} {i k : Nat} {y : Int} (h6 : V.length = 6) (h : (V.drop (i + 1))[k]? = some y) : y = V.getD (i + 1 + k) 0 ∧ i + 1 + k < 6 := by
  rw [List.getElem?_drop] at h
  have hob := List.getElem?_eq_some_iff.mp h
  obtain ⟨hl, e⟩ := hob
  rw [List.getD_eq_getElem?_getD, h]
  exact ⟨rfl, by omega⟩
theorem News.trimz {h₀ h : Heap} {L : Addr} {a b c : Addr × Obj} {r : List (Addr × Obj)} (N : News h₀ L h (a :: b :: c :: r)) : News h₀ L h (a :: b :: r) := fun p hp => N p (by simp only [List.mem_cons] at hp ⊢; rcases hp with h | h | h <;> simp [h])
theorem TabJ.close {s : Shared} {h₀ h' : Heap} {L : Addr} {tk : Nat} {Qr : Value → Shared → Prop} {Qb : Shared → Prop} {f : Nat → Nat → Int} {m₀ : Str → Option Value} {tb D I : Addr} {oI o : Obj} {p1 p2 p3 : Addr × Obj} {R : List RowO} {arr : Array Value} {i c : Nat} {x y z x' y' z' : Option Value}
    (F : Fr h₀ L h' (fun q => if q = Str.ofString "other" then x else if q = Str.ofString "row" then y else if q = Str.ofString "place" then z else if q = Str.ofString "other" then x' else if q = Str.ofString "row" then y' else if q = Str.ofString "place" then z' else m₀ q))
    (N : News h₀ L h' ((D, W.listOf arr 0) :: p1 :: p2 :: p3 :: (I, oI) :: (tb, W.listOf ((R.reverse.map fun r => Value.ref r.1).toArray.push (.ref D)) c) :: rowObjs R))
    (hl : R.length = i) (hk : RowOk (f i) i 7 arr) (hR : TabRows f R) (hlt : ∀ p ∈ rowObjs R, @LT.lt Nat _ tb p.1) (off : AllNe I ((tb, o) :: rowObjs R)) (hD : @LT.lt Nat _ I D ∧ @LT.lt Nat _ tb D) :
    LoopEnd h₀ L [(I, oI)] (TabJ f m₀ tb (i + 1)) s Qr Qb .next { s with heap := h', toks := tk } := by
  subst hl
  rw [keyObj_push R (D, arr, 0) c] at N
  have hoff : AllNe I ((tb, keyObj ((D, arr, 0) :: R) c) :: rowObjs ((D, arr, 0) :: R)) := ⟨off.1, Nat.ne_of_gt hD.1, off.2⟩
  refine LoopEnd.intro _ F N ?_ ?_ ⟨x, y, z, (D, arr, 0) :: R, c, upd3 _ _ _ _ _ _ _ _ _ _, rfl, rfl, ⟨hk, hR⟩, List.forall_mem_cons.mpr ⟨hD.2, hlt⟩⟩
  · intro p hp
    simp only [rowObjs, List.map_cons, List.cons_append, List.nil_append, List.mem_cons] at hp ⊢
    rcases hp with h | h | h | h <;> simp only [h, true_or, or_true]
  · intro p hp q hq
    rw [List.mem_singleton.mp hq]
    exact of_allNe hoff p hp
theorem c_table (w : World) (B : Heap) (a p : Addr) (bare : Bool) (V : List Int) (ys : List Value) (high middle low same : Int) : CallP w 15 129 [.ref a, .ref p, .bool bare]
    (fun h => h = B ∧ h.PlainList a ys.toArray ∧ IntsAre ys V ∧ V.length = 6 ∧ (∀ x ∈ V, In64 x) ∧ PriceTab w h p high middle low same ∧ Small high ∧ Small middle ∧ Small low ∧ Small same) (fun v h => ∃ tb, v = .ref tb ∧ TableNew B h tb (tabF V high middle low same bare)) := by
  w_top off
  k_with_none
  k_with "eval Call" => (k_here; k_fold)
  k_with "eval BinOp" => (k_here; k_fold)
  k_with "eval Compare" => (k_here; k_fold)
  k_with "mine use" => ((case F => k_asm); (case N => k_asm); (case X => assumption); (case T => assumption); (case D => (try simp only [Aw, depth_under_make, depth_under_kw, depth_in1, depth_deeper, depth_caller]); omega); (case U => (try simp only [Aw, units_in1, units_deeper, Around.mark_units, units_caller]); omega); intro v' h' tk' F' N' st' r'; obtain ⟨t', e'⟩ := r'; subst e')
  k_with "call ref" => (k_here; (with_reducible show wpAny _ _ (call (.ref 122) [.int _ _, .int _ _, .ref _, .bool _]) _ _ _); (rename PriceTab _ _ _ _ _ _ _ => pt'); (rename Fr _ _ _ _ => F'); k_dflt (refine' CallP.use (c_entry _ _ _ _ _ _ _ _ _ _ _) ?F ?N ?X ?T (by exact ⟨by assumption, by assumption, pt'.keep F'.keep, by assumption, by assumption, by assumption, by assumption⟩) ?D ?U ?_); walk_at "mine use")
  k_with "exec For Name Call cons nil" => (k_here; k_dflt (refine For_rng (_F₀ := by k_asm) (by rfl) (by rfl) (by rfl) (by rfl) ?_))
  k_with "exec For Name Subscript" => (k_here; k_dflt (refine For_lst (_F₀ := by k_asm) (by rfl) (by rfl) (by rfl) (by rfl) ?_))
  k_with "binaryOp Add ref ref" => (k_here; k_dflt (refine' kmk_add_lit ?F ?N ?a ?b ?e ?_ ?z; (case F => k_asm); (case N => k_asm); (case a => kmk_list); (case b => kmk_list); (case e => exact rfl); (case z => assumption)); intro D' h' F' N' l1; (try k_lt l1); (try k_sweep))
  k_with "subscriptTail Name Name ref int" => (k_here; (rename Heap.IsList _ _ _ => il'); (rename Fr _ _ _ _ => F'); k_dflt (refine tail_list (stays_list F'.keep il') (by omega) (by omega) (by rw [List.getElem?_toArray]; with_reducible assumption) ?_ (by with_unfolding_all rfl)))
  k_with "binaryOp Mult ref int" => (k_here; (with_reducible show wpAny _ _ (binaryOp Operator.Mult (Value.ref _) (Value.int _ _)) _ _ _); k_dflt (refine' KMa.mul ?mF ?mN ?ml ?mlo ?mhi ?mz ?me ?_; (case mF => k_asm); (case mN => k_asm); (case ml => is_list); (case mlo => omega); (case mhi => omega); (case mz => (simp only [List.length_cons, List.length_nil]; omega)); (case me => exact rfl)); intro D' h' F' N' l1; (try k_lt l1); (try k_sweep))
  k_with "subscriptTail Name Slice ref ref" => (k_here; (with_reducible show wpAny _ _ (subscriptTail _ (PySem.Expr.Slice _ _ none _) (Value.ref _) (Value.ref _)) _ _ _); k_dflt (refine' kmk_slice_ints ?xF ?xN ?xl ?xp ?xq ?xi ?xm ?xc ?_ ?xs ?xt ?xz; (case xF => k_asm); (case xN => k_asm); (case xl => kmk_list); (case xp => kmk_part); (case xq => kmk_part); (case xi => l_ints); (case xm => first | (with_reducible refine' kmk_run ?ya ?yb ?yc; (case ya => l_ints); (case yb => omega); (case yc => omega)) | (with_reducible refine' kmk_from ?ya ?yb; (case ya => l_ints); (case yb => omega))); (case xc => kmk_len); (case xs => with_unfolding_all rfl); (case xt => kmk_pure); (case xz => kmk_size)); intro D' ws' h' F' N' l1 hI' hC' hL'; (try simp only [Int.reduceNeg, Int.neg_neg, Int.reduceToNat] at hI' hC' hL'); (try k_lt l1); (try k_sweep))
  intro dp un fr gd s Q E O hP hdp hun hQ
  have hfill : (fun (_ : OpenLaw) (_ : Params → Frag) => True) PySem.Challenge.rw_wu0005_01 hd.heap_39 := by k_fill; trivial
  clear hfill
  obtain ⟨X, mean, mg, mb, T⟩ := O
  k_dflt (refine' enter X T.nolimit ?c1 ?c2 ?c3 ?c4 ?c5 ?_ ?c6 ?c7 ?c8 ?c9)
  case c1 => (dsimp only [Aw]; omega)
  case c2 => k_is
  case c3 => k_is
  case c4 => exact BindsTo.of_eq rfl
  case c5 => exact locs rfl
  case c6 => exact rfl
  case c7 => exact rfl
  case c8 => exact rfl
  case c9 => decide
  intro L h₁ F N
  (try dsimp only); (try k_fold)
  obtain ⟨rfl, pl, hI, hV6, hVin, hpt, hS1, hS2, hS3, hS4⟩ := hP
  have hil := pl.isList
  have hyl := IntsAre.length hI
  k_steps
  unfold Stop
  (rename Fr _ _ _ _ => F'); (rename News _ _ _ _ => N'); rename IsRange _ _ _ _ _ _ _ _ => hr
  intro Pk kk
  refine kk _ _ _ _ _ _ _ 6 _ _ (TabJ (tabF V high middle low same bare) _ _) rfl hr (by with_unfolding_all rfl) (by with_unfolding_all rfl) F' N' TabJ.start ?_ ?_ <;> clear kk Pk
  · clear F' N' hr
    rintro i tk m₁ news₁ I oI h tk₁ hi ⟨oo, orw, op, R, c, rfl, rfl, hRl, hR, hlt⟩ off F' N'
    have off0 := allNe off
    have offN := off0
    simp only [AllNe, and_true] at offN
    simp only [Int.zero_add] at F'
    have hob : ∃ t, ys[(i : Int).toNat]? = some (.int (V.getD i 0) t) := ints_at hI (k := i) (by omega)
    obtain ⟨tx, hxp⟩ := hob
    have hVi : In64 (V.getD i 0) := in64_at hVin (by omega)
    have hzk : (R.reverse.map fun r => Value.ref r.1).toArray.size ≤ sizeLine := by rw [List.size_toArray, List.length_map, List.length_reverse, hRl, sizeLine_eq]; omega
    (try dsimp only); (try k_fold)
    k_steps
    unfold Stop
    (rename Fr _ _ _ _ => F'); (rename News _ _ _ _ => N'); rename IntsAre _ (List.drop _ _) => hI'; rename (_ ∧ _) => l1
    rw [show ((i : Int) + 1).toNat = i + 1 by omega] at hI'
    have hwl : ws'.toArray.size = 5 - i := by rw [List.size_toArray, IntsAre.length hI', List.length_drop, hV6]; omega
    have N' := News.trimz N'
    intro Pk kk
    refine kk _ _ _ _ _ (PushJ (Str.ofString "other") _ _ _ _ _ (fun k vs => RowOk (fun j => entryF (V.getD i 0) (V.getD j 0) high middle low same bare) i (i + 1 + k) vs)) rfl F' N' (PushJ.start ⟨by simp, fun j h1 h2 => absurd h2 (by omega)⟩) PushJ.src ?_ ?_ <;> clear kk Pk
    · clear F' N'
      rintro k v m₁ news₁ I2 oI2 h tk₁ hk ⟨ov, vs, c2, rfl, rfl, hG⟩ off F' N'
      have hob := hI'.at k v (by simpa using hk)
      obtain ⟨y, t, rfl, hy⟩ := hob
      have hob := drop_at hV6 hy
      obtain ⟨rfl, hk6⟩ := hob
      have hVk : In64 (V.getD (i + 1 + k) 0) := in64_at hVin (by omega)
      have hz : vs.size ≤ sizeLine := by rw [hG.1, sizeLine_eq]; omega
      (try dsimp only); (try k_fold)
      have offI0 := allNe off
      have offI1 := offI0
      simp only [AllNe] at offI1
      k_steps
      (rename Fr _ _ _ _ => F'); (rename News _ _ _ _ => N')
      refine LoopEnd.intro _ F' N' (by intro p hp; exact hp) ?_ (PushJ.next (RowOk.push hG))
      intro q hq r hr
      rw [List.mem_singleton.mp hr]
      exact of_allNe (same_addr offI0) q hq
    rintro h tk m' n' F' N' ⟨ov, vs, c2, rfl, rfl, hG⟩
    rw [hwl, show i + 1 + (5 - i) = 6 by omega] at hG
    have hz1 : vs.toList.length + 1 ≤ sizeLine := by rw [Array.length_toList, hG.1, sizeLine_eq]; exact Nat.le_of_ble_eq_true rfl
    (try dsimp only); (try k_fold)
    k_steps
    (rename Fr _ _ _ _ => F'); (rename News _ _ _ _ => N'); rename (_ ∧ _) => lD
    exact TabJ.close F' N' hRl hG.last hR hlt off0 ⟨by omega, by omega⟩
  · rintro h tk m' n' F' N' ⟨oo, orw, op, R, c, rfl, rfl, hRl, hR, hlt⟩
    (try dsimp only); (try k_fold)
    k_steps
    (rename Fr _ _ _ _ => F'); (rename News _ _ _ _ => N')
    refine hQ _ _ _ F'.keep ⟨_, rfl, ?_⟩
    have hob := len6 hRl
    obtain ⟨r5, r4, r3, r2, r1, r0, rfl⟩ := hob
    obtain ⟨k5, k4, k3, k2, k1, k0, _⟩ := hR
    exact TableNew.of N' (.head _) (RowNew.of N' (by k_mem) k0) (RowNew.of N' (by k_mem) k1) (RowNew.of N' (by k_mem) k2) (RowNew.of N' (by k_mem) k3) (RowNew.of N' (by k_mem) k4) (RowNew.of N' (by k_mem) k5)
end Mine

namespace Mine
theorem RowAt.keep {h h' : Heap} {r : Addr} {f : Nat → Int} {k : Nat} (x : RowAt h r f k) (st : h.StaysIn h') : RowAt h' r f k := let ⟨vs, ⟨n, e⟩, o⟩ := x; ⟨vs, ⟨n, st _ _ e⟩, o⟩
theorem TableAt.keep {h h' : Heap} {tb : Addr} {f : Nat → Nat → Int} (x : TableAt h tb f) (st : h.StaysIn h') : TableAt h' tb f := by
  obtain ⟨r0, r1, r2, r3, r4, r5, pl, h0, h1, h2, h3, h4, h5⟩ := x
  obtain ⟨n, e⟩ := pl
  exact ⟨r0, r1, r2, r3, r4, r5, ⟨n, st _ _ e⟩, h0.keep st, h1.keep st, h2.keep st, h3.keep st, h4.keep st, h5.keep st⟩
theorem TableAt.row {h : Heap} {tb : Addr} {f : Nat → Nat → Int} (x : TableAt h tb f) {k : Nat} (hk : k ≤ 5) : ∃ its r, h.IsList tb its ∧ its[k]? = some (.ref r) ∧ RowAt h r (f k) k := by
  obtain ⟨r0, r1, r2, r3, r4, r5, pl, h0, h1, h2, h3, h4, h5⟩ := x
  match k, hk with
  | 0, _ => exact ⟨_, r0, pl.isList, rfl, h0⟩
  | 1, _ => exact ⟨_, r1, pl.isList, rfl, h1⟩
  | 2, _ => exact ⟨_, r2, pl.isList, rfl, h2⟩
  | 3, _ => exact ⟨_, r3, pl.isList, rfl, h3⟩
  | 4, _ => exact ⟨_, r4, pl.isList, rfl, h4⟩
  | 5, _ => exact ⟨_, r5, pl.isList, rfl, h5⟩
section
variable {prog : Program} {w : World} {A : Around} {E : Value → Shared → Prop} {s : Shared}
theorem tail_row {value slice : Expr} {tb : Addr} {f : Nat → Nat → Int} {k : Int} {t : Tok} {Q : Value → Shared → Prop} (T : TableAt s.heap tb f) (h0 : 0 ≤ k) (h1 : k ≤ 5)
    (h : ∀ r, RowAt s.heap r (f k.toNat) k.toNat → Q (.ref r) s) (hs : subscripted slice false (.ref tb) (.int k t) = operate [.ref tb, .int k t] (getItem (.ref tb) (.int k t))) :
    wpAny (model prog w) A (subscriptTail value slice (.ref tb) (.int k t)) Q E s := by
  have hob := T.row (k := k.toNat) (by omega)
  obtain ⟨its, r, hl, hx, hr⟩ := hob
  exact tail_list hl h0 (by omega) hx (h r hr) hs
theorem tail_cell {value slice : Expr} {r : Addr} {g : Nat → Int} {a b : Int} {t : Tok} {Q : Value → Shared → Prop} (R : RowAt s.heap r g a.toNat) (h0 : 0 ≤ a) (h1 : a < b) (h2 : b ≤ 6)
    (h : ∀ t, Q (.int (g b.toNat) t) s) (hs : subscripted slice false (.ref r) (.int b t) = operate [.ref r, .int b t] (getItem (.ref r) (.int b t))) :
    wpAny (model prog w) A (subscriptTail value slice (.ref r) (.int b t)) Q E s := by
  obtain ⟨vs, pl, hs', hx⟩ := R
  have hob := hx b.toNat (by omega) (by omega)
  obtain ⟨t', e⟩ := hob
  exact tail_list pl.isList (by omega) (by omega) e (h t') hs
end
def TabBd (f : Nat → Nat → Int) : Prop := ∀ i j, -100000 ≤ f i j ∧ f i j ≤ 100000
def SumJ (m₀ : Str → Option Value) (G : Nat → Int) : Nat → (Str → Option Value) → List (Addr × Obj) → Prop :=
  fun i m n => ∃ (t : Tok) (ot ok : Option Value), m = (fun q => if q = Str.ofString "total" then some (.int (G i) t) else if q = Str.ofString "term" then ot else if q = Str.ofString "k" then ok else m₀ q) ∧ n = []
theorem SumJ.start {m₀ : Str → Option Value} {G : Nat → Int} {t : Tok} {x : Int} (e : x = G 0) : SumJ m₀ G 0 (fun q => if q = Str.ofString "total" then some (.int x t) else m₀ q) [] := by
  subst e; exact ⟨t, _, _, upd3₀ _ _ _ _ _, rfl⟩
theorem SumJ.next {m₀ : Str → Option Value} {G : Nat → Int} {i : Nat} {t : Tok} {x : Int} {y z x' y' z' : Option Value} (e : x = G i) :
    SumJ m₀ G i (fun q => if q = Str.ofString "total" then some (.int x t) else if q = Str.ofString "term" then y else if q = Str.ofString "k" then z else if q = Str.ofString "total" then x' else if q = Str.ofString "term" then y' else if q = Str.ofString "k" then z' else m₀ q) [] := by
  subst e; exact ⟨t, y, z, upd3 _ _ _ _ _ _ _ _ _ _, rfl⟩
theorem c_pair0 (w : World) (tb l : Addr) : CallP w 20 136 [.ref tb, .ref l] (fun h => h.PlainList l #[]) (fun v _ => ∃ t, v = .int 1 t) := by
  w_top off
  k_with_none
  k_with "eval Call" => (k_here; k_fold)
  k_with "eval BinOp" => (k_here; k_fold)
  k_with "eval Compare" => (k_here; k_fold)
  k_with "mine use" => ((case F => k_asm); (case N => k_asm); (case X => assumption); (case T => assumption); (case D => (try simp only [Aw, depth_under_make, depth_under_kw, depth_in1, depth_deeper, depth_caller]); omega); (case U => (try simp only [Aw, units_in1, units_deeper, Around.mark_units, units_caller]); omega); intro v' h' tk' F' N' st' r'; obtain ⟨t', e'⟩ := r'; subst e')
  k_with "subscriptTail" => (k_here; (rename TableAt _ _ _ => ta'); (rename Fr _ _ _ _ => F'); k_dflt (refine tail_row (ta'.keep F'.keep) (by omega) (by omega) ?_ (by with_unfolding_all rfl)); intro r' hr'; (try dsimp only))
  k_with "subscriptTail" => (k_here; (rename RowAt _ _ _ _ => ra'); k_dflt (refine tail_cell ra' (by omega) (by omega) (by omega) ?_ (by with_unfolding_all rfl)); intro t'; clear ra'; (try dsimp only))
  k_with "call ref" => (k_here; (with_reducible show wpAny _ _ (call (.ref 63) [.int _ _, .int _ _]) _ _ _); k_dflt (refine' CallP.use (c_add _ _ _ _ _) ?F ?N ?X ?T ?P ?D ?U ?_); (case P => trivial); walk_at "mine use")
  k_with "call ref" => (k_here; (with_reducible show wpAny _ _ (call (.ref 77) [.int _ _, .int _ _]) _ _ _); k_dflt (refine' CallP.use (c_sub _ _ _ _ _) ?F ?N ?X ?T ?P ?D ?U ?_); (case P => trivial); walk_at "mine use")
  k_with "call ref" => (k_here; (with_reducible show wpAny _ _ (call (.ref 70) [.int _ _, .int _ _]) _ _ _); (rename TabBd _ => tbd'); k_dflt (refine' CallP.use (c_mul _ _ _ _ _) ?F ?N ?X ?T (by exact mok_s (tbd' _ _).1 (tbd' _ _).2) ?D ?U ?_); walk_at "mine use")
  k_with "exec For Name Call cons nil" => (k_here; k_dflt (refine For_rng (_F₀ := by k_asm) (by rfl) (by rfl) (by rfl) (by rfl) ?_))
  k_with "subscriptTail Name Constant ref int" => (k_here; (rename Heap.IsList _ _ _ => il'); (rename Fr _ _ _ _ => F'); k_dflt (refine tail_list (stays_list F'.keep il') (by omega) (by omega) (by rw [List.getElem?_toArray]; with_reducible assumption) ?_ (by with_unfolding_all rfl)))
  k_with "subscriptTail Name Name ref int" => (k_here; (rename Heap.IsList _ _ _ => il'); (rename Fr _ _ _ _ => F'); k_dflt (refine tail_list (stays_list F'.keep il') (by omega) (by omega) (by rw [List.getElem?_toArray]; with_reducible assumption) ?_ (by with_unfolding_all rfl)))
  intro dp un fr gd s Q E O hP hdp hun hQ
  have hfill : (fun (_ : OpenLaw) (_ : Params → Frag) => True) PySem.Challenge.rw_wu0005_01 hd.heap_39 := by k_fill; trivial
  clear hfill
  obtain ⟨X, mean, mg, mb, T⟩ := O
  k_dflt (refine' enter X T.nolimit ?c1 ?c2 ?c3 ?c4 ?c5 ?_ ?c6 ?c7 ?c8 ?c9)
  case c1 => (dsimp only [Aw]; omega)
  case c2 => k_is
  case c3 => k_is
  case c4 => exact BindsTo.of_eq rfl
  case c5 => exact locs rfl
  case c6 => exact rfl
  case c7 => exact rfl
  case c8 => exact rfl
  case c9 => decide
  intro L h₁ F N
  (try dsimp only); (try k_fold)
  have hil := hP.isList
  k_steps
  · (rename Fr _ _ _ _ => F'); exact hQ _ _ _ F'.keep ⟨_, rfl⟩
/-- the sum over the partners of the first one, i of them -/
def pfS (f : Nat → Nat → Int) (g : List Int → Int) (ls : List Int) : Nat → Int
  | 0 => 0
  | i + 1 => if i % 2 = 0 then pfS f g ls i + f (ls.getD 0 0).toNat (ls.getD (i + 1) 0).toNat * g (ls.tail.eraseIdx i) else pfS f g ls i - f (ls.getD 0 0).toNat (ls.getD (i + 1) 0).toNat * g (ls.tail.eraseIdx i)
def pfL (f : Nat → Nat → Int) : Nat → List Int → Int
  | 0, _ => 1
  | m + 1, l => pfS f (pfL f m) l (l.length - 1)
def PairC (w : World) (tb : Addr) (f : Nat → Nat → Int) (m : Nat) : Prop := ∀ (l : Addr) (ls : List Int) (ys : List Value), ls.length = 2 * m → (∀ x ∈ ls, 0 ≤ x ∧ x ≤ 6) → ls.Pairwise (· < ·) →
  CallP w (20 + 5 * m) 136 [.ref tb, .ref l] (fun h => TableAt h tb f ∧ h.PlainList l ys.toArray ∧ IntsAre ys ls) (fun v _ => ∃ t, v = .int (pfL f m ls) t)
theorem pair_zero (w : World) (tb : Addr) (f : Nat → Nat → Int) : PairC w tb f 0 := by
  intro l ls ys hl hin hpw
  have : ls = [] := List.length_eq_zero_iff.mp hl
  subst this
  intro dp un fr gd s Q E O hP hdp hun hQ
  obtain ⟨hT, pl, hI⟩ := hP
  cases hI
  exact c_pair0 w tb l dp un fr gd s Q E O pl hdp hun hQ
theorem range_1 {n : Nat} (h : n ≤ 1000) (h1 : 1 ≤ n) : Builtin.Range.small 1 (n : Int) 1 = true ∧ Builtin.Range.rangeSize 1 (n : Int) 1 = ((n - 1 : Nat) : Int) :=
  ⟨small_one (by omega) (by omega) (by omega) (by omega), by rw [rangeSize_one]; split <;> omega⟩
theorem getD_at {ls : List Int} {k : Nat} (hin : ∀ x ∈ ls, 0 ≤ x ∧ x ≤ 6) (hk : k < ls.length) : 0 ≤ ls.getD k 0 ∧ ls.getD k 0 ≤ 6 := by
  rw [List.getD_eq_getElem?_getD, List.getElem?_eq_getElem hk]; exact hin _ (List.getElem_mem _)
theorem pw_at {ls : List Int} {i j : Nat} (h : ls.Pairwise (· < ·)) (hij : i < j) (hj : j < ls.length) : ls.getD i 0 < ls.getD j 0 := by
  rw [List.getD_eq_getElem?_getD, List.getD_eq_getElem?_getD, List.getElem?_eq_getElem hj, List.getElem?_eq_getElem (by omega)]
  exact List.pairwise_iff_getElem.mp h i j (by omega) hj hij
theorem cut_at {ls : List Int} {i : Nat} (h : i < ls.length - 1) : List.take (min ((1 : Int) + (i : Int)).toNat ls.length - 1) (List.drop 1 ls) ++ List.drop ((1 : Int) + (i : Int) + 1).toNat ls = ls.tail.eraseIdx i := by
  rw [List.eraseIdx_eq_take_drop_succ, ← List.drop_one, show min ((1 : Int) + (i : Int)).toNat ls.length - 1 = i by omega, List.drop_drop, show ((1 : Int) + (i : Int) + 1).toNat = 1 + (i + 1) by omega]
theorem odd_k {i : Nat} : Int.fmod ((1 : Int) + (i : Int)) 2 = 1 ↔ i % 2 = 0 := by
  rw [Int.fmod_eq_emod_of_nonneg _ (by decide)]; omega
theorem pair_succ (w : World) (tb : Addr) (f : Nat → Nat → Int) (hB : TabBd f) (m : Nat) (hm : m ≤ 2) (ih : PairC w tb f m) : PairC w tb f (m + 1) := by
  intro l ls ys hlen hin hpw
  w_top off
  k_with_none
  k_with "eval Call" => (k_here; k_fold)
  k_with "eval BinOp" => (k_here; k_fold)
  k_with "eval Compare" => (k_here; k_fold)
  k_with "mine use" => ((case F => k_asm); (case N => k_asm); (case X => assumption); (case T => assumption); (case D => (try simp only [Aw, depth_under_make, depth_under_kw, depth_in1, depth_deeper, depth_caller]); omega); (case U => (try simp only [Aw, units_in1, units_deeper, Around.mark_units, units_caller]); omega); intro v' h' tk' F' N' st' r'; obtain ⟨t', e'⟩ := r'; subst e')
  k_with "subscriptTail" => (k_here; (rename TableAt _ _ _ => ta'); (rename Fr _ _ _ _ => F'); k_dflt (refine tail_row (ta'.keep F'.keep) (by omega) (by omega) ?_ (by with_unfolding_all rfl)); intro r' hr'; (try dsimp only))
  k_with "subscriptTail" => (k_here; (rename RowAt _ _ _ _ => ra'); k_dflt (refine tail_cell ra' (by omega) (by omega) (by omega) ?_ (by with_unfolding_all rfl)); intro t'; clear ra'; (try dsimp only))
  k_with "call ref" => (k_here; (with_reducible show wpAny _ _ (call (.ref 63) [.int _ _, .int _ _]) _ _ _); k_dflt (refine' CallP.use (c_add _ _ _ _ _) ?F ?N ?X ?T ?P ?D ?U ?_); (case P => trivial); walk_at "mine use")
  k_with "call ref" => (k_here; (with_reducible show wpAny _ _ (call (.ref 77) [.int _ _, .int _ _]) _ _ _); k_dflt (refine' CallP.use (c_sub _ _ _ _ _) ?F ?N ?X ?T ?P ?D ?U ?_); (case P => trivial); walk_at "mine use")
  k_with "call ref" => (k_here; (with_reducible show wpAny _ _ (call (.ref 70) [.int _ _, .int _ _]) _ _ _); (rename TabBd _ => tbd'); k_dflt (refine' CallP.use (c_mul _ _ _ _ _) ?F ?N ?X ?T (by exact mok_s (tbd' _ _).1 (tbd' _ _).2) ?D ?U ?_); walk_at "mine use")
  k_with "exec For Name Call cons nil" => (k_here; k_dflt (refine For_rng (_F₀ := by k_asm) (by rfl) (by rfl) (by rfl) (by rfl) ?_))
  k_with "subscriptTail Name Constant ref int" => (k_here; (rename Heap.IsList _ _ _ => il'); (rename Fr _ _ _ _ => F'); k_dflt (refine tail_list (stays_list F'.keep il') (by omega) (by omega) (by rw [List.getElem?_toArray]; with_reducible assumption) ?_ (by with_unfolding_all rfl)))
  k_with "subscriptTail Name Name ref int" => (k_here; (rename Heap.IsList _ _ _ => il'); (rename Fr _ _ _ _ => F'); k_dflt (refine tail_list (stays_list F'.keep il') (by omega) (by omega) (by rw [List.getElem?_toArray]; with_reducible assumption) ?_ (by with_unfolding_all rfl)))
  k_with "call ref" => (k_here; (with_reducible show wpAny _ _ (call (.ref 136) [.ref _, .ref _]) _ _ _); (rename News _ _ _ _ => N'); k_dflt (refine' CallP.use (c_pair0 _ _ _) ?F ?N ?X ?T (by exact ⟨_, (N' _ (.head _)).1⟩) ?D ?U ?_); walk_at "mine use")
  k_with "call ref" => (k_here; (with_reducible show wpAny _ _ (call (.ref 136) [.ref _, .ref _]) _ _ _); refine Stop.go ?_)
  k_with "subscriptTail Name Slice ref ref" => (k_here; (with_reducible show wpAny _ _ (subscriptTail _ (PySem.Expr.Slice _ _ none _) (Value.ref _) (Value.ref _)) _ _ _); k_dflt (refine' kmk_slice_ints ?xF ?xN ?xl ?xp ?xq ?xi ?xm ?xc ?_ ?xs ?xt ?xz; (case xF => k_asm); (case xN => k_asm); (case xl => kmk_list); (case xp => kmk_part); (case xq => kmk_part); (case xi => l_ints); (case xm => first | (with_reducible refine' kmk_run ?ya ?yb ?yc; (case ya => l_ints); (case yb => omega); (case yc => omega)) | (with_reducible refine' kmk_from ?ya ?yb; (case ya => l_ints); (case yb => omega))); (case xc => kmk_len); (case xs => with_unfolding_all rfl); (case xt => kmk_pure); (case xz => kmk_size)); intro D' ws' h' F' N' l1 hI' hC' hL'; (try simp only [Int.reduceNeg, Int.neg_neg, Int.reduceToNat] at hI' hC' hL'); (try k_lt l1); (try k_sweep))
  intro dp un fr gd s Q E O hP hdp hun hQ
  have hfill : (fun (_ : OpenLaw) (_ : Params → Frag) => True) PySem.Challenge.rw_wu0005_01 hd.heap_39 := by k_fill; trivial
  clear hfill
  obtain ⟨X, mean, mg, mb, T⟩ := O
  k_dflt (refine' enter X T.nolimit ?c1 ?c2 ?c3 ?c4 ?c5 ?_ ?c6 ?c7 ?c8 ?c9)
  case c1 => (dsimp only [Aw]; omega)
  case c2 => k_is
  case c3 => k_is
  case c4 => exact BindsTo.of_eq rfl
  case c5 => exact locs rfl
  case c6 => exact rfl
  case c7 => exact rfl
  case c8 => exact rfl
  case c9 => decide
  intro L h₁ F N
  (try dsimp only); (try k_fold)
  obtain ⟨hT, pl, hI⟩ := hP
  have hil := pl.isList
  have hyl := IntsAre.length hI
  k_steps
  · exfalso
    rename decide _ = true => hd
    have hd := of_decide_eq_true hd
    rw [hd] at hlen; simp at hlen
  unfold Stop
  (rename Fr _ _ _ _ => F'); (rename News _ _ _ _ => N'); rename IsRange _ _ _ _ _ _ _ _ => hr
  have hls : ls.length ≤ 6 := by omega
  intro Pk kk
  refine kk _ _ _ _ _ _ _ (ls.length - 1) _ [] (SumJ _ (fun i => pfS f (pfL f m) ls i)) rfl hr ?_ ?_ F' (fun p hp => absurd hp List.not_mem_nil) (SumJ.start rfl) ?_ ?_ <;> clear kk Pk
  · exact (range_1 (by omega) (by omega)).1
  · exact (range_1 (by omega) (by omega)).2
  · clear F' N' hr
    rintro i tk m₁ news₁ I oI h tk₁ hi ⟨tt, ot, ok, rfl, rfl⟩ off F' N'
    have off0 := allNe off
    have hob : ∃ t, ys[(0 : Int).toNat]? = some (.int (ls.getD 0 0) t) := ints_at hI (k := 0) (by omega)
    obtain ⟨t0, hy0⟩ := hob
    obtain ⟨tk', hyk⟩ : ∃ t, ys[((1 : Int) + (i : Int)).toNat]? = some (.int (ls.getD (i + 1) 0) t) := by
      rw [show ((1 : Int) + (i : Int)).toNat = i + 1 by omega]; exact ints_at hI (by omega)
    have hb0 := getD_at hin (k := 0) (by omega)
    have hbk := getD_at hin (k := i + 1) (by omega)
    have hab := pw_at hpw (i := 0) (j := i + 1) (by omega) (by omega)
    (try dsimp only); (try k_fold)
    k_steps
    unfold Stop
    (rename Fr _ _ _ _ => F'); (rename News _ _ _ _ => N'); rename IntsAre _ (_ ++ _) => hI'
    rw [cut_at hi] at hI'
    rename TableAt _ _ _ => hT
    k_dflt (refine' CallP.use (ih _ _ _ ?a ?b ?c) F' N' X T (by exact ⟨hT.keep F'.keep, ⟨_, (N' _ (.head _)).1⟩, hI'⟩) ?D ?U ?_)
    case a => rw [List.length_eraseIdx_of_lt (by rw [List.length_tail]; exact hi), List.length_tail]; omega
    case b => exact fun x hx => hin x (List.mem_of_mem_tail (List.mem_of_mem_eraseIdx hx))
    case c => exact List.Pairwise.sublist ((List.eraseIdx_sublist _ _).trans (List.tail_sublist _)) hpw
    case D => (try simp only [Aw, depth_under_make, depth_under_kw, depth_in1, depth_deeper, depth_caller]); omega
    case U => (try simp only [Aw, units_in1, units_deeper, Around.mark_units, units_caller]); omega
    clear F' N' hI'
    intro v' h' tk2 F' N' st' r'
    obtain ⟨t', rfl⟩ := r'
    k_steps
    · (rename Fr _ _ _ _ => F'); (rename News _ _ _ _ => N'); rename (Int.fmod _ _ = _) => hf
      refine LoopEnd.intro [] F' N' ?_ ?_ (SumJ.next ?_)
      · intro p hp; rw [List.mem_singleton.mp hp]; k_mem
      · simp
      · show _ = pfS f (pfL f m) ls (i + 1)
        rw [pfS, if_pos (odd_k.mp hf)]
    · (rename Fr _ _ _ _ => F'); (rename News _ _ _ _ => N'); rename (Int.fmod _ _ ≠ _) => hf
      refine LoopEnd.intro [] F' N' ?_ ?_ (SumJ.next ?_)
      · intro p hp; rw [List.mem_singleton.mp hp]; k_mem
      · simp
      · show _ = pfS f (pfL f m) ls (i + 1)
        rw [pfS, if_neg (fun q => hf (odd_k.mpr q))]
  · rintro h tk m' n' F' N' ⟨tt, ot, ok, rfl, rfl⟩
    (try dsimp only); (try k_fold)
    k_steps
    (rename Fr _ _ _ _ => F')
    exact hQ _ _ _ F'.keep ⟨tt, rfl⟩
theorem c_pairs (w : World) (tb : Addr) (f : Nat → Nat → Int) (hB : TabBd f) : ∀ m, m ≤ 3 → PairC w tb f m
  | 0, _ => pair_zero w tb f
  | m + 1, h => pair_succ w tb f hB m (by omega) (c_pairs w tb f hB m (by omega))
end Mine

namespace Mine
def DrawJ (m₀ : Str → Option Value) (a : Addr) (oa : Obj) (d : Addr) : Nat → (Str → Option Value) → List (Addr × Obj) → Prop :=
  fun _ m n => ∃ (ox op : Option Value) (ws : List Value) (ns : List Int) (c : Nat), m = (fun q => if q = Str.ofString "x" then ox else if q = Str.ofString "place" then op else m₀ q) ∧ n = [(a, oa), (d, W.listOf ws.toArray c)] ∧ IntsAre ws ns ∧ ns.length = 10
theorem upd2₀ (a b : Str) (m₀ : Str → Option Value) : m₀ = fun q => if q = a then m₀ a else if q = b then m₀ b else m₀ q := by
  funext q; split
  · rename_i e; rw [e]
  · split
    · rename_i e; rw [e]
    · rfl
theorem upd2b (a b : Str) (m₀ : Str → Option Value) (x y x' y' : Option Value) : (fun q => if q = a then x else if q = b then y else if q = a then x' else if q = b then y' else m₀ q) = fun q => if q = a then x else if q = b then y else m₀ q := by
  funext q; split
  · rfl
  · split <;> rfl
theorem DrawJ.start {m₀ : Str → Option Value} {a d : Addr} {oa : Obj} {i : Nat} {ws : List Value} {ns : List Int} {c : Nat} (hI : IntsAre ws ns) (hl : ns.length = 10) : DrawJ m₀ a oa d i m₀ [(a, oa), (d, W.listOf ws.toArray c)] :=
  ⟨_, _, ws, ns, c, upd2₀ _ _ _, rfl, hI, hl⟩
theorem DrawJ.next {m₀ : Str → Option Value} {a d : Addr} {oa : Obj} {i : Nat} {ws : List Value} {ns : List Int} {c : Nat} {x y x' y' : Option Value} (hI : IntsAre ws ns) (hl : ns.length = 10) :
    DrawJ m₀ a oa d i (fun q => if q = Str.ofString "x" then x else if q = Str.ofString "place" then y else if q = Str.ofString "x" then x' else if q = Str.ofString "place" then y' else m₀ q) [(a, oa), (d, W.listOf ws.toArray c)] :=
  ⟨x, y, ws, ns, c, upd2b _ _ _ _ _ _ _, rfl, hI, hl⟩
theorem DrawJ.src {m₀ : Str → Option Value} {h₀ : Heap} {a d : Addr} {its : Array Value} {k : Nat} : ∀ i m n, DrawJ m₀ a (W.listOf its k) d i m n → LCg.SrcAt h₀ a its n := by
  rintro i m n ⟨_, _, _, _, _, rfl, rfl, _⟩
  exact .inr ⟨_, .head _, rfl, _, rfl⟩
theorem c_draw (w : World) (B : Heap) (a : Addr) (vs : List Value) (ns : List Int) : CallP w 5 105 [.ref a] (fun h => h = B ∧ h.IsList a vs.toArray ∧ IntsAre vs ns ∧ vs.length ≤ 2000000) (fun v h => ∃ d ws ns n, v = .ref d ∧ Fresh B h d (W.listOf (List.toArray ws) n) ∧ IntsAre ws ns ∧ ns.length = 10) := by
  w_top off
  k_with_none
  k_with "eval Call" => (k_here; k_fold)
  k_with "eval BinOp" => (k_here; k_fold)
  k_with "eval Compare" => (k_here; k_fold)
  k_with "exec For Tuple Call" => (k_here; k_dflt (refine For_enumC (_F₀ := by k_asm) (by rfl) (by rfl) ?_))
  k_with "call type:enumerate" => (k_here; (rename Fr _ _ _ _ => Fe'); (rename News _ _ _ _ => Ne'); k_dflt (refine enum_list Fe' Ne' (by exact ⟨_, (Ne' _ (.head _)).1⟩) ?_); intro e' it' h' F' N' hE' hIt' ne' off')
  intro dp un fr gd s Q E O hP hdp hun hQ
  have hfill : (fun (_ : OpenLaw) (_ : Params → Frag) => True) PySem.Challenge.rw_wu0005_01 hd.heap_39 := by k_fill; trivial
  clear hfill
  obtain ⟨X, mean, mg, mb, T⟩ := O
  k_dflt (refine' enter X T.nolimit ?c1 ?c2 ?c3 ?c4 ?c5 ?_ ?c6 ?c7 ?c8 ?c9)
  case c1 => (dsimp only [Aw]; omega)
  case c2 => k_is
  case c3 => k_is
  case c4 => exact BindsTo.of_eq rfl
  case c5 => exact locs rfl
  case c6 => exact rfl
  case c7 => exact rfl
  case c8 => exact rfl
  case c9 => decide
  intro L h₁ F N
  (try dsimp only); (try k_fold)
  obtain ⟨rfl, hil, hI, hlen⟩ := hP
  k_steps
  unfold Stop
  (rename Fr _ _ _ _ => F'); (rename News _ _ _ _ => N'); rename IsEnum _ _ _ _ _ => hE; rename Heap.IsListIter _ _ _ _ => hIt; rename _ ∧ _ => ne; rename IntsAre _ (List.take _ _) => hI'; rename (∀ p ∈ _, _ ≠ _ ∧ _ ≠ _) => off
  intro Pk kk
  refine kk _ _ _ _ _ _ _ (DrawJ _ _ _ _) rfl ne hE hIt F' N' off (DrawJ.start (ns := [17, 63, 7, 18, 11, 16, 1003, 995, 1002, 1004]) ?_ rfl) DrawJ.src ?_ ?_ <;> clear kk Pk
  · repeat constructor
  · clear F' N' hE hIt off
    rintro i v tk m₁ news₁ oe oi h tk₁ hi ⟨ox, op, ws, ms, c, rfl, rfl, hJ, hl⟩ off F' N'
    have hob := hI'.at i v (by simpa using hi)
    obtain ⟨x, t, rfl, _⟩ := hob
    have off1 := allNe fun p hp => (off p hp).1
    have off2 := allNe fun p hp => (off p hp).2
    simp only [AllNe, and_true] at off1 off2
    have hfm : 0 ≤ Int.fmod (i : Int) 10 ∧ Int.fmod (i : Int) 10 < 10 := by rw [Int.fmod_eq_emod_of_nonneg _ (by decide)]; omega
    have hwl : ws.length = 10 := (IntsAre.length hJ).trans hl
    (try dsimp only); (try k_fold)
    k_steps
    (rename Fr _ _ _ _ => F'); (rename News _ _ _ _ => N'); rename IntsAre _ _ => hJ'
    refine LoopEnd.intro _ F' N' (by intro p hp; exact hp) ?_ (DrawJ.next hJ' (by rw [List.length_set]; exact hl))
    intro q hq r hr
    rcases List.mem_cons.mp hr with rfl | hr
    · rcases List.mem_cons.mp hq with rfl | hq
      · exact off1.1
      · rw [List.mem_singleton.mp hq]; exact off1.2
    · rw [List.mem_singleton.mp hr]
      rcases List.mem_cons.mp hq with rfl | hq
      · exact off2.1
      · rw [List.mem_singleton.mp hq]; exact off2.2
  · rintro h tk m' n' F' N' ⟨ox, op, ws, ms, c, rfl, rfl, hJ, hl⟩
    (try dsimp only); (try k_fold)
    k_steps
    (rename Fr _ _ _ _ => F'); (rename News _ _ _ _ => N')
    exact hQ _ _ _ F'.keep ⟨_, ws, ms, _, rfl, ⟨(N' _ (.tail _ (.head _))).2.2, (N' _ (.tail _ (.head _))).1⟩, hJ, hl⟩
end Mine

local macro_rules | `(tactic| k_ne) => `(tactic| k_extra "k_ne")

namespace Mine
def grpF (x : Int) : Int := x.fdiv 4 * 4 + (x.fmod 4 + 1).fdiv 2
def keyL (v : Int) (j : Nat) : List Int := [0, grpF (v.fdiv 16), v.fdiv 16, grpF (v.fdiv 4), v.fdiv 4, grpF v, v, (j : Int)]
/-- the rows of keys, the last one first -/
def RowsAre (vs : List Int) : List RowO → Prop
  | [] => True
  | r :: R => (∃ xs : List Value, r.2.1 = xs.toArray ∧ IntsAre xs (keyL (vs.getD R.length 0) R.length)) ∧ RowsAre vs R
def KeysJ (vs : List Int) (m₀ : Str → Option Value) (kd c1 c2 c3 c4 c5 : Addr) (o1 o2 o3 o5 : Obj) : Nat → (Str → Option Value) → List (Addr × Obj) → Prop :=
  fun i m n => ∃ (ov ok oh : Option Value) (R : List RowO) (c : Nat) (o4 : Obj), m = (fun q => if q = Str.ofString "head" then oh else if q = Str.ofString "key" then ok else if q = Str.ofString "value" then ov else m₀ q) ∧
    n = (kd, keyObj R c) :: (c1, o1) :: (c2, o2) :: (c3, o3) :: (c4, o4) :: (c5, o5) :: rowObjs R ∧ R.length = i ∧ RowsAre vs R ∧ (∃ v, o4.data = .cell v) ∧ (∀ p ∈ rowObjs R, @LT.lt Nat _ kd p.1)
theorem upd3a (a b c : Str) (m₀ : Str → Option Value) : m₀ = fun q => if q = a then m₀ a else if q = b then m₀ b else if q = c then m₀ c else m₀ q := by
  funext q; split
  · rename_i e; rw [e]
  · split
    · rename_i e; rw [e]
    · split
      · rename_i e; rw [e]
      · rfl
theorem KeysJ.start {vs : List Int} {m₀ : Str → Option Value} {kd c1 c2 c3 c4 c5 : Addr} {o1 o2 o3 o4 o5 : Obj} {v : Option Value} (h : o4.data = .cell v) :
    KeysJ vs m₀ kd c1 c2 c3 c4 c5 o1 o2 o3 o5 0 m₀ [(kd, W.listOf #[] 0), (c1, o1), (c2, o2), (c3, o3), (c4, o4), (c5, o5)] :=
  ⟨_, _, _, [], 0, o4, upd3a _ _ _ _, rfl, rfl, trivial, ⟨v, h⟩, fun _ h => absurd h List.not_mem_nil⟩
theorem PushJ.tup {x : Str} {m₀ : Str → Option Value} {D row : Addr} {its : Array Value} {c : Nat} {rest : List (Addr × Obj)} {G : Nat → Array Value → Prop} :
    ∀ i m n, PushJ x m₀ D { cls := .type "tuple", data := .seq its c } row rest G i m n → SrcTup D its n := by
  rintro i m n ⟨ov, vs, c', rfl, rfl, g⟩
  exact ⟨_, .head _, rfl, _, rfl⟩
def KeyUp (v : Int) (j i : Nat) (vs : Array Value) : Prop := ∃ xs : List Value, vs = xs.toArray ∧ IntsAre xs ((keyL v j).take (1 + 2 * i))
theorem key_step (x : Int) (i : Nat) : ∀ j, j < 3 → (keyL x i).take (1 + 2 * (j + 1)) = (keyL x i).take (1 + 2 * j) ++ [grpF ([x.fdiv 16, x.fdiv 4, x].getD j 0), [x.fdiv 16, x.fdiv 4, x].getD j 0]
  | 0, _ => rfl
  | 1, _ => rfl
  | 2, _ => rfl
theorem KeyUp.next {x hd : Int} {i j : Nat} {xs : List Value} {t u : Tok} (hj : j < 3) (h : IntsAre xs ((keyL x i).take (1 + 2 * j))) (e : hd = [x.fdiv 16, x.fdiv 4, x].getD j 0) :
    KeyUp x i (j + 1) ((xs.toArray.push (.int (hd.fdiv 4 * 4 + (hd.fmod 4 + 1).fdiv 2) t)).push (.int hd u)) := by
  subst e
  refine ⟨(xs ++ [.int _ t]) ++ [.int _ u], by rw [List.push_toArray, List.push_toArray], ?_⟩
  rw [List.append_assoc]
  rw [key_step x i j hj]
  exact h.append (.cons _ _ (.cons _ _ .nil))
theorem RowsAre.cons {vs : List Int} {R : List RowO} {D : Addr} {xs : List Value} {i c : Nat} {x : Int} {t : Tok} (hl : R.length = i) (hx : vs[i]? = some x) (h : IntsAre xs ((keyL x i).take 7)) (hR : RowsAre vs R) :
    RowsAre vs ((D, ((xs.toArray.toList ++ (#[Value.int (i : Int) t] : Array Value).toList).toArray, c)) :: R) := by
  refine ⟨⟨xs ++ [.int (i : Int) t], rfl, ?_⟩, hR⟩
  have e : vs.getD i 0 = x := by rw [List.getD_eq_getElem?_getD, hx]; rfl
  rw [hl, e]
  exact h.append (.cons _ _ .nil)
theorem KeysJ.next {vs : List Int} {m₀ : Str → Option Value} {kd c1 c2 c3 c4 c5 : Addr} {o1 o2 o3 o4 o5 : Obj} {v : Option Value} {R : List RowO} {i c : Nat} {x y z x' y' z' : Option Value} (h : o4.data = .cell v)
    (hl : R.length = i) (hR : RowsAre vs R) (hlt : ∀ p ∈ rowObjs R, @LT.lt Nat _ kd p.1) :
    KeysJ vs m₀ kd c1 c2 c3 c4 c5 o1 o2 o3 o5 i (fun q => if q = Str.ofString "head" then x else if q = Str.ofString "key" then y else if q = Str.ofString "value" then z else if q = Str.ofString "head" then x' else if q = Str.ofString "key" then y' else if q = Str.ofString "value" then z' else m₀ q)
      ((kd, keyObj R c) :: (c1, o1) :: (c2, o2) :: (c3, o3) :: (c4, o4) :: (c5, o5) :: rowObjs R) :=
  ⟨z, y, x, R, c, o4, upd3 _ _ _ _ _ _ _ _ _ _, rfl, hl, hR, ⟨v, h⟩, hlt⟩
theorem KeysJ.close {s : Shared} {h₀ h' : Heap} {L : Addr} {tk : Nat} {Qr : Value → Shared → Prop} {Qb : Shared → Prop} {vs : List Int} {m₀ : Str → Option Value} {kd c1 c2 c3 c4 c5 D e it : Addr} {o1 o2 o3 o4 o5 oe oi : Obj} {p1 p2 p3 : Addr × Obj} {v : Option Value} {R : List RowO} {xs : List Value} {i c : Nat} {X : Int} {t : Tok} {x y z x' y' z' : Option Value}
    (F : Fr h₀ L h' (fun q => if q = Str.ofString "head" then x else if q = Str.ofString "key" then y else if q = Str.ofString "value" then z else if q = Str.ofString "head" then x' else if q = Str.ofString "key" then y' else if q = Str.ofString "value" then z' else m₀ q))
    (N : News h₀ L h' ((D, W.listOf (xs.toArray.toList ++ (#[Value.int (i : Int) t] : Array Value).toList).toArray 0) :: p1 :: p2 :: p3 :: (e, oe) :: (it, oi) :: (kd, W.listOf ((R.reverse.map fun r => Value.ref r.1).toArray.push (.ref D)) c) :: (c1, o1) :: (c2, o2) :: (c3, o3) :: (c4, o4) :: (c5, o5) :: rowObjs R))
    (h4 : o4.data = .cell v) (hl : R.length = i) (hx : vs[i]? = some X) (hxs : IntsAre xs ((keyL X i).take 7)) (hR : RowsAre vs R) (hlt : ∀ p ∈ rowObjs R, @LT.lt Nat _ kd p.1)
    (n1 : AllNe e ((kd, o1) :: (c1, o1) :: (c2, o2) :: (c3, o3) :: (c4, o4) :: (c5, o5) :: rowObjs R)) (n2 : AllNe it ((kd, o1) :: (c1, o1) :: (c2, o2) :: (c3, o3) :: (c4, o4) :: (c5, o5) :: rowObjs R))
    (hD : @LT.lt Nat _ e D ∧ @LT.lt Nat _ it D ∧ @LT.lt Nat _ kd D) :
    LoopEnd h₀ L [(e, oe), (it, oi)] (KeysJ vs m₀ kd c1 c2 c3 c4 c5 o1 o2 o3 o5 (i + 1)) s Qr Qb .next { s with heap := h', toks := tk } := by
  rw [keyObj_push R (D, (xs.toArray.toList ++ (#[Value.int (i : Int) t] : Array Value).toList).toArray, 0) c] at N
  refine LoopEnd.intro _ F N ?_ ?_ (KeysJ.next (c := c) (R := (D, (xs.toArray.toList ++ (#[Value.int (i : Int) t] : Array Value).toList).toArray, 0) :: R) h4 (by rw [List.length_cons, hl]) (RowsAre.cons hl hx hxs hR) ?_)
  · intro p hp
    simp only [rowObjs, List.map_cons, List.cons_append, List.nil_append, List.mem_cons] at hp ⊢
    rcases hp with h | h | h | h | h | h | h | h | h | h <;> simp only [h, true_or, or_true]
  · have m1 : AllNe e ((kd, o1) :: (c1, o1) :: (c2, o2) :: (c3, o3) :: (c4, o4) :: (c5, o5) :: (D, o1) :: rowObjs R) := ⟨n1.1, n1.2.1, n1.2.2.1, n1.2.2.2.1, n1.2.2.2.2.1, n1.2.2.2.2.2.1, Nat.ne_of_gt hD.1, n1.2.2.2.2.2.2⟩
    have m2 : AllNe it ((kd, o1) :: (c1, o1) :: (c2, o2) :: (c3, o3) :: (c4, o4) :: (c5, o5) :: (D, o1) :: rowObjs R) := ⟨n2.1, n2.2.1, n2.2.2.1, n2.2.2.2.1, n2.2.2.2.2.1, n2.2.2.2.2.2.1, Nat.ne_of_gt hD.2.1, n2.2.2.2.2.2.2⟩
    intro p hp q hq
    rcases List.mem_cons.mp hq with rfl | hq
    · exact of_allNe (l := (kd, keyObj ((D, (xs.toArray.toList ++ (#[Value.int (i : Int) t] : Array Value).toList).toArray, 0) :: R) c) :: (c1, o1) :: (c2, o2) :: (c3, o3) :: (c4, o4) :: (c5, o5) :: rowObjs ((D, (xs.toArray.toList ++ (#[Value.int (i : Int) t] : Array Value).toList).toArray, 0) :: R)) m1 p hp
    · rw [List.mem_singleton.mp hq]
      exact of_allNe (l := (kd, keyObj ((D, (xs.toArray.toList ++ (#[Value.int (i : Int) t] : Array Value).toList).toArray, 0) :: R) c) :: (c1, o1) :: (c2, o2) :: (c3, o3) :: (c4, o4) :: (c5, o5) :: rowObjs ((D, (xs.toArray.toList ++ (#[Value.int (i : Int) t] : Array Value).toList).toArray, 0) :: R)) m2 p hp
  · exact List.forall_mem_cons.mpr ⟨hD.2.2, hlt⟩
def keyE (vs : List Int) (j s : Nat) : Int := (keyL (vs.getD j 0) j).getD s 0
def rowL (vs : List Int) (s : Nat) : List Int := (List.range vs.length).map (keyE vs · s)
def isNew (xs : List Int) (p : Nat) : Bool := !((xs.take p).any fun x => x == xs.getD p 0)
def partL (vs : List Int) (s : Nat) (x : Int) : List Int := ((List.range vs.length).filter fun j => keyE vs j s == x).map (keyE vs · (s + 1))
def oddN (xs : List Int) : Nat := ((List.range xs.length).filter fun k => isNew xs k && xs.count (xs.getD k 0) % 2 == 1).length
def placeT (vs ks : List Int) (s : Nat) (t : Int) (p : Nat) : Int := if isNew (rowL vs s) p then t * (ks.getD s 0) ^ (oddN (partL vs s ((rowL vs s).getD p 0)) / 2) else t
def stepT (vs ks : List Int) (s : Nat) (t : Int) (n : Nat) : Int := (List.range n).foldl (placeT vs ks s) t
def prodT (vs ks : List Int) (n : Nat) : Int := (List.range n).foldl (fun t s => stepT vs ks s t vs.length) 1
def signT (vs : List Int) (t : Int) (n : Nat) : Int := (List.range n).foldl (fun t p => if ((vs.take p).countP fun x => decide (vs.getD p 0 < x)) % 2 == 1 then -t else t) t
def ruleF (vs ks : List Int) : Int := signT vs (prodT vs ks 7) vs.length
theorem prodT_succ (vs ks : List Int) (n : Nat) : prodT vs ks (n + 1) = stepT vs ks n (prodT vs ks n) vs.length := by
  unfold prodT; rw [List.range_succ, List.foldl_append]; rfl
theorem stepT_succ (vs ks : List Int) (s : Nat) (t : Int) (n : Nat) : stepT vs ks s t (n + 1) = placeT vs ks s (stepT vs ks s t n) n := by
  unfold stepT; rw [List.range_succ, List.foldl_append]; rfl
theorem signT_succ (vs : List Int) (t : Int) (n : Nat) : signT vs t (n + 1) = if ((vs.take n).countP fun x => decide (vs.getD n 0 < x)) % 2 == 1 then -(signT vs t n) else signT vs t n := by
  unfold signT; rw [List.range_succ, List.foldl_append]; rfl
def Cell (o : Obj) : Prop := ∃ v, o.data = .cell v
def StepJ (T : Nat → Int) (m₀ : Str → Option Value) (pre post : List (Addr × Obj)) (c1 c2 c3 c4 : Addr) : Nat → (Str → Option Value) → List (Addr × Obj) → Prop :=
  fun i m n => ∃ (t : Tok) (oo : Option Value) (o1 o2 o3 o4 : Obj), m = (fun q => if q = Str.ofString "total" then some (.int (T i) t) else if q = Str.ofString "odd" then oo else m₀ q) ∧
    n = pre ++ (c1, o1) :: (c2, o2) :: (c3, o3) :: (c4, o4) :: post ∧ Cell o1 ∧ Cell o2 ∧ Cell o3 ∧ Cell o4
theorem upd2c (a b : Str) (m₀ : Str → Option Value) (x : Option Value) : (fun q => if q = a then x else m₀ q) = fun q => if q = a then x else if q = b then m₀ b else m₀ q := by
  funext q; split
  · rfl
  · split
    · rename_i e; rw [e]
    · rfl
theorem RowsAre.at {vs : List Int} : ∀ {R : List RowO}, RowsAre vs R → ∀ {j : Nat} {v : Value}, (R.reverse.map fun r => Value.ref r.1).toArray[j]? = some v →
    ∃ r xs c, v = .ref r ∧ (r, W.listOf (List.toArray xs) c) ∈ rowObjs R ∧ IntsAre xs (keyL (vs.getD j 0) j) := by
  intro R
  induction R with
  | nil => intro _ j v h; simp at h
  | cons r R ih =>
    rintro ⟨⟨xs, he, hxs⟩, hR⟩ j v h
    rw [List.getElem?_toArray, List.reverse_cons, List.map_append, List.getElem?_append] at h
    split at h
    · obtain ⟨r', xs', c', e, hm, hx⟩ := ih hR (by rw [List.getElem?_toArray]; exact h)
      exact ⟨r', xs', c', e, List.mem_cons_of_mem _ hm, hx⟩
    · rename_i hlt
      simp only [List.length_map, List.length_reverse] at h hlt
      have hj : j = R.length := by
        rcases Nat.lt_or_ge (j - R.length) 1 with q | q
        · omega
        · rw [List.getElem?_eq_none (by simpa using q)] at h; cases h
      subst hj
      rw [Nat.sub_self] at h
      cases h
      exact ⟨r.1, xs, r.2.2, rfl, by rw [← he]; exact List.mem_cons_self, hxs⟩
theorem ints_of {f : Nat → Int} : ∀ {n : Nat} {ys : List Value}, ys.length = n → (∀ (j : Nat) (y : Value), ys[j]? = some y → ∃ t, y = .int (f j) t) → IntsAre ys ((List.range n).map f) := by
  intro n
  induction n generalizing f with
  | zero => intro ys hl _; rw [List.length_eq_zero_iff.mp hl]; exact .nil
  | succ n ih =>
    intro ys hl hy
    match ys, hl with
    | y :: ys, hl =>
      have hob := hy 0 y rfl
      obtain ⟨t, rfl⟩ := hob
      rw [List.range_succ_eq_map, List.map_cons, List.map_map]
      exact .cons _ _ (ih (by simpa using hl) fun j z hz => hy (j + 1) z (by simpa using hz))
section
variable {prog : Program} {w : World} {A : Around} {E : Value → Shared → Prop} {s : Shared} {h₀ : Heap} {L : Addr} {news : List (Addr × Obj)}
theorem tail_news {value slice : Expr} {l : Addr} {ws : List Value} {c : Nat} {k : Int} {t : Tok} {v : Value} {Q : Value → Shared → Prop} (N : News h₀ L s.heap news) (hm : (l, W.listOf ws.toArray c) ∈ news) (h0 : 0 ≤ k) (h1 : k < 1000) (hx : ws[k.toNat]? = some v)
    (h : Q v s) (hs : subscripted slice false (.ref l) (.int k t) = operate [.ref l, .int k t] (getItem (.ref l) (.int k t))) :
    wpAny (model prog w) A (subscriptTail value slice (.ref l) (.int k t)) Q E s :=
  tail_list (News.isList N hm) h0 h1 (by rw [List.getElem?_toArray]; exact hx) h hs
theorem range_n {n : Nat} (h : n ≤ 1000) : Builtin.Range.small 0 (n : Int) 1 = true ∧ Builtin.Range.rangeSize 0 (n : Int) 1 = ((n : Nat) : Int) :=
  ⟨small_one (by omega) (by omega) (by omega) (by omega), by rw [rangeSize_one]; split <;> omega⟩
theorem len_at {l : Addr} {ws : List Value} {c n : Nat} {Q : Value → Shared → Prop} (N : News h₀ L s.heap news) (hm : (l, W.listOf ws.toArray c) ∈ news) (hn : ws.length = n) (hb : n ≤ 1000)
    (h : ∀ t tk, Q (.int (n : Int) t) { s with toks := tk }) : wpAny (model prog w) A (call (.builtin "len") [.ref l]) Q E s := by
  subst hn
  exact len_list (News.isList N hm) (by rw [List.size_toArray]; omega) (by rw [List.size_toArray]; exact h _ _)
end
def PlaceJ (T : Nat → Int) (m₀ : Str → Option Value) (pre post : List (Addr × Obj)) (c1 c4 : Addr) (p2 p3 : Addr × Obj) : Nat → (Str → Option Value) → List (Addr × Obj) → Prop :=
  fun i m n => ∃ (t : Tok) (oo : Option Value) (o1 o4 : Obj), m = (fun q => if q = Str.ofString "total" then some (.int (T i) t) else if q = Str.ofString "odd" then oo else m₀ q) ∧
    n = pre ++ (c1, o1) :: p2 :: p3 :: (c4, o4) :: post ∧ Cell o1 ∧ Cell o4
theorem PlaceJ.start {i : Nat} {T : Nat → Int} {m₀ : Str → Option Value} {a b c : Addr × Obj} {post : List (Addr × Obj)} {c1 c4 : Addr} {o1 o4 : Obj} {p2 p3 : Addr × Obj} {x : Int} {t : Tok} {oo w1 w4 : Option Value} (e : x = T i) (h1 : o1.data = .cell w1) (h4 : o4.data = .cell w4) :
    PlaceJ T m₀ [a, b, c] post c1 c4 p2 p3 i (fun q => if q = Str.ofString "total" then some (.int x t) else if q = Str.ofString "odd" then oo else m₀ q) (a :: b :: c :: (c1, o1) :: p2 :: p3 :: (c4, o4) :: post) := by
  subst e; exact ⟨t, oo, o1, o4, rfl, rfl, ⟨_, h1⟩, ⟨_, h4⟩⟩
theorem AllNe.addr {I : Addr} {oI : Obj} {l₁ l₂ : List (Addr × Obj)} (h : AllNe I l₁) (e : l₂.map Prod.fst = l₁.map Prod.fst) : ∀ q ∈ l₂, ∀ r ∈ [(I, oI)], q.1 ≠ r.1 := by
  intro q hq r hr
  rw [List.mem_singleton.mp hr]
  have hm : q.1 ∈ l₁.map Prod.fst := e ▸ List.mem_map_of_mem hq
  have hob := List.mem_map.mp hm
  obtain ⟨p, hp, e'⟩ := hob
  rw [← e']
  exact of_allNe h p hp
theorem ints_paired {f : Nat → Int} {l : List Nat} {ys : List Value} (h : Paired (fun j y => ∃ t, y = Value.int (f j) t) l ys) : IntsAre ys (l.map f) := by
  induction h with
  | nil => exact .nil
  | cons hy _ ih => obtain ⟨t, rfl⟩ := hy; exact .cons _ _ ih
theorem fm1 (n : Nat) : Int.fmod (n : Int) 2 = 1 ↔ n % 2 = 1 := by
  rw [Int.fmod_eq_emod_of_nonneg _ (by decide)]; omega
theorem fm1n {n : Nat} (h : Int.fmod (n : Int) 2 ≠ 1) : n % 2 = 0 := by
  rw [Int.fmod_eq_emod_of_nonneg _ (by decide)] at h; omega
theorem pow_bd {b : Int} (h0 : -2000 ≤ b) (h1 : b ≤ 2000) : ∀ e : Nat, e ≤ 3 → -8000000000 ≤ b ^ e ∧ b ^ e ≤ 8000000000 := by
  have n1 : b.natAbs ≤ 2000 := by omega
  have key : ∀ e : Nat, e ≤ 3 → (b ^ e).natAbs ≤ 8000000000 := by
    intro e he
    rw [Int.natAbs_pow]
    exact Nat.le_trans (Nat.pow_le_pow_left n1 e) (Nat.le_trans (Nat.pow_le_pow_right (by decide) he) (by decide))
  intro e he
  have := key e he
  omega
theorem pow_ok {x b : Int} {n : Nat} (h0 : -2000 ≤ b) (h1 : b ≤ 2000) (hn : n ≤ 6) : IntMulOk x (b ^ (Int.fdiv ((n : Nat) : Int) 2).toNat) := by
  have he : (Int.fdiv ((n : Nat) : Int) 2).toNat ≤ 3 := by rw [Int.fdiv_eq_ediv_of_nonneg _ (by decide)]; omega
  have hob := pow_bd h0 h1 _ he
  obtain ⟨a1, a2⟩ := hob
  exact .of_right (intBits_le_64 (by omega) (by omega))
theorem fd2 (n : Nat) : Int.fdiv ((n : Nat) : Int) 2 = ((n / 2 : Nat) : Int) := by rw [Int.fdiv_eq_ediv_of_nonneg _ (by decide)]; omega
theorem PlaceJ.next {i : Nat} {T : Nat → Int} {m₀ : Str → Option Value} {a b c : Addr × Obj} {post : List (Addr × Obj)} {c1 c4 : Addr} {o1 o4 : Obj} {p2 p3 : Addr × Obj} {x : Int} {t : Tok} {oo x' y' w1 w4 : Option Value} (e : x = T i) (h1 : o1.data = .cell w1) (h4 : o4.data = .cell w4) :
    PlaceJ T m₀ [a, b, c] post c1 c4 p2 p3 i (fun q => if q = Str.ofString "total" then some (.int x t) else if q = Str.ofString "odd" then oo else if q = Str.ofString "total" then x' else if q = Str.ofString "odd" then y' else m₀ q) (a :: b :: c :: (c1, o1) :: p2 :: p3 :: (c4, o4) :: post) := by
  subst e; exact ⟨t, oo, o1, o4, upd2b _ _ _ _ _ _ _, rfl, ⟨_, h1⟩, ⟨_, h4⟩⟩
theorem StepJ.mk {i : Nat} {T : Nat → Int} {m₀ : Str → Option Value} {a : Addr × Obj} {post : List (Addr × Obj)} {c1 c2 c3 c4 : Addr} {o1 o2 o3 o4 : Obj} {x : Int} {t : Tok} {oo w1 w2 w3 w4 : Option Value} (e : x = T i) (h1 : o1.data = .cell w1) (h2 : o2.data = .cell w2) (h3 : o3.data = .cell w3) (h4 : o4.data = .cell w4) :
    StepJ T m₀ [a] post c1 c2 c3 c4 i (fun q => if q = Str.ofString "total" then some (.int x t) else if q = Str.ofString "odd" then oo else m₀ q) (a :: (c1, o1) :: (c2, o2) :: (c3, o3) :: (c4, o4) :: post) := by
  subst e; exact ⟨t, oo, o1, o2, o3, o4, rfl, rfl, ⟨_, h1⟩, ⟨_, h2⟩, ⟨_, h3⟩, ⟨_, h4⟩⟩
theorem StepJ.turn {i : Nat} {T : Nat → Int} {m₀ : Str → Option Value} {a : Addr × Obj} {post : List (Addr × Obj)} {c1 c2 c3 c4 : Addr} {o1 o2 o3 o4 : Obj} {x : Int} {t : Tok} {oo x' w1 w2 w3 w4 : Option Value} (e : x = T i) (h1 : o1.data = .cell w1) (h2 : o2.data = .cell w2) (h3 : o3.data = .cell w3) (h4 : o4.data = .cell w4) :
    StepJ T m₀ [a] post c1 c2 c3 c4 i (fun q => if q = Str.ofString "total" then some (.int x t) else if q = Str.ofString "total" then x' else if q = Str.ofString "odd" then oo else m₀ q) (a :: (c1, o1) :: (c2, o2) :: (c3, o3) :: (c4, o4) :: post) := by
  subst e
  refine ⟨t, oo, o1, o2, o3, o4, ?_, rfl, ⟨_, h1⟩, ⟨_, h2⟩, ⟨_, h3⟩, ⟨_, h4⟩⟩
  funext q; split <;> rfl
theorem count_take (y : Int) (xs : List Int) : ((List.range xs.length).filter fun j => decide (y < xs.getD j 0)).length = xs.countP fun x => decide (y < x) := by
  have h : xs = (List.range xs.length).map fun j => xs.getD j 0 := by
    apply List.ext_getElem
    · simp
    · intro i h1 h2
      simp [List.getElem?_eq_getElem h1]
  conv => rhs; rw [h]
  rw [List.countP_map, List.countP_eq_length_filter]
  rfl
theorem c_rule (w : World) (a l : Addr) (ws ls : List Value) (vs ks : List Int) : CallP w 5 141 [.ref a, .ref l] (fun h => h.PlainList l ls.toArray ∧ h.PlainList a ws.toArray ∧ IntsAre ws vs ∧ IntsAre ls ks ∧ vs.length ≤ 6 ∧ ks.length = 7 ∧ ∀ s, -2000 ≤ ks.getD s 0 ∧ ks.getD s 0 ≤ 2000) (fun v h => ∃ t, v = .int (ruleF vs ks) t) := by
  w_top off
  k_with_none
  k_with "eval Call" => (k_here; k_fold)
  k_with "eval BinOp" => (k_here; k_fold)
  k_with "eval Compare" => (k_here; k_fold)
  k_with "exec For Tuple Call" => (k_here; k_dflt (refine For_enumC (_F₀ := by k_asm) (by rfl) (by rfl) ?_))
  k_with "call type:enumerate" => (k_here; (rename Fr _ _ _ _ => Fe'); (rename News _ _ _ _ => Ne'); (rename Heap.PlainList _ _ _ => pl'); k_dflt (refine enum_list Fe' Ne' (pl'.at fun o e => Fe'.keep _ o e) ?_); intro e' it' h' F' N' hE' hIt' ne' off')
  k_with "exec For Name Call cons nil" => (k_here; k_dflt (refine For_rngC (_F₀ := by k_asm) (by rfl) (by rfl) ?_))
  k_with "exec For Name Tuple cons nil" => (k_here; k_dflt (refine For_tup (_F₀ := by k_asm) (by rfl) (by rfl) (by rfl) (by rfl) ?_))
  k_with "binaryOp Add ref ref" => (k_here; k_dflt (refine' kmk_add_lit ?F ?N ?a ?b ?e ?_ ?z; (case F => k_asm); (case N => k_asm); (case a => kmk_list); (case b => kmk_list); (case e => exact rfl); (case z => assumption)); intro D' h' F' N' l1; (try k_lt l1); (try k_sweep))
  k_with "eval ListComp" => (k_here; (with_reducible show wpAny _ _ (eval (.ListComp _ [⟨_, _, [], _⟩] _ _) _) _ _ _); k_dflt (refine comp_U (F₀ := by k_asm) (by with_unfolding_all rfl) (by decide) (by rfl) (by decide) (by rfl) ?_))
  k_with "eval ListComp" => (k_here; (with_reducible show wpAny _ _ (eval (.ListComp _ [⟨_, _, [_], _⟩] _ _) _) _ _ _); k_dflt (refine comp_T (F₀ := by k_asm) (by with_unfolding_all rfl) (by decide) (by rfl) (by decide) (by rfl) ?_))
  k_with "exec Assign cons ListComp" => (k_here; (with_reducible show wpAny _ _ (exec (.Assign [.Name (Str.ofString "odd") _] (.ListComp _ [⟨_, _, [_], _⟩] _ _) _) _) _ _ _); k_dflt (refine asg_T (F₀ := by k_asm) (by rfl) (by with_unfolding_all rfl) (by with_unfolding_all rfl) (by decide) (by rfl) (by decide) (by rfl) (by rfl) (by rfl) ?_))
  k_with "subscriptTail" => (k_here; (with_reducible show wpAny _ _ (subscriptTail _ _ (.ref _) (.int _ _)) _ _ _); k_dflt (refine tail_news (by with_reducible assumption) (by k_mem) (by omega) (by omega) (by with_reducible assumption) ?_ (by with_unfolding_all rfl)))
  k_with "subscriptTail" => (k_here; (with_reducible show wpAny _ _ (subscriptTail _ _ (.ref _) (.int _ _)) _ _ _); k_dflt (refine tail_list (by with_reducible assumption) (by omega) (by omega) (by with_reducible assumption) ?_ (by with_unfolding_all rfl)))
  k_with "call builtin:len" => (k_here; (with_reducible show wpAny _ _ (call (.builtin "len") [.ref _]) _ _ _); k_dflt (refine len_at (by with_reducible assumption) (by k_mem) (by with_reducible assumption) (by omega) ?_); intro t' tk')
  k_with "subscriptTail Name Name ref int" => (k_here; (with_reducible show wpAny _ _ (subscriptTail _ _ (.ref _) (.int _ _)) _ _ _); k_dflt (refine tail_news (by with_reducible assumption) (by k_mem) (by omega) (by omega) (by with_reducible assumption) ?_ (by with_unfolding_all rfl)))
  k_with "subscriptTail Name Name ref int" => (k_here; (with_reducible show wpAny _ _ (subscriptTail _ _ (.ref _) (.int _ _)) _ _ _); k_dflt (refine tail_list (by with_reducible assumption) (by omega) (by omega) (by with_reducible assumption) ?_ (by with_unfolding_all rfl)))
  k_with "subscriptTail Name BinOp ref int" => (k_here; (with_reducible show wpAny _ _ (subscriptTail _ _ (.ref _) (.int _ _)) _ _ _); k_dflt (refine tail_news (by with_reducible assumption) (by k_mem) (by omega) (by omega) (by with_reducible assumption) ?_ (by with_unfolding_all rfl)))
  k_with "subscriptTail Name BinOp ref int" => (k_here; (with_reducible show wpAny _ _ (subscriptTail _ _ (.ref _) (.int _ _)) _ _ _); k_dflt (refine tail_list (by with_reducible assumption) (by omega) (by omega) (by with_reducible assumption) ?_ (by with_unfolding_all rfl)))
  k_with "subscriptTail Name Name ref int" => (k_here; (with_reducible show wpAny _ _ (subscriptTail _ _ (.ref _) (.int _ _)) _ _ _); (rename Fr _ _ _ _ => F'); k_dflt (refine tail_list (stays_list F'.keep (by with_reducible assumption)) (by omega) (by omega) (by with_reducible assumption) ?_ (by with_unfolding_all rfl)))
  k_with "binaryOp Pow int int" => (k_here; k_dflt (refine pow_int_small (by omega) (by omega) (by omega) ?_))
  intro dp un fr gd s Q E O hP hdp hun hQ
  have hfill : (fun (_ : OpenLaw) (_ : Params → Frag) => True) PySem.Challenge.rw_wu0005_01 hd.heap_39 := by k_fill; trivial
  clear hfill
  obtain ⟨X, mean, mg, mb, T⟩ := O
  k_dflt (refine' enterC X T.nolimit ?c1 ?c2 ?c3 ?c4 ?c5 ?c10 ?_ ?c6 ?c7 ?c8)
  case c1 => (dsimp only [Aw]; omega)
  case c2 => k_is
  case c3 => k_is
  case c4 => exact BindsTo.of_eq rfl
  case c5 => exact rfl
  case c6 => exact rfl
  case c7 => exact rfl
  case c8 => exact rfl
  case c10 => decide
  intro L h₁ tk cells F N Y
  k_cells Y
  (try simp only [List.cons_append, List.nil_append] at N)
  (try dsimp only); (try k_fold)
  k_with "k_ne" => (refine neN ?_; (try dsimp only); with_reducible first | exact offN.1 | exact Ne.symm offN.1 | exact offN | exact Ne.symm offN | exact offN.2.1 | exact Ne.symm offN.2.1 | exact offN.2 | exact Ne.symm offN.2 | exact offN.2.2.1 | exact Ne.symm offN.2.2.1 | exact offN.2.2 | exact Ne.symm offN.2.2 | exact offN.2.2.2.1 | exact Ne.symm offN.2.2.2.1 | exact offN.2.2.2 | exact Ne.symm offN.2.2.2 | exact offN.2.2.2.2.1 | exact Ne.symm offN.2.2.2.2.1 | exact offN.2.2.2.2 | exact Ne.symm offN.2.2.2.2 | exact offN.2.2.2.2.2.1 | exact Ne.symm offN.2.2.2.2.2.1 | exact offN.2.2.2.2.2 | exact Ne.symm offN.2.2.2.2.2 | exact offN.2.2.2.2.2.2.1 | exact Ne.symm offN.2.2.2.2.2.2.1 | exact offN.2.2.2.2.2.2 | exact Ne.symm offN.2.2.2.2.2.2 | exact offN.2.2.2.2.2.2.2.1 | exact Ne.symm offN.2.2.2.2.2.2.2.1 | exact offN.2.2.2.2.2.2.2 | exact Ne.symm offN.2.2.2.2.2.2.2 | exact offN.2.2.2.2.2.2.2.2.1 | exact Ne.symm offN.2.2.2.2.2.2.2.2.1 | exact offN.2.2.2.2.2.2.2.2 | exact Ne.symm offN.2.2.2.2.2.2.2.2 | exact offpN.1 | exact Ne.symm offpN.1 | exact offpN | exact Ne.symm offpN | exact offpN.2.1 | exact Ne.symm offpN.2.1 | exact offpN.2 | exact Ne.symm offpN.2 | exact offpN.2.2.1 | exact Ne.symm offpN.2.2.1 | exact offpN.2.2 | exact Ne.symm offpN.2.2 | exact offpN.2.2.2.1 | exact Ne.symm offpN.2.2.2.1 | exact offpN.2.2.2 | exact Ne.symm offpN.2.2.2 | exact offpN.2.2.2.2.1 | exact Ne.symm offpN.2.2.2.2.1 | exact offpN.2.2.2.2 | exact Ne.symm offpN.2.2.2.2 | exact offpN.2.2.2.2.2.1 | exact Ne.symm offpN.2.2.2.2.2.1 | exact offpN.2.2.2.2.2 | exact Ne.symm offpN.2.2.2.2.2 | exact offpN.2.2.2.2.2.2.1 | exact Ne.symm offpN.2.2.2.2.2.2.1 | exact offpN.2.2.2.2.2.2 | exact Ne.symm offpN.2.2.2.2.2.2 | exact offpN.2.2.2.2.2.2.2.1 | exact Ne.symm offpN.2.2.2.2.2.2.2.1 | exact offpN.2.2.2.2.2.2.2 | exact Ne.symm offpN.2.2.2.2.2.2.2 | exact offpN.2.2.2.2.2.2.2.2.1 | exact Ne.symm offpN.2.2.2.2.2.2.2.2.1 | exact offpN.2.2.2.2.2.2.2.2 | exact Ne.symm offpN.2.2.2.2.2.2.2.2 | exact off'.1 | exact Ne.symm off'.1 | exact off' | exact Ne.symm off' | exact off'.2.1 | exact Ne.symm off'.2.1 | exact off'.2 | exact Ne.symm off'.2 | exact off'.2.2.1 | exact Ne.symm off'.2.2.1 | exact off'.2.2 | exact Ne.symm off'.2.2 | exact off'.2.2.2.1 | exact Ne.symm off'.2.2.2.1 | exact off'.2.2.2 | exact Ne.symm off'.2.2.2 | exact off'.2.2.2.2.1 | exact Ne.symm off'.2.2.2.2.1 | exact off'.2.2.2.2 | exact Ne.symm off'.2.2.2.2 | exact off'.2.2.2.2.2.1 | exact Ne.symm off'.2.2.2.2.2.1 | exact off'.2.2.2.2.2 | exact Ne.symm off'.2.2.2.2.2 | exact off'.2.2.2.2.2.2.1 | exact Ne.symm off'.2.2.2.2.2.2.1 | exact off'.2.2.2.2.2.2 | exact Ne.symm off'.2.2.2.2.2.2 | exact off'.2.2.2.2.2.2.2.1 | exact Ne.symm off'.2.2.2.2.2.2.2.1 | exact off'.2.2.2.2.2.2.2 | exact Ne.symm off'.2.2.2.2.2.2.2 | exact off'.2.2.2.2.2.2.2.2.1 | exact Ne.symm off'.2.2.2.2.2.2.2.2.1 | exact off'.2.2.2.2.2.2.2.2 | exact Ne.symm off'.2.2.2.2.2.2.2.2 | exact off2.1 | exact Ne.symm off2.1 | exact off2 | exact Ne.symm off2 | exact off2.2.1 | exact Ne.symm off2.2.1 | exact off2.2 | exact Ne.symm off2.2 | exact off2.2.2.1 | exact Ne.symm off2.2.2.1 | exact off2.2.2 | exact Ne.symm off2.2.2 | exact off2.2.2.2.1 | exact Ne.symm off2.2.2.2.1 | exact off2.2.2.2 | exact Ne.symm off2.2.2.2 | exact off2.2.2.2.2.1 | exact Ne.symm off2.2.2.2.2.1 | exact off2.2.2.2.2 | exact Ne.symm off2.2.2.2.2 | exact off2.2.2.2.2.2.1 | exact Ne.symm off2.2.2.2.2.2.1 | exact off2.2.2.2.2.2 | exact Ne.symm off2.2.2.2.2.2 | exact off2.2.2.2.2.2.2.1 | exact Ne.symm off2.2.2.2.2.2.2.1 | exact off2.2.2.2.2.2.2 | exact Ne.symm off2.2.2.2.2.2.2 | exact off2.2.2.2.2.2.2.2.1 | exact Ne.symm off2.2.2.2.2.2.2.2.1 | exact off2.2.2.2.2.2.2.2 | exact Ne.symm off2.2.2.2.2.2.2.2 | exact off2.2.2.2.2.2.2.2.2.1 | exact Ne.symm off2.2.2.2.2.2.2.2.2.1 | exact off2.2.2.2.2.2.2.2.2 | exact Ne.symm off2.2.2.2.2.2.2.2.2 | exact off3.1 | exact Ne.symm off3.1 | exact off3 | exact Ne.symm off3 | exact off3.2.1 | exact Ne.symm off3.2.1 | exact off3.2 | exact Ne.symm off3.2 | exact off3.2.2.1 | exact Ne.symm off3.2.2.1 | exact off3.2.2 | exact Ne.symm off3.2.2 | exact off3.2.2.2.1 | exact Ne.symm off3.2.2.2.1 | exact off3.2.2.2 | exact Ne.symm off3.2.2.2 | exact off3.2.2.2.2.1 | exact Ne.symm off3.2.2.2.2.1 | exact off3.2.2.2.2 | exact Ne.symm off3.2.2.2.2 | exact off3.2.2.2.2.2.1 | exact Ne.symm off3.2.2.2.2.2.1 | exact off3.2.2.2.2.2 | exact Ne.symm off3.2.2.2.2.2 | exact off3.2.2.2.2.2.2.1 | exact Ne.symm off3.2.2.2.2.2.2.1 | exact off3.2.2.2.2.2.2 | exact Ne.symm off3.2.2.2.2.2.2 | exact off3.2.2.2.2.2.2.2.1 | exact Ne.symm off3.2.2.2.2.2.2.2.1 | exact off3.2.2.2.2.2.2.2 | exact Ne.symm off3.2.2.2.2.2.2.2 | exact off3.2.2.2.2.2.2.2.2.1 | exact Ne.symm off3.2.2.2.2.2.2.2.2.1 | exact off3.2.2.2.2.2.2.2.2 | exact Ne.symm off3.2.2.2.2.2.2.2.2 | exact off1.1 | exact Ne.symm off1.1 | exact off1 | exact Ne.symm off1 | exact off1.2.1 | exact Ne.symm off1.2.1 | exact off1.2 | exact Ne.symm off1.2 | exact off1.2.2.1 | exact Ne.symm off1.2.2.1 | exact off1.2.2 | exact Ne.symm off1.2.2 | exact off1.2.2.2.1 | exact Ne.symm off1.2.2.2.1 | exact off1.2.2.2 | exact Ne.symm off1.2.2.2 | exact off1.2.2.2.2.1 | exact Ne.symm off1.2.2.2.2.1 | exact off1.2.2.2.2 | exact Ne.symm off1.2.2.2.2 | exact off1.2.2.2.2.2.1 | exact Ne.symm off1.2.2.2.2.2.1 | exact off1.2.2.2.2.2 | exact Ne.symm off1.2.2.2.2.2 | exact off1.2.2.2.2.2.2.1 | exact Ne.symm off1.2.2.2.2.2.2.1 | exact off1.2.2.2.2.2.2 | exact Ne.symm off1.2.2.2.2.2.2 | exact off1.2.2.2.2.2.2.2.1 | exact Ne.symm off1.2.2.2.2.2.2.2.1 | exact off1.2.2.2.2.2.2.2 | exact Ne.symm off1.2.2.2.2.2.2.2 | exact off1.2.2.2.2.2.2.2.2.1 | exact Ne.symm off1.2.2.2.2.2.2.2.2.1 | exact off1.2.2.2.2.2.2.2.2 | exact Ne.symm off1.2.2.2.2.2.2.2.2 | exact offI1.1 | exact Ne.symm offI1.1 | exact offI1 | exact Ne.symm offI1 | exact offI1.2.1 | exact Ne.symm offI1.2.1 | exact offI1.2 | exact Ne.symm offI1.2 | exact offI1.2.2.1 | exact Ne.symm offI1.2.2.1 | exact offI1.2.2 | exact Ne.symm offI1.2.2 | exact offI1.2.2.2.1 | exact Ne.symm offI1.2.2.2.1 | exact offI1.2.2.2 | exact Ne.symm offI1.2.2.2 | exact offI1.2.2.2.2.1 | exact Ne.symm offI1.2.2.2.2.1 | exact offI1.2.2.2.2 | exact Ne.symm offI1.2.2.2.2 | exact offI1.2.2.2.2.2.1 | exact Ne.symm offI1.2.2.2.2.2.1 | exact offI1.2.2.2.2.2 | exact Ne.symm offI1.2.2.2.2.2 | exact offI1.2.2.2.2.2.2.1 | exact Ne.symm offI1.2.2.2.2.2.2.1 | exact offI1.2.2.2.2.2.2 | exact Ne.symm offI1.2.2.2.2.2.2 | exact offI1.2.2.2.2.2.2.2.1 | exact Ne.symm offI1.2.2.2.2.2.2.2.1 | exact offI1.2.2.2.2.2.2.2 | exact Ne.symm offI1.2.2.2.2.2.2.2 | exact offI1.2.2.2.2.2.2.2.2.1 | exact Ne.symm offI1.2.2.2.2.2.2.2.2.1 | exact offI1.2.2.2.2.2.2.2.2 | exact Ne.symm offI1.2.2.2.2.2.2.2.2)
  obtain ⟨pll, pl, hI, hK, hn, hk, hkb⟩ := hP
  have hil := pl.isList
  have hll := pll.isList
  k_steps
  unfold Stop
  (rename Fr _ _ _ _ => F'); (rename News _ _ _ _ => N'); rename IsEnum _ _ _ _ _ => hE; rename Heap.IsListIter _ _ _ _ => hIt; rename _ ∧ _ => ne; rename (∀ p ∈ _, _ ≠ _ ∧ _ ≠ _) => off
  intro Pk kk
  refine kk _ _ _ _ _ _ _ (KeysJ vs _ _ _ _ _ _ _ _ _ _ _) rfl ne hE hIt F' N' off (KeysJ.start (by assumption)) (fun _ _ _ _ => .inl hil) ?_ ?_ <;> clear kk Pk
  · clear F' N' hE hIt off
    rintro i v tk m₁ news₁ oe oi h tk₁ hi ⟨ov, ok, oh, R, c, o4, rfl, rfl, hRl, hR, ⟨v4, hv4⟩, hlt⟩ off F' N'
    have hob := hI.at i v (by simpa using hi)
    obtain ⟨x, t, rfl, hx⟩ := hob
    have hi6 : i < 6 := by
      have h1 := (Array.getElem?_eq_some_iff.mp hi).1
      have h2 := IntsAre.length hI
      rw [List.size_toArray] at h1; omega
    have hzk : (R.reverse.map fun r => Value.ref r.1).toArray.size ≤ sizeLine := by rw [List.size_toArray, List.length_map, List.length_reverse, hRl, sizeLine_eq]; omega
    have off1 := allNe fun p hp => (off p hp).1
    have off2 := allNe fun p hp => (off p hp).2
    simp only [AllNe, and_true] at off1 off2
    k_steps
    · unfold Stop
      (rename Fr _ _ _ _ => F'); (rename News _ _ _ _ => N')
      intro Pk kk
      refine kk _ _ _ _ _ (PushJ (Str.ofString "head") _ _ _ _ _ (KeyUp x i)) rfl F' N' (PushJ.start ⟨_, rfl, .cons _ _ .nil⟩) PushJ.tup ?_ ?_ <;> clear kk Pk
      · clear F' N'
        rintro j v m₁ news₁ I oI h tk₁ hj ⟨oh', vs', c', rfl, rfl, ⟨xs, rfl, hxs⟩⟩ offI F' N'
        have offI0 := allNe offI
        have offI1 := offI0
        simp only [AllNe, and_true] at offI1
        obtain ⟨hd, t', rfl, hhd, hj3⟩ : ∃ hd t', v = .int hd t' ∧ hd = [x.fdiv 16, x.fdiv 4, x].getD j 0 ∧ j < 3 := by
          rcases j with _ | _ | _ | j
          · cases hj; exact ⟨_, _, rfl, rfl, by omega⟩
          · cases hj; exact ⟨_, _, rfl, rfl, by omega⟩
          · cases hj; exact ⟨_, _, rfl, rfl, by omega⟩
          · simp at hj
        have hxl : xs.length ≤ 8 := by
          have := IntsAre.length hxs
          simp only [List.length_take] at this
          have h8 : (keyL x i).length = 8 := rfl
          omega
        have hz : xs.toArray.size ≤ sizeLine := by rw [List.size_toArray, sizeLine_eq]; omega
        (try dsimp only); (try k_fold)
        k_steps
        (rename Fr _ _ _ _ => F'); (rename News _ _ _ _ => N')
        refine LoopEnd.intro _ F' N' (by intro p hp; exact hp) ?_ (PushJ.next (KeyUp.next hj3 hxs hhd))
        intro q hq r hr
        rw [List.mem_singleton.mp hr]
        exact of_allNe (same_addr offI0) q hq
      · rintro h tk m' n' F' N' ⟨oh', vs', c', rfl, rfl, ⟨xs, rfl, hxs⟩⟩
        have hxs : IntsAre xs ((keyL x i).take 7) := hxs
        have hz2 : xs.toArray.toList.length + 1 ≤ sizeLine := by
          have := IntsAre.length hxs
          have h8 : ((keyL x i).take 7).length = 7 := rfl
          rw [sizeLine_eq]; simp only; omega
        (try dsimp only); (try k_fold)
        k_steps
        (rename Fr _ _ _ _ => F'); (rename News _ _ _ _ => N')
        exact KeysJ.close F' N' (by assumption) hRl hx hxs hR hlt off1 off2 ⟨by omega, by omega, by omega⟩
  rintro h tk m' n' F' N' ⟨ov, ok, oh, R, c, o4, rfl, rfl, hRl, hR, ⟨v4, hv4⟩, hlt⟩
  k_steps
  unfold Stop
  (rename Fr _ _ _ _ => F'); (rename News _ _ _ _ => N'); rename IsRange _ _ _ _ _ _ _ _ => hr
  intro Pk kk
  refine kk _ _ _ _ _ _ _ 7 _ _ (StepJ (prodT vs ks) _ [(_, keyObj R c)] ((_, _) :: rowObjs R) _ _ _ _) rfl hr (by with_unfolding_all rfl) (by with_unfolding_all rfl) F' N' ⟨_, _, _, _, _, o4, upd2c _ _ _ _, rfl, ⟨_, by assumption⟩, ⟨_, by assumption⟩, ⟨_, by assumption⟩, ⟨_, hv4⟩⟩ ?_ ?_ <;> clear kk Pk
  · clear F' N' hr
    rintro i tk m₁ news₁ I oI h tk₁ hi ⟨tt, oo, o1, o2, o3, o4, rfl, rfl, ⟨w1, hw1⟩, ⟨w2, hw2⟩, ⟨w3, hw3⟩, ⟨w4, hw4⟩⟩ off F' N'
    have off0 := allNe off
    have offN := off0
    simp only [List.cons_append, List.nil_append] at N'
    simp only [AllNe, and_true, List.cons_append, List.nil_append] at offN
    rw [Int.zero_add]
    k_steps
    unfold Stop
    (rename Fr _ _ _ _ => F'); (rename News _ _ _ _ => N')
    have hRn : R.length = vs.length := by rw [hRl, List.size_toArray]; exact IntsAre.length hI
    refine LCg.CompSrc.ledger rfl F' N' (its := (R.reverse.map fun r => Value.ref r.1).toArray) (k := c) (by k_mem) (by rw [List.size_toArray, List.length_map, List.length_reverse, hRn, sizeLine_eq]; omega) fun g => rest_gen (fun j y => ∃ t, y = .int (keyE vs j i) t) ?_ ?_ ?_
    · exact .inr ⟨_, by k_mem, rfl, _, rfl⟩
    · clear F' N'
      rintro j v I' oI' C oC D m₂ ys h tk E' hj hv hC hx F' N' off' ne S
      have hob := hR.at hv
      obtain ⟨r, xs, c', rfl, hm, hxs⟩ := hob
      have hls : h.IsList r xs.toArray := News.isList N' (by repeat (first | exact hm | refine List.mem_cons_of_mem _ ?_))
      obtain ⟨t, hy⟩ : ∃ t, xs[(i : Int).toNat]? = some (.int (keyE vs j i) t) := ints_at hxs (by show _ < 8; omega)
      have hy := (List.getElem?_toArray (xs := xs) (i := (i : Int).toNat)).trans hy
      k_steps
      (rename Fr _ _ _ _ => F'); (rename News _ _ _ _ => N')
      exact LCg.CompEnd.intro F' N' _ (fun _ h => h) off' S ⟨rfl, t, rfl⟩
    intro ys hyl hy
    have hrow : IntsAre ys (rowL vs i) := ints_of (by rw [hyl, List.size_toArray, List.length_map, List.length_reverse, hRn]) hy
    intro D h tk F' N' off'
    simp only [LCg.Off1, and_true] at off'
    have hyn : ys.length = vs.length := by rw [hyl, List.size_toArray, List.length_map, List.length_reverse, hRn]
    (try dsimp only); (try k_fold)
    k_steps
    unfold Stop
    (rename Fr _ _ _ _ => F'); (rename News _ _ _ _ => N'); rename IsRange _ _ _ _ _ _ _ _ => hr
    intro Pk kk
    refine kk _ _ _ _ _ _ _ vs.length _ _ (PlaceJ (stepT vs ks i (prodT vs ks i)) _ [(D, LCg.lst ys), (I, oI), (_, keyObj R c)] ((_, _) :: rowObjs R) _ _ _ _) rfl hr ((range_n (by omega)).1) ((range_n (by omega)).2) F' N' (PlaceJ.start rfl hw1 hw4) ?_ ?_ <;> clear kk Pk
    · clear F' N' hr
      rintro p tk m₁ news₁ I' oI' h tk₁ hp ⟨tt', oo', o1', o4', rfl, rfl, ⟨w1', hw1'⟩, ⟨w4', hw4'⟩⟩ offp F' N'
      have offp0 := allNe offp
      have offpN := offp0
      simp only [List.cons_append, List.nil_append] at N'
      simp only [AllNe, and_true, List.cons_append, List.nil_append] at offpN
      rw [Int.zero_add]
      obtain ⟨tx, hyp⟩ : ∃ t, ys[(p : Int).toNat]? = some (.int ((rowL vs i).getD p 0) t) := ints_at hrow (by rw [← IntsAre.length hrow, hyn]; exact hp)
      k_steps
      · rename (List.any _ _ = true) => hold
        rw [Int.toNat_natCast] at hold
        (rename Fr _ _ _ _ => F'); (rename News _ _ _ _ => N')
        refine LoopEnd.intro _ F' N' (fun q hq => List.mem_cons_of_mem _ hq) (AllNe.addr offp0 rfl) (PlaceJ.start ?_ hw1' (by assumption))
        rw [stepT_succ]; unfold placeT isNew; rw [hold]; rfl
      rename (List.any _ _ = false) => hnew
      rw [Int.toNat_natCast] at hnew
      unfold Stop
      (rename Fr _ _ _ _ => F'); (rename News _ _ _ _ => N')
      refine LCt.CompSrcT.ledger rfl F' N' (its := (R.reverse.map fun r => Value.ref r.1).toArray) (k := c) (by k_mem) (by rw [List.size_toArray, List.length_map, List.length_reverse, hRn, sizeLine_eq]; omega) fun g => rest_test (fun j => keyE vs j i == (rowL vs i).getD p 0) (fun j y => ∃ t, y = .int (keyE vs j (i + 1)) t) ?_ ?_ ?_
      · exact .inr ⟨_, by k_mem, rfl, _, rfl⟩
      · clear F' N'
        rintro j v Iq oIq C oC Dq m₂ zs h tk E' hj hv hC hx F' N' offq ne S
        have hob := hR.at hv
        obtain ⟨r, xs, c', rfl, hm, hxs⟩ := hob
        have hls : h.IsList r xs.toArray := News.isList N' (by repeat (first | exact hm | refine List.mem_cons_of_mem _ ?_))
        obtain ⟨t, hy⟩ : ∃ t, xs[(i : Int).toNat]? = some (.int (keyE vs j i) t) := ints_at hxs (by show _ < 8; omega)
        have hy := (List.getElem?_toArray (xs := xs) (i := (i : Int).toNat)).trans hy
        obtain ⟨t2, hy2⟩ : ∃ t, xs[((i : Int) + 1).toNat]? = some (.int (keyE vs j (i + 1)) t) := ints_at hxs (by show _ < 8; omega)
        have hy2 := (List.getElem?_toArray (xs := xs) (i := ((i : Int) + 1).toNat)).trans hy2
        k_steps
        · (rename Fr _ _ _ _ => F'); (rename News _ _ _ _ => N')
          exact LCg.CompEnd.intro F' N' _ (fun _ h => h) offq S ⟨rfl, t2, rfl⟩
        · (rename Fr _ _ _ _ => F'); (rename News _ _ _ _ => N')
          exact LCg.CompEnd.intro F' N' _ (fun _ h => h) offq S ⟨rfl, trivial⟩
      clear F' N'
      intro zs hzs
      have hz : IntsAre zs (partL vs i ((rowL vs i).getD p 0)) := by
        rw [List.size_toArray, List.length_map, List.length_reverse, hRn] at hzs
        exact ints_paired hzs
      have hzl : (partL vs i ((rowL vs i).getD p 0)).length ≤ 6 := by
        unfold partL
        rw [List.length_map]
        have := List.length_filter_le (fun j => keyE vs j i == (rowL vs i).getD p 0) (List.range vs.length)
        rw [List.length_range] at this
        omega
      generalize hPdef : partL vs i ((rowL vs i).getD p 0) = P at hz hzl
      have hzn : zs.length = P.length := IntsAre.length hz
      intro D2 h tk F' N' off2
      simp only [LCg.Off1, and_true] at off2
      (try dsimp only); (try k_fold)
      k_steps
      unfold Stop
      (rename Fr _ _ _ _ => F'); (rename News _ _ _ _ => N'); rename IsRange _ _ _ _ _ _ _ _ => hr
      refine LCt.CompSrcT.range rfl F' N' hr (range_n (by omega)).1 (n := P.length) (range_n (by omega)).2 (by rw [sizeLine_eq]; omega) fun g => rest_test (fun k => isNew P k && P.count (P.getD k 0) % 2 == 1) (fun _ _ => True) trivial ?_ ?_
      · clear F' N' hr
        rintro k v Iq oIq C oC Dq m₂ us h tk E' hk' ⟨tv, rfl⟩ hC hx F' N' offq ne S
        rw [Int.zero_add] at hx
        have hob : ∃ t, zs[(k : Int).toNat]? = some (.int (P.getD k 0) t) := ints_at hz hk'
        obtain ⟨tz, hyz⟩ := hob
        k_steps
        all_goals (try ((rename Fr _ _ _ _ => F'); (rename News _ _ _ _ => N'); exact LCg.CompEnd.intro F' N' _ (fun _ h => List.mem_cons_of_mem _ h) offq S ⟨rfl, trivial⟩))
        all_goals (rename (List.any _ _ = _) => ha; rw [Int.toNat_natCast] at ha; unfold isNew; rw [ha])
        all_goals first
          | rfl
          | (rename (Int.fmod _ _ = _) => hf; rw [(fm1 _).mp hf]; rfl)
          | (rename (Int.fmod _ _ ≠ _) => hf; rw [fm1n hf]; rfl)
      clear F' N' hr
      intro us hus
      have hul : us.length = oddN P := (Paired.length hus).symm
      have hol : oddN P ≤ 6 := by
        have := List.length_filter_le (fun k => isNew P k && P.count (P.getD k 0) % 2 == 1) (List.range P.length)
        rw [List.length_range] at this
        exact Nat.le_trans this hzl
      obtain ⟨tl, hlk⟩ : ∃ t, ls[(i : Int).toNat]? = some (.int (ks.getD i 0) t) := ints_at hK (by rw [hk]; exact hi)
      have hlk := (List.getElem?_toArray (xs := ls) (i := (i : Int).toNat)).trans hlk
      have hob := hkb i
      obtain ⟨hb0, hb1⟩ := hob
      have hfd := fd2 (oddN P)
      have hfd0 : 0 ≤ Int.fdiv ((oddN P : Nat) : Int) 2 ∧ Int.fdiv ((oddN P : Nat) : Int) 2 ≤ 3 := by rw [hfd]; omega
      have hmo : IntMulOk (stepT vs ks i (prodT vs ks i) p) (ks.getD i 0 ^ (Int.fdiv ((oddN P : Nat) : Int) 2).toNat) := pow_ok hb0 hb1 hol
      intro D3 h tk F' N' off3
      simp only [LCg.Off1, and_true] at off3
      (try dsimp only); (try k_fold)
      k_steps
      (rename Fr _ _ _ _ => F'); (rename News _ _ _ _ => N')
      refine LoopEnd.intro _ F' N' (fun q hq => List.mem_cons_of_mem _ (List.mem_cons_of_mem _ (List.mem_cons_of_mem _ hq))) (AllNe.addr offp0 rfl) (PlaceJ.next ?_ (by assumption) (by assumption))
      rw [stepT_succ]; unfold placeT isNew; rw [hnew, hPdef, hfd]; rfl
    rintro h tk m' n' F' N' ⟨tt', oo', o1', o4', rfl, rfl, ⟨w1', hw1'⟩, ⟨w4', hw4'⟩⟩
    simp only [List.cons_append, List.nil_append] at N'
    (try dsimp only); (try k_fold)
    k_steps
    (rename Fr _ _ _ _ => F'); (rename News _ _ _ _ => N')
    refine LoopEnd.intro _ F' N' (fun q hq => List.mem_cons_of_mem _ hq) (AllNe.addr off0 rfl) (StepJ.mk ?_ hw1' (by assumption) (by assumption) hw4')
    rw [prodT_succ]
  rintro h tk m' n' F' N' ⟨tt, oo, o1, o2, o3, o4, rfl, rfl, ⟨w1, hw1⟩, ⟨w2, hw2⟩, ⟨w3, hw3⟩, ⟨w4, hw4⟩⟩
  simp only [List.cons_append, List.nil_append] at N'
  (try dsimp only); (try k_fold)
  k_steps
  unfold Stop
  (rename Fr _ _ _ _ => F'); (rename News _ _ _ _ => N'); rename IsRange _ _ _ _ _ _ _ _ => hr
  intro Pk kk
  refine kk _ _ _ _ _ _ _ vs.length _ _ (StepJ (signT vs (prodT vs ks 7)) _ [(_, keyObj R c)] ((_, _) :: rowObjs R) _ _ _ _) rfl hr ((range_n (by omega)).1) ((range_n (by omega)).2) F' N' (StepJ.mk rfl hw1 hw2 hw3 hw4) ?_ ?_ <;> clear kk Pk
  · clear F' N' hr
    rintro p tk m₁ news₁ I oI h tk₁ hp ⟨tt, oo, o1, o2, o3, o4, rfl, rfl, ⟨w1, hw1⟩, ⟨w2, hw2⟩, ⟨w3, hw3⟩, ⟨w4, hw4⟩⟩ off F' N'
    have off0 := allNe off
    have offN := off0
    simp only [List.cons_append, List.nil_append] at N'
    simp only [AllNe, and_true, List.cons_append, List.nil_append] at offN
    rw [Int.zero_add]
    have hob : ∃ t, ws[(p : Int).toNat]? = some (.int (vs.getD p 0) t) := ints_at hI hp
    obtain ⟨tx, hxp⟩ := hob
    have hxp := (List.getElem?_toArray (xs := ws) (i := (p : Int).toNat)).trans hxp
    k_steps
    unfold Stop
    (rename Fr _ _ _ _ => F'); (rename News _ _ _ _ => N'); rename IntsAre _ (List.take _ _) => hT
    rw [Int.toNat_natCast] at hT
    have hTl := IntsAre.length hT
    have hTk : (vs.take p).length ≤ 6 := by rw [List.length_take]; omega
    refine LCt.CompSrcT.ledger rfl F' N' (List.Mem.head _) (by rw [List.size_toArray, hTl, sizeLine_eq]; omega) fun g => rest_test (fun j => decide (vs.getD p 0 < (vs.take p).getD j 0)) (fun _ _ => True) (.inr ⟨_, List.Mem.head _, rfl, _, rfl⟩) ?_ ?_
    · clear F' N'
      rintro j v Iq oIq C oC Dq m₂ us h tk E' hj hv hC hx F' N' offq ne S
      obtain ⟨y, t, rfl, hy⟩ := hT.at j v (by rw [List.getElem?_toArray] at hv; exact hv)
      have hyd : (vs.take p).getD j 0 = y := by rw [List.getD_eq_getElem?_getD, hy]; rfl
      rw [hyd]
      k_steps
      all_goals ((rename Fr _ _ _ _ => F'); (rename News _ _ _ _ => N'); exact LCg.CompEnd.intro F' N' _ (fun _ h => h) offq S ⟨rfl, trivial⟩)
    clear F' N'
    intro us hus
    have hul : us.length = (vs.take p).countP fun x => decide (vs.getD p 0 < x) := by
      rw [List.size_toArray, hTl] at hus
      rw [← count_take]; exact (Paired.length hus).symm
    have hol : ((vs.take p).countP fun x => decide (vs.getD p 0 < x)) ≤ 6 := Nat.le_trans List.countP_le_length hTk
    intro D3 h tk F' N' off3
    simp only [LCg.Off1, and_true] at off3
    (try dsimp only); (try k_fold)
    k_steps
    · (rename Fr _ _ _ _ => F'); (rename News _ _ _ _ => N'); rename (Int.fmod _ _ = _) => hf
      refine LoopEnd.intro _ F' N' (fun q hq => List.mem_cons_of_mem _ (List.mem_cons_of_mem _ hq)) (AllNe.addr off0 rfl) (StepJ.turn ?_ hw1 hw2 hw3 (by assumption))
      rw [signT_succ, (fm1 _).mp hf]; rfl
    · (rename Fr _ _ _ _ => F'); (rename News _ _ _ _ => N'); rename (Int.fmod _ _ ≠ _) => hf
      refine LoopEnd.intro _ F' N' (fun q hq => List.mem_cons_of_mem _ (List.mem_cons_of_mem _ hq)) (AllNe.addr off0 rfl) (StepJ.mk ?_ hw1 hw2 hw3 (by assumption))
      rw [signT_succ, fm1n hf]; rfl
  rintro h tk m' n' F' N' ⟨tt, oo, o1, o2, o3, o4, rfl, rfl, ⟨w1, hw1⟩, ⟨w2, hw2⟩, ⟨w3, hw3⟩, ⟨w4, hw4⟩⟩
  simp only [List.cons_append, List.nil_append] at N'
  (try dsimp only); (try k_fold)
  k_steps
  (rename Fr _ _ _ _ => F')
  exact hQ _ _ _ F'.keep ⟨_, rfl⟩
end Mine

namespace Mine
/-- sum of f over 0..n-1 -/
def S : Nat → (Nat → Nat) → Nat
  | 0, _ => 0
  | n + 1, f => S n f + f n
theorem S_congr {n : Nat} {f f' : Nat → Nat} (h : ∀ g, g < n → f' g = f g) : S n f' = S n f := by
  induction n with
  | zero => rfl
  | succ n ih => rw [S, S, ih fun g hg => h g (by omega), h n (by omega)]
theorem S_upd {n g₀ d : Nat} {f f' : Nat → Nat} (h : ∀ g, g < n → g ≠ g₀ → f' g = f g) (h₀ : f' g₀ = f g₀ + d) (hg : g₀ < n) : S n f' = S n f + d := by
  induction n with
  | zero => omega
  | succ n ih =>
    rw [S, S]
    by_cases e : n = g₀
    · subst e; rw [S_congr (f := f) fun g hg => h g (by omega) (by omega), h₀]; omega
    · rw [ih (fun g hg => h g (by omega)) (by omega), h n (by omega) e]; omega
theorem S_zero {n : Nat} : S n (fun _ => 0) = 0 := by
  induction n with
  | zero => rfl
  | succ n ih => rw [S, ih]
section pf
def p4 (e : Int → Int → Int) (a b c d : Int) : Int := e a b * e c d - e a c * e b d + e a d * e b c
def p6 (e : Int → Int → Int) (a b c d f g : Int) : Int := e a b * p4 e c d f g - e a c * p4 e b d f g + e a d * p4 e b c f g - e a f * p4 e b c d g + e a g * p4 e b c d f
def pf (e : Int → Int → Int) (l : List Int) : Int :=
  if l.length = 2 then e (l.getD 0 0) (l.getD 1 0) else if l.length = 4 then p4 e (l.getD 0 0) (l.getD 1 0) (l.getD 2 0) (l.getD 3 0)
  else if l.length = 6 then p6 e (l.getD 0 0) (l.getD 1 0) (l.getD 2 0) (l.getD 3 0) (l.getD 4 0) (l.getD 5 0) else 1
theorem pf_zero (e : Int → Int → Int) : pf e [] = 1 := rfl
theorem pf_two (e : Int → Int → Int) (a b : Int) : pf e [a, b] = e a b := rfl
theorem pf_four (e : Int → Int → Int) (a b c d : Int) : pf e [a, b, c, d] = p4 e a b c d := rfl
theorem pf_six (e : Int → Int → Int) (a b c d f g : Int) : pf e [a, b, c, d, f, g] = p6 e a b c d f g := rfl
def Even6 (n : Nat) : Prop := n = 0 ∨ n = 2 ∨ n = 4 ∨ n = 6
theorem pf_swap {e : Int → Int → Int} {x y : Int} (h : e y x = -(e x y)) (pre post : List Int) (hl : Even6 (pre ++ x :: y :: post).length) : pf e (pre ++ y :: x :: post) = -(pf e (pre ++ x :: y :: post)) := by
  unfold Even6 at hl
  match pre, post with
  | [], [] => exact h
  | [], [a, b] => simp only [List.nil_append, pf_four, p4]; grind
  | [a], [b] => simp only [List.nil_append, List.cons_append, pf_four, p4]; grind
  | [a, b], [] => simp only [List.nil_append, List.cons_append, pf_four, p4]; grind
  | [], [a, b, c, d] => simp only [List.nil_append, List.cons_append, pf_six, p6, p4]; grind
  | [a], [b, c, d] => simp only [List.nil_append, List.cons_append, pf_six, p6, p4]; grind
  | [a, b], [c, d] => simp only [List.nil_append, List.cons_append, pf_six, p6, p4]; grind
  | [a, b, c], [d] => simp only [List.nil_append, List.cons_append, pf_six, p6, p4]; grind
  | [a, b, c, d], [] => simp only [List.nil_append, List.cons_append, pf_six, p6, p4]; grind
  | [], [_] => simp at hl
  | [], [_, _, _] => simp at hl
  | [], _ :: _ :: _ :: _ :: _ :: _ => simp at hl <;> omega
  | [_], [] => simp at hl
  | [_], [_, _] => simp at hl
  | [_], _ :: _ :: _ :: _ :: _ => simp at hl <;> omega
  | [_, _], [_] => simp at hl
  | [_, _], _ :: _ :: _ :: _ => simp at hl <;> omega
  | [_, _, _], [] => simp at hl
  | [_, _, _], _ :: _ :: _ => simp at hl <;> omega
  | [_, _, _, _], _ :: _ => simp at hl <;> omega
  | _ :: _ :: _ :: _ :: _ :: _, _ => simp at hl <;> omega
theorem pf_drop {e : Int → Int → Int} {a b : Int} (rest : List Int) (h : ∀ c ∈ rest, e a c = e b c) (hl : Even6 (a :: b :: rest).length) : pf e (a :: b :: rest) = e a b * pf e rest := by
  unfold Even6 at hl
  match rest with
  | [] => simp only [pf_two, pf_zero]; grind
  | [c, d] =>
    have h1 := h c (by simp); have h2 := h d (by simp)
    simp only [pf_four, pf_two, p4]; grind
  | [c, d, f, g] =>
    have h1 := h c (by simp); have h2 := h d (by simp); have h3 := h f (by simp); have h4 := h g (by simp)
    simp only [pf_six, pf_four, p6, p4]; grind
  | [_] => simp at hl
  | [_, _, _] => simp at hl
  | _ :: _ :: _ :: _ :: _ :: _ => simp at hl <;> omega
end pf

section sg
def sgn (x y : Int) : Int := if y < x then -1 else 1
def ms (x : Int) : List Int → Int
  | [] => 1
  | y :: l => sgn x y * ms x l
def sg : List Int → Int
  | [] => 1
  | x :: l => ms x l * sg l
theorem sgn_sq (x y : Int) : sgn x y * sgn x y = 1 := by unfold sgn; split <;> rfl
theorem sgn_neg {x y : Int} (h : x ≠ y) : sgn y x = -(sgn x y) := by unfold sgn; split <;> split <;> first | rfl | omega
theorem ms_sq (x : Int) : ∀ l, ms x l * ms x l = 1
  | [] => rfl
  | y :: l => by have := ms_sq x l; have := sgn_sq x y; simp only [ms]; grind
theorem ms_congr {x y : Int} : ∀ l : List Int, (∀ c ∈ l, sgn x c = sgn y c) → ms x l = ms y l
  | [], _ => rfl
  | c :: l, h => by rw [ms, ms, h c (.head _), ms_congr l fun d hd => h d (.tail _ hd)]
theorem ms_app (x : Int) : ∀ l l' : List Int, ms x (l ++ l') = ms x l * ms x l'
  | [], l' => by simp [ms]
  | c :: l, l' => by rw [List.cons_append, ms, ms, ms_app x l l', Int.mul_assoc]
theorem sg_swap {x y : Int} (h : x ≠ y) : ∀ pre post : List Int, sg (pre ++ y :: x :: post) = -(sg (pre ++ x :: y :: post))
  | [], post => by
    have := sgn_neg h
    simp only [List.nil_append, sg, ms]; grind
  | c :: pre, post => by
    have := sg_swap h pre post
    rw [List.cons_append, List.cons_append, sg, sg, this, ms_app, ms_app]
    simp only [ms]; grind
theorem sg_snoc (x : Int) : ∀ l : List Int, sg (l ++ [x]) = sg l * (l.foldr (fun y t => sgn y x * t) 1)
  | [] => rfl
  | c :: l => by
    rw [List.cons_append, sg, sg_snoc x l, ms_app, sg, List.foldr_cons]
    simp only [ms]; grind
theorem sg_count (x : Int) : ∀ l : List Int, (l.foldr (fun y t => sgn y x * t) 1) = if (l.countP fun y => decide (x < y)) % 2 == 1 then -1 else 1
  | [] => rfl
  | c :: l => by
    rw [List.foldr_cons, sg_count x l, List.countP_cons]
    unfold sgn
    by_cases h : x < c
    · simp only [h, decide_true, if_true, if_pos]
      by_cases h' : ((l.countP fun y => decide (x < y)) % 2 == 1) = true
      · have : (((l.countP fun y => decide (x < y)) + 1) % 2 == 1) = false := by simp at h' ⊢; omega
        rw [if_pos h', this]; rfl
      · have : (((l.countP fun y => decide (x < y)) + 1) % 2 == 1) = true := by simp at h' ⊢; omega
        rw [if_neg h', this]; rfl
    · simp [h]
end sg
theorem perm_swap {P : List Int → Prop} (h : ∀ pre x y post, P (pre ++ x :: y :: post) → P (pre ++ y :: x :: post)) {xs ys : List Int} (p : xs.Perm ys) : ∀ pre, P (pre ++ xs) → P (pre ++ ys) := by
  induction p with
  | nil => exact fun _ h => h
  | cons x _ ih => intro pre q; have := ih (pre ++ [x]) (by rwa [List.append_assoc]); rwa [List.append_assoc] at this
  | swap x y l => exact fun pre q => h pre y x l q
  | trans _ _ ih1 ih2 => exact fun pre q => ih2 pre (ih1 pre q)
end Mine

namespace Mine
def grp (x : Int) : Int := x / 4 * 4 + (x % 4 + 1) / 2
def K : Nat → Int → Int
  | 0, _ => 0
  | 1, v => v / 64
  | 2, v => grp (v / 16)
  | 3, v => v / 16
  | 4, v => grp (v / 4)
  | 5, v => v / 4
  | 6, v => grp v
  | _ + 7, v => v
theorem grp_mono {x y : Int} (h : x ≤ y) : grp x ≤ grp y := by unfold grp; omega
theorem grp_div {x y : Int} (h : grp x = grp y) : x / 4 = y / 4 := by unfold grp at h; omega
theorem div_mono {x y c : Int} (hc : 0 < c) (h : x ≤ y) : x / c ≤ y / c := Int.ediv_le_ediv hc h
theorem div64 (x : Int) : x / 16 / 4 = x / 64 := by omega
theorem div16 (x : Int) : x / 4 / 4 = x / 16 := by omega
theorem K_mono {x y : Int} (h : x ≤ y) : ∀ s, K s x ≤ K s y
  | 0 => Int.le_refl _
  | 1 => div_mono (by decide) h
  | 2 => grp_mono (div_mono (by decide) h)
  | 3 => div_mono (by decide) h
  | 4 => grp_mono (div_mono (by decide) h)
  | 5 => div_mono (by decide) h
  | 6 => grp_mono h
  | _ + 7 => h
theorem K_nest {x y : Int} : ∀ s, K (s + 1) x = K (s + 1) y → K s x = K s y
  | 0 => fun _ => rfl
  | 1 => fun h => (div64 x).symm.trans ((grp_div h).trans (div64 y))
  | 2 => fun h => congrArg grp h
  | 3 => fun h => (div16 x).symm.trans ((grp_div h).trans (div16 y))
  | 4 => fun h => congrArg grp h
  | 5 => fun h => grp_div h
  | 6 => fun h => congrArg grp h
  | _ + 7 => id
theorem K_in {x : Int} (h0 : 0 ≤ x) (h1 : x < 65) : ∀ s, 0 ≤ K s x ∧ K s x < 65
  | 0 => ⟨Int.le_refl 0, show (0 : Int) < 65 by decide⟩
  | 1 => ⟨K_mono h0 1, Int.lt_of_le_of_lt (K_mono (show x ≤ 64 from Int.le_of_lt_add_one h1) 1) (by decide)⟩
  | 2 => ⟨K_mono h0 2, Int.lt_of_le_of_lt (K_mono (show x ≤ 64 from Int.le_of_lt_add_one h1) 2) (by decide)⟩
  | 3 => ⟨K_mono h0 3, Int.lt_of_le_of_lt (K_mono (show x ≤ 64 from Int.le_of_lt_add_one h1) 3) (by decide)⟩
  | 4 => ⟨K_mono h0 4, Int.lt_of_le_of_lt (K_mono (show x ≤ 64 from Int.le_of_lt_add_one h1) 4) (by decide)⟩
  | 5 => ⟨K_mono h0 5, Int.lt_of_le_of_lt (K_mono (show x ≤ 64 from Int.le_of_lt_add_one h1) 5) (by decide)⟩
  | 6 => ⟨K_mono h0 6, Int.lt_of_le_of_lt (K_mono (show x ≤ 64 from Int.le_of_lt_add_one h1) 6) (by decide)⟩
  | _ + 7 => ⟨h0, h1⟩
/-- the last step at which the keys are the same -/
def levN (x y : Int) : Nat → Nat
  | 0 => 0
  | n + 1 => if K (n + 1) x = K (n + 1) y then n + 1 else levN x y n
def lev (x y : Int) : Nat := levN x y 7
theorem K_down {x y : Int} {s : Nat} : ∀ d, K (s + d) x = K (s + d) y → K s x = K s y
  | 0, h => h
  | d + 1, h => K_down d (K_nest _ h)
theorem levN_iff (x y : Int) : ∀ n s, s ≤ n → (s ≤ levN x y n ↔ K s x = K s y)
  | 0, s, h => by
    have : s = 0 := by omega
    subst this; exact ⟨fun _ => rfl, fun _ => Nat.zero_le _⟩
  | n + 1, s, h => by
    unfold levN
    by_cases e : K (n + 1) x = K (n + 1) y
    · rw [if_pos e]
      refine ⟨fun _ => K_down (n + 1 - s) ?_, fun _ => h⟩
      rw [show s + (n + 1 - s) = n + 1 by omega]; exact e
    · rw [if_neg e]
      by_cases hs : s = n + 1
      · subst hs
        refine ⟨fun q => ?_, fun q => absurd q e⟩
        have : levN x y n ≤ n := by
          clear q e h
          induction n with
          | zero => exact Nat.le_refl _
          | succ n ih => unfold levN; split <;> omega
        omega
      · exact levN_iff x y n s (by omega)
theorem lev_iff {x y : Int} {s : Nat} (h : s ≤ 7) : s ≤ lev x y ↔ K s x = K s y := levN_iff x y 7 s h
theorem lev_le (x y : Int) : lev x y ≤ 7 := by unfold lev; simp only [levN]; repeat (first | omega | split)
theorem lev_comm (x y : Int) : lev x y = lev y x := by unfold lev; simp only [levN, eq_comm]
/-- the odd parts of a group -/
def J (s g : Nat) (xs : List Int) : Nat :=
  if s < 7 then S 65 fun v => (xs.countP fun x => K s x == (g : Int) && K (s + 1) x == (v : Int)) % 2 else xs.countP fun x => K s x == (g : Int)
def E (s : Nat) (xs : List Int) : Nat := S 65 fun g => J s g xs / 2
theorem E_perm {xs ys : List Int} (p : xs.Perm ys) (s : Nat) : E s xs = E s ys := by
  unfold E J
  simp only [p.countP_eq]
theorem J_other {s g : Nat} {z : Int} {xs : List Int} (h : K s z ≠ (g : Int)) : J s g (z :: xs) = J s g xs := by
  unfold J
  simp only [List.countP_cons, beq_eq_false_iff_ne.mpr h, Bool.false_and, Bool.false_eq_true, if_false, Nat.add_zero]
theorem J_none {s g : Nat} {xs : List Int} (h : ∀ c ∈ xs, K s c ≠ (g : Int)) : J s g xs = 0 := by
  induction xs with
  | nil => unfold J; split
           · exact S_zero
           · rfl
  | cons x xs ih => rw [J_other (h x (.head _)), ih fun c hc => h c (.tail _ hc)]
theorem J_new {s g : Nat} {z : Int} {xs : List Int} (hb : 0 ≤ z ∧ z < 65) (h : K s z = (g : Int)) (h' : s < 7 → ∀ c ∈ xs, K (s + 1) c ≠ K (s + 1) z) : J s g (z :: xs) = J s g xs + 1 := by
  unfold J
  by_cases hs : s < 7
  · simp only [if_pos hs]
    obtain ⟨b0, b1⟩ := K_in hb.1 hb.2 (s + 1)
    obtain ⟨v, hv⟩ := Int.eq_ofNat_of_zero_le b0
    refine S_upd (g₀ := v) ?_ ?_ (by omega)
    · intro u _ hu
      have : (K (s + 1) z == (u : Int)) = false := by rw [beq_eq_false_iff_ne, hv]; omega
      rw [List.countP_cons, this]; simp
    · have h0 : (xs.countP fun x => K s x == (g : Int) && K (s + 1) x == (v : Int)) = 0 := by
        rw [List.countP_eq_zero]
        intro c hc
        have := h' hs c hc
        rw [hv] at this
        simp [this]
      rw [List.countP_cons, h0, h, hv]; simp
  · simp only [if_neg hs, List.countP_cons, h, beq_self_eq_true, if_true]
theorem E_lone {s : Nat} {z : Int} {xs : List Int} (hb : 0 ≤ z ∧ z < 65) (h : ∀ c ∈ xs, K s c ≠ K s z) : E s (z :: xs) = E s xs := by
  refine S_congr fun g _ => ?_
  by_cases e : K s z = (g : Int)
  · rw [J_new hb e fun _ c hc q => h c hc (K_nest _ q), J_none fun c hc => e ▸ h c hc]
  · rw [J_other e]
theorem E_same {s : Nat} {a b : Int} {xs : List Int} (hs : s < 7) (h : K (s + 1) a = K (s + 1) b) : E s (a :: b :: xs) = E s xs := by
  refine S_congr fun g _ => congrArg (· / 2) ?_
  unfold J
  simp only [if_pos hs]
  refine S_congr fun v _ => ?_
  rw [List.countP_cons, List.countP_cons, h, K_nest _ h]
  omega
theorem E_split {s : Nat} {a b : Int} {xs : List Int} (ha : 0 ≤ a ∧ a < 65) (hb : 0 ≤ b ∧ b < 65) (h : K s a = K s b) (h1 : s < 7 → K (s + 1) b ≠ K (s + 1) a) (h2 : s < 7 → ∀ c ∈ xs, K (s + 1) c ≠ K (s + 1) a ∧ K (s + 1) c ≠ K (s + 1) b) :
    E s (a :: b :: xs) = E s xs + 1 := by
  obtain ⟨b0, b1⟩ := K_in ha.1 ha.2 s
  obtain ⟨g₀, hg⟩ := Int.eq_ofNat_of_zero_le b0
  refine S_upd (g₀ := g₀) ?_ ?_ (by omega)
  · intro g _ hne
    have : K s a ≠ (g : Int) := by rw [hg]; omega
    rw [J_other this, J_other (h ▸ this)]
  · rw [J_new ha hg, J_new hb (h ▸ hg)]
    · omega
    · exact fun q c hc => (h2 q c hc).2
    · intro q c hc
      rcases List.mem_cons.mp hc with rfl | hc
      · exact h1 q
      · exact (h2 q c hc).1
/-- the product over the steps below n -/
def prodE (W : Nat → Int) (e : Nat → Nat) : Nat → Int
  | 0 => 1
  | n + 1 => prodE W e n * W n ^ e n
theorem prodE_congr {W : Nat → Int} {e e' : Nat → Nat} {n : Nat} (h : ∀ s, s < n → e' s = e s) : prodE W e' n = prodE W e n := by
  induction n with
  | zero => rfl
  | succ n ih => rw [prodE, prodE, ih fun s hs => h s (by omega), h n (by omega)]
theorem prodE_upd {W : Nat → Int} {e e' : Nat → Nat} {l n : Nat} (h : ∀ s, s < n → s ≠ l → e' s = e s) (h' : e' l = e l + 1) (hl : l < n) : prodE W e' n = prodE W e n * W l := by
  induction n with
  | zero => omega
  | succ n ih =>
    rw [prodE, prodE]
    by_cases q : n = l
    · subst q
      rw [prodE_congr (e := e) fun s hs => h s (by omega) (by omega), h', Int.pow_succ]; grind
    · rw [ih (fun s hs => h s (by omega)) (by omega), h n (by omega) q]; grind
def ent (W : Nat → Int) (x y : Int) : Int := sgn x y * W (lev x y)
theorem exists_min (P : Nat → Prop) (h : ∃ n, P n) : ∃ n, P n ∧ ∀ m, P m → n ≤ m := by
  obtain ⟨n, hn⟩ := h
  induction n using Nat.strongRecOn with
  | _ n ih =>
    by_cases q : ∃ m, m < n ∧ P m
    · obtain ⟨m, hm, hp⟩ := q; exact ih m hm hp
    · exact ⟨n, hn, fun m hm => Nat.le_of_not_lt fun hlt => q ⟨m, hlt, hm⟩⟩
/-- how far two values lie apart: the depth first, then the gap -/
def mu (a b : Int) : Nat := (7 - lev a b) * 100 + (a - b).natAbs
theorem pick {xs : List Int} (h : 2 ≤ xs.length) : ∃ a b rest, xs.Perm (a :: b :: rest) ∧ ∀ c ∈ rest, mu a b ≤ mu a c ∧ mu a b ≤ mu b c := by
  obtain ⟨n, ⟨a, b, rest, hp, rfl⟩, hmin⟩ := exists_min (fun n => ∃ a b rest, xs.Perm (a :: b :: rest) ∧ mu a b = n) (by
    match xs, h with
    | a :: b :: rest, _ => exact ⟨_, a, b, rest, .refl _, rfl⟩)
  refine ⟨a, b, rest, hp, fun c hc => ?_⟩
  have pc := List.perm_cons_erase hc
  constructor
  · exact hmin _ ⟨a, c, b :: rest.erase c, hp.trans (((pc.cons b).cons a).trans ((List.Perm.swap c b _).cons a)), rfl⟩
  · refine hmin _ ⟨b, c, a :: rest.erase c, hp.trans ((List.Perm.swap b a rest).trans ((((pc.cons a).trans (List.Perm.swap c a _))).cons b)), rfl⟩
section
variable {a b c : Int}
theorem mu_le (ha : 0 ≤ a ∧ a < 65) (hb : 0 ≤ b ∧ b < 65) (hc : 0 ≤ c ∧ c < 65) {d : Int} (hd : d = a ∨ d = b) (h : mu a b ≤ mu d c) : lev d c ≤ lev a b ∧ (lev a b ≤ lev d c → (a - b).natAbs ≤ (d - c).natAbs) := by
  have l1 := lev_le a b; have l2 := lev_le d c
  have n1 : (a - b).natAbs < 100 := by omega
  have n2 : (d - c).natAbs < 100 := by omega
  unfold mu at h
  generalize (a - b).natAbs = p at *
  generalize (d - c).natAbs = q at *
  clear ha hb hc hd
  omega
theorem near (ha : 0 ≤ a ∧ a < 65) (hb : 0 ≤ b ∧ b < 65) (hc : 0 ≤ c ∧ c < 65) (h1 : mu a b ≤ mu a c) (h2 : mu a b ≤ mu b c) : lev a c ≤ lev a b ∧ lev b c ≤ lev a b ∧ ((c < a ∧ c < b) ∨ (a ≤ c ∧ b ≤ c)) := by
  obtain ⟨g1, k1⟩ := mu_le ha hb hc (.inl rfl) h1
  obtain ⟨g2, k2⟩ := mu_le ha hb hc (.inr rfl) h2
  clear h1 h2
  refine ⟨g1, g2, ?_⟩
  have mono : ∀ {x y z : Int}, x ≤ y → y ≤ z → lev x z ≤ lev x y ∧ lev x z ≤ lev y z := by
    intro x y z hx hy
    have hl := lev_le x z
    have e := (lev_iff hl).mp (Nat.le_refl _)
    have m1 := K_mono hx (lev x z); have m2 := K_mono hy (lev x z)
    exact ⟨(lev_iff hl).mpr (by omega), (lev_iff hl).mpr (by omega)⟩
  by_cases q : a ≤ c
  · by_cases r : b ≤ c
    · exact .inr ⟨q, r⟩
    · have := k1 (mono q (Int.le_of_not_le r)).1
      omega
  · by_cases r : b ≤ c
    · have := (mono r (Int.le_of_not_le q)).1
      rw [lev_comm b a] at this
      have := k2 this
      omega
    · exact .inl ⟨by omega, by omega⟩
end
theorem law_even (W : Nat → Int) : ∀ k, k ≤ 3 → ∀ xs : List Int, xs.length = 2 * k → (∀ x ∈ xs, 0 ≤ x ∧ x < 65) → pf (ent W) xs = sg xs * prodE W (E · xs) 8
  | 0, _, xs, hl, _ => by
    have : xs = [] := List.length_eq_zero_iff.mp hl
    subst this
    have h : prodE W (E · []) 8 = prodE W (fun _ => 0) 8 := prodE_congr fun s _ => by
      show E s [] = 0
      unfold E
      rw [S_congr (f := fun _ => 0) fun g _ => by rw [J_none fun c hc => absurd hc List.not_mem_nil]]
      exact S_zero
    rw [h]; simp [prodE, pf_zero, sg]
  | k + 1, hk, xs, hl, hin => by
    obtain ⟨a, b, rest, hp, hmin⟩ := pick (xs := xs) (by omega)
    have hl' : (a :: b :: rest).length = 2 * (k + 1) := by rw [← hp.length_eq, hl]
    have hin' : ∀ x ∈ a :: b :: rest, 0 ≤ x ∧ x < 65 := fun x hx => hin x (hp.mem_iff.mpr hx)
    have ha := hin' a (.head _)
    have hb := hin' b (.tail _ (.head _))
    have hr : ∀ c ∈ rest, 0 ≤ c ∧ c < 65 := fun c hc => hin' c (.tail _ (.tail _ hc))
    have hnear := fun c hc => near ha hb (hr c hc) (hmin c hc).1 (hmin c hc).2
    have ih := law_even W k (by omega) rest (by simp at hl'; omega) hr
    have hs : ∀ c ∈ rest, sgn a c = sgn b c := fun c hc => by
      rcases (hnear c hc).2.2 with ⟨h1, h2⟩ | ⟨h1, h2⟩
      · unfold sgn; rw [if_pos h1, if_pos h2]
      · unfold sgn; rw [if_neg (by omega), if_neg (by omega)]
    have hlev : ∀ c ∈ rest, lev a c = lev b c := fun c hc => by
      obtain ⟨g1, g2, _⟩ := hnear c hc
      have l1 := lev_le a c; have l2 := lev_le b c
      have e1 := (lev_iff l1).mp (Nat.le_refl (lev a c))
      have e2 := (lev_iff l2).mp (Nat.le_refl (lev b c))
      have f1 := (lev_iff (x := a) (y := b) l1).mp g1
      have f2 := (lev_iff (x := a) (y := b) l2).mp g2
      have := (lev_iff (x := b) (y := c) l1).mpr (by omega)
      have := (lev_iff (x := a) (y := c) l2).mpr (by omega)
      omega
    have base : pf (ent W) (a :: b :: rest) = sg (a :: b :: rest) * prodE W (E · (a :: b :: rest)) 8 := by
      rw [pf_drop rest (fun c hc => by unfold ent; rw [hs c hc, hlev c hc]) (by unfold Even6; omega), ih]
      have hl8 := lev_le a b
      rw [prodE_upd (W := W) (e := (E · rest)) (e' := (E · (a :: b :: rest))) (l := lev a b) (n := 8) ?_ ?_ (by omega)]
      · simp only [sg, ms, ent]
        rw [ms_congr rest hs]
        have := ms_sq b rest
        grind
      · intro s hs8 hne
        by_cases q : s < lev a b
        · exact E_same (by omega) ((lev_iff (by omega)).mp q)
        · have hab : K s a ≠ K s b := fun e => by have := (lev_iff (x := a) (y := b) (s := s) (by omega)).mpr e; omega
          show E s (a :: b :: rest) = E s rest
          rw [E_lone ha, E_lone hb]
          · intro c hc e
            have := (lev_iff (x := b) (y := c) (s := s) (by omega)).mpr e.symm
            have := (hnear c hc).2.1
            omega
          · intro c hc e
            rcases List.mem_cons.mp hc with rfl | hc
            · exact hab e.symm
            · have := (lev_iff (x := a) (y := c) (s := s) (by omega)).mpr e.symm
              have := (hnear c hc).1
              omega
      · have e := (lev_iff (x := a) (y := b) (s := lev a b) hl8).mp (Nat.le_refl _)
        refine E_split ha hb e (fun q e' => ?_) (fun q c hc => ⟨fun e' => ?_, fun e' => ?_⟩)
        · have := (lev_iff (x := a) (y := b) (s := lev a b + 1) (by omega)).mpr e'.symm; omega
        · have := (lev_iff (x := a) (y := c) (s := lev a b + 1) (by omega)).mpr e'.symm
          have := (hnear c hc).1; omega
        · have := (lev_iff (x := b) (y := c) (s := lev a b + 1) (by omega)).mpr e'.symm
          have := (hnear c hc).2.1; omega
    have E6 : Even6 (2 * (k + 1)) := by unfold Even6; omega
    have go := perm_swap (P := fun l => l.length = 2 * (k + 1) → pf (ent W) l = sg l * prodE W (E · l) 8) (fun pre x y post h hl2 => by
      have hsw : (pre ++ x :: y :: post).Perm (pre ++ y :: x :: post) := (List.Perm.swap y x post).append_left pre
      have hl3 := hsw.length_eq.trans hl2
      have h := h hl3
      by_cases q : x = y
      · subst q; exact h
      · rw [pf_swap (x := x) (y := y) ?_ pre post (by rw [hl3]; exact E6), sg_swap q, h, prodE_congr (W := W) (e := (E · (pre ++ x :: y :: post))) (e' := (E · (pre ++ y :: x :: post))) fun s _ => (E_perm hsw s).symm]
        · grind
        · unfold ent; rw [sgn_neg q, lev_comm y x]; grind) hp.symm []
    exact go (fun _ => base) hl
end Mine

namespace Mine
theorem fin64 {P : Int → Int → Prop} (h : ∀ i j : Fin 64, P ((i.1 : Nat) : Int) ((j.1 : Nat) : Int)) {x y : Int} (hx : In64 x) (hy : In64 y) : P x y := by
  obtain ⟨h0, h1⟩ := hx
  obtain ⟨h2, h3⟩ := hy
  have hob := Int.eq_ofNat_of_zero_le h0
  obtain ⟨n, rfl⟩ := hob
  have hob := Int.eq_ofNat_of_zero_le h2
  obtain ⟨m, rfl⟩ := hob
  exact h ⟨n, by omega⟩ ⟨m, by omega⟩
def chAt (v : Int) (k : Int) : Nat := [chrF (v.fdiv 16), chrF ((v.fdiv 4).fmod 4), chrF (v.fmod 4), 46].getD k.toNat 46
theorem item_at (v : Int) {k : Int} (h0 : 0 ≤ k) (h1 : k ≤ 3) : Txt.item (wordF v ++ Str.ofString ".") k = ⟨#[chAt v k]⟩ := by
  have : k = 0 ∨ k = 1 ∨ k = 2 ∨ k = 3 := by omega
  rcases this with rfl | rfl | rfl | rfl <;> with_unfolding_all rfl
def costN (a b : Nat) : Int := if a = b then 0 else if (a = 65 ∧ b = 97) ∨ (a = 97 ∧ b = 65) then 1 else 2
theorem cost_sign : ∀ a ∈ [45, 65, 97, 126, 46], ∀ b ∈ [45, 65, 97, 126, 46], costF ⟨#[a]⟩ ⟨#[b]⟩ = costN a b := by decide +kernel
theorem chr_in {i : Int} (h0 : 0 ≤ i) (h1 : i < 4) : chrF i ∈ [45, 65, 97, 126, 46] := by
  have : i = 0 ∨ i = 1 ∨ i = 2 ∨ i = 3 := by omega
  rcases this with rfl | rfl | rfl | rfl <;> decide
theorem chAt_in {v k : Int} (hv : In64 v) (h0 : 0 ≤ k) (h1 : k ≤ 3) : chAt v k ∈ [45, 65, 97, 126, 46] := by
  have hob := digits_bd hv.1 hv.2
  obtain ⟨⟨a0, a1⟩, ⟨b0, b1⟩, ⟨c0, c1⟩⟩ := hob
  have : k = 0 ∨ k = 1 ∨ k = 2 ∨ k = 3 := by omega
  rcases this with rfl | rfl | rfl | rfl
  · exact chr_in a0 a1
  · exact chr_in b0 b1
  · exact chr_in c0 c1
  · exact .tail _ (.tail _ (.tail _ (.tail _ (.head _))))
theorem cst_eq {x y : Int} (hx : In64 x) (hy : In64 y) : cstF x y = costN (chAt x (partF x y)) (chAt y (partF x y)) := by
  have hob : 0 ≤ partF x y ∧ partF x y ≤ 3 := place_bd (signAt x y ((0 : Nat) : Int)) (signAt x y ((1 : Nat) : Int)) (signAt x y ((2 : Nat) : Int))
  obtain ⟨h0, h1⟩ := hob
  unfold cstF
  rw [item_at x h0 h1, item_at y h0 h1]
  exact cost_sign _ (chAt_in hx h0 h1) _ (chAt_in hy h0 h1)
def turnN (x y : Int) : Int := if y < x then 1 else if x < y then -1 else 0
theorem turn_all : ∀ i j : Fin 64, turnF ((i.1 : Nat) : Int) ((j.1 : Nat) : Int) = turnN ((i.1 : Nat) : Int) ((j.1 : Nat) : Int) := by decide +kernel
theorem turn_eq {x y : Int} (hx : In64 x) (hy : In64 y) : turnF x y = turnN x y := fin64 (P := fun x y => turnF x y = turnN x y) turn_all hx hy
theorem sign_ok {x y : Int} (hx : In64 x) (hy : In64 y) : turnF y x + aliF x y = sgn x y := by
  unfold aliF
  rw [turn_eq hx hy, turn_eq hy hx]
  unfold turnN sgn
  by_cases h : y < x
  · have h' : ¬ x < y := by omega
    simp only [if_pos h, if_neg h']; rfl
  · by_cases h' : x < y
    · simp only [if_pos h', if_neg h]; rfl
    · simp only [if_neg h', if_neg h]; rfl
theorem str_ne (a b : Nat) : ((⟨#[a]⟩ : Str) != ⟨#[b]⟩) = (a != b) := by
  by_cases h : a = b
  · subst h; simp
  · have h' : (⟨#[a]⟩ : Str) ≠ ⟨#[b]⟩ := fun e => h (by cases e; rfl)
    rw [bne_iff_ne.mpr h, bne_iff_ne.mpr h']
def partN (x y : Int) : Int := placeF (chAt x 0 != chAt y 0) (chAt x 1 != chAt y 1) (chAt x 2 != chAt y 2)
theorem part_eq (x y : Int) : partF x y = partN x y := by
  have e : ∀ v : Int, Txt.item (wordF v) ((0 : Nat) : Int) = ⟨#[chAt v 0]⟩ ∧ Txt.item (wordF v) ((1 : Nat) : Int) = ⟨#[chAt v 1]⟩ ∧ Txt.item (wordF v) ((2 : Nat) : Int) = ⟨#[chAt v 2]⟩ := fun v => ⟨by with_unfolding_all rfl, by with_unfolding_all rfl, by with_unfolding_all rfl⟩
  unfold partF signAt partN
  rw [(e x).1, (e y).1, (e x).2.1, (e y).2.1, (e x).2.2, (e y).2.2, str_ne, str_ne, str_ne]
theorem cost_all : ∀ i j : Fin 64, costN (chAt ((i.1 : Nat) : Int) (partN ((i.1 : Nat) : Int) ((j.1 : Nat) : Int))) (chAt ((j.1 : Nat) : Int) (partN ((i.1 : Nat) : Int) ((j.1 : Nat) : Int))) + (1 - turnN ((i.1 : Nat) : Int) ((j.1 : Nat) : Int) * turnN ((i.1 : Nat) : Int) ((j.1 : Nat) : Int)) = [2, 1, 2, 1, 2, 1, 1].getD (lev ((i.1 : Nat) : Int) ((j.1 : Nat) : Int) - 1) 0 := by decide +kernel
theorem kind_all : ∀ i j : Fin 64, ∀ b : Bool, (if ((i.1 : Nat) : Int) = ((j.1 : Nat) : Int) ∧ ((i.1 : Nat) : Int).fmod 2 = 1 then 0 else widthF (turnN ((i.1 : Nat) : Int) ((j.1 : Nat) : Int) * (lineF ((i.1 : Nat) : Int) - lineF ((j.1 : Nat) : Int))) b) = [5, 5, 4, 4, if b then 4 else 3, if b then 4 else 3, 0].getD (lev ((i.1 : Nat) : Int) ((j.1 : Nat) : Int) - 1) 0 := by decide +kernel
theorem lev_pos {x y : Int} (hx : In64 x) (hy : In64 y) : 1 ≤ lev x y := (lev_iff (by decide)).mpr (by have := hx.1; have := hx.2; have := hy.1; have := hy.2; simp only [K]; omega)
def wOf (ks : List Int) : Nat → Int
  | 0 => 1
  | n + 1 => ks.getD n 0
theorem mul_2 (p s : Int) : p * 2 * s = s * (2 * p) := by rw [Int.mul_comm p 2, Int.mul_comm]
theorem mul_1 (p s : Int) : p * 1 * s = s * p := by rw [Int.mul_one, Int.mul_comm]
theorem seven : ∀ n, n < 8 → 1 ≤ n → (n = 1 ∨ n = 2 ∨ n = 3 ∨ n = 4 ∨ n = 5 ∨ n = 6 ∨ n = 7) := by decide
theorem entry_eq {x y : Int} (hx : In64 x) (hy : In64 y) (high middle low same : Int) (bare : Bool) :
    entryF x y high middle low same bare = ent (wOf [2 * high, high, 2 * middle, middle, 2 * (if bare then low else middle), if bare then low else middle, same]) x y := by
  have h1 := fin64 (P := fun x y => costN (chAt x (partN x y)) (chAt y (partN x y)) + (1 - turnN x y * turnN x y) = [2, 1, 2, 1, 2, 1, 1].getD (lev x y - 1) 0) cost_all hx hy
  have h2 := sign_ok hx hy
  have h3 := fin64 (P := fun x y => ∀ b : Bool, (if x = y ∧ x.fmod 2 = 1 then 0 else widthF (turnN x y * (lineF x - lineF y)) b) = [5, 5, 4, 4, if b then 4 else 3, if b then 4 else 3, 0].getD (lev x y - 1) 0) kind_all hx hy (!bare)
  have h1 : cstF x y + aliF x y = [2, 1, 2, 1, 2, 1, 1].getD (lev x y - 1) 0 := by rw [cst_eq hx hy, part_eq]; unfold aliF; rw [turn_eq hx hy]; exact h1
  have h3 : (if x = y ∧ x.fmod 2 = 1 then 0 else widthF (gapF x y) (!bare)) = [5, 5, 4, 4, if (!bare) then 4 else 3, if (!bare) then 4 else 3, 0].getD (lev x y - 1) 0 := by unfold gapF; rw [turn_eq hx hy]; exact h3
  have h4 := lev_pos hx hy
  have h5 := lev_le x y
  unfold entryF prcF ent
  rw [h1, h2, h3]
  generalize lev x y = n at *
  clear h1 h2 h3 hx hy
  have := seven n (Nat.lt_succ_of_le h5) h4
  cases bare <;> rcases this with rfl | rfl | rfl | rfl | rfl | rfl | rfl <;> first | exact mul_2 _ _ | exact mul_1 _ _
end Mine

namespace Mine
theorem sign_eq (vs : List Int) (t : Int) : ∀ n, n ≤ vs.length → signT vs t n = t * sg (vs.take n)
  | 0, _ => by simp [signT, sg]
  | n + 1, h => by
    rw [signT_succ, sign_eq vs t n (by omega), List.take_succ_eq_append_getElem (by omega), sg_snoc, sg_count]
    have : vs.getD n 0 = vs[n] := by simp [List.getD_eq_getElem?_getD]; rw [List.getElem?_eq_getElem (by omega)]; rfl
    rw [this]
    split <;> grind
theorem stepT_eq (vs ks : List Int) (s : Nat) (t : Int) : ∀ n, stepT vs ks s t n = t * ks.getD s 0 ^ S n fun p => if isNew (rowL vs s) p then oddN (partL vs s ((rowL vs s).getD p 0)) / 2 else 0
  | 0 => by simp [stepT, S]
  | n + 1 => by
    rw [stepT_succ, stepT_eq vs ks s t n, S, placeT]
    split
    · rw [Int.pow_add]; grind
    · rw [Nat.add_zero]
theorem prodT_eq (vs ks : List Int) : ∀ n, prodT vs ks n = prodE (fun s => ks.getD s 0) (fun s => S vs.length fun p => if isNew (rowL vs s) p then oddN (partL vs s ((rowL vs s).getD p 0)) / 2 else 0) n
  | 0 => by simp [prodT, prodE]
  | n + 1 => by rw [prodT_succ, prodT_eq vs ks n, stepT_eq, prodE]
def In65 (x : Int) : Prop := 0 ≤ x ∧ x < 65
theorem new_sum {row : List Int} (hin : ∀ x ∈ row, In65 x) (F : Int → Nat) : ∀ n, n ≤ row.length → (S n fun p => if isNew row p then F (row.getD p 0) else 0) = S 65 fun g => if (g : Int) ∈ row.take n then F g else 0
  | 0, _ => by simp [S, S_zero]
  | n + 1, h => by
    rw [S, new_sum hin F n (by omega)]
    have e : row.getD n 0 = row[n] := by simp [List.getD_eq_getElem?_getD]; rw [List.getElem?_eq_getElem (by omega)]; rfl
    have ht : row.take (n + 1) = row.take n ++ [row[n]] := List.take_succ_eq_append_getElem (by omega)
    unfold isNew
    rw [e]
    by_cases q : row[n] ∈ row.take n
    · have : ((row.take n).any fun x => x == row[n]) = true := List.any_eq_true.mpr ⟨_, q, by simp⟩
      rw [this]
      simp only [Bool.not_true, Bool.false_eq_true, if_false, Nat.add_zero]
      refine S_congr fun g _ => ?_
      rw [ht]
      by_cases r : (g : Int) ∈ row.take n
      · rw [if_pos r, if_pos (List.mem_append_left _ r)]
      · rw [if_neg r, if_neg]
        intro m
        rcases List.mem_append.mp m with m | m
        · exact r m
        · rw [List.mem_singleton.mp m] at r; exact r q
    · have : ((row.take n).any fun x => x == row[n]) = false := by
        rw [List.any_eq_false]
        intro x hx e'
        rw [beq_iff_eq] at e'; subst e'; exact q hx
      rw [this]
      simp only [Bool.not_false, if_true]
      have hob := hin row[n] (List.getElem_mem _)
      obtain ⟨b0, b1⟩ := hob
      have hob := Int.eq_ofNat_of_zero_le b0
      obtain ⟨g₀, hg⟩ := hob
      refine (S_upd (g₀ := g₀) ?_ ?_ (by omega)).symm
      · intro g _ hne
        rw [ht]
        have : (g : Int) ∈ row.take n ++ [row[n]] ↔ (g : Int) ∈ row.take n := by
          rw [List.mem_append, List.mem_singleton]
          exact ⟨fun m => m.elim id fun m => by omega, .inl⟩
        simp only [this]
      · rw [ht, hg, if_pos (List.mem_append_right _ (by simp)), if_neg (by rw [← hg]; exact q)]
        omega
theorem filter_S (p : Nat → Bool) : ∀ n, ((List.range n).filter p).length = S n fun k => if p k then 1 else 0
  | 0 => rfl
  | n + 1 => by
    rw [List.range_succ, List.filter_append, List.length_append, filter_S p n, S]
    congr 1
    cases h : p n <;> simp [h]
theorem oddN_eq {xs : List Int} (hin : ∀ x ∈ xs, In65 x) : oddN xs = S 65 fun v => xs.count (v : Int) % 2 := by
  unfold oddN
  rw [filter_S, S_congr (f := fun p => if isNew xs p then xs.count (xs.getD p 0) % 2 else 0), new_sum hin (fun x => xs.count x % 2) xs.length (Nat.le_refl _)]
  · refine S_congr fun v _ => ?_
    rw [List.take_length]
    split
    · rfl
    · rename_i h; rw [List.count_eq_zero.mpr h]
  · intro k _
    cases isNew xs k
    · simp
    · simp only [Bool.true_and, if_true]
      rcases Nat.mod_two_eq_zero_or_one (xs.count (xs.getD k 0)) with h | h <;> rw [h] <;> rfl
theorem keyE_eq {vs : List Int} (hin : ∀ x ∈ vs, In64 x) (j : Nat) : ∀ s, s ≤ 6 → keyE vs j s = K (s + 1) (vs.getD j 0) := by
  have hv : In64 (vs.getD j 0) := by
    rw [List.getD_eq_getElem?_getD]
    cases h : vs[j]? with
    | none => exact ⟨by decide, by decide⟩
    | some x => exact hin x (List.mem_of_getElem? h)
  obtain ⟨h0, h1⟩ := hv
  have g : ∀ x : Int, grpF x = grp x := fun x => by
    unfold grpF grp
    rw [Int.fdiv_eq_ediv_of_nonneg _ (by decide), Int.fmod_eq_emod_of_nonneg _ (by decide), Int.fdiv_eq_ediv_of_nonneg _ (by decide)]
  have d4 : ∀ x : Int, x.fdiv 4 = x / 4 := fun x => Int.fdiv_eq_ediv_of_nonneg _ (by decide)
  have d16 : ∀ x : Int, x.fdiv 16 = x / 16 := fun x => Int.fdiv_eq_ediv_of_nonneg _ (by decide)
  intro s hs
  unfold keyE keyL
  rw [g, g, g, d4, d16]
  generalize vs.getD j 0 = v at *
  have : s = 0 ∨ s = 1 ∨ s = 2 ∨ s = 3 ∨ s = 4 ∨ s = 5 ∨ s = 6 := by omega
  rcases this with rfl | rfl | rfl | rfl | rfl | rfl | rfl
  · show (0 : Int) = v / 64; omega
  all_goals rfl
theorem list_range (vs : List Int) : vs = (List.range vs.length).map fun j => vs.getD j 0 := by
  refine List.ext_getElem (by simp) fun i h1 h2 => ?_
  simp [List.getD_eq_getElem?_getD]
  rw [List.getElem?_eq_getElem h1]; rfl
theorem countP_range (vs : List Int) (q : Int → Bool) : vs.countP q = (List.range vs.length).countP fun j => q (vs.getD j 0) := by
  conv => lhs; rw [list_range vs]
  rw [List.countP_map]; rfl
theorem key_in {vs : List Int} (hin : ∀ x ∈ vs, In64 x) (hl : vs.length ≤ 6) {j s : Nat} (hj : j < vs.length) (hs : s ≤ 7) : In65 (keyE vs j s) := by
  by_cases q : s = 7
  · subst q; show In65 (j : Int); constructor <;> omega
  · rw [keyE_eq hin j s (by omega)]
    have h := hin (vs.getD j 0) (by rw [List.getD_eq_getElem?_getD, List.getElem?_eq_getElem hj]; exact List.getElem_mem _)
    exact K_in h.1 (by have := h.2; omega) _
theorem part_in {vs : List Int} (hin : ∀ x ∈ vs, In64 x) (hl : vs.length ≤ 6) {s : Nat} (hs : s ≤ 6) (g : Int) : ∀ x ∈ partL vs s g, In65 x := by
  intro x hx
  have hob := List.mem_map.mp hx
  obtain ⟨j, hj, rfl⟩ := hob
  exact key_in hin hl (List.mem_range.mp (List.mem_filter.mp hj).1) (by omega)
theorem S_count {xs : List Int} (h : ∀ x ∈ xs, In65 x) : (S 65 fun v => xs.count (v : Int)) = xs.length := by
  induction xs with
  | nil => simp [S_zero]
  | cons x xs ih =>
    have hob := h x (.head _)
    obtain ⟨b0, b1⟩ := hob
    have hob := Int.eq_ofNat_of_zero_le b0
    obtain ⟨n, rfl⟩ := hob
    rw [List.length_cons, ← ih fun y hy => h y (.tail _ hy)]
    refine S_upd (g₀ := n) ?_ ?_ (by omega)
    · intro g _ hg
      rw [List.count_cons_of_ne (by omega)]
    · rw [List.count_cons_self]
theorem odd_part {vs : List Int} (hin : ∀ x ∈ vs, In64 x) (hl : vs.length ≤ 6) {s : Nat} (hs : s ≤ 6) (g : Nat) : oddN (partL vs s g) = J (s + 1) g vs := by
  rw [oddN_eq (part_in hin hl hs g)]
  unfold J
  by_cases q : s < 6
  · rw [if_pos (by omega)]
    refine S_congr fun v _ => congrArg (· % 2) ?_
    unfold partL
    rw [List.count_eq_countP, List.countP_map, List.countP_filter, countP_range]
    refine List.countP_congr fun j _ => ?_
    show (keyE vs j (s + 1) == (v : Int) && keyE vs j s == (g : Int)) = true ↔ _
    rw [keyE_eq hin j s (by omega), keyE_eq hin j (s + 1) (by omega), Bool.and_comm]
  · have : s = 6 := by omega
    subst this
    rw [if_neg (by omega)]
    rw [S_congr (f := fun v => (partL vs 6 g).count (v : Int)), S_count (part_in hin hl hs g)]
    · unfold partL
      rw [List.length_map, ← List.countP_eq_length_filter, countP_range]
      refine List.countP_congr fun j _ => ?_
      rw [keyE_eq hin j 6 (by omega)]
    · intro v _
      have hn : (partL vs 6 g).Nodup := by
        unfold partL
        refine List.Pairwise.map _ ?_ (List.Pairwise.filter _ List.nodup_range)
        intro a b h e
        have e : (a : Int) = (b : Int) := e
        exact h (by omega)
      have := List.nodup_iff_count.mp hn (v : Int)
      omega
theorem exp_eq {vs : List Int} (hin : ∀ x ∈ vs, In64 x) (hl : vs.length ≤ 6) {s : Nat} (hs : s ≤ 6) : (S vs.length fun p => if isNew (rowL vs s) p then oddN (partL vs s ((rowL vs s).getD p 0)) / 2 else 0) = E (s + 1) vs := by
  have hrl : (rowL vs s).length = vs.length := by unfold rowL; simp
  have hri : ∀ x ∈ rowL vs s, In65 x := by
    intro x hx
    have hob := List.mem_map.mp hx
    obtain ⟨j, hj, rfl⟩ := hob
    exact key_in hin hl (List.mem_range.mp hj) (by omega)
  rw [← hrl, new_sum hri (fun x => oddN (partL vs s x) / 2) _ (Nat.le_refl _), List.take_length]
  unfold E
  refine S_congr fun g _ => ?_
  rw [← odd_part hin hl hs g]
  split
  · rfl
  · rename_i h
    have : partL vs s (g : Int) = [] := by
      unfold partL
      rw [List.map_eq_nil_iff, List.filter_eq_nil_iff]
      intro j hj e
      exact h (List.mem_map.mpr ⟨j, hj, by simpa using e⟩)
    rw [this]; rfl
theorem prodE_shift (W : Nat → Int) (e : Nat → Nat) : ∀ n, prodE W e (n + 1) = W 0 ^ e 0 * prodE (fun s => W (s + 1)) (fun s => e (s + 1)) n
  | 0 => by simp [prodE]
  | n + 1 => by rw [prodE, prodE_shift W e n, prodE, Int.mul_assoc]
theorem rule_eq {vs ks : List Int} (hin : ∀ x ∈ vs, In64 x) (hl : vs.length ≤ 6) : ruleF vs ks = sg vs * prodE (wOf ks) (E · vs) 8 := by
  unfold ruleF
  rw [sign_eq vs _ _ (Nat.le_refl _), List.take_length, prodT_eq, prodE_shift (wOf ks) (E · vs) 7, prodE_congr (e := fun s => E (s + 1) vs) fun s hs => exp_eq hin hl (by omega)]
  have : wOf ks 0 = 1 := rfl
  rw [this, Int.one_pow, Int.one_mul, Int.mul_comm]
  rfl
theorem rule_even {vs ks : List Int} {k : Nat} (hk : k ≤ 3) (hin : ∀ x ∈ vs, In64 x) (hl : vs.length = 2 * k) : pf (ent (wOf ks)) vs = ruleF vs ks := by
  rw [rule_eq hin (by omega), law_even _ k hk vs hl fun x hx => ⟨(hin x hx).1, by have := (hin x hx).2; omega⟩]
theorem rule_odd {vs ks : List Int} {k : Nat} (hk : k ≤ 2) (hin : ∀ x ∈ vs, In64 x) (hl : vs.length = 2 * k + 1) : pf (ent (wOf ks)) (vs ++ [64]) = ruleF vs ks := by
  rw [rule_eq hin (by omega), law_even _ (k + 1) (by omega) (vs ++ [64]) (by simp; omega) fun x hx => by
    rcases List.mem_append.mp hx with h | h
    · exact ⟨(hin x h).1, by have := (hin x h).2; omega⟩
    · rw [List.mem_singleton.mp h]; decide]
  have h1 : ∀ l : List Int, (∀ x ∈ l, In64 x) → (l.foldr (fun y t => sgn y 64 * t) 1) = 1 := by
    intro l hl
    induction l with
    | nil => rfl
    | cons c l ih =>
      have hc := (hl c (.head _)).2
      rw [List.foldr_cons, ih fun x hx => hl x (.tail _ hx)]
      unfold sgn
      rw [if_neg (by omega)]; rfl
  rw [sg_snoc, h1 vs hin, Int.mul_one, prodE_shift, prodE_shift (e := (E · vs)), prodE_congr (e := fun s => E (s + 1) vs) fun s hs => ?_]
  · have : wOf ks 0 = 1 := rfl
    rw [this, Int.one_pow, Int.one_pow]
  · rw [E_perm (List.perm_append_comm (l₁ := vs) (l₂ := [64])) (s + 1)]
    refine E_lone (by decide) fun c hc e => ?_
    have h := hin c hc
    have := K_down (x := c) (y := 64) (s := 1) s (by rw [Nat.add_comm]; exact e)
    have h0 := h.1; have h1 := h.2
    simp only [K] at this
    omega
end Mine

namespace Mine
def valOf (ns : List Int) (i : Nat) : Int := (ns.getD i 0).fmod 64
def prOf (ns : List Int) (i : Nat) : Int := (ns.getD i 0).fmod 2001 - 1000
def lastOf (ns : List Int) : Int := if ((ns.getD 9 0).fmod 2 == 0) = true then prOf ns 8 else prOf ns 7
theorem val_in (ns : List Int) (i : Nat) : In64 (valOf ns i) := ⟨Int.fmod_nonneg_of_pos _ (by decide), Int.fmod_lt_of_pos _ (by decide)⟩
theorem pr_in (ns : List Int) (i : Nat) : Small (prOf ns i) := by
  have h0 := Int.fmod_nonneg_of_pos (ns.getD i 0) (b := 2001) (by decide)
  have h1 := Int.fmod_lt_of_pos (ns.getD i 0) (b := 2001) (by decide)
  constructor <;> (unfold prOf; omega)
def linksOf (ns : List Int) : List Int := [2 * prOf ns 6, prOf ns 6, 2 * prOf ns 7, prOf ns 7, 2 * lastOf ns, lastOf ns, prOf ns 9]
def valsOf (ns : List Int) : List Int := [valOf ns 0, valOf ns 1, valOf ns 2, valOf ns 3, valOf ns 4, valOf ns 5]
def bareOf (ns : List Int) : Bool := (ns.getD 9 0).fmod 2 == 0
def tabOf (ns : List Int) : Nat → Nat → Int := tabF (valsOf ns) (prOf ns 6) (prOf ns 7) (prOf ns 8) (prOf ns 9) (bareOf ns)
theorem links_bd (ns : List Int) (s : Nat) : -2000 ≤ (linksOf ns).getD s 0 ∧ (linksOf ns).getD s 0 ≤ 2000 := by
  have h6 := pr_in ns 6; have h7 := pr_in ns 7; have h9 := pr_in ns 9
  have hl : Small (lastOf ns) := by unfold lastOf; split <;> exact pr_in ns _
  unfold Small at *
  match s with
  | 0 => show -2000 ≤ 2 * prOf ns 6 ∧ 2 * prOf ns 6 ≤ 2000; omega
  | 1 => show -2000 ≤ prOf ns 6 ∧ prOf ns 6 ≤ 2000; omega
  | 2 => show -2000 ≤ 2 * prOf ns 7 ∧ 2 * prOf ns 7 ≤ 2000; omega
  | 3 => show -2000 ≤ prOf ns 7 ∧ prOf ns 7 ≤ 2000; omega
  | 4 => show -2000 ≤ 2 * lastOf ns ∧ 2 * lastOf ns ≤ 2000; omega
  | 5 => show -2000 ≤ lastOf ns ∧ lastOf ns ≤ 2000; omega
  | 6 => show -2000 ≤ prOf ns 9 ∧ prOf ns 9 ≤ 2000; omega
  | s + 7 => show -2000 ≤ ([] : List Int).getD s 0 ∧ ([] : List Int).getD s 0 ≤ 2000; simp
theorem vals_in (ns : List Int) : ∀ x ∈ valsOf ns, In64 x := by
  intro x hx
  simp only [valsOf, List.mem_cons, List.not_mem_nil, or_false] at hx
  rcases hx with rfl | rfl | rfl | rfl | rfl | rfl <;> exact val_in ns _
theorem links_eq (ns : List Int) : linksOf ns = [2 * prOf ns 6, prOf ns 6, 2 * prOf ns 7, prOf ns 7, 2 * (if bareOf ns then prOf ns 8 else prOf ns 7), if bareOf ns then prOf ns 8 else prOf ns 7, prOf ns 9] := rfl
theorem tab_at (ns : List Int) (i j : Nat) (hj : j ≠ 6) : tabOf ns i j = ent (wOf (linksOf ns)) ((valsOf ns).getD i 0) ((valsOf ns).getD j 0) := by
  have hv : ∀ i, In64 ((valsOf ns).getD i 0) := fun i => by
    rcases i with _ | _ | _ | _ | _ | _ | i
    · exact val_in ns 0
    · exact val_in ns 1
    · exact val_in ns 2
    · exact val_in ns 3
    · exact val_in ns 4
    · exact val_in ns 5
    · show In64 0; exact ⟨by decide, by decide⟩
  unfold tabOf tabF
  rw [if_neg hj, entry_eq (hv i) (hv j), links_eq]
theorem w_bd (ns : List Int) : ∀ n, -100000 ≤ wOf (linksOf ns) n ∧ wOf (linksOf ns) n ≤ 100000
  | 0 => by simp [wOf]
  | n + 1 => by have := links_bd ns n; simp only [wOf]; omega
theorem tab_bd (ns : List Int) : TabBd (tabOf ns) := by
  intro i j
  by_cases hj : j = 6
  · subst hj; exact ⟨by show -100000 ≤ (1 : Int); decide, by show (1 : Int) ≤ 100000; decide⟩
  · rw [tab_at ns i j hj]
    have := w_bd ns (lev ((valsOf ns).getD i 0) ((valsOf ns).getD j 0))
    unfold ent sgn
    split <;> omega
theorem tab_six (ns : List Int) (i : Nat) (h : In64 ((valsOf ns).getD i 0)) : tabOf ns i 6 = ent (wOf (linksOf ns)) ((valsOf ns).getD i 0) 64 := by
  have h0 := h.1; have h1 := h.2
  have hl : lev ((valsOf ns).getD i 0) 64 = 0 := by
    have h2 : ¬ 1 ≤ lev ((valsOf ns).getD i 0) 64 := fun q => by
      have := (lev_iff (by decide)).mp q
      simp only [K] at this
      omega
    omega
  unfold ent sgn
  rw [hl, if_neg (by omega)]
  rfl
theorem pfL2 (f : Nat → Nat → Int) (a b : Int) : pfL f 1 [a, b] = 0 + f a.toNat b.toNat * 1 := rfl
theorem pfL4 (f : Nat → Nat → Int) (a b c d : Int) : pfL f 2 [a, b, c, d] = 0 + f a.toNat b.toNat * pfL f 1 [c, d] - f a.toNat c.toNat * pfL f 1 [b, d] + f a.toNat d.toNat * pfL f 1 [b, c] := by with_unfolding_all rfl
theorem pfL6 (f : Nat → Nat → Int) (a b c d e g : Int) : pfL f 3 [a, b, c, d, e, g] = 0 + f a.toNat b.toNat * pfL f 2 [c, d, e, g] - f a.toNat c.toNat * pfL f 2 [b, d, e, g] + f a.toNat d.toNat * pfL f 2 [b, c, e, g] - f a.toNat e.toNat * pfL f 2 [b, c, d, g] + f a.toNat g.toNat * pfL f 2 [b, c, d, e] := by with_unfolding_all rfl
theorem law2 (ns : List Int) : pfL (tabOf ns) 1 [0, 1] = ruleF [valOf ns 0, valOf ns 1] (linksOf ns) := by
  have h01 : tabOf ns (0 : Int).toNat (1 : Int).toNat = ent (wOf (linksOf ns)) (valOf ns 0) (valOf ns 1) := tab_at ns 0 1 (by decide)
  rw [← rule_even (k := 1) (vs := [valOf ns 0, valOf ns 1]) (ks := linksOf ns) (by decide) (by intro x hx; simp only [List.mem_cons, List.not_mem_nil, or_false] at hx; rcases hx with rfl | rfl <;> exact val_in ns _) rfl]
  show _ = pf (ent (wOf (linksOf ns))) [valOf ns 0, valOf ns 1]
  simp only [pfL6, pfL4, pfL2, pf_six, pf_four, pf_two, p6, p4, Int.zero_add, Int.mul_one, h01]
theorem law3 (ns : List Int) : pfL (tabOf ns) 2 [0, 1, 2, 6] = ruleF [valOf ns 0, valOf ns 1, valOf ns 2] (linksOf ns) := by
  have h01 : tabOf ns (0 : Int).toNat (1 : Int).toNat = ent (wOf (linksOf ns)) (valOf ns 0) (valOf ns 1) := tab_at ns 0 1 (by decide)
  have h02 : tabOf ns (0 : Int).toNat (2 : Int).toNat = ent (wOf (linksOf ns)) (valOf ns 0) (valOf ns 2) := tab_at ns 0 2 (by decide)
  have h06 : tabOf ns (0 : Int).toNat (6 : Int).toNat = ent (wOf (linksOf ns)) (valOf ns 0) 64 := tab_six ns 0 (val_in ns 0)
  have h12 : tabOf ns (1 : Int).toNat (2 : Int).toNat = ent (wOf (linksOf ns)) (valOf ns 1) (valOf ns 2) := tab_at ns 1 2 (by decide)
  have h16 : tabOf ns (1 : Int).toNat (6 : Int).toNat = ent (wOf (linksOf ns)) (valOf ns 1) 64 := tab_six ns 1 (val_in ns 1)
  have h26 : tabOf ns (2 : Int).toNat (6 : Int).toNat = ent (wOf (linksOf ns)) (valOf ns 2) 64 := tab_six ns 2 (val_in ns 2)
  rw [← rule_odd (k := 1) (vs := [valOf ns 0, valOf ns 1, valOf ns 2]) (ks := linksOf ns) (by decide) (by intro x hx; simp only [List.mem_cons, List.not_mem_nil, or_false] at hx; rcases hx with rfl | rfl | rfl <;> exact val_in ns _) rfl]
  show _ = pf (ent (wOf (linksOf ns))) [valOf ns 0, valOf ns 1, valOf ns 2, 64]
  simp only [pfL6, pfL4, pfL2, pf_six, pf_four, pf_two, p6, p4, Int.zero_add, Int.mul_one, h01, h02, h06, h12, h16, h26]
theorem law4 (ns : List Int) : pfL (tabOf ns) 2 [0, 1, 2, 3] = ruleF [valOf ns 0, valOf ns 1, valOf ns 2, valOf ns 3] (linksOf ns) := by
  have h01 : tabOf ns (0 : Int).toNat (1 : Int).toNat = ent (wOf (linksOf ns)) (valOf ns 0) (valOf ns 1) := tab_at ns 0 1 (by decide)
  have h02 : tabOf ns (0 : Int).toNat (2 : Int).toNat = ent (wOf (linksOf ns)) (valOf ns 0) (valOf ns 2) := tab_at ns 0 2 (by decide)
  have h03 : tabOf ns (0 : Int).toNat (3 : Int).toNat = ent (wOf (linksOf ns)) (valOf ns 0) (valOf ns 3) := tab_at ns 0 3 (by decide)
  have h12 : tabOf ns (1 : Int).toNat (2 : Int).toNat = ent (wOf (linksOf ns)) (valOf ns 1) (valOf ns 2) := tab_at ns 1 2 (by decide)
  have h13 : tabOf ns (1 : Int).toNat (3 : Int).toNat = ent (wOf (linksOf ns)) (valOf ns 1) (valOf ns 3) := tab_at ns 1 3 (by decide)
  have h23 : tabOf ns (2 : Int).toNat (3 : Int).toNat = ent (wOf (linksOf ns)) (valOf ns 2) (valOf ns 3) := tab_at ns 2 3 (by decide)
  rw [← rule_even (k := 2) (vs := [valOf ns 0, valOf ns 1, valOf ns 2, valOf ns 3]) (ks := linksOf ns) (by decide) (by intro x hx; simp only [List.mem_cons, List.not_mem_nil, or_false] at hx; rcases hx with rfl | rfl | rfl | rfl <;> exact val_in ns _) rfl]
  show _ = pf (ent (wOf (linksOf ns))) [valOf ns 0, valOf ns 1, valOf ns 2, valOf ns 3]
  simp only [pfL6, pfL4, pfL2, pf_six, pf_four, pf_two, p6, p4, Int.zero_add, Int.mul_one, h01, h02, h03, h12, h13, h23]
theorem law5 (ns : List Int) : pfL (tabOf ns) 3 [0, 1, 2, 3, 4, 6] = ruleF [valOf ns 0, valOf ns 1, valOf ns 2, valOf ns 3, valOf ns 4] (linksOf ns) := by
  have h01 : tabOf ns (0 : Int).toNat (1 : Int).toNat = ent (wOf (linksOf ns)) (valOf ns 0) (valOf ns 1) := tab_at ns 0 1 (by decide)
  have h02 : tabOf ns (0 : Int).toNat (2 : Int).toNat = ent (wOf (linksOf ns)) (valOf ns 0) (valOf ns 2) := tab_at ns 0 2 (by decide)
  have h03 : tabOf ns (0 : Int).toNat (3 : Int).toNat = ent (wOf (linksOf ns)) (valOf ns 0) (valOf ns 3) := tab_at ns 0 3 (by decide)
  have h04 : tabOf ns (0 : Int).toNat (4 : Int).toNat = ent (wOf (linksOf ns)) (valOf ns 0) (valOf ns 4) := tab_at ns 0 4 (by decide)
  have h06 : tabOf ns (0 : Int).toNat (6 : Int).toNat = ent (wOf (linksOf ns)) (valOf ns 0) 64 := tab_six ns 0 (val_in ns 0)
  have h12 : tabOf ns (1 : Int).toNat (2 : Int).toNat = ent (wOf (linksOf ns)) (valOf ns 1) (valOf ns 2) := tab_at ns 1 2 (by decide)
  have h13 : tabOf ns (1 : Int).toNat (3 : Int).toNat = ent (wOf (linksOf ns)) (valOf ns 1) (valOf ns 3) := tab_at ns 1 3 (by decide)
  have h14 : tabOf ns (1 : Int).toNat (4 : Int).toNat = ent (wOf (linksOf ns)) (valOf ns 1) (valOf ns 4) := tab_at ns 1 4 (by decide)
  have h16 : tabOf ns (1 : Int).toNat (6 : Int).toNat = ent (wOf (linksOf ns)) (valOf ns 1) 64 := tab_six ns 1 (val_in ns 1)
  have h23 : tabOf ns (2 : Int).toNat (3 : Int).toNat = ent (wOf (linksOf ns)) (valOf ns 2) (valOf ns 3) := tab_at ns 2 3 (by decide)
  have h24 : tabOf ns (2 : Int).toNat (4 : Int).toNat = ent (wOf (linksOf ns)) (valOf ns 2) (valOf ns 4) := tab_at ns 2 4 (by decide)
  have h26 : tabOf ns (2 : Int).toNat (6 : Int).toNat = ent (wOf (linksOf ns)) (valOf ns 2) 64 := tab_six ns 2 (val_in ns 2)
  have h34 : tabOf ns (3 : Int).toNat (4 : Int).toNat = ent (wOf (linksOf ns)) (valOf ns 3) (valOf ns 4) := tab_at ns 3 4 (by decide)
  have h36 : tabOf ns (3 : Int).toNat (6 : Int).toNat = ent (wOf (linksOf ns)) (valOf ns 3) 64 := tab_six ns 3 (val_in ns 3)
  have h46 : tabOf ns (4 : Int).toNat (6 : Int).toNat = ent (wOf (linksOf ns)) (valOf ns 4) 64 := tab_six ns 4 (val_in ns 4)
  rw [← rule_odd (k := 2) (vs := [valOf ns 0, valOf ns 1, valOf ns 2, valOf ns 3, valOf ns 4]) (ks := linksOf ns) (by decide) (by intro x hx; simp only [List.mem_cons, List.not_mem_nil, or_false] at hx; rcases hx with rfl | rfl | rfl | rfl | rfl <;> exact val_in ns _) rfl]
  show _ = pf (ent (wOf (linksOf ns))) [valOf ns 0, valOf ns 1, valOf ns 2, valOf ns 3, valOf ns 4, 64]
  simp only [pfL6, pfL4, pfL2, pf_six, pf_four, pf_two, p6, p4, Int.zero_add, Int.mul_one, h01, h02, h03, h04, h06, h12, h13, h14, h16, h23, h24, h26, h34, h36, h46]
theorem law6 (ns : List Int) : pfL (tabOf ns) 3 [0, 1, 2, 3, 4, 5] = ruleF [valOf ns 0, valOf ns 1, valOf ns 2, valOf ns 3, valOf ns 4, valOf ns 5] (linksOf ns) := by
  have h01 : tabOf ns (0 : Int).toNat (1 : Int).toNat = ent (wOf (linksOf ns)) (valOf ns 0) (valOf ns 1) := tab_at ns 0 1 (by decide)
  have h02 : tabOf ns (0 : Int).toNat (2 : Int).toNat = ent (wOf (linksOf ns)) (valOf ns 0) (valOf ns 2) := tab_at ns 0 2 (by decide)
  have h03 : tabOf ns (0 : Int).toNat (3 : Int).toNat = ent (wOf (linksOf ns)) (valOf ns 0) (valOf ns 3) := tab_at ns 0 3 (by decide)
  have h04 : tabOf ns (0 : Int).toNat (4 : Int).toNat = ent (wOf (linksOf ns)) (valOf ns 0) (valOf ns 4) := tab_at ns 0 4 (by decide)
  have h05 : tabOf ns (0 : Int).toNat (5 : Int).toNat = ent (wOf (linksOf ns)) (valOf ns 0) (valOf ns 5) := tab_at ns 0 5 (by decide)
  have h12 : tabOf ns (1 : Int).toNat (2 : Int).toNat = ent (wOf (linksOf ns)) (valOf ns 1) (valOf ns 2) := tab_at ns 1 2 (by decide)
  have h13 : tabOf ns (1 : Int).toNat (3 : Int).toNat = ent (wOf (linksOf ns)) (valOf ns 1) (valOf ns 3) := tab_at ns 1 3 (by decide)
  have h14 : tabOf ns (1 : Int).toNat (4 : Int).toNat = ent (wOf (linksOf ns)) (valOf ns 1) (valOf ns 4) := tab_at ns 1 4 (by decide)
  have h15 : tabOf ns (1 : Int).toNat (5 : Int).toNat = ent (wOf (linksOf ns)) (valOf ns 1) (valOf ns 5) := tab_at ns 1 5 (by decide)
  have h23 : tabOf ns (2 : Int).toNat (3 : Int).toNat = ent (wOf (linksOf ns)) (valOf ns 2) (valOf ns 3) := tab_at ns 2 3 (by decide)
  have h24 : tabOf ns (2 : Int).toNat (4 : Int).toNat = ent (wOf (linksOf ns)) (valOf ns 2) (valOf ns 4) := tab_at ns 2 4 (by decide)
  have h25 : tabOf ns (2 : Int).toNat (5 : Int).toNat = ent (wOf (linksOf ns)) (valOf ns 2) (valOf ns 5) := tab_at ns 2 5 (by decide)
  have h34 : tabOf ns (3 : Int).toNat (4 : Int).toNat = ent (wOf (linksOf ns)) (valOf ns 3) (valOf ns 4) := tab_at ns 3 4 (by decide)
  have h35 : tabOf ns (3 : Int).toNat (5 : Int).toNat = ent (wOf (linksOf ns)) (valOf ns 3) (valOf ns 5) := tab_at ns 3 5 (by decide)
  have h45 : tabOf ns (4 : Int).toNat (5 : Int).toNat = ent (wOf (linksOf ns)) (valOf ns 4) (valOf ns 5) := tab_at ns 4 5 (by decide)
  rw [← rule_even (k := 3) (vs := [valOf ns 0, valOf ns 1, valOf ns 2, valOf ns 3, valOf ns 4, valOf ns 5]) (ks := linksOf ns) (by decide) (by intro x hx; simp only [List.mem_cons, List.not_mem_nil, or_false] at hx; rcases hx with rfl | rfl | rfl | rfl | rfl | rfl <;> exact val_in ns _) rfl]
  show _ = pf (ent (wOf (linksOf ns))) [valOf ns 0, valOf ns 1, valOf ns 2, valOf ns 3, valOf ns 4, valOf ns 5]
  simp only [pfL6, pfL4, pfL2, pf_six, pf_four, pf_two, p6, p4, Int.zero_add, Int.mul_one, h01, h02, h03, h04, h05, h12, h13, h14, h15, h23, h24, h25, h34, h35, h45]
def leftL (i : Nat) : List Int := (List.range (2 + i)).map (fun (j : Nat) => (j : Int)) ++ List.replicate (i % 2) 6
def mOf (i : Nat) : Nat := (3 + i) / 2
theorem left_ok : ∀ i < 5, (leftL i).length = 2 * mOf i ∧ (∀ x ∈ leftL i, 0 ≤ x ∧ x ≤ 6) ∧ (leftL i).Pairwise (· < ·) ∧ mOf i ≤ 3 := by decide
theorem law_many (ns : List Int) {i : Nat} (h : i < 5) : pfL (tabOf ns) (mOf i) (leftL i) = ruleF ((valsOf ns).take (2 + i)) (linksOf ns) :=
  match i, h with
  | 0, _ => law2 ns
  | 1, _ => law3 ns
  | 2, _ => law4 ns
  | 3, _ => law5 ns
  | 4, _ => law6 ns
end Mine

namespace Mine
theorem News.fresh {B h₀ h' : Heap} {L d : Addr} {m : Str → Option Value} {o : Obj} {news : List (Addr × Obj)} (F : Fr h₀ L B m) (N : News h₀ L h' news) (x : Fresh B h' d o) : News h₀ L h' ((d, o) :: news) := by
  intro p hp
  rcases List.mem_cons.mp hp with rfl | hp
  · refine ⟨x.2, fun e => ?_, ?_⟩
    · obtain ⟨q, _, _, hq, _⟩ := F.ns
      have e : d = L := e
      have := x.1
      rw [e, hq] at this; cases this
    · cases q : h₀.get? d with
      | none => rfl
      | some z => have := F.keep _ _ q; rw [x.1] at this; cases this
  · exact N p hp
theorem PriceTab.of {w : World} {h : Heap} {p : Addr} {high middle low same : Int} {kvs : List (Int × Value)} (d : h.DictOf (intKind PySem.Challenge.rw_wu0005_01.row.prog w) p kvs) (h0 : ∃ t, valueAt kvs 0 = some (.int same t)) (h3 : ∃ t, valueAt kvs 3 = some (.int low t))
    (h4 : ∃ t, valueAt kvs 4 = some (.int middle t)) (h5 : ∃ t, valueAt kvs 5 = some (.int high t)) : PriceTab w h p high middle low same := ⟨kvs, d, h0, h3, h4, h5⟩
theorem PL {h₀ h : Heap} {L a : Addr} {its : Array Value} {n : Nat} {news : List (Addr × Obj)} (N : News h₀ L h news) (hm : (a, W.listOf its n) ∈ news) : h.PlainList a its := ⟨n, (N _ hm).1⟩
theorem TableAt.mk {h₀ h : Heap} {L tb r0 r1 r2 r3 r4 r5 : Addr} {nt n0 n1 n2 n3 n4 n5 : Nat} {a0 a1 a2 a3 a4 a5 : Array Value} {f : Nat → Nat → Int} {news : List (Addr × Obj)} (N : News h₀ L h news)
    (sub : ∀ p ∈ [(tb, W.listOf #[.ref r0, .ref r1, .ref r2, .ref r3, .ref r4, .ref r5] nt), (r0, W.listOf a0 n0), (r1, W.listOf a1 n1), (r2, W.listOf a2 n2), (r3, W.listOf a3 n3), (r4, W.listOf a4 n4), (r5, W.listOf a5 n5)], p ∈ news)
    (h0 : RowOk (f 0) 0 7 a0) (h1 : RowOk (f 1) 1 7 a1) (h2 : RowOk (f 2) 2 7 a2) (h3 : RowOk (f 3) 3 7 a3) (h4 : RowOk (f 4) 4 7 a4) (h5 : RowOk (f 5) 5 7 a5) : TableAt h tb f :=
  TableAt.of N (sub _ (.head _)) (RowAt.of N (sub _ (.tail _ (.head _))) h0) (RowAt.of N (sub _ (.tail _ (.tail _ (.head _)))) h1) (RowAt.of N (sub _ (.tail _ (.tail _ (.tail _ (.head _))))) h2) (RowAt.of N (sub _ (.tail _ (.tail _ (.tail _ (.tail _ (.head _)))))) h3) (RowAt.of N (sub _ (.tail _ (.tail _ (.tail _ (.tail _ (.tail _ (.head _))))))) h4) (RowAt.of N (sub _ (.tail _ (.tail _ (.tail _ (.tail _ (.tail _ (.tail _ (.head _)))))))) h5)
def ManyJ (m₀ : Str → Option Value) (n₀ : List (Addr × Obj)) : Nat → (Str → Option Value) → List (Addr × Obj) → Prop :=
  fun _ m n => ∃ (ol om : Option Value), m = (fun q => if q = Str.ofString "left" then ol else if q = Str.ofString "many" then om else m₀ q) ∧ n = n₀
theorem CallP.mono {w : World} {k k' : Nat} {f : Addr} {vs : List Value} {P : Heap → Prop} {R : Value → Heap → Prop} (C : CallP w k f vs P R) (h : k ≤ k') : CallP w k' f vs P R :=
  fun dp un fr gd s Q E O hp hd hu hq => C dp un fr gd s Q E O hp (by omega) (by omega) hq
theorem left_eq {i : Nat} (h : i < 5) : rangeKs 0 ((2 : Int) + (i : Int) - 0).toNat ++ (List.replicate (Int.fmod ((2 : Int) + (i : Int)) 2).toNat [(6 : Int)]).flatten = leftL i := by
  match i, h with
  | 0, _ => decide
  | 1, _ => decide
  | 2, _ => decide
  | 3, _ => decide
  | 4, _ => decide
theorem ManyJ.next {m₀ : Str → Option Value} {n₀ : List (Addr × Obj)} {i : Nat} {x y x' y' : Option Value} :
    ManyJ m₀ n₀ i (fun q => if q = Str.ofString "left" then x else if q = Str.ofString "many" then y else if q = Str.ofString "left" then x' else if q = Str.ofString "many" then y' else m₀ q) n₀ := ⟨x, y, upd2b _ _ _ _ _ _ _, rfl⟩
theorem size6 {ys : List Value} {ns : List Int} (h : IntsAre ys (valsOf ns)) : ys.toArray.size ≤ sizeLine := by
  rw [List.size_toArray, IntsAre.length h]
  exact Nat.le_of_ble_eq_true rfl
theorem fin : PySem.Challenge.rw_wu0005_01.Holds := by
  w_top off
  k_with_none
  k_with "eval Call" => (k_here; k_fold)
  k_with "eval BinOp" => (k_here; k_fold)
  k_with "eval Compare" => (k_here; k_fold)
  k_with "mine depth" => ((case D => first | ((try simp only [depth_under_make, depth_under_kw, depth_in1, depth_deeper, depth_caller]); decide) | omega); (case U => first | ((try simp only [units_in1, units_deeper, Around.mark_units, units_caller]); decide) | omega))
  k_with "call ref" => (k_here; (with_reducible show wpAny _ _ (call (.ref 105) [.ref _]) _ _ _); (rename Heap.IsList _ _ _ => il'); (rename IntsAre _ _ => ii'); (rename Fr _ _ _ _ => Fo'); k_dflt (refine' CallP.use (c_draw _ _ _ _ _) Fo' ?N ?X ?T (by exact ⟨rfl, stays_list Fo'.keep il', ii', by (have := IntsAre.length ii'); omega⟩) ?D ?U ?_); (case N => k_asm); (case X => assumption); (case T => assumption); walk_at "mine depth"; intro v' h' tk' F' N' st' r'; obtain ⟨d', ws', ns', n', e', fr', hI', hl'⟩ := r'; subst e'; (have N' := News.fresh Fo' N' fr'))
  k_with "eval ListComp" => (k_here; (with_reducible show wpAny _ _ (eval (.ListComp _ [⟨_, .Tuple _ _ _, [], _⟩] _ _) _) _ _ _); k_dflt (refine comp_tup (_F₀ := by k_asm) (by with_unfolding_all rfl) (by decide) (by rfl) (by decide) (by rfl) ?_))
  k_with "subscriptTail Name Name ref int" => (k_here; (with_reducible show wpAny _ _ (subscriptTail _ _ (.ref _) (.int _ _)) _ _ _); k_dflt (refine tail_news (by with_reducible assumption) (by k_mem) (by omega) (by omega) (by with_reducible assumption) ?_ (by with_unfolding_all rfl)))
  k_with "call ref" => (k_here; (with_reducible show wpAny _ _ (call (.ref 129) [.ref _, .ref _, .bool _]) _ _ _); refine Stop.go ?_)
  k_with "call ref" => (k_here; (with_reducible show wpAny _ _ (call (.ref 136) [.ref _, .ref _]) _ _ _); refine Stop.go ?_)
  k_with "call ref" => (k_here; (with_reducible show wpAny _ _ (call (.ref 141) [.ref _, .ref _]) _ _ _); refine Stop.go ?_)
  k_with "exec Assign" => (k_here; (with_reducible show wpAny _ _ (exec (.Assign [.Name (Str.ofString "last") _] _ _) _) _ _ _); (rename Mark => hmk'); clear hmk'; refine Stop.go ?_)
  k_with "exec For Name Call cons nil" => (k_here; k_dflt (refine For_rng (_F₀ := by k_asm) (by rfl) (by rfl) (by rfl) (by rfl) ?_))
  k_with "subscriptTail Name Slice ref ref" => (k_here; (with_reducible show wpAny _ _ (subscriptTail _ (PySem.Expr.Slice _ _ none _) (Value.ref _) (Value.ref _)) _ _ _); k_dflt (refine' kmk_slice_ints ?xF ?xN ?xl ?xp ?xq ?xi ?xm ?xc ?_ ?xs ?xt ?xz; (case xF => k_asm); (case xN => k_asm); (case xl => kmk_list); (case xp => kmk_part); (case xq => kmk_part); (case xi => l_ints); (case xm => (with_reducible refine' kmk_upto ?ya ?yb; (case ya => l_ints); (case yb => omega))); (case xc => kmk_len); (case xs => with_unfolding_all rfl); (case xt => kmk_pure); (case xz => with_reducible assumption)); intro D' ws' h' F' N' l1 hI' hC' hL'; (try simp only [Int.reduceNeg, Int.neg_neg, Int.reduceToNat] at hI' hC' hL'); (try k_lt l1); (try k_sweep))
  refine hd ?_
  k_go0
  all_goals (try k_fold)
  k_steps
  unfold Stop
  (rename Fr _ _ _ _ => F'); (rename News _ _ _ _ => N')
  rename List Int => ns
  rename IntsAre _ (List.map _ _) => hv6
  rename IntsAre _ ns => hns
  rename ns.length = 10 => hn10
  have hv6 : IntsAre _ (valsOf ns) := hv6
  have hz6 := size6 hv6
  intro Pk kk
  refine kk _ _ _ rfl rfl F' N' ⟨_, .head _, rfl, _, rfl⟩ (by size_fits) fun g => rest_gen (fun i y => ∃ t, y = .int (prOf ns (6 + i)) t) ⟨_, .head _, rfl, _, rfl⟩ ?_ ?_ <;> clear kk Pk
  · clear F' N'
    intro i v I oI C oC D m₂ ys h tk E' hi hv hC hx F' N' off ne S
    obtain ⟨t', rfl⟩ : ∃ t', v = .int ((6 + i : Nat) : Int) t' := by
      rcases i with _ | _ | _ | _ | i <;> first | (cases hv; exact ⟨_, rfl⟩) | (simp at hv)
    have hi4 : i < 4 := by rcases i with _ | _ | _ | _ | i <;> first | omega | (simp at hv)
    have hob : ∃ t, _ := ints_at hns (k := 6 + i) (by omega)
    obtain ⟨tx, hxp⟩ := hob
    have hxp : _ = _ := (show _ = _ from congrArg _ (Int.toNat_natCast (6 + i))).trans hxp
    try k_fold
    k_steps
    (rename Fr _ _ _ _ => F'); (rename News _ _ _ _ => N')
    exact LCg.CompEnd.intro F' N' _ (fun _ h => h) off S ⟨rfl, _, rfl⟩
  intro ys hl hy
  have hob := len4 hl
  obtain ⟨y0, y1, y2, y3, rfl⟩ := hob
  have hob := hy 0 y0 rfl
  obtain ⟨u0, rfl⟩ := hob
  have hob := hy 1 y1 rfl
  obtain ⟨u1, rfl⟩ := hob
  have hob := hy 2 y2 rfl
  obtain ⟨u2, rfl⟩ := hob
  have hob := hy 3 y3 rfl
  obtain ⟨u3, rfl⟩ := hob
  clear F' N' hy hl
  intro D h tk F' N' off
  simp only [LCg.Off1, and_true] at off
  (try dsimp only); (try k_fold)
  k_steps
  unfold Stop
  (rename Fr _ _ _ _ => F'); (rename News _ _ _ _ => N'); rename Obj.IsDictOf _ _ _ => hdo
  have hpt := PriceTab.of (high := prOf ns 6) (middle := prOf ns 7) (low := prOf ns 8) (same := prOf ns 9) (Heap.dictOf_iff.mpr ⟨_, (N' _ (.head _)).1, hdo⟩) ⟨_, rfl⟩ ⟨_, rfl⟩ ⟨_, rfl⟩ ⟨_, rfl⟩
  k_dflt (refine' CallP.use (c_table _ _ _ _ _ (valsOf ns) _ (prOf ns 6) (prOf ns 7) (prOf ns 8) (prOf ns 9)) F' N' ?X ?T (by exact ⟨rfl, PL N' (by k_mem), hv6, rfl, vals_in ns, hpt, pr_in ns 6, pr_in ns 7, pr_in ns 8, pr_in ns 9⟩) ?D ?U ?_)
  case X => assumption
  case T => assumption
  walk_at "mine depth"
  intro v h' tk' F1 N1 st r
  obtain ⟨tb, rfl, r0, r1, r2, r3, r4, r5, nt, ft, ⟨a0, n0, f0, ok0⟩, ⟨a1, n1, f1, ok1⟩, ⟨a2, n2, f2, ok2⟩, ⟨a3, n3, f3, ok3⟩, ⟨a4, n4, f4, ok4⟩, ⟨a5, n5, f5, ok5⟩⟩ := r
  have N1 := News.fresh F' (News.fresh F' (News.fresh F' (News.fresh F' (News.fresh F' (News.fresh F' (News.fresh F' N1 f5) f4) f3) f2) f1) f0) ft
  clear F' N' hdo
  have mk1 := Mark.mk
  k_steps
  (rename Fr _ _ _ _ => F'); (rename News _ _ _ _ => N')
  refine join_name (Str.ofString "last") (fun v => ∃ t, v = .int (lastOf ns) t) F' N' ?_ ?_
  · (try dsimp only); (try k_fold)
    k_steps
    · (rename Fr _ _ _ _ => F'); (rename News _ _ _ _ => N'); rename _ = _ => hb
      exact ⟨rfl, _, _, _, rfl, F', N', _, by rw [lastOf, if_pos (by rw [beq_iff_eq]; exact hb)]⟩
    · (rename Fr _ _ _ _ => F'); (rename News _ _ _ _ => N'); rename _ ≠ _ => hb
      exact ⟨rfl, _, _, _, rfl, F', N', _, by rw [lastOf, if_neg (by rw [beq_iff_eq]; exact hb)]⟩
  clear F' N'
  rintro h tk v F' N' ⟨tl, rfl⟩
  k_steps
  unfold Stop
  (rename Fr _ _ _ _ => F'); (rename News _ _ _ _ => N'); rename IsRange _ _ _ _ _ _ _ _ => hr
  intro Pk kk
  refine kk _ _ _ _ _ _ _ 5 _ _ (ManyJ _ _) rfl hr (by with_unfolding_all rfl) (by with_unfolding_all rfl) F' N' ⟨_, _, upd2₀ _ _ _, rfl⟩ ?_ ?_ <;> clear kk Pk
  · clear F' N' hr
    rintro i tk m₁ news₁ I oI h tk₁ hi ⟨ol, om, rfl, rfl⟩ off F' N'
    have off0 := allNe off
    have offN := off0
    simp only [AllNe, and_true] at offN
    (try dsimp only); (try k_fold)
    have hfm : 0 ≤ Int.fmod ((2 : Int) + (i : Int)) 2 ∧ Int.fmod ((2 : Int) + (i : Int)) 2 < 2 := by rw [Int.fmod_eq_emod_of_nonneg _ (by decide)]; omega
    k_steps
    unfold Stop
    (rename Fr _ _ _ _ => F'); (rename News _ _ _ _ => N'); rename IntsAre _ (_ ++ _) => hleft
    rw [left_eq hi] at hleft
    have hob := left_ok i hi
    obtain ⟨lk1, lk2, lk3, lk4⟩ := hob
    k_dflt (refine' CallP.use ((c_pairs _ _ (tabOf ns) (tab_bd ns) (mOf i) lk4 _ _ _ lk1 lk2 lk3).mono (k' := 35) (by omega)) F' N' ?X ?T (by exact ⟨TableAt.mk N' (by kcf_all) ok0 ok1 ok2 ok3 ok4 ok5, PL N' (by k_mem), hleft⟩) ?D ?U ?_)
    case X => assumption
    case T => assumption
    walk_at "mine depth"
    clear F' N' hleft
    intro v h' tk' F' N' st r
    obtain ⟨tv, rfl⟩ := r
    k_steps
    unfold Stop
    (rename Fr _ _ _ _ => F'); (rename News _ _ _ _ => N'); rename IntsAre _ (List.take _ _) => hsl
    rw [show ((2 : Int) + (i : Int)).toNat = 2 + i by omega] at hsl
    k_dflt (refine' CallP.use (c_rule _ _ _ _ _ ((valsOf ns).take (2 + i)) (linksOf ns)) F' N' ?X ?T (by exact ⟨PL N' (by k_mem), PL N' (by k_mem), hsl, .cons _ _ (.cons _ _ (.cons _ _ (.cons _ _ (.cons _ _ (.cons _ _ (.cons _ _ .nil)))))), List.length_take_le' _ _, rfl, links_bd ns⟩) ?D ?U ?_)
    case X => assumption
    case T => assumption
    walk_at "mine depth"
    clear F' N' hsl
    intro v h' tk' F' N' st r
    obtain ⟨tw, rfl⟩ := r
    (try (k_unfold; try dsimp only))
    rw [law_many ns hi]
    k_steps
    · rename (_ ≠ _) => hne; exact absurd rfl hne
    (rename Fr _ _ _ _ => F'); (rename News _ _ _ _ => N')
    refine LoopEnd.intro _ F' N' ?_ ?_ ManyJ.next
    · simp only [List.cons_append, List.nil_append]; kcf_all
    · intro p hp q hq
      rw [List.mem_singleton.mp hq]
      exact off p hp
  rintro h tk m' n' F' N' ⟨ol, om, rfl, rfl⟩
  (try dsimp only); (try k_fold)
  k_steps
end Mine

theorem PySem.Challenge.cw_wu0005_01_holds : PySem.Challenge.rw_wu0005_01.Holds := by
  exact Mine.fin
