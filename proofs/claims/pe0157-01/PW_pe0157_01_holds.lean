import PyProof.Rows.All
import Wide.All
import OpenK.AllK
import Wide.FinOn
import Lean
import PySem.Challenge.RW_pe0157_01
open PySem PySem.W PySem.Calls PyProof.Rows
set_option Elab.async false
set_option linter.unusedVariables false
set_option linter.unusedSimpArgs false
set_option compiler.extract_closed false
namespace Mine
set_option synthInstance.maxSize 1 in
set_option maxRecDepth 100000 in
set_option maxHeartbeats 8000000 in
open_top hd for PySem.Challenge.rw_pe0157_01
section

/-- the level: an Around that forgets the frames -/
@[reducible] def Lv (d : Nat) : Around := { handled := none, depth := d, frames := none, guards := some [], units := 3 * d }

/-- a post, named: the walk carries the name alone -/
theorem opq {α : Type} {M : Model} {A : Around} {t : Sem α} {Q : α → Shared → Prop} {E : Value → Shared → Prop} {s : Shared} (h : ∀ R : α → Shared → Prop, (∀ a s, Q a s → R a s) → wpAny M A t R E s) : wpAny M A t Q E s := h Q fun _ _ q => q
theorem opq_use {α : Type} {Q R : α → Shared → Prop} {a : α} {s : Shared} (h : ∀ a s, Q a s → R a s) (q : Q a s) : R a s := h a s q
theorem weaken {α : Type} {M : Model} {A A' : Around} {t : Sem α} {Q : α → Shared → Prop} {E : Value → Shared → Prop} {s : Shared}
    (h : wpAny M A' t Q E s) (h1 : A.handled = A'.handled := by rfl) (h2 : A.depth ≤ A'.depth := by decide) (h3 : A'.frames = none := by rfl)
    (h4 : A'.guards = A.guards := by rfl) (h5 : A.units ≤ A'.units := by decide) : wpAny M A t Q E s := fun Γ p hΓ =>
  h Γ p ⟨hΓ.1.trans h1, Nat.le_trans hΓ.2.1 h2, (fun l hl => by rw [h3] at hl; cases hl), (fun g hg => hΓ.2.2.2.1 g (h4 ▸ hg)), Nat.le_trans hΓ.2.2.2.2 h5⟩

noncomputable abbrev LS : List Str := looseW Mine.hd.view_39 [] ++ (recsOf Mine.hd.view_39).map (·.name) ++ (litsOf Mine.hd.view_39).map (·.1) ++ (clssOf Mine.hd.view_39 (looseW Mine.hd.view_39 [])).map (·.name)
structure Cx (w : World) (mg mb : Str → Option Value) (mean : ExcName → Option Value) (h : Heap) : Prop where
  X : (Mine.hd.heap_39 w.params).In h
  T : Top topProg LS mean mg mb h

abbrev PP : Program := PySem.Challenge.rw_pe0157_01.row.prog

/-- all that stood stands -/
abbrev Kept (h h' : Heap) : Prop := ∀ b o, h.get? b = some o → h'.get? b = some o

theorem Kept.refl (h : Heap) : Kept h h := fun _ _ e => e
theorem Kept.trans {a b c : Heap} (x : Kept a b) (y : Kept b c) : Kept a c := fun p o e => y p o (x p o e)

theorem frKept {h₀ h h' : Heap} {L : Addr} {m : Str → Option Value} (F : Fr h₀ L h m) (k : Kept h h') : Fr h₀ L h' m :=
  ⟨F.ns.keeps k, fun b o e => k b o (F.keep b o e), F.above⟩
theorem newsKept {h₀ h h' : Heap} {L : Addr} {news : List (Addr × Obj)} (N : News h₀ L h news) (k : Kept h h') : News h₀ L h' news :=
  fun p hp => ⟨k _ _ (N p hp).1, (N p hp).2⟩

theorem newsSub {h₀ h : Heap} {L : Addr} {all news : List (Addr × Obj)} (N : News h₀ L h all) (hs : ∀ p ∈ news, p ∈ all) : News h₀ L h news := fun p hp => N p (hs p hp)
theorem Cx.keeps {w : World} {mg mb : Str → Option Value} {mean : ExcName → Option Value} {h h' : Heap} (G : Cx w mg mb mean h) (k : Kept h h') : Cx w mg mb mean h' := ⟨G.X.keeps k, G.T.keeps k⟩

theorem call_own {prog : Program} {w : World} {d : Nat} {s : Shared} {K : Frag} {f : Addr} {args : List Value} {binds : List (Str × Value)} {Q : Value → Shared → Prop} {E : Value → Shared → Prop}
    {name qual : Str} {params : Arguments} {body : List Stmt} {scope : Scope} {dV kV doc pm cdv ct oc : Value} {an od : Option Addr} {osl : Array (Option Value)}
    (X : K.In s.heap) (hlim : s.heap.NoLimit)
    (ho : K.lookup f = some ⟨oc, od, .func (fnOf name qual params body scope dV kV doc pm an cdv ct), osl⟩) (hcd : codeIn K cdv qual = true)
    (hbind : BindsTo s (fnOf name qual params body scope dV kV doc pm an cdv ct) ⟨args, []⟩ binds) (hloc : ∀ y ∈ binds, scope.names.lookup y.1 = some .local)
    (hcell : ∀ x ∈ scope.names, x.2 ≠ .cell)
    (h : ∀ L h₁ tk, Fr s.heap L h₁ (fun y => binds.reverse.lookup y) → News s.heap L h₁ [] →
      wpAny (model prog w) (Lv (d + 1)) (execs body (envOf qual scope L f cdv))
        (fun fl s' => Q (match fl with | .ret v => v | _ => .none) s') (fun _ _ => False) { s with heap := h₁, toks := tk })
    (hroom : d < recursionLimit := by decide)
    (hco : scope.isCoroutine = false := by rfl) (hgen : scope.isGenerator = false := by rfl) (hk : scope.kind = .function := by rfl) :
    wpAny (model prog w) (Lv d) (call (.ref f) args) Q E s := by
  refine wpAny_call ?_
  refine codeAny_call_def (fd := fnOf name qual params body scope dV kV doc pm an cdv ct) (body := body) (binds := binds) hroom (X _ _ ho) rfl hlim (codeRec_of X hcd) rfl hbind hcell hloc (fun h₁ hns hk₁ => ?_) hco hgen hk
  refine wpAny_mono (h s.heap.objs.size h₁ _ ⟨hns, hk₁, Nat.le_refl _⟩ News.nil) (fun fl s' q => ?_) (fun _ _ x => x.elim)
  exact q


theorem call_ownC {prog : Program} {w : World} {d : Nat} {s : Shared} {K : Frag} {f : Addr} {args : List Value} {binds : List (Str × Value)} {Q : Value → Shared → Prop} {E : Value → Shared → Prop}
    {name qual : Str} {params : Arguments} {body : List Stmt} {scope : Scope} {dV kV doc pm cdv ct oc : Value} {an od : Option Addr} {osl : Array (Option Value)}
    (X : K.In s.heap) (hlim : s.heap.NoLimit)
    (ho : K.lookup f = some ⟨oc, od, .func (fnOf name qual params body scope dV kV doc pm an cdv ct), osl⟩) (hcd : codeIn K cdv qual = true)
    (hbind : BindsTo s (fnOf name qual params body scope dV kV doc pm an cdv ct) ⟨args, []⟩ binds)
    (hkind : (binds.all fun y => scope.names.lookup y.1 == some .local || scope.names.lookup y.1 == some .cell) = true)
    (hnd : ((cellsFrom 0 scope.names []).map (·.1)).Nodup)
    (h : ∀ L h₁ tk cells, Fr s.heap L h₁ (bindL (envOfC qual scope L f cdv).kindOf binds fun _ => none) → News s.heap L h₁ cells →
      CellsAre (bindC (envOfC qual scope L f cdv).kindOf binds fun _ => none) (cellsFrom (L + 1) scope.names []) cells →
      wpAny (model prog w) (Lv (d + 1)) (execs body (envOfC qual scope L f cdv))
        (fun fl s' => Q (match fl with | .ret v => v | _ => .none) s') (fun _ _ => False) { s with heap := h₁, toks := tk })
    (hroom : d < recursionLimit := by decide)
    (hco : scope.isCoroutine = false := by rfl) (hgen : scope.isGenerator = false := by rfl) (hk : scope.kind = .function := by rfl) :
    wpAny (model prog w) (Lv d) (call (.ref f) args) Q E s := by
  refine wpAny_call ?_
  refine codeAny_call_function hroom (X _ _ ho) rfl hco hgen rfl (codeRec_of X hcd) (hbind _ _ _ _ ?_)
  refine wpAny_newFunctionEnv_cells hk (kindsX hkind _) fun env' he s' x => ?_
  subst he
  refine ⟨hlim.keeps x.toInCall.keep, codeAny_func ?_⟩
  obtain ⟨h₁, tk, rfl, _⟩ := x.done
  have hk₁ := x.toInCall.keep
  obtain ⟨cells, NC, Y⟩ := Cl.news (h₀ := s.heap) (Nat.le_refl _) fun n c hm => ⟨x.cell n c (lookup_of_mem_nodup (cellsFrom_names scope.names 0 (s.heap.objs.size + 1) [] [] rfl ▸ hnd) hm), x.above n c hm⟩
  exact wpAny_mono (h s.heap.objs.size h₁ tk cells ⟨x.toInCall.ns, hk₁, Nat.le_refl _⟩ NC Y) (fun fl s' q => q) (fun _ _ y => y.elim)

/-- the statements of the i-th def of the text, and its scope -/
def fnStmts (i : Nat) : List Stmt := match PySem.Challenge.pw_pe0157_01.main.body.drop i with | .FunctionDef _ _ b _ _ _ _ _ _ _ :: _ => b | _ => []
def fnScope (i : Nat) : Scope := match PySem.Challenge.pw_pe0157_01.main.body.drop i with | .FunctionDef _ _ _ _ _ _ s _ _ _ :: _ => s | _ => default
def stAt (l : List Stmt) (i : Nat) : Stmt := match l.drop i with | s :: _ => s | [] => .Pass default
def inOf : Stmt → List Stmt
  | .For _ _ b _ _ => b
  | .While _ b _ _ => b
  | .If _ b _ _ => b
  | _ => []
end
section

/-- a map of locals whose named ones are written out -/
def over : List (Str × Value) → (Str → Option Value) → Str → Option Value
  | [], m => m
  | (k, v) :: l, m => fun y => if y = k then some v else over l m y
def Has (m : Str → Option Value) : List (Str × Value) → Prop
  | [] => True
  | (k, v) :: l => m k = some v ∧ Has m l
theorem over_eq {m : Str → Option Value} : ∀ {l : List (Str × Value)}, Has m l → over l m = m
  | [], _ => rfl
  | (k, v) :: l, h => by
    funext y
    show (if y = k then some v else over l m y) = m y
    rw [over_eq h.2]
    by_cases e : y = k
    · rw [if_pos e, e, h.1]
    · rw [if_neg e]
theorem frOver {h₀ h : Heap} {L : Addr} {m : Str → Option Value} (l : List (Str × Value)) (F : Fr h₀ L h m) (hs : Has m l) : Fr h₀ L h (over l m) := by rw [over_eq hs]; exact F
theorem frOverX {h₀ h : Heap} {L : Addr} {m : Str → Option Value} {x : Str} {v : Value} (l : List (Str × Value)) (F : Fr h₀ L h (fun y => if y = x then some v else m y)) (hs : Has m l) :
    Fr h₀ L h (fun y => if y = x then some v else over l m y) := by rw [over_eq hs]; exact F

section
variable {prog : Program} {w : World} {A : Around} {hp₀ : Heap} {gn : Array GenState} {dr : Drawn} {tk₀ : Nat} {os : OsState} {env : Env} {h₀ : Heap}

/-- the end of a turn: the iterator's object stands, the word holds one further -/
def TEnd (h₀ : Heap) (L I : Addr) (o : Obj) (J : (Str → Option Value) → List (Addr × Obj) → Prop) (gn : Array GenState) (dr : Drawn) (os : OsState) (s₂ : Shared) : Prop :=
  ∃ h' tk m' news' all, s₂ = ⟨h', gn, dr, tk, os⟩ ∧ Fr h₀ L h' m' ∧ News h₀ L h' all ∧ (∀ p ∈ (I, o) :: news', p ∈ all) ∧ (∀ p ∈ news', p.1 ≠ I) ∧ J m' news'
def TPost (h₀ : Heap) (L I : Addr) (o : Obj) (J : (Str → Option Value) → List (Addr × Obj) → Prop) (gn : Array GenState) (dr : Drawn) (os : OsState) (Q : Flow → Shared → Prop) (f : Flow) (s₂ : Shared) : Prop :=
  match f with
  | .ret v => Q (.ret v) s₂
  | .brk => Q .next s₂
  | _ => TEnd h₀ L I o J gn dr os s₂
theorem TEnd.intro {L I : Addr} {o : Obj} {J : (Str → Option Value) → List (Addr × Obj) → Prop} {h' : Heap} {tk : Nat} {m' : Str → Option Value} {all : List (Addr × Obj)} (news' : List (Addr × Obj))
    (F : Fr h₀ L h' m') (N : News h₀ L h' all) (hn : ∀ p ∈ (I, o) :: news', p ∈ all) (ho : ∀ p ∈ news', p.1 ≠ I) (hj : J m' news') : TEnd h₀ L I o J gn dr os ⟨h', gn, dr, tk, os⟩ :=
  ⟨h', tk, m', news', all, rfl, F, N, hn, ho, hj⟩

theorem loop_gen {R : Result → Shared → Prop} {Q : Flow → Shared → Prop} {x : Str} {px : Pos} {body : List Stmt} {I : Addr} {fp : List Addr} {n : Nat} {P : Nat → Value → Prop} {St : Nat → Heap → Prop} {m : Str → Option Value}
    {news : List (Addr × Obj)} (J : Nat → (Str → Option Value) → List (Addr × Obj) → Prop)
    (W : Walks prog w A I fp [I] n P St) (hIo : ∀ i h, St i h → ∃ o, h.get? I = some o)
    (hfp : ∀ b ∈ fp, b ≠ I → (∃ o, h₀.get? b = some o) ∨ (b ≠ env.locals ∧ ∃ o, ∀ i m₁ news₁, J i m₁ news₁ → (b, o) ∈ news₁))
    (hx : env.kindOf x = some .local)
    (hp : (env.scope.kind == .class || (env.scope.kind == .module && env.locals != env.globals)) = false)
    (hI₀ : h₀.get? I = none) (hIL : I ≠ env.locals) (hnI : ∀ p ∈ news, p.1 ≠ I)
    (hst : St 0 hp₀) (F : Fr h₀ env.locals hp₀ m) (N : News h₀ env.locals hp₀ news) (h0 : J 0 m news)
    (turn : ∀ i v m₁ news₁ h tk o, i < n → P i v → J i m₁ news₁ → (∀ p ∈ news₁, p.1 ≠ I) → Fr h₀ env.locals h (fun y => if y = x then some v else m₁ y) → News h₀ env.locals h ((I, o) :: news₁) →
      wpAny (model prog w) A (execs body env) (TPost h₀ env.locals I o (J (i + 1)) gn dr os Q) (fun _ _ => False) ⟨h, gn, dr, tk, os⟩)
    (done : ∀ m₁ news₁ h tk, J n m₁ news₁ → Fr h₀ env.locals h m₁ → News h₀ env.locals h news₁ → Q .next ⟨h, gn, dr, tk, os⟩)
    (hR : ∀ f s', Q f s' → R (.ok f) s') :
    codeAny (model prog w) A (.forLoop (.Name x px) (.ref I) body [] env) R ⟨hp₀, gn, dr, tk₀, os⟩ := by
  have lw : ∀ {b : Addr} {o : Obj}, h₀.get? b = some o → b ≠ env.locals := fun {b o} e q =>
    absurd (Nat.lt_of_lt_of_le (Heap.lt_size e) F.above) (q ▸ Nat.lt_irrefl _)
  refine codeAny_forLoop
    (fun k s' => ∃ h' tk m' news' i, s' = ⟨h', gn, dr, tk, os⟩ ∧ St i h' ∧ Fr h₀ env.locals h' m' ∧ News h₀ env.locals h' news' ∧ (∀ p ∈ news', p.1 ≠ I) ∧ J i m' news' ∧ i ≤ n ∧ k = n + 1 - i) ?_ (n + 1)
    ⟨hp₀, tk₀, m, news, 0, rfl, hst, F, N, hnI, h0, Nat.zero_le _, rfl⟩
  rintro k s' ⟨h', tk, m', news', i, rfl, hst', F', N', hnI', hJ, hi, rfl⟩
  have next : ∀ h₁ : Heap, (∀ b o, b ∉ [I] → h'.get? b = some o → h₁.get? b = some o) → Fr h₀ env.locals h₁ m' ∧ News h₀ env.locals h₁ news' := fun h₁ hk₁ =>
    ⟨LCg.fr_but F' hk₁ (Ne.symm hIL) hI₀, LCg.news_but N' hk₁ hnI'⟩
  by_cases hlt : i < n
  · refine W.item i _ _ _ hlt hst' fun v h₁ tk₁ hP hst₁ hk₁ => ?_
    obtain ⟨F₁, N₁⟩ := next h₁ hk₁
    refine wpAny_assign_Name (wpAny_storeName_local hx F₁.ns (fun h₂ hn₂ hs₂ => ?_) hp)
    have F₂ := F₁.set hn₂ hs₂
    have hst₂ : St (i + 1) h₂ := W.frame _ _ _ hst₁ fun b hb o e => by
      by_cases q : b = I
      · subst q; exact hs₂.extBut b o hIL e
      · rcases hfp b hb q with ⟨o', e'⟩ | ⟨hl, _⟩
        · exact hs₂.extBut b o (lw e') e
        · exact hs₂.extBut b o hl e
    obtain ⟨o, ho⟩ := hIo _ _ hst₂
    have N₂ : News h₀ env.locals h₂ ((I, o) :: news') := fun p hp => by
      rcases List.mem_cons.mp hp with rfl | hp
      · exact ⟨ho, hIL, hI₀⟩
      · exact (N₁.set hs₂) p hp
    refine wpAny_mono (turn i v m' news' h₂ _ o hlt hP hJ hnI' F₂ N₂) (fun f s₃ h₃ => ?_) fun _ _ e => e.elim
    have fin : TEnd h₀ env.locals I o (J (i + 1)) gn dr os s₃ → ∃ m_1, m_1 < n + 1 - i ∧ ∃ h' tk m' news' i, s₃ = ⟨h', gn, dr, tk, os⟩ ∧ St i h' ∧ Fr h₀ env.locals h' m' ∧ News h₀ env.locals h' news' ∧ (∀ p ∈ news', p.1 ≠ I) ∧ J i m' news' ∧ i ≤ n ∧ m_1 = n + 1 - i := by
      rintro ⟨h₃', tk₃, m₂, news₂, all, rfl, F₃, N₃, hsub, hne, hJ₃⟩
      refine ⟨n + 1 - (i + 1), by omega, h₃', tk₃, m₂, news₂, i + 1, rfl, ?_, F₃, fun p hp => N₃ p (hsub p (List.mem_cons_of_mem _ hp)), hne, hJ₃, hlt, rfl⟩
      refine W.frame _ _ _ hst₂ fun b hb o' e => ?_
      by_cases q : b = I
      · subst q
        rw [ho] at e
        cases e
        exact (N₃ _ (hsub _ List.mem_cons_self)).1
      · rcases hfp b hb q with ⟨o₀, e₀⟩ | ⟨_, o₁, hm⟩
        · have e₂ := F₂.keep b o₀ e₀
          rw [e] at e₂
          cases e₂
          exact F₃.keep b _ e₀
        · have e₂ := (N₂ _ (List.mem_cons_of_mem _ (hm _ _ _ hJ))).1
          have e₃ := (N₃ _ (hsub _ (List.mem_cons_of_mem _ (hm _ _ _ hJ₃)))).1
          rw [e] at e₂
          cases e₂
          exact e₃
    cases f with
    | ret v => exact hR _ _ h₃
    | brk => exact hR _ _ h₃
    | cont => exact fin h₃
    | next => exact fin h₃
  · have hin : i = n := by omega
    subst hin
    refine W.done _ _ _ hst' fun h₁ tk₁ hk₁ => wpAny_execs_nil ?_
    obtain ⟨F₁, N₁⟩ := next h₁ hk₁
    exact hR _ _ (done m' news' h₁ tk₁ hJ F₁ N₁)

/-- `for x in ITER: body` where ITER yields a list -/
theorem for_list {L : Addr} {Q : Flow → Shared → Prop} {x : Str} {px : Pos} {body : List Stmt} {l : Addr} {vs : List Value} {m : Str → Option Value} {news : List (Addr × Obj)}
    (J : Nat → (Str → Option Value) → List (Addr × Obj) → Prop)
    (hh : A.handled = none)
    (hl : h₀.IsList l vs.toArray ∨ (∃ o, o.cls = .type "list" ∧ (∃ k, o.data = .seq vs.toArray k) ∧ (∀ i m₁ news₁, J i m₁ news₁ → (l, o) ∈ news₁)))
    (hx : env.kindOf x = some .local)
    (hp : (env.scope.kind == .class || (env.scope.kind == .module && env.locals != env.globals)) = false)
    (F : Fr h₀ L hp₀ m) (N : News h₀ L hp₀ news) (h0 : J 0 m news)
    (turn : ∀ i v m₁ news₁ I h tk o, vs[i]? = some v → J i m₁ news₁ → (∀ p ∈ news₁, p.1 ≠ I) → Fr h₀ L h (fun y => if y = x then some v else m₁ y) → News h₀ L h ((I, o) :: news₁) →
      wpAny (model prog w) A (execs body env) (TPost h₀ L I o (J (i + 1)) gn dr os Q) (fun _ _ => False) ⟨h, gn, dr, tk, os⟩)
    (done : ∀ m₁ news₁ h tk, J vs.length m₁ news₁ → Fr h₀ L h m₁ → News h₀ L h news₁ → Q .next ⟨h, gn, dr, tk, os⟩) (hL : env.locals = L := by rfl) :
    wpAny (model prog w) A (pyIter (.ref l)) (fun it s₂ => codeAny (model prog w) A (.forLoop (.Name x px) it body [] env) (fun r s' => match r with | .ok f => Q f s' | .error _ => False) s₂) (fun _ _ => False) ⟨hp₀, gn, dr, tk₀, os⟩ := by
  subst hL
  have hls : hp₀.IsList l vs.toArray := by
    rcases hl with hl | ⟨o, h1, ⟨k, h2⟩, h3⟩
    · exact hl.at fun o e => F.keep l o e
    · exact ⟨o, (N _ (h3 _ _ _ h0)).1, h1, k, h2⟩
  obtain ⟨ol, hol, _⟩ := id hls
  have hlt : l < hp₀.objs.size := Heap.lt_size hol
  have hne : l ≠ hp₀.objs.size := Nat.ne_of_lt hlt
  refine wpAny_pyIter_list hls ?_
  have W := Walks.list (prog := prog) (w := w) hh hp₀.objs.size l hne vs.toArray
  refine loop_gen (hp₀ := hp₀.push _) (h₀ := h₀) (m := m) (news := news) (Q := Q) J W (fun i h st => ?_) ?_ hx hp ?_ ?_ ?_ ⟨⟨_, Heap.get?_push_size _ rfl, rfl, rfl⟩, hls.at fun o e => Heap.get?_push_of_some _ e⟩ (F.push _)
    (fun p hp => ⟨Heap.get?_push_of_some _ (N p hp).1, (N p hp).2⟩) h0 ?_ ?_ (fun f s' q => q)
  · obtain ⟨⟨o, e, _⟩, _⟩ := st
    exact ⟨o, e⟩
  · intro b hb hbI
    have hbl : b = l := by simpa [hbI] using hb
    subst hbl
    rcases hl with hl | ⟨o, h1, ⟨k, h2⟩, h3⟩
    · obtain ⟨o, e, _⟩ := hl; exact .inl ⟨o, e⟩
    · exact .inr ⟨(N _ (h3 _ _ _ h0)).2.1, o, h3⟩
  · cases e : h₀.get? hp₀.objs.size with
    | none => rfl
    | some o => exact absurd (Heap.lt_size (F.keep _ _ e)) (Nat.lt_irrefl _)
  · exact Ne.symm (Nat.ne_of_lt F.ns.lt)
  · intro p hp
    exact Nat.ne_of_lt (Heap.lt_size (N p hp).1)
  · intro i v m₁ news₁ h tk o hi hP hJ hn F₁ N₁
    exact turn i v m₁ news₁ _ h tk o (by simpa using hP) hJ hn F₁ N₁
  · intro m₁ news₁ h tk hJ F₁ N₁
    exact done m₁ news₁ h tk (by simpa using hJ) F₁ N₁

theorem for_range {L : Addr} {Q : Flow → Shared → Prop} {x : Str} {px : Pos} {body : List Stmt} {r : Addr} {a b : Int} {t u v : Tok} {n : Nat} {m : Str → Option Value} {news : List (Addr × Obj)}
    (J : Nat → (Str → Option Value) → List (Addr × Obj) → Prop)
    (hh : A.handled = none) (hr : IsRange hp₀ r a b 1 t u v) (hsmall : Builtin.Range.small a b 1 = true) (hn : Builtin.Range.rangeSize a b 1 = (n : Int))
    (hx : env.kindOf x = some .local)
    (hp : (env.scope.kind == .class || (env.scope.kind == .module && env.locals != env.globals)) = false)
    (F : Fr h₀ L hp₀ m) (N : News h₀ L hp₀ news) (h0 : J 0 m news)
    (turn : ∀ i t m₁ news₁ I h tk o, i < n → J i m₁ news₁ → (∀ p ∈ news₁, p.1 ≠ I) → Fr h₀ L h (fun y => if y = x then some (.int (a + (i : Int)) t) else m₁ y) → News h₀ L h ((I, o) :: news₁) →
      wpAny (model prog w) A (execs body env) (TPost h₀ L I o (J (i + 1)) gn dr os Q) (fun _ _ => False) ⟨h, gn, dr, tk, os⟩)
    (done : ∀ m₁ news₁ h tk, J n m₁ news₁ → Fr h₀ L h m₁ → News h₀ L h news₁ → Q .next ⟨h, gn, dr, tk, os⟩) (hL : env.locals = L := by rfl) :
    wpAny (model prog w) A (pyIter (.ref r)) (fun it s₂ => codeAny (model prog w) A (.forLoop (.Name x px) it body [] env) (fun r s' => match r with | .ok f => Q f s' | .error _ => False) s₂) (fun _ _ => False) ⟨hp₀, gn, dr, tk₀, os⟩ := by
  subst hL
  refine wpAny_pyIter_range hr hsmall ?_
  have W := LCg.range_walks (prog := prog) (w := w) (I := hp₀.objs.size) hh a n
  refine loop_gen (hp₀ := hp₀.push _) (h₀ := h₀) (m := m) (news := news) (Q := Q) J W (fun i h st => ?_) ?_ hx hp ?_ ?_ ?_ ?_ (F.push _)
    (fun p hp => ⟨Heap.get?_push_of_some _ (N p hp).1, (N p hp).2⟩) h0 ?_ ?_ (fun f s' q => q)
  · exact ⟨_, st⟩
  · intro b hb hbI
    exact absurd (by simpa using hb) hbI
  · cases e : h₀.get? hp₀.objs.size with
    | none => rfl
    | some o => exact absurd (Heap.lt_size (F.keep _ _ e)) (Nat.lt_irrefl _)
  · exact Ne.symm (Nat.ne_of_lt F.ns.lt)
  · intro p hp
    exact Nat.ne_of_lt (Heap.lt_size (N p hp).1)
  · rw [hn]
    simp only [Int.zero_mul, Int.add_zero, Int.sub_zero, Int.cast_ofNat_Int]
    exact Heap.get?_push_size _ rfl
  · rintro i _ m₁ news₁ h tk o hi ⟨t, rfl⟩ hJ hn F₁ N₁
    exact turn i t m₁ news₁ _ h tk o hi hJ hn F₁ N₁
  · intro m₁ news₁ h tk hJ F₁ N₁
    exact done m₁ news₁ h tk hJ F₁ N₁

/-- a statement's end, cut: what is known behind it -/
def After (h₀ : Heap) (L : Addr) (gn : Array GenState) (dr : Drawn) (os : OsState) (P : (Str → Option Value) → List (Addr × Obj) → Prop) (Q : Flow → Shared → Prop) (f : Flow) (s' : Shared) : Prop :=
  match f with
  | .next => ∃ h' tk m' news', s' = ⟨h', gn, dr, tk, os⟩ ∧ Fr h₀ L h' m' ∧ News h₀ L h' news' ∧ P m' news'
  | f => Q f s'
theorem After.next {L : Addr} {P : (Str → Option Value) → List (Addr × Obj) → Prop} {Q : Flow → Shared → Prop} {h' : Heap} {tk : Nat} {m' : Str → Option Value} {news' : List (Addr × Obj)}
    (F : Fr h₀ L h' m') (N : News h₀ L h' news') (hp : P m' news') : After h₀ L gn dr os P Q .next ⟨h', gn, dr, tk, os⟩ := ⟨h', tk, m', news', rfl, F, N, hp⟩
theorem cut {L : Addr} {m₀ : Str → Option Value} {stmt : Stmt} {E : Value → Shared → Prop} {Q : Flow → Shared → Prop} (_F : Fr h₀ L hp₀ m₀) (P : (Str → Option Value) → List (Addr × Obj) → Prop)
    (h : wpAny (model prog w) A (exec stmt env) (After h₀ L gn dr os P Q) E ⟨hp₀, gn, dr, tk₀, os⟩)
    (k : ∀ h' tk m' news', Fr h₀ L h' m' → News h₀ L h' news' → P m' news' → Q .next ⟨h', gn, dr, tk, os⟩) : wpAny (model prog w) A (exec stmt env) Q E ⟨hp₀, gn, dr, tk₀, os⟩ :=
  wpAny_mono h (fun f s' q => by
    cases f with
    | next => obtain ⟨h', tk, m', news', rfl, F, N, hp⟩ := q; exact k _ _ _ _ F N hp
    | _ => exact q) fun _ _ e => e

/-- a while by an invariant with a measure -/
def WEnd (h₀ : Heap) (L : Addr) (J : Nat → (Str → Option Value) → List (Addr × Obj) → Prop) (gn : Array GenState) (dr : Drawn) (os : OsState) (Q : Flow → Shared → Prop) (n : Nat) (f : Flow) (s₃ : Shared) : Prop :=
  match f with
  | .next | .cont => ∃ h' tk m₂ news₂ n', s₃ = ⟨h', gn, dr, tk, os⟩ ∧ Fr h₀ L h' m₂ ∧ News h₀ L h' news₂ ∧ n' < n ∧ J n' m₂ news₂
  | .brk => Q .next s₃
  | .ret v => Q (.ret v) s₃
theorem WEnd.next {L : Addr} {J : Nat → (Str → Option Value) → List (Addr × Obj) → Prop} {Q : Flow → Shared → Prop} {n : Nat} {h' : Heap} {tk : Nat} {m₂ : Str → Option Value} {news₂ : List (Addr × Obj)} (n' : Nat)
    (F : Fr h₀ L h' m₂) (N : News h₀ L h' news₂) (hn : n' < n) (hj : J n' m₂ news₂) : WEnd h₀ L J gn dr os Q n .next ⟨h', gn, dr, tk, os⟩ := ⟨h', tk, m₂, news₂, n', rfl, F, N, hn, hj⟩
theorem while_inv {L : Addr} {Q : Flow → Shared → Prop} {test : Expr} {body : List Stmt} {pos : Pos} {m : Str → Option Value} {news : List (Addr × Obj)} (J : Nat → (Str → Option Value) → List (Addr × Obj) → Prop) (n₀ : Nat)
    (F : Fr h₀ L hp₀ m) (N : News h₀ L hp₀ news) (hJ : J n₀ m news)
    (turn : ∀ n m₁ news₁ h₁ tk₁, Fr h₀ L h₁ m₁ → News h₀ L h₁ news₁ → J n m₁ news₁ →
      wpAny (model prog w) A (isTrue test env (eval test env)) (fun b s₂ =>
        if b = true then wpAny (model prog w) A (execs body env) (WEnd h₀ L J gn dr os Q n) (fun _ _ => False) s₂ else Q .next s₂) (fun _ _ => False) ⟨h₁, gn, dr, tk₁, os⟩) :
    wpAny (model prog w) A (exec (.While test body [] pos) env) Q (fun _ _ => False) ⟨hp₀, gn, dr, tk₀, os⟩ := by
  refine While_inv2 J F N hJ (fun n m₁ news₁ h₁ tk₁ F₁ N₁ J₁ => wpAny_mono (turn n m₁ news₁ h₁ tk₁ F₁ N₁ J₁) (fun b s₂ q => ?_) fun _ _ e => e) PassesOwn.never
  cases b with
  | false => exact q
  | true =>
    simp only [if_true] at q ⊢
    refine wpAny_mono q (fun f s₃ z => ?_) fun _ _ e => e
    cases f <;> exact z

/-- enter a for -/
theorem for_in {Q : Flow → Shared → Prop} {target : Expr} {pos : Pos} {iter : Expr} {body : List Stmt}
    (h : wpAny (model prog w) A (eval iter env) (fun xv s₁ => wpAny (model prog w) A (pyIter xv) (fun it s₂ =>
      codeAny (model prog w) A (.forLoop target it body [] env) (fun r s' => match r with | .ok f => Q f s' | .error _ => False) s₂) (fun _ _ => False) s₁) (fun _ _ => False) ⟨hp₀, gn, dr, tk₀, os⟩)
    (hs : ∀ x, foldedSetIterable iter env x = pure x := by intro _; rfl) :
    wpAny (model prog w) A (exec (.For target iter body [] pos) env) Q (fun _ _ => False) ⟨hp₀, gn, dr, tk₀, os⟩ := by
  refine wpAny_For (wpAny_mono h (fun xv s₁ h₁ => wpAny_mono h₁ (fun it s₂ h₂ => ?_) fun _ _ e => e) fun _ _ e => e) hs
  refine codeAny_mono h₂ (fun r s' q => ?_)
  cases r with
  | ok f => exact q
  | error e => exact q.elim
end

theorem mIntsOf : ∀ (vs : List Value) (ns : List Int), vs.length = ns.length → (∀ j v, vs[j]? = some v → ∃ t, v = Value.int (ns.getD j 0) t) → IntsAre vs ns := by
  intro vs
  induction vs with
  | nil =>
    intro ns h _
    rw [List.length_eq_zero_iff.mp h.symm]
    exact .nil
  | cons v vs ih =>
    intro ns h hv
    cases ns with
    | nil => exact absurd h (Nat.succ_ne_zero _)
    | cons n ns =>
      obtain ⟨t, rfl⟩ := hv 0 v rfl
      exact .cons n t (ih ns (Nat.succ.inj h) fun j w hw => hv (j + 1) w hw)
theorem list_rangeK {prog : Program} {w : World} {A : Around} {E : Value → Shared → Prop} {hp₀ : Heap} {gn : Array GenState} {dr : Drawn} {tk₀ : Nat} {os : OsState} {h₀ : Heap} {L : Addr} {m : Str → Option Value} {Q : Value → Shared → Prop}
    {r : Addr} {a b c : Int} {t u v : Tok} {n : Nat} {news : List (Addr × Obj)} (hh : A.handled = none) (F : Fr h₀ L hp₀ m) (N : News h₀ L hp₀ news)
    (hr : IsRange hp₀ r a b c t u v) (hsmall : Builtin.Range.small a b c = true) (hn : Builtin.Range.rangeSize a b c = (n : Int)) (hlen : n ≤ 2 ^ 24)
    (hQ : ∀ D h' tk vs k, Fr h₀ L h' m → News h₀ L h' ((D, listOf vs.toArray k) :: news) → (∀ p ∈ news, p.1 < D) → IntsAre vs (rangeInts a c n) → Q (.ref D) ⟨h', gn, dr, tk, os⟩) :
    wpAny (model prog w) A (call (.type "list") [.ref r]) Q E ⟨hp₀, gn, dr, tk₀, os⟩ := by
  refine call_list_range hh hr hsmall hn hlen fun h' tk acc' c' hk hS' hacc => ?_
  refine hQ hp₀.objs.size h' tk acc'.toList c' (F.keeps hk) (fun p hp => ?_) (fun p hp => Heap.lt_size (N p hp).1) (mIntsOf _ _ (by simp [hacc.1, rangeInts_length]) fun j v hv => ?_)
  · rcases List.mem_cons.mp hp with rfl | hp
    · refine ⟨by simpa using hS', Ne.symm (Nat.ne_of_lt F.ns.lt), ?_⟩
      cases e : h₀.get? hp₀.objs.size with
      | none => rfl
      | some o => exact absurd (Heap.lt_size (F.keep _ _ e)) (Nat.lt_irrefl _)
    · exact ⟨hk _ _ (N p hp).1, (N p hp).2⟩
  · have hv' : acc'[j]? = some v := by simpa using hv
    have hj : j < n := by
      have := (Array.getElem?_eq_some_iff.mp hv').1
      rw [hacc.1] at this; exact this
    obtain ⟨t, rfl⟩ := hacc.2 j v hv'
    exact ⟨t, by rw [List.getD_eq_getElem?_getD, rangeInts_get hj]; rfl⟩
end
section
/-- a text as its signs' numbers -/
abbrev cl (x : Str) : List Nat := x.cps.toList
def mk (l : List Nat) : Str := ⟨l.toArray⟩
theorem cl_mk (l : List Nat) : cl (mk l) = l := rfl
theorem mk_cl (x : Str) : mk (cl x) = x := by cases x; rfl
theorem str_ext {x y : Str} (h : cl x = cl y) : x = y := by rw [← mk_cl x, ← mk_cl y, h]
theorem len_cl (x : Str) : x.length = (cl x).length := by cases x; rfl
theorem cl_append (x y : Str) : cl (x ++ y) = cl x ++ cl y := by
  cases x; cases y
  exact Array.toList_append
theorem cl_inj {x y : Str} : x = y ↔ cl x = cl y := ⟨fun h => by rw [h], str_ext⟩

theorem range_get {α : Type} (l : List α) (a n : Nat) (h : a + n ≤ l.length) : ((List.range n).map (fun k => a + k)).filterMap (fun i => l[i]?) = (l.drop a).take n := by
  induction n generalizing a with
  | zero => simp
  | succ n ih =>
    rw [List.range_succ_eq_map, List.map_cons, List.map_map, List.filterMap_cons]
    have hlt : a < l.length := by omega
    have h1 : l[a + 0]? = some l[a] := by simp [hlt]
    rw [h1]
    have h2 : ((fun k => a + k) ∘ Nat.succ) = fun k => (a + 1) + k := by funext k; simp only [Function.comp]; omega
    rw [h2, ih (a + 1) (by omega)]
    rw [List.drop_eq_getElem_cons hlt, List.take_succ_cons]

def clipL (l : Option Int) (n : Nat) : Nat := match l with | none => 0 | some i => (max 0 (min (if i < 0 then i + n else i) n)).toNat
def clipU (u : Option Int) (n : Nat) : Nat := match u with | none => n | some i => (max 0 (min (if i < 0 then i + n else i) n)).toNat
theorem toN_max (z : Int) : (max 0 z).toNat = z.toNat := by
  rcases Int.le_total 0 z with h | h
  · rw [Int.max_eq_right h]
  · rw [Int.max_eq_left h, Int.toNat_of_nonpos h]; rfl
theorem idx_eq (l u : Option Int) (n : Nat) : Builtin.Str.strSliceIndices l u 1 n = (List.range (clipU u n - clipL l n)).map fun k => clipL l n + k := by
  unfold Builtin.Str.strSliceIndices sliceRange
  have key : ∀ (a b : Int), 0 ≤ a → 0 ≤ b → (List.range (if (1 : Int) > 0 then (if a < b then (b - a + 1 - 1) / 1 else 0) else (if a > b then (a - b - 1 - 1) / (-1) else 0)).toNat).map (fun (k : Nat) => (a + 1 * (k : Int)).toNat) = (List.range (b.toNat - a.toNat)).map fun k => a.toNat + k := by
    intro a b ha hb
    obtain ⟨a, rfl⟩ := Int.eq_ofNat_of_zero_le ha
    obtain ⟨b, rfl⟩ := Int.eq_ofNat_of_zero_le hb
    clear ha hb
    have h1 : (if (1 : Int) > 0 then (if (a : Int) < b then ((b : Int) - a + 1 - 1) / 1 else 0) else (if (a : Int) > b then ((a : Int) - b - 1 - 1) / (-1) else 0)).toNat = b - a := by
      rw [if_pos (by decide), Int.ediv_one, Int.add_sub_cancel]
      split
      · exact Int.toNat_sub b a
      · rename_i h
        exact (Nat.sub_eq_zero_of_le (Int.ofNat_le.mp (Int.not_lt.mp h))).symm
    rw [h1]
    apply List.map_congr_left
    intro k _
    rw [Int.one_mul]; rfl
  have n0 : ∀ z : Int, 0 ≤ max 0 z := fun z => Int.le_max_left 0 z
  cases l <;> cases u <;> simp only [show (1 : Int) > 0 from by decide, if_true, clipL, clipU] <;> first
    | exact key 0 n (Int.le_refl _) (Int.natCast_nonneg _)
    | exact key _ n (n0 _) (Int.natCast_nonneg _)
    | exact key 0 _ (Int.le_refl _) (n0 _)
    | exact key _ _ (n0 _) (n0 _)
theorem clip_le (z : Int) (n : Nat) : (max 0 (min z (n : Int))).toNat ≤ n := by
  rw [toN_max]
  exact Int.toNat_le.mpr (Int.min_le_right z n)
theorem clip_nat (k n : Nat) : (max (0 : Int) (min (if (k : Int) < 0 then (k : Int) + n else k) n)).toNat = min k n := by
  rw [if_neg (Int.not_lt.mpr (Int.natCast_nonneg k)), toN_max]
  rcases Nat.le_total k n with h | h
  · rw [Int.min_eq_left (Int.ofNat_le.mpr h), Int.toNat_natCast, Nat.min_eq_left h]
  · rw [Int.min_eq_right (Int.ofNat_le.mpr h), Int.toNat_natCast, Nat.min_eq_right h]
theorem clip_neg (k n : Nat) (h0 : 0 < k) : (max (0 : Int) (min (if (-(k : Int)) < 0 then -(k : Int) + n else -(k : Int)) n)).toNat = n - k := by
  rw [if_pos (Int.neg_neg_of_pos (Int.natCast_pos.mpr h0)), toN_max, Int.add_comm, ← Int.sub_eq_add_neg, Int.min_eq_left (Int.sub_le_self _ (Int.natCast_nonneg k)), Int.toNat_sub]
theorem clipL_le (l : Option Int) (n : Nat) : clipL l n ≤ n := by
  cases l with
  | none => exact Nat.zero_le _
  | some i => exact clip_le _ n
theorem clipU_le (u : Option Int) (n : Nat) : clipU u n ≤ n := by
  cases u with
  | none => exact Nat.le_refl _
  | some i => exact clip_le _ n
theorem cl_slice (x : Str) (l u : Option Int) : cl (Txt.slice x l u) = ((cl x).drop (clipL l x.length)).take (clipU u x.length - clipL l x.length) := by
  have hl := clipL_le l x.length
  have hu := clipU_le u x.length
  have hx := len_cl x
  unfold Txt.slice
  rw [idx_eq]
  split
  · rename_i h
    simp only [List.length_map, List.length_range, beq_self_eq_true, Bool.true_and, beq_iff_eq] at h
    have h0 : clipL l x.length = 0 := by
      rcases Nat.eq_zero_or_pos x.length with q | q <;> omega
    rw [h0, List.drop_zero, List.take_of_length_le (by omega)]
  · show (List.filterMap (fun i => x.cps[i]?) _) = _
    by_cases hc : clipL l x.length ≤ clipU u x.length
    · have := range_get (cl x) (clipL l x.length) (clipU u x.length - clipL l x.length) (by omega)
      rw [← this]
      congr 1
      funext i
      exact (Array.getElem?_toList).symm
    · have : clipU u x.length - clipL l x.length = 0 := by omega
      rw [this]; rfl
theorem cl_from (x : Str) (k : Nat) : cl (Txt.slice x (some (k : Int)) none) = (cl x).drop k := by
  have hx := len_cl x
  rw [cl_slice, show clipL (some (k : Int)) x.length = min k x.length from clip_nat k x.length, show clipU none x.length = x.length from rfl]
  rcases Nat.le_total k x.length with h | h
  · rw [Nat.min_eq_left h, List.take_of_length_le (by rw [List.length_drop, ← hx]; exact Nat.le_refl _)]
  · rw [Nat.min_eq_right h, Nat.sub_self, List.take_zero, List.drop_eq_nil_of_le (hx ▸ h)]
theorem cl_to (x : Str) (k : Nat) : cl (Txt.slice x none (some (k : Int))) = (cl x).take k := by
  have hx := len_cl x
  rw [cl_slice, show clipU (some (k : Int)) x.length = min k x.length from clip_nat k x.length, show clipL none x.length = 0 from rfl, List.drop_zero, Nat.sub_zero]
  rcases Nat.le_total k x.length with h | h
  · rw [Nat.min_eq_left h]
  · rw [Nat.min_eq_right h, List.take_of_length_le (Nat.le_of_eq hx.symm), List.take_of_length_le (hx ▸ h)]
theorem cl_toNeg (x : Str) (k : Nat) (h0 : 0 < k) : cl (Txt.slice x none (some (-(k : Int)))) = (cl x).take (x.length - k) := by
  rw [cl_slice, show clipU (some (-(k : Int))) x.length = x.length - k from clip_neg k x.length h0, show clipL none x.length = 0 from rfl, List.drop_zero, Nat.sub_zero]
theorem slice_nn (x : Str) : Txt.slice x none none = x := by
  apply str_ext
  rw [cl_slice]
  simp only [clipL, clipU, List.drop_zero, Nat.sub_zero]
  exact List.take_of_length_le (by rw [len_cl]; exact Nat.le_refl _)
/-- one sign -/
def sg (c : Nat) : Str := ⟨#[c]⟩
theorem sg_inj {a b : Nat} : sg a = sg b ↔ a = b := ⟨fun h => by simp only [sg, Str.mk.injEq] at h; simpa using h, fun h => by rw [h]⟩
theorem item_at (x : Str) (k : Nat) (h : k < x.length) : Txt.item x (k : Int) = sg ((cl x).getD k 0) := by
  have hx := len_cl x
  unfold Txt.item Txt.charAt sg
  have : seqIndex? (k : Int) x.length = some k := by
    unfold seqIndex?
    have e1 : (if (k : Int) < 0 then (k : Int) + x.length else (k : Int)) = (k : Int) := if_neg (by omega)
    simp only [e1]
    rw [if_pos (by simp only [Bool.and_eq_true, decide_eq_true_eq]; omega), Int.toNat_natCast]
  rw [this]
  simp only [Option.bind_some, List.getD_eq_getElem?_getD, Array.getElem?_toList]
theorem item_neg (x : Str) (k : Nat) (h : k < x.length) : Txt.item x (-((k : Int) + 1)) = sg ((cl x).getD (x.length - (k + 1)) 0) := by
  have hx := len_cl x
  unfold Txt.item Txt.charAt sg
  have : seqIndex? (-((k : Int) + 1)) x.length = some (x.length - (k + 1)) := by
    unfold seqIndex?
    have e1 : (if (-((k : Int) + 1)) < 0 then (-((k : Int) + 1)) + x.length else (-((k : Int) + 1))) = ((x.length - (k + 1) : Nat) : Int) := by rw [if_pos (by omega)]; omega
    simp only [e1]
    rw [if_pos (by simp only [Bool.and_eq_true, decide_eq_true_eq]; omega), Int.toNat_natCast]
  rw [this]
  simp only [Option.bind_some, List.getD_eq_getElem?_getD, Array.getElem?_toList]
/-- a sign of the three -/
def Ab (c : Nat) : Prop := c = 97 ∨ c = 98 ∨ c = 34
def Abs (x : Str) : Prop := ∀ c ∈ cl x, Ab c
end
section
theorem ci_owner : Manifest.owners.lookup (String.ofList ['r', 'o', 't', 'a', 'r', 'e', 't', 'i', '_', 'e', 'l', 'b', 'a', 'l', 'l', 'a', 'c'].reverse) = some Manifest.sig_callable_iterator := by kernel_rfl
theorem ci_slot_next : Slot "callable_iterator" "__next__" "callable_iterator.__next__" :=
  .of (owner := "callable_iterator") (n := "__next__") (by rw [typeLookup_type, builtinLookup_eq_fast]; kernel_rfl) (by decide +kernel) (by decide +kernel) (by decide +kernel)
    (by first | exact .inl (by decide +kernel) | exact .inr (by decide +kernel)) (by rw [isSubtype_type]; kernel_rfl)
theorem ci_entry_next : entryFor table "callable_iterator.__next__" = some Builtin.«callable_iterator.__next__» := entryFor_of_tree (by kernel_rfl)
theorem ci_args_next (a : Value) : argsOk "callable_iterator.__next__" ⟨[a], []⟩ := by
  unfold argsOk; rw [signature?_of (id := "callable_iterator.__next__") (n := ['_', '_', 't', 'x', 'e', 'n', '_', '_']) (o := ['r', 'o', 't', 'a', 'r', 'e', 't', 'i', '_', 'e', 'l', 'b', 'a', 'l', 'l', 'a', 'c']) (by kernel_rfl) ci_owner]; kernel_rfl
theorem ci_slot_iter : Slot "callable_iterator" "__iter__" "callable_iterator.__iter__" :=
  .of (owner := "callable_iterator") (n := "__iter__") (by rw [typeLookup_type, builtinLookup_eq_fast]; kernel_rfl) (by decide +kernel) (by decide +kernel) (by decide +kernel)
    (by first | exact .inl (by decide +kernel) | exact .inr (by decide +kernel)) (by rw [isSubtype_type]; kernel_rfl)
theorem ci_args_iter (a : Value) : argsOk "callable_iterator.__iter__" ⟨[a], []⟩ := by
  unfold argsOk; rw [signature?_of (id := "callable_iterator.__iter__") (n := ['_', '_', 'r', 'e', 't', 'i', '_', '_']) (o := ['r', 'o', 't', 'a', 'r', 'e', 't', 'i', '_', 'e', 'l', 'b', 'a', 'l', 'l', 'a', 'c']) (by kernel_rfl) ci_owner]; kernel_rfl
theorem ci_entry_iter : entryFor table "callable_iterator.__iter__" = some Builtin.«dict_keyiterator.__iter__» :=
  entryFor_alias (id' := "dict_keyiterator.__iter__") (by kernel_rfl) (by first | rfl | decide +kernel | (unfold String.splitOn; simp +decide [String.splitOnAux])) (by decide +kernel) (by kernel_rfl)

section
variable {prog : Program} {w : World} {A : Around} {E : Value → Shared → Prop} {s : Shared}
theorem callBorrowed_any {M : Model} {f : Value} {pos : List Value} {Q : Value → Shared → Prop}
    (hc : codeAny M A (.call f ⟨pos, []⟩) (fun r s' => match r with | .ok (.ret v) => Q v s' | .ok _ => False | .error e => E e s') s) :
    wpAny M A (callBorrowed f pos) Q E s := fun Γ p hΓ => by
  unfold callBorrowed
  rw [Sem.wp_call]
  have := hc _ p rfl (hΓ.enter (.call f ⟨pos, []⟩) none p (by intro x; cases x))
  refine wpCode_mono (fun r s' z => ?_) this
  rcases r with e | (v | _ | _ | _) <;> first | exact z | exact z.elim

/-- the iterator that iter(f, '') makes -/
abbrev ciObj (f : Value) (t : Tok) : Obj := { cls := .type "callable_iterator", data := .fields #[f, .str (Str.ofString "") t, .bool false] }
abbrev ciEnd : Obj := { cls := .type "callable_iterator", data := .fields #[.none, .none, .bool true] }

theorem ci_iter {it : Addr} {o : Obj} {Q : Value → Shared → Prop} (ho : s.heap.get? it = some o) (hc : o.cls = .type "callable_iterator") (h : Q (.ref it) s) : wpAny (model prog w) A (pyIter (.ref it)) Q E s := by
  have hT : s.TypeIs (.ref it) "callable_iterator" := ⟨o, ho, hc⟩
  refine wpAny_pyIter_slot hT ci_slot_iter (wpAny_call_entry ci_slot_iter hT ci_entry_iter ?_ (ci_args_iter _))
  show wpAny _ _ (ret (.ref it)) _ _ s
  exact wpAny_pure ⟨_, rfl, "callable_iterator", _, hT, ci_slot_next.lookup, h⟩

/-- one step of it: the method is called; an empty text ends it -/
theorem ci_next {it q : Addr} {f self : Value} {t : Tok} {ff : Addr} {Q : Option Value → Shared → Prop} (hh : A.handled = none) (hit : s.heap.get? it = some (ciObj (.ref q) t)) (hq : s.heap.get? q = some (methodObj (.ref ff) self))
    (hf : ∃ oc od fd sl, s.heap.get? ff = some ⟨oc, od, .func fd, sl⟩)
    (hc : codeAny (model prog w) A.in1 (.call (.ref ff) ⟨[self], []⟩) (fun r s' => ∃ x u, r = .ok (.ret (.str x u)) ∧ s'.heap.get? it = some (ciObj (.ref q) t) ∧ s'.heap.get? q = some (methodObj (.ref ff) self) ∧ (∃ oc od fd sl, s'.heap.get? ff = some ⟨oc, od, .func fd, sl⟩) ∧
      (x ≠ Str.ofString "" → Q (some (.str x u)) s') ∧ (x = Str.ofString "" → ∀ h', h'.get? it = some ciEnd → Heap.ExtBut it s'.heap h' → Q none { s' with heap := h' })) s) :
    wpAny (model prog w) A (pyNext (.ref it)) Q E s := by
  have hT : s.TypeIs (.ref it) "callable_iterator" := ⟨_, hit, rfl⟩
  unfold pyNext
  refine wpAny_bind (wpAny_attempt (wpAny_callSpecial?_slot (name := Str.ofString "__next__") hT ci_slot_next
    (wpAny_call_entry ci_slot_next hT ci_entry_next ?_ (ci_args_next _))))
  unfold Builtin.«callable_iterator.__next__»
  refine wpAny_bind (wpAny_of_eq (a := (Value.ref it, [])) rfl ?_)
  dsimp only
  refine wpAny_bind (wpAny_field hit rfl (x := .bool false) rfl ?_)
  rw [if_neg (show ¬ ((Value.bool false == Value.bool true) = true) from Bool.false_ne_true)]
  refine wpAny_bind (wpAny_field hit rfl (x := .ref q) rfl ?_)
  have borrows : ∀ (A' : Around) (E' : Value → Shared → Prop) (Q' : Bool → Shared → Prop) (s' : Shared), s'.heap.get? q = some (methodObj (.ref ff) self) → (∃ oc od fd sl, s'.heap.get? ff = some ⟨oc, od, .func fd, sl⟩) → Q' true s' → wpAny (model prog w) A' (borrowsExactly (.ref q)) Q' E' s' := by
    rintro A' E' Q' s' h1 ⟨oc, od, fd, sl, h2⟩ hQ'
    unfold borrowsExactly
    refine wpAny_bind (wpAny_load h1 ?_)
    rw [if_pos (by rfl)]
    dsimp only
    show wpAny _ _ (load ff >>= _) _ _ _
    refine wpAny_bind (wpAny_load h2 ?_)
    exact wpAny_pure hQ'
  refine wpAny_bind (wpAny_attempt ?_)
  unfold callOutOfASlot
  refine wpAny_bind (borrows _ _ _ _ hq hf ?_)
  rw [if_pos rfl]
  refine callBorrowed_any (method_call hq ?_)
  refine codeAny_mono hc ?_
  rintro r s' ⟨x, u, rfl, h1, h2, h3, h4, h5⟩
  dsimp only
  refine wpAny_bind (wpAny_field h1 rfl (x := .bool false) rfl ?_)
  rw [if_neg (show ¬ ((Value.bool false == Value.bool true) = true) from Bool.false_ne_true)]
  refine wpAny_bind (wpAny_field h1 rfl (x := .str (Str.ofString "") t) rfl ?_)
  refine wpAny_bind (wpAny_holding (wpAny_eqBool_str ?_))
  by_cases hx : x = Str.ofString ""
  · subst hx
    simp only [decide_true, Bool.not_true, Bool.false_eq_true, if_false]
    refine wpAny_bind (wpAny_rule (wpAny_bind ?_))
    show wpAny _ _ (field (.ref it) 0 >>= _) _ _ _
    refine wpAny_bind (wpAny_field h1 rfl (x := .ref q) rfl ?_)
    refine wpAny_bind ?_
    unfold slotLetsGo
    dsimp only
    refine wpAny_bind (borrows _ _ _ _ h2 h3 ?_)
    rw [if_pos rfl]
    refine wpAny_pure ?_
    refine wpAny_bind (wpAny_setField_rec h1 (by simp) fun ha g1 b1 => ?_)
    refine wpAny_bind (wpAny_setField_rec g1 (by simp) fun hb g2 b2 => ?_)
    refine wpAny_setField_rec g2 (by simp) fun hc g3 b3 => ?_
    have g3' : hc.get? it = some ciEnd := g3
    show wpAny _ _ (newExc (.type "StopIteration") [] >>= _) _ _ _
    refine wpAny_bind ?_
    simp only [newExc, newTuple]
    refine wpAny_bind (wpAny_newObj_type ?_ (by size_fits))
    refine wpAny_bind (m := firstArgMember _ _) (wpAny_of_eq (a := Value.none) (by first | rfl | (simp only [firstArgMember]; rfl)) ?_)
    refine wpAny_newObj_type ?_ (by size_fits)
    simp only [raiseNew]
    refine wpAny_bind (wpAny_handled ?_)
    first | rw [show A.in1.handled = none from hh] | rw [hh]
    refine wpAny_bind (wpAny_pure (wpAny_throw ?_))
    refine wpAny_bind (wpAny_isInstance (T := "StopIteration") (b := true) ⟨_, Heap.get?_push_size _ rfl, rfl⟩ isSubtype_stop ?_)
    refine wpAny_pure (h5 rfl _ (Heap.get?_push_of_some _ (Heap.get?_push_of_some _ g3')) ?_)
    exact fun b o hb' e => Heap.get?_push_of_some _ (Heap.get?_push_of_some _ (b3.extBut b o hb' (b2.extBut b o hb' (b1.extBut b o hb' e))))
  · rw [decide_eq_false (fun e => hx e.symm)]
    simp only [Bool.not_false, if_true]
    exact wpAny_pure ⟨_, rfl, wpAny_pure (h4 hx)⟩

/-- for over an iterator by an invariant with a measure -/
theorem for_it {env : Env} {h₀ hp₀ : Heap} {gn : Array GenState} {dr : Drawn} {tk₀ : Nat} {os : OsState} {L : Addr} {R : Result → Shared → Prop} {Q : Flow → Shared → Prop} {it : Value} {target : Expr} {body : List Stmt} {m : Str → Option Value} {news : List (Addr × Obj)}
    (J : Nat → (Str → Option Value) → List (Addr × Obj) → Prop) (n₀ : Nat) (F : Fr h₀ L hp₀ m) (N : News h₀ L hp₀ news) (hJ : J n₀ m news)
    (turn : ∀ n m₁ news₁ h₁ tk₁, Fr h₀ L h₁ m₁ → News h₀ L h₁ news₁ → J n m₁ news₁ →
      wpAny (model prog w) A (pyNext it) (fun r s₁ => match r with
        | none => Q .next s₁
        | some v => wpAny (model prog w) A (assign target env v) (fun _ s₂ => wpAny (model prog w) A (execs body env) (WEnd h₀ L J gn dr os Q n) (fun _ _ => False) s₂) (fun _ _ => False) s₁) (fun _ _ => False) ⟨h₁, gn, dr, tk₁, os⟩)
    (hR : ∀ f s', Q f s' → R (.ok f) s') (ht : ∀ v, letOwnedTupleGo target it v = pure () := by intro _; rfl) :
    codeAny (model prog w) A (.forLoop target it body [] env) R ⟨hp₀, gn, dr, tk₀, os⟩ := by
  refine codeAny_forLoop (fun k s' => ∃ h' tk m' news', s' = ⟨h', gn, dr, tk, os⟩ ∧ Fr h₀ L h' m' ∧ News h₀ L h' news' ∧ J k m' news') ?_ n₀ ⟨hp₀, tk₀, m, news, rfl, F, N, hJ⟩ ht
  rintro n s' ⟨h', tk, m', news', rfl, F', N', hJ'⟩
  refine wpAny_mono (turn n m' news' h' tk F' N' hJ') (fun r s₁ q => ?_) fun _ _ e => e.elim
  cases r with
  | none => exact wpAny_execs_nil (hR _ _ q)
  | some v =>
    refine wpAny_mono q (fun _ s₂ q₂ => wpAny_mono q₂ (fun f s₃ q₃ => ?_) fun _ _ e => e.elim) fun _ _ e => e.elim
    cases f with
    | ret v => exact hR _ _ q₃
    | brk => exact hR _ _ q₃
    | cont => obtain ⟨h', tk, m₂, news₂, n', rfl, F, N, hn, hj⟩ := q₃; exact ⟨n', hn, h', tk, m₂, news₂, rfl, F, N, hj⟩
    | next => obtain ⟨h', tk, m₂, news₂, n', rfl, F, N, hn, hj⟩ := q₃; exact ⟨n', hn, h', tk, m₂, news₂, rfl, F, N, hj⟩
end
end
section
section
variable {prog : Program} {w : World} {A : Around} {E : Value → Shared → Prop} {s : Shared}
theorem ci_method_call : typeLookup (.type "method") "__call__" = pure (some (.builtin "method.__call__")) := by rw [typeLookup_type, builtinLookup_eq_fast]; kernel_rfl
theorem ci_kind_iter : builtinKind "iter" = none := by decide +kernel
theorem ci_plain_iter : plainId "iter" = true := by decide +kernel
theorem ci_entry_fn : entryFor table "iter" = some Builtin.«iter» := entryFor_of_tree (by kernel_rfl)
theorem ci_args_fn (a b : Value) : argsOk "iter" ⟨[a, b], []⟩ := by unfold argsOk; kernel_rfl
theorem ci_make {h₀ : Heap} {L q : Addr} {m : Str → Option Value} {news : List (Addr × Obj)} {f self : Value} {t : Tok} {Q : Value → Shared → Prop} (F : Fr h₀ L s.heap m) (N : News h₀ L s.heap news) (hq : (q, methodObj f self) ∈ news)
    (h : ∀ I h', Fr h₀ L h' m → News h₀ L h' ((I, ciObj (.ref q) t) :: news) → (∀ p ∈ news, p.1 < I) → Q (.ref I) { s with heap := h' }) :
    wpAny (model prog w) A (call (.builtin "iter") [.ref q, .str (Str.ofString "") t]) Q E s := by
  have hT : s.TypeIs (.ref q) "method" := ⟨_, (N _ hq).1, rfl⟩
  refine Calls.call_function_entry ci_kind_iter ci_plain_iter ci_entry_fn (ci_args_fn _ _) ?_
  unfold Builtin.«iter»
  refine wpAny_bind (wpAny_of_eq (a := [.ref q, .str (Str.ofString "") t]) (by first | rfl | kernel_rfl) ?_)
  dsimp only
  refine wpAny_bind (wpAny_specialOf hT ci_method_call ?_)
  simp only [Option.isNone_some, Bool.false_eq_true, if_false]
  refine wpAny_bind (wpAny_rule (wpAny_bind (wpAny_newObj_type (wpAny_pure ⟨_, rfl, ?_⟩) (by size_fits))))
  exact h s.heap.objs.size _ (F.push _) (N.push F _) fun p hp => Heap.lt_size (N p hp).1
end

/-- a heap that lies below another one, and what the other one has besides -/
structure Bs (g h : Heap) (news : List (Addr × Obj)) : Prop where
  keep : Kept g h
  size : g.objs.size ≤ h.objs.size
  got : ∀ p ∈ news, h.get? p.1 = some p.2 ∧ g.get? p.1 = none
abbrev hid (h : Heap) (news : List (Addr × Obj)) : Heap := hideAll h (news.map (·.1))

section
variable {h₀ h h' : Heap} {L : Addr} {m : Str → Option Value} {all news rest news' : List (Addr × Obj)}
theorem hid_kept (F : Fr h₀ L h m) (N : News h₀ L h news) : Kept h₀ (hid h news) := fun b o e =>
  hideAll_get _ (F.keep b o e) fun q => by
    obtain ⟨p, hp, rfl⟩ := List.mem_map.mp q
    rw [(N p hp).2.2] at e; cases e
theorem hid_bs (N : News h₀ L h news) : Bs (hid h news) h news :=
  ⟨fun _ _ e => of_hideAll _ e, Nat.le_of_eq (hideAll_size _ _), fun p hp => ⟨(N p hp).1, hideAll_none _ (List.mem_map_of_mem hp)⟩⟩
theorem back_fr (F : Fr h₀ L h m) (N : News h₀ L h news) (hk : Kept (hid h news) h') : Fr h₀ L h' m := by
  have hL : L ∉ news.map (·.1) := fun q => by
    obtain ⟨p, hp, e⟩ := List.mem_map.mp q
    exact (N p hp).2.1 e
  obtain ⟨⟨o, es, ep, e, r⟩, k, a⟩ := F
  exact ⟨⟨o, es, ep, hk _ _ (hideAll_get _ e hL), r⟩, fun b ob eb => hk _ _ (hid_kept (m := m) ⟨⟨o, es, ep, e, r⟩, k, a⟩ N b ob eb), a⟩
theorem back_rest (R : News h₀ L h rest) (ap : ∀ p ∈ rest, p.1 ∉ news.map (·.1)) (hk : Kept (hid h news) h') : News h₀ L h' rest :=
  fun p hp => ⟨hk _ _ (hideAll_get _ (R p hp).1 (ap p hp)), (R p hp).2⟩
theorem back_news (F : Fr h₀ L h m) (N : News h₀ L h news) (B : Bs (hid h news) h' news') : News h₀ L h' news' := fun p hp => by
  obtain ⟨e1, e2⟩ := B.got p hp
  refine ⟨e1, fun q => ?_, ?_⟩
  · have hL : L ∉ news.map (·.1) := fun q => by
      obtain ⟨p, hp, e⟩ := List.mem_map.mp q
      exact (N p hp).2.1 e
    obtain ⟨o, es, ep, e, r⟩ := F.ns
    have := hideAll_get _ e hL
    rw [← q] at this
    rw [show (hid h news).get? p.1 = some o from this] at e2; cases e2
  · cases q : h₀.get? p.1 with
    | none => rfl
    | some o => rw [hid_kept F N _ _ q] at e2; cases e2
theorem back_ne (R : News h₀ L h rest) (ap : ∀ p ∈ rest, p.1 ∉ news.map (·.1)) (B : Bs (hid h news) h' news') {p q : Addr × Obj} (hp : p ∈ rest) (hq : q ∈ news') : p.1 ≠ q.1 := fun e => by
  have := hideAll_get _ (R p hp).1 (ap p hp)
  rw [e, (B.got q hq).2] at this; cases this
theorem newsApp (a : News h₀ L h news) (b : News h₀ L h rest) : News h₀ L h (news ++ rest) := fun p hp => (List.mem_append.mp hp).elim (a p) (b p)
theorem Bs.of (N : News h₀ L h news) (F : Fr h₀ L h m) : Bs h₀ h news := ⟨F.keep, Nat.le_trans F.above (Nat.le_of_lt F.ns.lt), fun p hp => ⟨(N p hp).1, (N p hp).2.2⟩⟩
theorem Bs.sub (B : Bs h₀ h news) (hs : ∀ p ∈ rest, p ∈ news) : Bs h₀ h rest := ⟨B.keep, B.size, fun p hp => B.got p (hs p hp)⟩
end

section
variable {prog : Program} {w : World} {d : Nat} {s : Shared} {K : Frag} {f : Addr} {args : List Value} {binds : List (Str × Value)} {R : Result → Shared → Prop} {g : Heap} {news : List (Addr × Obj)}
    {name qual : Str} {params : Arguments} {body : List Stmt} {scope : Scope} {dV kV doc pm cdv ct oc : Value} {an od : Option Addr} {osl : Array (Option Value)}
/-- enter a def of the text over a base; the ledger stands beside it -/
theorem code_ownM (X : K.In g) (hlim : g.NoLimit) (B : Bs g s.heap news)
    (ho : K.lookup f = some ⟨oc, od, .func (fnOf name qual params body scope dV kV doc pm an cdv ct), osl⟩) (hcd : codeIn K cdv qual = true)
    (hbind : BindsTo s (fnOf name qual params body scope dV kV doc pm an cdv ct) ⟨args, []⟩ binds) (hloc : ∀ y ∈ binds, scope.names.lookup y.1 = some .local)
    (hcell : ∀ x ∈ scope.names, x.2 ≠ .cell)
    (h : ∀ L h₁ tk, Fr g L h₁ (fun y => binds.reverse.lookup y) → News g L h₁ news → (∀ p ∈ news, p.1 < L) →
      wpAny (model prog w) (Lv (d + 1)) (execs body (envOf qual scope L f cdv))
        (fun fl s' => R (.ok (.ret (match fl with | .ret v => v | _ => .none))) s') (fun _ _ => False) { s with heap := h₁, toks := tk })
    (hroom : d < recursionLimit := by decide)
    (hco : scope.isCoroutine = false := by rfl) (hgen : scope.isGenerator = false := by rfl) (hk : scope.kind = .function := by rfl) :
    codeAny (model prog w) (Lv d) (.call (.ref f) ⟨args, []⟩) R s := by
  have X' := X.keeps B.keep
  refine codeAny_call_def (fd := fnOf name qual params body scope dV kV doc pm an cdv ct) (body := body) (binds := binds) hroom (X' _ _ ho) rfl (hlim.keeps B.keep) (codeRec_of X' hcd) rfl hbind hcell hloc (fun h₁ hns hk₁ => ?_) hco hgen hk
  refine wpAny_mono (h s.heap.objs.size h₁ _ ⟨hns, fun b o e => hk₁ b o (B.keep b o e), B.size⟩ (fun p hp => ⟨hk₁ _ _ (B.got p hp).1, Nat.ne_of_lt (Heap.lt_size (B.got p hp).1), (B.got p hp).2⟩) fun p hp => Heap.lt_size (B.got p hp).1) (fun fl s' q => ?_) (fun _ _ x => x.elim)
  exact q
/-- enter a def that the call has made, with its closure -/
theorem code_nestM {cl : List (Str × Addr)} {ctv : Value} {c' : Addr} (hlim : g.NoLimit) (B : Bs g s.heap news)
    (ho : (f, fnMade name qual params body scope cl doc pm c' ctv) ∈ news) (hcd : s.heap.CodeRec (.ref c') qual)
    (hbind : BindsTo s (fnX name qual params body scope cl .none .none doc pm none (.ref c') ctv) ⟨args, []⟩ binds) (hloc : ∀ y ∈ binds, scope.names.lookup y.1 = some .local)
    (hcell : ∀ x ∈ scope.names, x.2 ≠ .cell)
    (h : ∀ L h₁ tk, Fr g L h₁ (fun y => binds.reverse.lookup y) → News g L h₁ news → (∀ p ∈ news, p.1 < L) →
      wpAny (model prog w) (Lv (d + 1)) (execs body (envX qual scope L f (.ref c') cl))
        (fun fl s' => R (.ok (.ret (match fl with | .ret v => v | _ => .none))) s') (fun _ _ => False) { s with heap := h₁, toks := tk })
    (hroom : d < recursionLimit := by decide)
    (hco : scope.isCoroutine = false := by rfl) (hgen : scope.isGenerator = false := by rfl) (hk : scope.kind = .function := by rfl) :
    codeAny (model prog w) (Lv d) (.call (.ref f) ⟨args, []⟩) R s := by
  refine codeAny_call_def (fd := fnX name qual params body scope cl .none .none doc pm none (.ref c') ctv) (body := body) (binds := binds) hroom (B.got _ ho).1 rfl (hlim.keeps B.keep) hcd rfl hbind hcell hloc (fun h₁ hns hk₁ => ?_) hco hgen hk
  refine wpAny_mono (h s.heap.objs.size h₁ _ ⟨hns, fun b o e => hk₁ b o (B.keep b o e), B.size⟩ (fun p hp => ⟨hk₁ _ _ (B.got p hp).1, Nat.ne_of_lt (Heap.lt_size (B.got p hp).1), (B.got p hp).2⟩) fun p hp => Heap.lt_size (B.got p hp).1) (fun fl s' q => ?_) (fun _ _ x => x.elim)
  exact q
/-- enter a def whose names are cells -/
theorem code_ownCM (X : K.In g) (hlim : g.NoLimit) (B : Bs g s.heap news)
    (ho : K.lookup f = some ⟨oc, od, .func (fnOf name qual params body scope dV kV doc pm an cdv ct), osl⟩) (hcd : codeIn K cdv qual = true)
    (hbind : BindsTo s (fnOf name qual params body scope dV kV doc pm an cdv ct) ⟨args, []⟩ binds)
    (hkind : (binds.all fun y => scope.names.lookup y.1 == some .local || scope.names.lookup y.1 == some .cell) = true)
    (hnd : ((cellsFrom 0 scope.names []).map (·.1)).Nodup)
    (h : ∀ L h₁ tk cells, Fr g L h₁ (bindL (envOfC qual scope L f cdv).kindOf binds fun _ => none) → News g L h₁ (cells ++ news) →
      CellsAre (bindC (envOfC qual scope L f cdv).kindOf binds fun _ => none) (cellsFrom (L + 1) scope.names []) cells → (∀ p ∈ news, p.1 < L) →
      wpAny (model prog w) (Lv (d + 1)) (execs body (envOfC qual scope L f cdv))
        (fun fl s' => R (.ok (.ret (match fl with | .ret v => v | _ => .none))) s') (fun _ _ => False) { s with heap := h₁, toks := tk })
    (hroom : d < recursionLimit := by decide)
    (hco : scope.isCoroutine = false := by rfl) (hgen : scope.isGenerator = false := by rfl) (hk : scope.kind = .function := by rfl) :
    codeAny (model prog w) (Lv d) (.call (.ref f) ⟨args, []⟩) R s := by
  have X' := X.keeps B.keep
  refine codeAny_call_function hroom (X' _ _ ho) rfl hco hgen rfl (codeRec_of X' hcd) (hbind _ _ _ _ ?_)
  refine wpAny_newFunctionEnv_cells hk (kindsX hkind _) fun env' he s' x => ?_
  subst he
  refine ⟨(hlim.keeps B.keep).keeps x.toInCall.keep, codeAny_func ?_⟩
  obtain ⟨h₁, tk, rfl, _⟩ := x.done
  have hk₁ := x.toInCall.keep
  obtain ⟨cells, NC, Y⟩ := Cl.news (h₀ := s.heap) (Nat.le_refl _) fun n c hm => ⟨x.cell n c (lookup_of_mem_nodup (cellsFrom_names scope.names 0 (s.heap.objs.size + 1) [] [] rfl ▸ hnd) hm), x.above n c hm⟩
  refine wpAny_mono (h s.heap.objs.size h₁ tk cells ⟨x.toInCall.ns, fun b o e => hk₁ b o (B.keep b o e), B.size⟩ (fun p hp => ?_) Y fun p hp => Heap.lt_size (B.got p hp).1) (fun fl s' q => q) (fun _ _ y => y.elim)
  rcases List.mem_append.mp hp with hp | hp
  · refine ⟨(NC p hp).1, (NC p hp).2.1, ?_⟩
    cases q : g.get? p.1 with
    | none => rfl
    | some o => have := B.keep _ _ q; rw [(NC p hp).2.2] at this; cases this
  · exact ⟨hk₁ _ _ (B.got p hp).1, Nat.ne_of_lt (Heap.lt_size (B.got p hp).1), (B.got p hp).2⟩
end
theorem weakenC {M : Model} {A A' : Around} {c : Code} {R : Result → Shared → Prop} {s : Shared}
    (h : codeAny M A' c R s) (h1 : A.handled = A'.handled := by rfl) (h2 : A.depth ≤ A'.depth := by decide) (h3 : A'.frames = none := by rfl)
    (h4 : A'.guards = A.guards := by rfl) (h5 : A.units ≤ A'.units := by decide) : codeAny M A c R s := fun Γ p hc hΓ =>
  h Γ p hc ⟨hΓ.1.trans h1, Nat.le_trans hΓ.2.1 h2, (fun l hl => by rw [h3] at hl; cases hl), (fun g hg => hΓ.2.2.2.1 g (h4 ▸ hg)), Nat.le_trans hΓ.2.2.2.2 h5⟩
theorem mStrsOf : ∀ (vs : List Value) (ss : List Str), vs.length = ss.length → (∀ (j : Nat) (v : Value), vs[j]? = some v → ∃ y t, ss[j]? = some y ∧ v = Value.str y t) → StrsAre vs ss := by
  intro vs
  induction vs with
  | nil =>
    intro ss h _
    rw [List.length_eq_zero_iff.mp h.symm]
    exact .nil
  | cons v vs ih =>
    intro ss h hv
    cases ss with
    | nil => exact absurd h (Nat.succ_ne_zero _)
    | cons n ss =>
      obtain ⟨y, t, e, rfl⟩ := hv 0 v rfl
      cases e
      exact .cons n t (ih ss (Nat.succ.inj h) fun j w hw => hv (j + 1) w hw)
theorem list_strK {prog : Program} {w : World} {A : Around} {E : Value → Shared → Prop} {hp₀ : Heap} {gn : Array GenState} {dr : Drawn} {tk₀ : Nat} {os : OsState} {h₀ : Heap} {L : Addr} {m : Str → Option Value} {Q : Value → Shared → Prop}
    {x : Str} {t : Tok} {news : List (Addr × Obj)} (hh : A.handled = none) (F : Fr h₀ L hp₀ m) (N : News h₀ L hp₀ news)
    (hQ : ∀ D h' tk vs k, Fr h₀ L h' m → News h₀ L h' ((D, listOf vs.toArray k) :: news) → (∀ p ∈ news, p.1 < D) → StrsAre vs ((cl x).map sg) → Q (.ref D) ⟨h', gn, dr, tk, os⟩) (hsz : x.length ≤ sizeLine) :
    wpAny (model prog w) A (call (.type "list") [.str x t]) Q E ⟨hp₀, gn, dr, tk₀, os⟩ := by
  refine call_list_str hh x t (hn := hsz) fun h' tk acc' c' hk hS' hacc => ?_
  refine hQ hp₀.objs.size h' tk acc'.toList c' (F.keeps hk) (fun p hp => ?_) (fun p hp => Heap.lt_size (N p hp).1) (mStrsOf _ _ (by simp [hacc.1]) fun j v hv => ?_)
  · rcases List.mem_cons.mp hp with rfl | hp
    · refine ⟨by simpa using hS', Ne.symm (Nat.ne_of_lt F.ns.lt), ?_⟩
      cases e : h₀.get? hp₀.objs.size with
      | none => rfl
      | some o => exact absurd (Heap.lt_size (F.keep _ _ e)) (Nat.lt_irrefl _)
    · exact ⟨hk _ _ (N p hp).1, (N p hp).2⟩
  · obtain ⟨c, u, hc, rfl⟩ := hacc.2 j v (by simpa using hv)
    exact ⟨sg c, u, by simp [hc], rfl⟩
end
section
section
open LCg
variable {prog : Program} {w : World} {A : Around} {s : Shared} {h₀ : Heap} {L : Addr} {m : Str → Option Value} {env : Env}
theorem compRest_of {elt : Expr} {x : Str} {scope : Scope} {cl : List (Str × Addr)} {S : List (Addr × Obj) → Prop} {P : Nat → Value → Prop} {Fin : List Value → List (Addr × Obj) → Prop} {n : Nat} {news : List (Addr × Obj)}
    (Inv : Nat → List Value → Prop) (h0 : Inv 0 [])
    (step : ∀ i ys, i < n → Inv i ys → ∀ v I oI C oC D m₂ h tk (E' : Value → Shared → Prop), P i v → NsObj oC m₂ → m₂ x = some v → Fr h₀ L h m → News h₀ L h ((I, oI) :: (C, oC) :: (D, lst ys) :: news) → Off3 I C D news → ((@Ne Nat I C) ∧ (@Ne Nat I D) ∧ (@Ne Nat C D)) →
      wpAny (model prog w) A (eval elt (compEnvC scope cl C env)) (CompEnd h₀ L m { s with heap := h, toks := tk } I oI C oC D (lst ys) S (fun y news' => news' = news ∧ Inv (i + 1) (ys ++ [y]))) E' { s with heap := h, toks := tk })
    (fin : ∀ ys, Inv n ys → Fin ys news) : CompRest prog w A h₀ L m env elt x scope cl s S P Fin n 0 [] news := by
  have key : ∀ k i ys, i + k = n → Inv i ys → CompRest prog w A h₀ L m env elt x scope cl s S P Fin k i ys news := by
    intro k
    induction k with
    | zero => intro i ys hi hI; exact CompRest.zero (fin ys (by rw [← hi]; exact hI))
    | succ k ih =>
      intro i ys hi hI
      refine CompRest.succ fun v I oI C oC D m₂ h tk E' h1 h2 h3 h4 h5 h6 h7 => ?_
      refine wpAny_mono (step i ys (by omega) hI v I oI C oC D m₂ h tk E' h1 h2 h3 h4 h5 h6 h7) (fun y s₂ q => ?_) fun _ _ e => e
      obtain ⟨h', tk', news', e, F', N', off, hS, rfl, hI'⟩ := q
      exact ⟨h', tk', _, e, F', N', off, hS, ih (i + 1) (ys ++ [y]) (by omega) hI'⟩
  exact key n 0 [] (by omega) h0
end

theorem strsSnoc {z : Str} {t : Tok} : ∀ {vs : List Value} {ss : List Str}, StrsAre vs ss → StrsAre (vs ++ [.str z t]) (ss ++ [z]) := by
  intro vs ss h
  induction h with
  | nil => exact .cons z t .nil
  | cons y u _ ih => exact .cons y u ih
theorem any_mk (f : Nat → List Nat) (q : Str) : ∀ l : List Nat, ((l.map fun k => mk (f k)).any fun x => x == q) = (l.map f).contains (cl q) := by
  intro l
  induction l with
  | nil => rfl
  | cons a l ih =>
    rw [List.map_cons, List.any_cons, List.map_cons, List.contains_cons, ih]
    congr 1
    rw [Bool.eq_iff_iff, beq_iff_eq, beq_iff_eq]
    constructor
    · intro h; rw [← h, cl_mk]
    · intro h; rw [← h, mk_cl]
end
section
/-- what list.__delitem__ leaves of a list, by its own test -/
def selOf (start stop step : Int) (i : Nat) : Bool :=
  if step > 0 then start ≤ i && i < stop && (i - start) % step == 0 else stop < i && i ≤ start && (start - i) % (-step) == 0
theorem ite_b {α : Type} {b : Bool} {c : Prop} [Decidable c] {x y : α} (h : b = decide c) : (if b = true then x else y) = if c then x else y := by subst h; simp only [decide_eq_true_eq]
theorem sel_drop {α : Type} (f : α × Nat → Option α) (k : Nat) : ∀ (l : List α) (j : Nat), (∀ x i, j ≤ i → i < j + l.length → f (x, i) = if i < k then none else some x) → (l.zipIdx j).filterMap f = l.drop (k - j) := by
  intro l
  induction l with
  | nil => exact fun _ _ => List.drop_nil.symm
  | cons a l ih =>
    intro j h
    rw [List.zipIdx_cons, List.filterMap_cons]
    have h0 := h a j (Nat.le_refl _) (by simp)
    have ih := ih (j + 1) fun x i h1 h2 => h x i (by omega) (by simp only [List.length_cons]; omega)
    rw [h0]
    by_cases hk : j < k
    · rw [show k - j = (k - (j + 1)) + 1 by omega, List.drop_succ_cons, ← ih, if_pos hk]
    · rw [show k - (j + 1) = 0 by omega, List.drop_zero] at ih
      rw [show k - j = 0 by omega, List.drop_zero, ih, if_neg hk]
theorem upd_list {M : Model} {A : Around} {E : Value → Shared → Prop} {s : Shared} {l : Addr} {items : List Value} {n k : Nat} {f : List Value → List Value} {Q : Unit → Shared → Prop} (hl : s.heap.get? l = some (listOf items.toArray n)) (hf : f items = items.drop k)
    (h : ∀ h', Heap.SameBut l s.heap h' → (∃ n', h'.get? l = some (listOf (items.drop k).toArray n')) → Q () { s with heap := h' }) (hsz : items.length ≤ sizeLine) :
    wpAny M A (updateSeq l fun xs => (f xs.toList).toArray) Q E s := by
  have z1 : items.toArray.size ≤ sizeLine := by rw [List.size_toArray]; exact hsz
  have z2 : (f items.toArray.toList).toArray.size ≤ sizeLine + 1 := by
    show (f items).toArray.size ≤ _
    rw [hf, List.size_toArray, List.length_drop]
    exact Nat.le_succ_of_le (Nat.le_trans (Nat.sub_le _ _) hsz)
  refine wpAny_updateSeq (xs := items.toArray) (n := n) hl rfl (h _ (Heap.SameBut.update ..) ?_) z1 z2
  rw [Heap.get?_update_self _ hl rfl]
  exact ⟨_, congrArg (fun z => some (Obj.mk (.type "list") none (.seq (List.toArray z) _) #[])) hf⟩
theorem pick_to (its : List Value) (k : Nat) : slicePick its.toArray none (some (k : Int)) none = (its.take k).toArray := by
  have e : sliceBounds none (some (k : Int)) none its.toArray.size = (((0 : Nat) : Int), ((min k its.length : Nat) : Int), 1) := by
    simp only [sliceBounds, Option.getD_none, show (1 : Int) > 0 by decide, if_true, if_neg (show ¬ ((k : Int) < 0) by omega), List.size_toArray]
    congr 1
    congr 1
    omega
  rw [kmk_pick_nat _ e]
  show ((its.drop 0).take (min k its.length - 0)).toArray = _
  rw [List.drop_zero, Nat.sub_zero, kmk_take_min]
theorem pick_from (its : List Value) (k : Nat) : slicePick its.toArray (some (k : Int)) none none = (its.drop k).toArray := by
  have e : sliceBounds (some (k : Int)) none none its.toArray.size = (((min k its.length : Nat) : Int), ((its.length : Nat) : Int), 1) := by
    simp only [sliceBounds, Option.getD_none, show (1 : Int) > 0 by decide, if_true, if_neg (show ¬ ((k : Int) < 0) by omega), List.size_toArray]
    congr 1
    omega
  rw [kmk_pick_nat _ e]
  show ((its.drop (min k its.length)).take (its.length - min k its.length)).toArray = _
  rw [kmk_drop_min, List.take_of_length_le (by rw [List.length_drop]; omega)]
theorem StrsAre.take : ∀ {vs : List Value} {ns : List Str}, StrsAre vs ns → ∀ k : Nat, StrsAre (vs.take k) (ns.take k) := by
  intro vs ns h
  induction h with
  | nil => intro k; rw [List.take_nil, List.take_nil]; exact .nil
  | cons n t _ ih =>
    intro k
    cases k with
    | zero => exact .nil
    | succ k => exact .cons n t (ih k)
theorem StrsAre.drop : ∀ {vs : List Value} {ns : List Str}, StrsAre vs ns → ∀ k : Nat, StrsAre (vs.drop k) (ns.drop k) := by
  intro vs ns h
  induction h with
  | nil => intro k; rw [List.drop_nil, List.drop_nil]; exact .nil
  | cons n t h ih =>
    intro k
    cases k with
    | zero => exact .cons n t h
    | succ k => exact ih k
theorem StrsAre.len : ∀ {vs : List Value} {ns : List Str}, StrsAre vs ns → vs.length = ns.length := by
  intro vs ns h
  induction h with
  | nil => rfl
  | cons _ _ _ ih => exact congrArg (· + 1) ih
theorem StrsAre.at : ∀ {vs : List Value} {ns : List Str}, StrsAre vs ns → ∀ {k : Nat}, k < ns.length → ∃ t, vs[k]? = some (.str (ns.getD k default) t) := by
  intro vs ns h
  induction h with
  | nil => exact fun hk => absurd hk (Nat.not_lt_zero _)
  | cons y t h ih =>
    intro k hk
    cases k with
    | zero => exact ⟨t, rfl⟩
    | succ k => exact ih (Nat.lt_of_succ_lt_succ hk)
theorem StrsAre.mem : ∀ {vs : List Value} {ns : List Str}, StrsAre vs ns → ∀ {k : Nat} {v : Value}, vs[k]? = some v → ∃ y t, v = .str y t ∧ ns[k]? = some y := by
  intro vs ns h
  induction h with
  | nil => exact fun e => by rw [List.getElem?_nil] at e; cases e
  | cons y t h ih =>
    intro k v e
    cases k with
    | zero => exact ⟨y, t, (Option.some.inj e).symm, rfl⟩
    | succ k => exact ih (k := k) e
theorem StrsAre.app : ∀ {vs : List Value} {ns : List Str} {ws : List Value} {ms : List Str}, StrsAre vs ns → StrsAre ws ms → StrsAre (vs ++ ws) (ns ++ ms) := by
  intro vs ns ws ms h h'
  induction h with
  | nil => exact h'
  | cons y t _ ih => exact .cons y t ih
section
variable {prog : Program} {w : World} {A : Around} {E : Value → Shared → Prop} {s : Shared} {h₀ : Heap} {L l : Addr} {m : Str → Option Value} {news : List (Addr × Obj)} {value slice : PySem.Expr}
/-- xs[:k] of a made list -/
theorem slice_toK {vs : List Value} {kk k : Nat} {t : Tok} {Q : Value → Shared → Prop} (F : Fr h₀ L s.heap m) (N : News h₀ L s.heap news) (hm : (l, listOf vs.toArray kk) ∈ news)
    (h : ∀ D h', Fr h₀ L h' m → News h₀ L h' ((D, listOf (vs.take k).toArray 0) :: news) → (∀ p ∈ news, p.1 < D) → Q (.ref D) { s with heap := h' })
    (hs : subscripted slice false (.ref l) (.ref s.heap.objs.size) = operate [.ref s.heap.objs.size, .ref l] (getItem (.ref l) (.ref s.heap.objs.size))) (ht : ∀ r, letTemporaryGo value (.ref l) r = pure ()) (hz : vs.length ≤ sizeLine) :
    wpAny (model prog w) A (subscriptTail value slice (.ref l) (.ref s.heap.objs.size)) Q E { s with heap := s.heap.push { cls := .type "slice", data := .fields #[.none, .int (k : Int) t, .none] } } := by
  refine kmk_slice (its := vs.toArray) (lo := none) (hi := some (k : Int)) F N (N.isList hm) .none (.int _ _) (fun D h' F' N' l1 => h D h' F' ?_ l1) hs ht (by simpa using hz)
  rw [pick_to] at N'
  exact N'
theorem slice_fromK {vs : List Value} {kk k : Nat} {t : Tok} {Q : Value → Shared → Prop} (F : Fr h₀ L s.heap m) (N : News h₀ L s.heap news) (hm : (l, listOf vs.toArray kk) ∈ news)
    (h : ∀ D h', Fr h₀ L h' m → News h₀ L h' ((D, listOf (vs.drop k).toArray 0) :: news) → (∀ p ∈ news, p.1 < D) → Q (.ref D) { s with heap := h' })
    (hs : subscripted slice false (.ref l) (.ref s.heap.objs.size) = operate [.ref s.heap.objs.size, .ref l] (getItem (.ref l) (.ref s.heap.objs.size))) (ht : ∀ r, letTemporaryGo value (.ref l) r = pure ()) (hz : vs.length ≤ sizeLine) :
    wpAny (model prog w) A (subscriptTail value slice (.ref l) (.ref s.heap.objs.size)) Q E { s with heap := s.heap.push { cls := .type "slice", data := .fields #[.int (k : Int) t, .none, .none] } } := by
  refine kmk_slice (its := vs.toArray) (lo := some (k : Int)) (hi := none) F N (N.isList hm) (.int _ _) .none (fun D h' F' N' l1 => h D h' F' ?_ l1) hs ht (by simpa using hz)
  rw [pick_from] at N'
  exact N'

set_option maxHeartbeats 4000000 in
/-- del xs[:k] of a list -/
theorem delItem_to {sl : Addr} {items : List Value} {n k : Nat} {t : Tok} {Q : Unit → Shared → Prop} (hl : s.heap.get? l = some (listOf items.toArray n)) (hs : s.heap.IsSliceOf sl .none (.int (k : Int) t) .none)
    (h : ∀ h', Heap.SameBut l s.heap h' → (∃ n', h'.get? l = some (listOf (items.drop k).toArray n')) → Q () { s with heap := h' })
    (hsz : items.length ≤ sizeLine := by size_fits) : wpAny (model prog w) A (delItem (.ref l) (.ref sl)) Q E s := by
  obtain ⟨os, hos, hcs, hds⟩ := id hs
  have hTs : s.TypeIs (.ref sl) "slice" := ⟨os, hos, hcs⟩
  have hT : s.TypeIs (.ref l) "list" := ⟨_, hl, rfl⟩
  have args := F.args_list_delitem_2 (.ref l) (.ref sl)
  refine wpAny_delItem_slot hT (by decide) F.slot_list_delitem ?_
  refine wpAny_call_entry F.slot_list_delitem hT F.entry_list_delitem ?_ args
  unfold Builtin.«list.__delitem__»
  refine wpAny_bind (wpAny_of_eq (a := (Value.ref l, [Value.ref sl])) rfl ?_)
  dsimp only
  refine wpAny_bind ?_
  unfold Builtin.List.listSubscript?
  refine wpAny_bind (wpAny_specialOf hTs slice_no_index ?_)
  simp only [Option.isNone_none, if_true]
  refine wpAny_pure ?_
  show wpAny _ _ (typeOf (.ref sl) >>= _) _ _ s
  refine wpAny_bind (wpAny_typeOf hTs ?_)
  rw [if_neg (by decide)]
  rw [listSliceParts_eq]
  refine wpAny_bind (wpAny_bind (wpAny_field hos hds (x := .none) rfl (wpAny_bind (wpAny_listPart .none ?_))))
  rw [if_neg (by decide)]
  refine wpAny_bind (wpAny_field hos hds (x := .none) rfl (wpAny_bind (wpAny_listPart .none ?_)))
  refine wpAny_bind (wpAny_field hos hds (x := .int (k : Int) t) rfl (wpAny_bind (wpAny_listPart (.int _ _) (wpAny_pure ?_))))
  refine wpAny_bind (m := Builtin.List.listItems (.ref l)) ?_
  unfold Builtin.List.listItems
  refine wpAny_bind (wpAny_seqItems hl rfl (wpAny_pure ?_))
  refine wpAny_bind (wpAny_of_eq (sliceIndices_raw none (some (k : Int)) none items.toArray.size (by simp)) ?_)
  have e : sliceBounds none (some (k : Int)) none items.toArray.size = (((0 : Nat) : Int), ((min k items.length : Nat) : Int), 1) := by
    simp only [sliceBounds, Option.getD_none, show (1 : Int) > 0 by decide, if_true, if_neg (show ¬ ((k : Int) < 0) by omega), List.size_toArray]
    congr 1
    congr 1
    omega
  rw [e]
  dsimp only
  refine wpAny_bind (wpAny_rule (wpAny_bind ?_))
  unfold Builtin.List.listUpdate
  dsimp only
  refine upd_list (f := fun l => (l.zipIdx 0).filterMap _) hl ((sel_drop _ k items 0 fun x i _ hi => ?_).trans (by rw [Nat.sub_zero])) (fun h' hs' hg => wpAny_bind (wpAny_letGo (wpAny_pure ⟨_, rfl, h h' hs' hg⟩))) hsz
  dsimp only
  have hb : selOf ((0 : Nat) : Int) ((min k items.length : Nat) : Int) 1 i = decide (i < k) := by
    unfold selOf
    rw [if_pos (by decide), Bool.eq_iff_iff]
    simp only [Bool.and_eq_true, decide_eq_true_eq, beq_iff_eq]
    omega
  exact ite_b hb
end
theorem ofs_empty : Str.ofString "" = mk [] := by decide +kernel
theorem glue_mk : ∀ l : List Str, Str.join (mk []) l = mk (l.flatMap cl)
  | [] => rfl
  | [a] => by
    show a = _
    apply str_ext; rw [cl_mk]; simp
  | a :: b :: r => by
    show a ++ mk [] ++ Str.join (mk []) (b :: r) = _
    rw [glue_mk (b :: r)]
    apply str_ext
    rw [cl_append, cl_append, cl_mk, cl_mk, cl_mk, List.append_nil, ← List.flatMap_cons]
theorem join_mk {prog : Program} {w : World} {A : Around} {E : Value → Shared → Prop} {s : Shared} {h₀ : Heap} {L D : Addr} {news : List (Addr × Obj)} {vs : List Value} {ss : List Str} {kk : Nat} {t : Tok} {Q : Value → Shared → Prop}
    (N : News h₀ L s.heap news) (hm : (D, listOf vs.toArray kk) ∈ news) (hv : StrsAre vs ss) (hok : (ss.map (·.length)).sum ≤ 16777216)
    (h : ∀ t' k, Q (.str (mk (ss.flatMap cl)) t') { s with toks := k }) : wpAny (model prog w) A (call (.builtin "str.join") [.str (Str.ofString "") t, .ref D]) Q E s := by
  rw [ofs_empty]
  refine join_list (N.isList hm) hv (by show _ + _ * 0 ≤ _; omega) fun t' k => ?_
  have e : Txt.join (mk []) ss = mk (ss.flatMap cl) := by
    show Builtin.Str.glued (mk []) ss = _
    rw [StrLaws.glued_eq_join, glue_mk]
  rw [e]
  exact h t' k
theorem flat_sg (l : List Nat) : (l.map sg).flatMap cl = l := by
  induction l with
  | nil => rfl
  | cons a r ih => rw [List.map_cons, List.flatMap_cons, ih]; rfl
theorem sum_sg (l : List Nat) : ((l.map sg).map (·.length)).sum = l.length := by
  induction l with
  | nil => rfl
  | cons a r ih => rw [List.map_cons, List.map_cons, List.sum_cons, ih, List.length_cons]; show 1 + _ = _; omega
section
variable {prog : Program} {w : World} {A : Around} {E : Value → Shared → Prop} {s : Shared} {h₀ : Heap} {L l : Addr} {m : Str → Option Value} {news : List (Addr × Obj)}
theorem delTo_K {items : List Value} {n k : Nat} {t : Tok} {g : Obj → List (Addr × Obj)} {Q : Unit → Shared → Prop} (F : Fr h₀ L s.heap m) (N : News h₀ L s.heap news) (U : UpdF l (listOf items.toArray n) news g)
    (h : ∀ h' n', Fr h₀ L h' m → News h₀ L h' (g (listOf (items.drop k).toArray n')) → Q () { s with heap := h' }) (hsz : items.length ≤ sizeLine) :
    wpAny (model prog w) A (delItem (.ref l) (.ref s.heap.objs.size)) Q E { s with heap := s.heap.push { cls := .type "slice", data := .fields #[.none, .int (k : Int) t, .none] } } := by
  obtain ⟨pre, post, rfl, hg, a, b⟩ := U.split
  have F1 := F.push { cls := .type "slice", data := .fields #[.none, .int (k : Int) t, .none] }
  have N1 : News h₀ L (s.heap.push { cls := .type "slice", data := .fields #[.none, .int (k : Int) t, .none] }) (pre ++ (l, listOf items.toArray n) :: post) := fun p hp => ⟨Heap.get?_push_of_some _ (N p hp).1, (N p hp).2⟩
  have z := N1 (l, listOf items.toArray n) (List.mem_append.mpr (.inr (.head _)))
  refine delItem_to (items := items) (n := n) (k := k) (t := t) z.1 (Heap.IsSliceOf.new ..) (fun h' hs ⟨n', e⟩ => ?_) hsz
  exact h h' n' (F1.change hs z.2.1 z.2.2) (hg _ ▸ news_set N1 a b hs e)
end
theorem sg_q : sg 34 = Str.ofString "\"" := by decide +kernel
theorem sg_b : sg 92 = Str.ofString "\\" := by decide +kernel
theorem sg_n : sg 10 = Str.ofString "\n" := by decide +kernel
theorem sg_x : sg 97 = Str.ofString "a" := by decide +kernel
theorem sg_y : sg 98 = Str.ofString "b" := by decide +kernel
theorem mk_snoc (l : List Nat) (c : Nat) : mk l ++ sg c = mk (l ++ [c]) := by apply str_ext; rw [cl_append, cl_mk, cl_mk]; rfl
end
section
section
open LCg
variable {prog : Program} {w : World} {A : Around} {E : Value → Shared → Prop} {s : Shared} {h₀ : Heap} {L : Addr} {m : Str → Option Value} {env : Env}
/-- the ends of a comprehension's turns, by an invariant that may turn the ledger -/
theorem compRest_inv {elt : Expr} {x : Str} {scope : Scope} {cl : List (Str × Addr)} {S : List (Addr × Obj) → Prop} {P : Nat → Value → Prop} {Fin : List Value → List (Addr × Obj) → Prop} {n : Nat} {news : List (Addr × Obj)}
    (Inv : Nat → List Value → List (Addr × Obj) → Prop) (h0 : Inv 0 [] news)
    (step : ∀ i ys news, i < n → Inv i ys news → ∀ v I oI C oC D m₂ h tk (E' : Value → Shared → Prop), P i v → NsObj oC m₂ → m₂ x = some v → Fr h₀ L h m → News h₀ L h ((I, oI) :: (C, oC) :: (D, lst ys) :: news) → Off3 I C D news → ((@Ne Nat I C) ∧ (@Ne Nat I D) ∧ (@Ne Nat C D)) →
      wpAny (model prog w) A (eval elt (compEnvC scope cl C env)) (CompEnd h₀ L m { s with heap := h, toks := tk } I oI C oC D (lst ys) S (fun y news' => Inv (i + 1) (ys ++ [y]) news')) E' { s with heap := h, toks := tk })
    (fin : ∀ ys news, Inv n ys news → Fin ys news) : CompRest prog w A h₀ L m env elt x scope cl s S P Fin n 0 [] news := by
  have key : ∀ k i ys news, i + k = n → Inv i ys news → CompRest prog w A h₀ L m env elt x scope cl s S P Fin k i ys news := by
    intro k
    induction k with
    | zero => intro i ys news hi hI; exact CompRest.zero (fin ys news (by rw [← hi]; exact hI))
    | succ k ih =>
      intro i ys news hi hI
      refine CompRest.succ fun v I oI C oC D m₂ h tk E' h1 h2 h3 h4 h5 h6 h7 => ?_
      refine wpAny_mono (step i ys news (by omega) hI v I oI C oC D m₂ h tk E' h1 h2 h3 h4 h5 h6 h7) (fun y s₂ q => ?_) fun _ _ e => e
      obtain ⟨h', tk', news', e, F', N', off, hS, hI'⟩ := q
      exact ⟨h', tk', _, e, F', N', off, hS, ih (i + 1) (ys ++ [y]) news' (by omega) hI'⟩
  exact key n 0 [] news (by omega) h0
theorem compRestT_inv {ct elt : Expr} {x : Str} {scope : Scope} {cl : List (Str × Addr)} {S : List (Addr × Obj) → Prop} {P : Nat → Value → Prop} {Fin : List Value → List (Addr × Obj) → Prop} {n : Nat} {news : List (Addr × Obj)}
    (Inv : Nat → List Value → List (Addr × Obj) → Prop) (h0 : Inv 0 [] news)
    (step : ∀ i ys news, i < n → Inv i ys news → ∀ v I oI C oC D m₂ h tk (E' : Value → Shared → Prop), P i v → NsObj oC m₂ → m₂ x = some v → Fr h₀ L h m → News h₀ L h ((I, oI) :: (C, oC) :: (D, lst ys) :: news) → Off3 I C D news → ((@Ne Nat I C) ∧ (@Ne Nat I D) ∧ (@Ne Nat C D)) →
      wpAny (model prog w) A (isTrue ct (compEnvC scope cl C env) (eval ct (compEnvC scope cl C env))) (fun ok s' => if ok = true then
        wpAny (model prog w) A (eval elt (compEnvC scope cl C env)) (CompEnd h₀ L m { s with heap := h, toks := tk } I oI C oC D (lst ys) S (fun y news' => Inv (i + 1) (ys ++ [y]) news')) E' s'
        else CompEnd h₀ L m { s with heap := h, toks := tk } I oI C oC D (lst ys) S (fun _ news' => Inv (i + 1) ys news') Value.none s') E' { s with heap := h, toks := tk })
    (fin : ∀ ys news, Inv n ys news → Fin ys news) : LCt.CompRestT prog w A h₀ L m env ct elt x scope cl s S P Fin n 0 [] news := by
  have key : ∀ k i ys news, i + k = n → Inv i ys news → LCt.CompRestT prog w A h₀ L m env ct elt x scope cl s S P Fin k i ys news := by
    intro k
    induction k with
    | zero => intro i ys news hi hI; exact LCt.CompRestT.zero (fin ys news (by rw [← hi]; exact hI))
    | succ k ih =>
      intro i ys news hi hI
      refine LCt.CompRestT.succ fun v I oI C oC D m₂ h tk E' h1 h2 h3 h4 h5 h6 h7 => ?_
      refine wpAny_mono (step i ys news (by omega) hI v I oI C oC D m₂ h tk E' h1 h2 h3 h4 h5 h6 h7) (fun ok s₂ q => ?_) fun _ _ e => e
      cases ok with
      | true =>
        simp only [if_true] at q ⊢
        refine wpAny_mono q (fun y s₃ q => ?_) fun _ _ e => e
        obtain ⟨h', tk', news', e, F', N', off, hS, hI'⟩ := q
        exact ⟨h', tk', _, e, F', N', off, hS, ih (i + 1) (ys ++ [y]) news' (by omega) hI'⟩
      | false =>
        simp only [Bool.false_eq_true, if_false] at q ⊢
        obtain ⟨h', tk', news', e, F', N', off, hS, hI'⟩ := q
        exact ⟨h', tk', _, e, F', N', off, hS, ih (i + 1) ys news' (by omega) hI'⟩
  exact key n 0 [] news (by omega) h0

theorem compRestP_inv {elt : Expr} {x x₂ : Str} {scope : Scope} {cl : List (Str × Addr)} {S : List (Addr × Obj) → Prop} {P : Nat → Value → Prop} {Fin : List Value → List (Addr × Obj) → Prop} {n : Nat} {news : List (Addr × Obj)}
    (Inv : Nat → List Value → List (Addr × Obj) → Prop) (h0 : Inv 0 [] news)
    (step : ∀ i ys news, i < n → Inv i ys news → ∀ v, P i v → ∃ (t : Addr) (ot : Obj) (v₁ v₂ : Value) (nt : Nat), v = .ref t ∧ (t, ot) ∈ news ∧ ot.cls = .type "tuple" ∧ ot.data = .seq #[v₁, v₂] nt ∧
      ∀ I oI C oC D m₂ h tk (E' : Value → Shared → Prop), NsObj oC m₂ → m₂ x = some v₁ → m₂ x₂ = some v₂ → Fr h₀ L h m → News h₀ L h ((I, oI) :: (C, oC) :: (D, lst ys) :: news) → Off3 I C D news → ((@Ne Nat I C) ∧ (@Ne Nat I D) ∧ (@Ne Nat C D)) →
      wpAny (model prog w) A (eval elt (compEnvC scope cl C env)) (CompEnd h₀ L m { s with heap := h, toks := tk } I oI C oC D (lst ys) S (fun y news' => Inv (i + 1) (ys ++ [y]) news')) E' { s with heap := h, toks := tk })
    (fin : ∀ ys news, Inv n ys news → Fin ys news) : LCp.CompRestP prog w A h₀ L m env elt x x₂ scope cl s S P Fin n 0 [] news := by
  have key : ∀ k i ys news, i + k = n → Inv i ys news → LCp.CompRestP prog w A h₀ L m env elt x x₂ scope cl s S P Fin k i ys news := by
    intro k
    induction k with
    | zero => intro i ys news hi hI; exact LCp.CompRestP.zero (fin ys news (by rw [← hi]; exact hI))
    | succ k ih =>
      intro i ys news hi hI
      refine LCp.CompRestP.succ fun v hP => ?_
      obtain ⟨t, ot, v₁, v₂, nt, e1, e2, e3, e4, st⟩ := step i ys news (by omega) hI v hP
      refine ⟨t, ot, v₁, v₂, nt, e1, e2, e3, e4, fun I oI C oC D m₂ h tk E' h2 h3 h3' h4 h5 h6 h7 => ?_⟩
      refine wpAny_mono (st I oI C oC D m₂ h tk E' h2 h3 h3' h4 h5 h6 h7) (fun y s₂ q => ?_) fun _ _ e => e
      obtain ⟨h', tk', news', e, F', N', off, hS, hI'⟩ := q
      exact ⟨h', tk', _, e, F', N', off, hS, ih (i + 1) (ys ++ [y]) news' (by omega) hI'⟩
  exact key n 0 [] news (by omega) h0

/-- a comprehension over a text's signs -/
theorem comp_str {elt iter : Expr} {x : Str} {px : Pos} {scope : Scope} {cl : List (Str × Addr)} {pos : Pos} {Q : Value → Shared → Prop} (F₀ : Fr h₀ L s.heap m)
    (hclos : closureFor scope env = pure cl) (hcell : ∀ y ∈ scope.names, y.2 ≠ .cell) (hkind : scope.kind = .function)
    (hnames : ∀ y ∈ scope.names, y.2 = .local → scope.names.lookup y.1 = some .local) (hx : scope.names.lookup x = some .local)
    (h : wpAny (model prog w) A (eval iter env) (fun xv s₁ => ∃ z t news, xv = .str z t ∧ A.handled = none ∧ z.cps.all (· < 128) = true ∧ Fr h₀ L s₁.heap m ∧ News h₀ L s₁.heap news ∧ z.cps.size ≤ sizeLine ∧
      ∀ s₂ : Shared, (∃ h, s₂ = { s₁ with heap := h }) → CompRest prog w A h₀ L m env elt x scope cl s₂ (fun _ => True) (SignAt z) (FinE h₀ L m s₂ Q) z.cps.size 0 [] news) E s)
    (hs : ∀ x, foldedSetIterable iter env x = pure x := by intro _; rfl) :
    wpAny (model prog w) A (eval (.ListComp elt [⟨.Name x px, iter, [], 0⟩] scope pos) env) Q E s := by
  rw [eval_ListComp]
  refine wpAny_comprehension_free (use := none) rfl hs hclos hkind hnames (wpAny_mono h (fun xv s₁ h₁ => ?_) fun _ _ e => e)
  obtain ⟨z, t, news, rfl, hh, ha, F, N, hsz, R⟩ := h₁
  refine wpAny_pyIter_ascii ha ?_
  refine block_U (Walks.strAscii hh _ z t) hsz (fun i h st => by obtain ⟨o, e, _⟩ := st; exact ⟨o, e⟩) (fun i h h' o nw st e e' _ _ _ => by obtain ⟨o', q, r⟩ := st; rw [e] at q; cases q; exact ⟨o, e', r⟩) hcell hkind hx ⟨_, Heap.get?_push_size _ rfl, rfl, rfl⟩ (fun b hb => ?_)
    (F.keeps fun _ _ e => Heap.get?_push_of_some _ e) (N.grown fun _ _ e => Heap.get?_push_of_some _ e) (Nat.ne_of_lt F.ns.lt) (next_is_new F) (fun p hp => Nat.ne_of_lt (Heap.lt_size (N p hp).1)) trivial (R _ ⟨_, rfl⟩) ?_
  · rw [List.mem_singleton.mp hb]
    show s₁.heap.objs.size < (s₁.heap.push _).objs.size
    rw [Heap.size_push]; exact Nat.lt_succ_self _
  · intro D C h tk m' ys news' F' N' o1 hn hC₀ hD₀ hCL hDL hCD offC fin
    refine ⟨m', hn, fun h'' hs'' => fin D h'' tk (F'.change hs'' hCL hC₀) (fun p hp => ?_) o1⟩
    refine ⟨hs''.extBut _ _ ?_ (N' p hp).1, (N' p hp).2⟩
    rcases List.mem_cons.mp hp with rfl | hp
    · exact Ne.symm hCD
    · exact offC p hp

/-- for over a text's signs -/
theorem for_str {hp₀ : Heap} {gn : Array GenState} {dr : Drawn} {tk₀ : Nat} {os : OsState} {Q : Flow → Shared → Prop} {x : Str} {px : Pos} {body : List Stmt} {z : Str} {tz : Tok} {m : Str → Option Value} {news : List (Addr × Obj)}
    (J : Nat → (Str → Option Value) → List (Addr × Obj) → Prop)
    (hh : A.handled = none) (ha : z.cps.all (· < 128) = true)
    (hx : env.kindOf x = some .local)
    (hp : (env.scope.kind == .class || (env.scope.kind == .module && env.locals != env.globals)) = false)
    (F : Fr h₀ L hp₀ m) (N : News h₀ L hp₀ news) (h0 : J 0 m news)
    (turn : ∀ i t m₁ news₁ I h tk o, i < z.length → J i m₁ news₁ → (∀ p ∈ news₁, p.1 ≠ I) → Fr h₀ L h (fun y => if y = x then some (.str (sg ((cl z).getD i 0)) t) else m₁ y) → News h₀ L h ((I, o) :: news₁) →
      wpAny (model prog w) A (execs body env) (TPost h₀ L I o (J (i + 1)) gn dr os Q) (fun _ _ => False) ⟨h, gn, dr, tk, os⟩)
    (done : ∀ m₁ news₁ h tk, J z.length m₁ news₁ → Fr h₀ L h m₁ → News h₀ L h news₁ → Q .next ⟨h, gn, dr, tk, os⟩) (hL : env.locals = L := by rfl) :
    wpAny (model prog w) A (pyIter (.str z tz)) (fun it s₂ => codeAny (model prog w) A (.forLoop (.Name x px) it body [] env) (fun r s' => match r with | .ok f => Q f s' | .error _ => False) s₂) (fun _ _ => False) ⟨hp₀, gn, dr, tk₀, os⟩ := by
  subst hL
  refine wpAny_pyIter_ascii ha ?_
  have W := Walks.strAscii (prog := prog) (w := w) hh hp₀.objs.size z tz
  refine loop_gen (hp₀ := hp₀.push _) (h₀ := h₀) (m := m) (news := news) (Q := Q) J W (fun i h st => ?_) ?_ hx hp ?_ ?_ ?_ ⟨_, Heap.get?_push_size _ rfl, rfl, rfl⟩ (F.push _)
    (fun p hp => ⟨Heap.get?_push_of_some _ (N p hp).1, (N p hp).2⟩) h0 ?_ ?_ (fun f s' q => q)
  · obtain ⟨o, e, _⟩ := st
    exact ⟨o, e⟩
  · intro b hb hbI
    exact absurd (by simpa using hb) hbI
  · cases e : h₀.get? hp₀.objs.size with
    | none => rfl
    | some o => exact absurd (Heap.lt_size (F.keep _ _ e)) (Nat.lt_irrefl _)
  · exact Ne.symm (Nat.ne_of_lt F.ns.lt)
  · intro p hp
    exact Nat.ne_of_lt (Heap.lt_size (N p hp).1)
  · rintro i v m₁ news₁ h tk o hi ⟨c, u, hc, rfl⟩ hJ hn F₁ N₁
    have e : (cl z).getD i 0 = c := by rw [List.getD_eq_getElem?_getD, Array.getElem?_toList, hc]; rfl
    exact turn i u m₁ news₁ _ h tk o hi hJ hn (by rw [e]; exact F₁) N₁
  · intro m₁ news₁ h tk hJ F₁ N₁
    exact done m₁ news₁ h tk hJ F₁ N₁
end
theorem abs_ascii {x : Str} (a : Abs x) : x.cps.all (· < 128) = true := by
  rw [← Array.all_toList, List.all_eq_true]
  intro c hc
  rcases a c hc with rfl | rfl | rfl <;> decide
theorem sg_at {x : Str} {i : Nat} {c : Nat} (h : x.cps[i]? = some c) : (cl x)[i]? = some c := by rw [Array.getElem?_toList]; exact h
theorem take_snoc {α : Type} {l : List α} {i : Nat} {c : α} (h : l[i]? = some c) : l.take (i + 1) = l.take i ++ [c] := by
  rw [List.take_add_one, h]; rfl
theorem ints_some {ns : List Int} : ∀ {vs : List Value}, IntsAre vs ns → ∀ v ∈ vs, ∃ n t, v = Value.int n t := by
  intro vs h
  induction h with
  | nil => exact fun v hv => nomatch hv
  | cons n t _ ih =>
    intro v hv
    rcases List.mem_cons.mp hv with rfl | hv
    · exact ⟨n, t, rfl⟩
    · exact ih v hv
theorem ints_of : ∀ {l : List Value}, (∀ v ∈ l, ∃ n t, v = Value.int n t) → ∃ ms, IntsAre l ms
  | [], _ => ⟨[], .nil⟩
  | v :: r, h => by
    obtain ⟨n, t, rfl⟩ := h v (.head _)
    obtain ⟨ms, e⟩ := ints_of (l := r) fun u hu => h u (.tail _ hu)
    exact ⟨n :: ms, .cons n t e⟩
theorem pick_ints {vs : List Value} {ns : List Int} (h : IntsAre vs ns) (lo hi st : Option Int) : ∃ ms, IntsAre (slicePick vs.toArray lo hi st).toList ms := by
  refine ints_of fun v hv => ints_some h v ?_
  unfold slicePick at hv
  obtain ⟨i, _, e⟩ := List.mem_filterMap.mp hv
  exact List.mem_of_getElem? (by simpa using e)
section
variable {prog : Program} {w : World} {A : Around} {hp₀ : Heap} {gn : Array GenState} {dr : Drawn} {tk₀ : Nat} {os : OsState} {env : Env} {h₀ : Heap}
/-- `for x, y in LIST` over a made list of pairs -/
theorem for_pairs {L : Addr} {Q : Flow → Shared → Prop} {x y : Str} {px py pt : Pos} {tk1} {body : List Stmt} {l : Addr} {vs : List Value} {kk : Nat} {m : Str → Option Value} {news : List (Addr × Obj)}
    (J : Nat → (Str → Option Value) → List (Addr × Obj) → Prop)
    (hh : A.handled = none)
    (hl : ∀ i m₁ news₁, J i m₁ news₁ → (l, listOf vs.toArray kk) ∈ news₁)
    (hT : ∀ i m₁ news₁ v, J i m₁ news₁ → vs[i]? = some v → ∃ T v1 v2 nt, v = .ref T ∧ (T, ({ cls := .type "tuple", data := .seq #[v1, v2] nt } : Obj)) ∈ news₁)
    (hx : env.kindOf x = some .local) (hy : env.kindOf y = some .local)
    (hp : (env.scope.kind == .class || (env.scope.kind == .module && env.locals != env.globals)) = false)
    (F : Fr h₀ L hp₀ m) (N : News h₀ L hp₀ news) (h0 : J 0 m news)
    (turn : ∀ i T v1 v2 nt m₁ news₁ I h tk o, vs[i]? = some (.ref T) → (T, ({ cls := .type "tuple", data := .seq #[v1, v2] nt } : Obj)) ∈ news₁ → J i m₁ news₁ → (∀ p ∈ news₁, p.1 ≠ I) →
      Fr h₀ L h (fun z => if z = y then some v2 else if z = x then some v1 else m₁ z) → News h₀ L h ((I, o) :: news₁) →
      wpAny (model prog w) A (execs body env) (TPost h₀ L I o (J (i + 1)) gn dr os Q) (fun _ _ => False) ⟨h, gn, dr, tk, os⟩)
    (done : ∀ m₁ news₁ h tk, J vs.length m₁ news₁ → Fr h₀ L h m₁ → News h₀ L h news₁ → Q .next ⟨h, gn, dr, tk, os⟩) (hL : env.locals = L := by rfl) :
    wpAny (model prog w) A (pyIter (.ref l)) (fun it s₂ => codeAny (model prog w) A (.forLoop (.Tuple [.Name x px, .Name y py] tk1 pt) it body [] env) (fun r s' => match r with | .ok f => Q f s' | .error _ => False) s₂) (fun _ _ => False) ⟨hp₀, gn, dr, tk₀, os⟩ := by
  subst hL
  have hls : hp₀.IsList l vs.toArray := N.isList (hl _ _ _ h0)
  obtain ⟨ol, hol, _⟩ := id hls
  have hlt : l < hp₀.objs.size := Heap.lt_size hol
  have hne : l ≠ hp₀.objs.size := Nat.ne_of_lt hlt
  refine wpAny_pyIter_list hls ?_
  have W := Walks.list (prog := prog) (w := w) hh hp₀.objs.size l hne vs.toArray
  have hI₀ : h₀.get? hp₀.objs.size = none := by
    cases e : h₀.get? hp₀.objs.size with
    | none => rfl
    | some o => exact absurd (Heap.lt_size (F.keep _ _ e)) (Nat.lt_irrefl _)
  have hIL : hp₀.objs.size ≠ env.locals := Ne.symm (Nat.ne_of_lt F.ns.lt)
  generalize hIe : hp₀.objs.size = I at *
  have F1 := F.push { cls := .type "list_iterator", data := .fields #[.ref l, .int 0 0] }
  have N1 : News h₀ env.locals (hp₀.push { cls := .type "list_iterator", data := .fields #[.ref l, .int 0 0] }) news := fun p hp => ⟨Heap.get?_push_of_some _ (N p hp).1, (N p hp).2⟩
  have hst : (hp₀.push { cls := .type "list_iterator", data := .fields #[.ref l, .int 0 0] }).IsListIter I l 0 ∧ (hp₀.push { cls := .type "list_iterator", data := .fields #[.ref l, .int 0 0] }).IsList l vs.toArray :=
    ⟨⟨_, by rw [← hIe]; exact Heap.get?_push_size _ rfl, rfl, rfl⟩, hls.at fun o e => Heap.get?_push_of_some _ e⟩
  have hnI : ∀ p ∈ news, p.1 ≠ I := fun p hp => by rw [← hIe]; exact Nat.ne_of_lt (Heap.lt_size (N p hp).1)
  refine codeAny_forLoop_any
    (fun k s' => ∃ h' tk m' news' i, s' = ⟨h', gn, dr, tk, os⟩ ∧ (h'.IsListIter I l i ∧ h'.IsList l vs.toArray) ∧ Fr h₀ env.locals h' m' ∧ News h₀ env.locals h' news' ∧ (∀ p ∈ news', p.1 ≠ I) ∧ J i m' news' ∧ i ≤ vs.length ∧ k = vs.length + 1 - i) ?_ (vs.length + 1)
    ⟨_, _, m, news, 0, rfl, hst, F1, N1, hnI, h0, Nat.zero_le _, rfl⟩
  rintro k s' ⟨h', tk, m', news', i, rfl, hst', F', N', hnI', hJ, hi, rfl⟩
  have next : ∀ h₁ : Heap, (∀ b o, b ∉ [I] → h'.get? b = some o → h₁.get? b = some o) → Fr h₀ env.locals h₁ m' ∧ News h₀ env.locals h₁ news' := fun h₁ hk₁ =>
    ⟨LCg.fr_but F' hk₁ (Ne.symm hIL) hI₀, LCg.news_but N' hk₁ hnI'⟩
  have hsz : vs.toArray.size = vs.length := by simp
  by_cases hlt' : i < vs.length
  · refine W.item i _ _ _ (by rw [hsz]; exact hlt') hst' fun v h₁ tk₁ hP hst₁ hk₁ => ?_
    obtain ⟨F₁, N₁⟩ := next h₁ hk₁
    have hv : vs[i]? = some v := by simpa using hP
    obtain ⟨T, v1, v2, nt, rfl, hmT⟩ := hT i m' news' v hJ hv
    refine wpAny_letOwnedTupleGo_listiter hst₁.1 ?_
    have ht : IsTup h₁ T #[v1, v2] := ⟨_, (N₁ _ hmT).1, rfl, nt, rfl⟩
    refine assign_Tuple_tuple hh ht rfl rfl fun h₅ he => ?_
    have he' : ∀ b o, h₁.get? b = some o → h₅.get? b = some o := fun b o e => he b o (Nat.ne_of_lt (Heap.lt_size e)) e
    have F₅ := F₁.keeps he'
    refine assignInOrder_cons (wpAny_assign_Name (wpAny_storeName_local hx F₅.ns (fun h₆ hn₆ hs₆ => ?_) hp))
    have F₆ := F₅.set hn₆ hs₆
    refine assignInOrder_cons (wpAny_assign_Name (wpAny_storeName_local hy F₆.ns (fun h₂ hn₂ hs₂ => ?_) hp))
    refine assignInOrder_nil ?_
    have F₂ := F₆.set hn₂ hs₂
    have up : ∀ b o, b ≠ env.locals → h₁.get? b = some o → h₂.get? b = some o := fun b o hb e => hs₂.extBut b o hb (hs₆.extBut b o hb (he' b o e))
    have lw : ∀ b, (b = I ∨ b = l) → b ≠ env.locals := fun b hb => by
      rcases hb with rfl | rfl
      · exact hIL
      · exact (N' _ (hl _ _ _ hJ)).2.1
    have hst₂ : h₂.IsListIter I l (i + 1) ∧ h₂.IsList l vs.toArray := W.frame _ _ _ hst₁ fun b hb o e => up b o (lw b (by simpa using hb)) e
    obtain ⟨⟨o, ho, hor⟩, _⟩ := id hst₂
    have N₂ : News h₀ env.locals h₂ ((I, o) :: news') := fun p hp => by
      rcases List.mem_cons.mp hp with rfl | hp
      · exact ⟨ho, hIL, hI₀⟩
      · exact ⟨up _ _ (N₁ p hp).2.1 (N₁ p hp).1, (N₁ p hp).2⟩
    refine wpAny_mono (turn i T v1 v2 nt m' news' I h₂ _ o hv hmT hJ hnI' F₂ N₂) (fun f s₃ h₃ => ?_) fun _ _ e => e.elim
    have fin : TEnd h₀ env.locals I o (J (i + 1)) gn dr os s₃ → ∃ m_1, m_1 < vs.length + 1 - i ∧ ∃ h' tk m' news' i, s₃ = ⟨h', gn, dr, tk, os⟩ ∧ (h'.IsListIter I l i ∧ h'.IsList l vs.toArray) ∧ Fr h₀ env.locals h' m' ∧ News h₀ env.locals h' news' ∧ (∀ p ∈ news', p.1 ≠ I) ∧ J i m' news' ∧ i ≤ vs.length ∧ m_1 = vs.length + 1 - i := by
      rintro ⟨h₃', tk₃, m₂, news₂, all, rfl, F₃, N₃, hsub, hne, hJ₃⟩
      have g1 := (N₃ _ (hsub _ List.mem_cons_self)).1
      exact ⟨vs.length + 1 - (i + 1), by omega, h₃', tk₃, m₂, news₂, i + 1, rfl, ⟨⟨o, g1, hor⟩, News.isList (n := kk) (fun p hp => N₃ p (hsub p (List.mem_cons_of_mem _ hp))) (hl _ _ _ hJ₃)⟩, F₃, fun p hp => N₃ p (hsub p (List.mem_cons_of_mem _ hp)), hne, hJ₃, hlt', rfl⟩
    cases f with
    | ret v => exact h₃
    | brk => exact h₃
    | cont => exact fin h₃
    | next => exact fin h₃
  · have hin : i = vs.length := by omega
    subst hin
    rw [← hsz] at hst'
    refine W.done _ _ _ hst' fun h₁ tk₁ hk₁ => wpAny_execs_nil ?_
    obtain ⟨F₁, N₁⟩ := next h₁ hk₁
    exact done m' news' h₁ tk₁ hJ F₁ N₁
end
end
section
section
variable {prog : Program} {w : World} {A : Around} {hp₀ : Heap} {gn : Array GenState} {dr : Drawn} {tk₀ : Nat} {os : OsState} {env : Env} {h₀ : Heap}
/-- `for x in LIST` over a made list, the target's store left to the turn -/
theorem for_listG {L : Addr} {Q : Flow → Shared → Prop} {target : Expr} {body : List Stmt} {l : Addr} {vs : List Value} {kk : Nat} {m : Str → Option Value} {news : List (Addr × Obj)}
    (J : Nat → (Str → Option Value) → List (Addr × Obj) → Prop)
    (hh : A.handled = none)
    (hl : ∀ i m₁ news₁, J i m₁ news₁ → (l, listOf vs.toArray kk) ∈ news₁)
    (F : Fr h₀ L hp₀ m) (N : News h₀ L hp₀ news) (h0 : J 0 m news)
    (turn : ∀ i v m₁ news₁ I h tk o, vs[i]? = some v → J i m₁ news₁ → (∀ p ∈ news₁, p.1 ≠ I) → Fr h₀ L h m₁ → News h₀ L h ((I, o) :: news₁) →
      wpAny (model prog w) A (assign target env v) (fun _ s₂ => wpAny (model prog w) A (execs body env) (TPost h₀ L I o (J (i + 1)) gn dr os Q) (fun _ _ => False) s₂) (fun _ _ => False) ⟨h, gn, dr, tk, os⟩)
    (done : ∀ m₁ news₁ h tk, J vs.length m₁ news₁ → Fr h₀ L h m₁ → News h₀ L h news₁ → Q .next ⟨h, gn, dr, tk, os⟩) (ht : ∀ v, letOwnedTupleGo target (.ref hp₀.objs.size) v = pure () := by intro _; rfl) (hL : env.locals = L := by rfl) :
    wpAny (model prog w) A (pyIter (.ref l)) (fun it s₂ => codeAny (model prog w) A (.forLoop target it body [] env) (fun r s' => match r with | .ok f => Q f s' | .error _ => False) s₂) (fun _ _ => False) ⟨hp₀, gn, dr, tk₀, os⟩ := by
  subst hL
  have hls : hp₀.IsList l vs.toArray := N.isList (hl _ _ _ h0)
  obtain ⟨ol, hol, _⟩ := id hls
  have hlt : l < hp₀.objs.size := Heap.lt_size hol
  have hne : l ≠ hp₀.objs.size := Nat.ne_of_lt hlt
  refine wpAny_pyIter_list hls ?_
  have W := Walks.list (prog := prog) (w := w) hh hp₀.objs.size l hne vs.toArray
  have hI₀ : h₀.get? hp₀.objs.size = none := by
    cases e : h₀.get? hp₀.objs.size with
    | none => rfl
    | some o => exact absurd (Heap.lt_size (F.keep _ _ e)) (Nat.lt_irrefl _)
  have hIL : hp₀.objs.size ≠ env.locals := Ne.symm (Nat.ne_of_lt F.ns.lt)
  generalize hIe : hp₀.objs.size = I at *
  have F1 := F.push { cls := .type "list_iterator", data := .fields #[.ref l, .int 0 0] }
  have N1 : News h₀ env.locals (hp₀.push { cls := .type "list_iterator", data := .fields #[.ref l, .int 0 0] }) news := fun p hp => ⟨Heap.get?_push_of_some _ (N p hp).1, (N p hp).2⟩
  have hst : (hp₀.push { cls := .type "list_iterator", data := .fields #[.ref l, .int 0 0] }).IsListIter I l 0 ∧ (hp₀.push { cls := .type "list_iterator", data := .fields #[.ref l, .int 0 0] }).IsList l vs.toArray :=
    ⟨⟨_, by rw [← hIe]; exact Heap.get?_push_size _ rfl, rfl, rfl⟩, hls.at fun o e => Heap.get?_push_of_some _ e⟩
  have hnI : ∀ p ∈ news, p.1 ≠ I := fun p hp => by rw [← hIe]; exact Nat.ne_of_lt (Heap.lt_size (N p hp).1)
  refine codeAny_forLoop_any
    (fun k s' => ∃ h' tk m' news' i, s' = ⟨h', gn, dr, tk, os⟩ ∧ (h'.IsListIter I l i ∧ h'.IsList l vs.toArray) ∧ Fr h₀ env.locals h' m' ∧ News h₀ env.locals h' news' ∧ (∀ p ∈ news', p.1 ≠ I) ∧ J i m' news' ∧ i ≤ vs.length ∧ k = vs.length + 1 - i) ?_ (vs.length + 1)
    ⟨_, _, m, news, 0, rfl, hst, F1, N1, hnI, h0, Nat.zero_le _, rfl⟩
  rintro k s' ⟨h', tk, m', news', i, rfl, hst', F', N', hnI', hJ, hi, rfl⟩
  have next : ∀ h₁ : Heap, (∀ b o, b ∉ [I] → h'.get? b = some o → h₁.get? b = some o) → Fr h₀ env.locals h₁ m' ∧ News h₀ env.locals h₁ news' := fun h₁ hk₁ =>
    ⟨LCg.fr_but F' hk₁ (Ne.symm hIL) hI₀, LCg.news_but N' hk₁ hnI'⟩
  have hsz : vs.toArray.size = vs.length := by simp
  by_cases hlt' : i < vs.length
  · refine W.item i _ _ _ (by rw [hsz]; exact hlt') hst' fun v h₁ tk₁ hP hst₁ hk₁ => ?_
    obtain ⟨F₁, N₁⟩ := next h₁ hk₁
    have hv : vs[i]? = some v := by simpa using hP
    refine wpAny_of_eq (ht v) ?_
    obtain ⟨⟨o, ho, hor⟩, _⟩ := id hst₁
    have N₂ : News h₀ env.locals h₁ ((I, o) :: news') := fun p hp => by
      rcases List.mem_cons.mp hp with rfl | hp
      · exact ⟨ho, hIL, hI₀⟩
      · exact N₁ p hp
    refine wpAny_mono (turn i v m' news' I h₁ _ o hv hJ hnI' F₁ N₂) (fun _ s₂ h₂ => ?_) fun _ _ e => e.elim
    refine wpAny_mono h₂ (fun f s₃ h₃ => ?_) fun _ _ e => e.elim
    have fin : TEnd h₀ env.locals I o (J (i + 1)) gn dr os s₃ → ∃ m_1, m_1 < vs.length + 1 - i ∧ ∃ h' tk m' news' i, s₃ = ⟨h', gn, dr, tk, os⟩ ∧ (h'.IsListIter I l i ∧ h'.IsList l vs.toArray) ∧ Fr h₀ env.locals h' m' ∧ News h₀ env.locals h' news' ∧ (∀ p ∈ news', p.1 ≠ I) ∧ J i m' news' ∧ i ≤ vs.length ∧ m_1 = vs.length + 1 - i := by
      rintro ⟨h₃', tk₃, m₂, news₂, all, rfl, F₃, N₃, hsub, hne, hJ₃⟩
      have g1 := (N₃ _ (hsub _ List.mem_cons_self)).1
      exact ⟨vs.length + 1 - (i + 1), by omega, h₃', tk₃, m₂, news₂, i + 1, rfl, ⟨⟨o, g1, hor⟩, News.isList (n := kk) (fun p hp => N₃ p (hsub p (List.mem_cons_of_mem _ hp))) (hl _ _ _ hJ₃)⟩, F₃, fun p hp => N₃ p (hsub p (List.mem_cons_of_mem _ hp)), hne, hJ₃, hlt', rfl⟩
    cases f with
    | ret v => exact h₃
    | brk => exact h₃
    | cont => exact fin h₃
    | next => exact fin h₃
  · have hin : i = vs.length := by omega
    subst hin
    rw [← hsz] at hst'
    refine W.done _ _ _ hst' fun h₁ tk₁ hk₁ => wpAny_execs_nil ?_
    obtain ⟨F₁, N₁⟩ := next h₁ hk₁
    exact done m' news' h₁ tk₁ hJ F₁ N₁
end
end
section
section
variable {prog : Program} {w : World} {A : Around} {E : Value → Shared → Prop} {R : Result → Shared → Prop} {s : Shared} {env : Env}
theorem turn_outer (elt t1 i1 t2 i2 : Expr) (scope : Scope) (pos : Pos) (it acc : Value) (env : Env) :
    compTurn (.ListComp elt [⟨t1, i1, [], 0⟩, ⟨t2, i2, [], 0⟩] scope pos) 0 it acc env = (standAt i1.pos >>= fun _ => pyNext it >>= fun r => match r with
      | none => pure (.done .next)
      | some v => letOwnedTupleGo t1 it v >>= fun _ => assign t1 env v >>= fun _ =>
        eval i2 env >>= fun x => standAt i2.pos >>= fun _ => foldedSetIterable i2 env x >>= fun x => holding [x] (pyIter x) >>= fun it2 =>
          runOwn (.compStart (.ListComp elt [⟨t1, i1, [], 0⟩, ⟨t2, i2, [], 0⟩] scope pos) 1 it2 acc env) env >>= fun _ =>
        again (.compLoop (.ListComp elt [⟨t1, i1, [], 0⟩, ⟨t2, i2, [], 0⟩] scope pos) 0 it acc env)) := by rfl
theorem turn_inner (elt t1 i1 t2 i2 : Expr) (scope : Scope) (pos : Pos) (it acc : Value) (env : Env) :
    compTurn (.ListComp elt [⟨t1, i1, [], 0⟩, ⟨t2, i2, [], 0⟩] scope pos) 1 it acc env = (standAt i2.pos >>= fun _ => pyNext it >>= fun r => match r with
      | none => pure (.done .next)
      | some v => letOwnedTupleGo t2 it v >>= fun _ => assign t2 env v >>= fun _ =>
        (eval elt env >>= fun x => call (.builtin "list.append") [acc, x] >>= fun _ => pure ()) >>= fun _ =>
        again (.compLoop (.ListComp elt [⟨t1, i1, [], 0⟩, ⟨t2, i2, [], 0⟩] scope pos) 1 it acc env)) := by rfl
theorem loop_outer {elt t1 i1 t2 i2 : Expr} {scope : Scope} {pos : Pos} {it acc : Value} (I : Nat → Shared → Prop)
    (turn : ∀ n s, I n s → ∀ E', wpAny (model prog w) A (pyNext it) (fun r s₁ => match r with
      | none => R (.ok .next) s₁
      | some v => wpAny (model prog w) A (assign t1 env v) (fun _ s₂ => wpAny (model prog w) A (eval i2 env) (fun x s₃ => wpAny (model prog w) A (pyIter x) (fun it2 s₄ =>
          codeAny (model prog w) A (.compStart (.ListComp elt [⟨t1, i1, [], 0⟩, ⟨t2, i2, [], 0⟩] scope pos) 1 it2 acc env) (fun r s₅ => match r with | .ok _ => ∃ m, m < n ∧ I m s₅ | .error _ => False) s₄) E' s₃) E' s₂) E' s₁) E' s)
    (n : Nat) (h : I n s) (ht : ∀ v, letOwnedTupleGo t1 it v = pure () := by intro _; rfl) (hs : ∀ x, foldedSetIterable i2 env x = pure x := by intro _; rfl) :
    codeAny (model prog w) A (.compLoop (.ListComp elt [⟨t1, i1, [], 0⟩, ⟨t2, i2, [], 0⟩] scope pos) 0 it acc env) R s := by
  refine codeAny_loop rfl I (fun n s hI => ?_) n h
  show wpAny _ A ((compTurn (.ListComp elt [⟨t1, i1, [], 0⟩, ⟨t2, i2, [], 0⟩] scope pos) 0 it acc env).onRaise (fun x => do noteFrame x env; theTreesLotGoes x)) _ _ s
  refine wpAny_noted ?_
  rw [turn_outer]
  refine wpAny_bind (wpAny_standAt (wpAny_bind (wpAny_mono (turn n s hI _) (fun r s₁ h₁ => ?_) fun _ _ h' => h')))
  cases r with
  | none => exact wpAny_pure h₁
  | some v =>
    refine wpAny_bind (wpAny_of_eq (ht v) ?_)
    refine wpAny_bind (wpAny_mono h₁ (fun _ s₂ h₂ => ?_) fun _ _ h' => h')
    refine wpAny_bind (wpAny_mono h₂ (fun x s₃ h₃ => ?_) fun _ _ h' => h')
    refine wpAny_bind (wpAny_standAt (wpAny_bind (wpAny_of_eq (hs x) (wpAny_bind (wpAny_holding (wpAny_mono h₃ (fun it2 s₄ h₄ => ?_) fun _ _ h' => h'))))))
    refine wpAny_bind (wpAny_runOwn (codeAny_mono h₄ fun r s₅ h₅ => ?_))
    cases r with
    | ok f => exact wpAny_pure ⟨rfl, h₅⟩
    | error e => exact h₅.elim
theorem loop_inner {elt t1 i1 t2 i2 : Expr} {scope : Scope} {pos : Pos} {it acc : Value} (I : Nat → Shared → Prop)
    (turn : ∀ n s, I n s → ∀ E', wpAny (model prog w) A (pyNext it) (fun r s₁ => match r with
      | none => R (.ok .next) s₁
      | some v => wpAny (model prog w) A (assign t2 env v) (fun _ s₂ => wpAny (model prog w) A (eval elt env) (fun x s₃ => wpAny (model prog w) A (call (.builtin "list.append") [acc, x]) (fun _ s₄ =>
          ∃ m, m < n ∧ I m s₄) E' s₃) E' s₂) E' s₁) E' s)
    (n : Nat) (h : I n s) (ht : ∀ v, letOwnedTupleGo t2 it v = pure () := by intro _; rfl) :
    codeAny (model prog w) A (.compLoop (.ListComp elt [⟨t1, i1, [], 0⟩, ⟨t2, i2, [], 0⟩] scope pos) 1 it acc env) R s := by
  refine codeAny_loop rfl I (fun n s hI => ?_) n h
  show wpAny _ A ((compTurn (.ListComp elt [⟨t1, i1, [], 0⟩, ⟨t2, i2, [], 0⟩] scope pos) 1 it acc env).onRaise (fun x => do noteFrame x env; theTreesLotGoes x)) _ _ s
  refine wpAny_noted ?_
  rw [turn_inner]
  refine wpAny_bind (wpAny_standAt (wpAny_bind (wpAny_mono (turn n s hI _) (fun r s₁ h₁ => ?_) fun _ _ h' => h')))
  cases r with
  | none => exact wpAny_pure h₁
  | some v =>
    refine wpAny_bind (wpAny_of_eq (ht v) ?_)
    refine wpAny_bind (wpAny_mono h₁ (fun _ s₂ h₂ => ?_) fun _ _ h' => h')
    exact wpAny_bind (wpAny_bind (wpAny_mono h₂ (fun x s₃ h₃ => wpAny_bind (wpAny_mono h₃ (fun _ s₄ h₄ => wpAny_pure (wpAny_pure ⟨rfl, h₄⟩)) fun _ _ h' => h')) fun _ _ h' => h'))
theorem start_inner {elt t1 i1 t2 i2 : Expr} {scope : Scope} {pos : Pos} {it acc : Value}
    (h0 : codeAny (model prog w) A (.compLoop (.ListComp elt [⟨t1, i1, [], 0⟩, ⟨t2, i2, [], 0⟩] scope pos) 1 it acc env) R s)
    (h : ∀ E', wpAny (model prog w) A (pyIter it) (fun it' s' => codeAny (model prog w) A (.compLoop (.ListComp elt [⟨t1, i1, [], 0⟩, ⟨t2, i2, [], 0⟩] scope pos) 1 it' acc env) R s') E' s) :
    codeAny (model prog w) A (.compStart (.ListComp elt [⟨t1, i1, [], 0⟩, ⟨t2, i2, [], 0⟩] scope pos) 1 it acc env) R s := by
  refine codeAny_of_tree ?_
  show wpAny _ _ ((compStart (.ListComp elt [⟨t1, i1, [], 0⟩, ⟨t2, i2, [], 0⟩] scope pos) 1 it acc env).onRaise (fun x => do noteFrame x env; standAt theWindowsPlace)) _ _ s
  refine wpAny_notedAt ?_
  unfold compStart
  show wpAny _ _ (ask >>= _) _ _ s
  refine wpAny_bind (wpAny_askSetting (wpAny_ite ?_))
  split
  · first
      | exact wpAny_bind (wpAny_pure (wpAny_pure (And.intro rfl h0)))
      | exact wpAny_pure (And.intro rfl h0)
  · first
      | exact wpAny_bind (wpAny_rule (wpAny_bind (wpAny_standAt (wpAny_bind (wpAny_mono (h _) (fun it' s' h' => wpAny_pure (And.intro rfl h')) fun _ _ x => x)))))
      | (refine wpAny_bind (wpAny_rule ?_); show wpAny _ _ (standAt i2.pos >>= _) _ _ s; exact wpAny_bind (wpAny_standAt (wpAny_bind (wpAny_mono (h _) (fun it' s' h' => wpAny_pure (And.intro rfl h')) fun _ _ x => x))))
end
end
section
section
open LCg
variable {prog : Program} {w : World} {A : Around} {E : Value → Shared → Prop} {R : Result → Shared → Prop} {s : Shared} {env : Env}
theorem Kept.ext {g h h' : Heap} {a : Addr} (k : Kept g h) (x : Heap.ExtBut a h h') (ha : g.objs.size ≤ a) : Kept g h' := fun b o e =>
  x b o (fun q => by have := Heap.lt_size e; rw [q] at this; exact absurd this (Nat.not_lt.mpr ha)) (k b o e)
/-- what a comprehension over rows has in the heap -/
structure FlatAt (g h : Heap) (I C D Rs : Addr) (refs : List Value) (i : Nat) (ys : List Value) : Prop where
  keep : Kept g h
  itr : h.IsListIter I Rs i
  src : h.IsList Rs refs.toArray
  acc : h.get? D = some (lst ys)
  ns : ∃ m, h.Ns C m
  size : g.objs.size ≤ I ∧ g.objs.size ≤ C ∧ g.objs.size ≤ D
  ne : I ≠ C ∧ I ≠ D ∧ C ≠ D ∧ Rs ≠ I ∧ Rs ≠ C ∧ Rs ≠ D
theorem FlatAt.to {g h h' : Heap} {I C D Rs : Addr} {refs : List Value} {i : Nat} {ys : List Value} (x : FlatAt g h I C D Rs refs i ys) (k : ∀ b o, b = I ∨ b = C ∨ b = D ∨ b = Rs ∨ b < g.objs.size → h.get? b = some o → h'.get? b = some o) : FlatAt g h' I C D Rs refs i ys :=
  ⟨fun b o e => k b o (.inr (.inr (.inr (.inr (Heap.lt_size e))))) (x.keep b o e), x.itr.at fun o e => k _ o (.inl rfl) e, x.src.at fun o e => k _ o (.inr (.inr (.inr (.inl rfl)))) e,
   k _ _ (.inr (.inr (.inl rfl))) x.acc, (let ⟨m, hm⟩ := x.ns; ⟨m, hm.at fun o e => k _ o (.inr (.inl rfl)) e⟩), x.size, x.ne⟩
theorem FlatAt.lt {g h : Heap} {I C D Rs : Addr} {refs : List Value} {i : Nat} {ys : List Value} (x : FlatAt g h I C D Rs refs i ys) : I < h.objs.size ∧ C < h.objs.size ∧ D < h.objs.size ∧ Rs < h.objs.size := by
  obtain ⟨o, e, -⟩ := x.itr
  obtain ⟨o2, e2, -⟩ := x.src
  obtain ⟨m, hm⟩ := x.ns
  exact ⟨Heap.lt_size e, hm.lt, Heap.lt_size x.acc, Heap.lt_size e2⟩
theorem flat_inner {x y : Str} {px py px2 pe pos : Pos} {iter : Expr} {scope : Scope} {cl : List (Str × Addr)} {cenv : Env} {g : Heap} {gn : Array GenState} {dr : Drawn} {os : OsState} {tk₀ : Nat} {h : Heap} {I C D Rs Ar I2 : Addr} {refs vs ys : List Value} {i : Nat} {n : Nat} {K : Nat → Shared → Prop}
    (hh : A.handled = none) (hloc : cenv.locals = C) (hk : cenv.scope.kind = .function) (hy : cenv.kindOf y = some .local) (hp : (cenv.scope.kind == .class || (cenv.scope.kind == .module && cenv.locals != cenv.globals)) = false) (hd : (y == ("__debug__" : Str)) = false)
    (hl : g.IsList Ar vs.toArray) (hsz : ys.length + vs.length ≤ sizeLine) (hI2 : h.IsListIter I2 Ar 0) (hn2 : I2 ≠ I ∧ I2 ≠ C ∧ I2 ≠ D ∧ I2 ≠ Rs ∧ g.objs.size ≤ I2)
    (S : FlatAt g h I C D Rs refs (i + 1) ys) (hK : ∀ h' tk, FlatAt g h' I C D Rs refs (i + 1) (ys ++ vs) → K n ⟨h', gn, dr, tk, os⟩) :
    codeAny (model prog w) A (.compLoop (.ListComp (.Name y pe) [⟨.Name x px, iter, [], 0⟩, ⟨.Name y py, .Name x px2, [], 0⟩] scope pos) 1 (.ref I2) (.ref D) cenv) (fun r s₅ => match r with | .ok _ => K n s₅ | .error _ => False) ⟨h, gn, dr, tk₀, os⟩ := by
  subst hloc
  refine loop_inner (fun k s' => ∃ h' tk j, s' = ⟨h', gn, dr, tk, os⟩ ∧ k = vs.length + 1 - j ∧ j ≤ vs.length ∧ h'.IsListIter I2 Ar j ∧ FlatAt g h' I cenv.locals D Rs refs (i + 1) (ys ++ vs.take j)) ?_ (vs.length + 1) ⟨h, tk₀, 0, rfl, rfl, Nat.zero_le _, hI2, by rw [List.take_zero, List.append_nil]; exact S⟩
  rintro k s' ⟨h', tk, j, rfl, rfl, hj, hit, S'⟩ E'
  have hl' : h'.IsList Ar vs.toArray := hl.at fun o e => S'.keep _ _ e
  have hAr : Ar < g.objs.size := by obtain ⟨o, e, -⟩ := hl; exact Heap.lt_size e
  have off : ∀ b : Addr, b = I ∨ b = cenv.locals ∨ b = D ∨ b = Rs ∨ b < g.objs.size → b ≠ I2 := fun b hb q => by
    rcases hb with e | e | e | e | e
    · exact hn2.1 (q ▸ e)
    · exact hn2.2.1 (q ▸ e)
    · exact hn2.2.2.1 (q ▸ e)
    · exact hn2.2.2.2.1 (q ▸ e)
    · rw [q] at e; exact absurd e (Nat.not_lt.mpr hn2.2.2.2.2)
  by_cases hlt : j < vs.length
  · refine wpAny_pyNext_list_item hit hl' (x := vs[j]) (by simp [hlt]) fun h₂ hit₂ hs₂ => ?_
    have S₂ := S'.to fun b o hb e => hs₂.extBut b o (off b hb) e
    obtain ⟨m, hm⟩ := S₂.ns
    refine wpAny_assign_Name (wpAny_storeName_local hy hm (fun h₃ hn₃ hs₃ => ?_) hp)
    have hCg := S'.size.2.1
    have S₃ : FlatAt g h₃ I cenv.locals D Rs refs (i + 1) (ys ++ vs.take j) :=
      ⟨Kept.ext S₂.keep hs₃.extBut hCg, S₂.itr.extBut hs₃.extBut S'.ne.1, S₂.src.extBut hs₃.extBut S'.ne.2.2.2.2.1, hs₃.extBut _ _ (Ne.symm S'.ne.2.2.1) S₂.acc, ⟨_, hn₃⟩, S'.size, S'.ne⟩
    refine wpAny_Name (wpAny_loadName_local (v := vs[j]) hk hy hn₃ (if_pos rfl) ?_) hd
    refine append_at (its := (ys ++ vs.take j).toArray) S₃.acc (fun h₄ hs₄ hD₄ => ?_) (by rw [List.size_toArray, List.length_append, List.length_take]; omega)
    obtain ⟨m₃, hm₃⟩ := S₃.ns
    refine ⟨vs.length + 1 - (j + 1), by omega, h₄, _, j + 1, rfl, rfl, hlt, ?_, ?_⟩
    · exact (hit₂.extBut hs₃.extBut hn2.2.1).extBut hs₄.extBut hn2.2.2.1
    · refine ⟨Kept.ext S₃.keep hs₄.extBut S'.size.2.2, S₃.itr.extBut hs₄.extBut S'.ne.2.1, S₃.src.extBut hs₄.extBut S'.ne.2.2.2.2.2, ?_, ⟨_, hm₃.sameBut hs₄ S'.ne.2.2.1⟩, S'.size, S'.ne⟩
      refine hD₄.trans (congrArg some ?_)
      rw [lst_snoc (ys ++ vs.take j) vs[j], List.append_assoc, List.take_append_getElem hlt]
  · have hj' : j = vs.length := by omega
    subst hj'
    refine wpAny_pyNext_list_end hh hit hl' (by simp) fun h₂ hs₂ => ?_
    rw [List.take_length] at S'
    exact hK h₂ tk (S'.to fun b o hb e => hs₂ b o (off b hb) e)
theorem flatten_snoc {α : Type} : ∀ {vss : List (List α)} {i : Nat} {vs : List α}, vss[i]? = some vs → (vss.take (i + 1)).flatten = (vss.take i).flatten ++ vs ∧ (vss.take i).flatten.length + vs.length ≤ vss.flatten.length := by
  intro vss
  induction vss with
  | nil => exact fun h => nomatch h
  | cons a r ih =>
    intro i vs h
    cases i with
    | zero =>
      cases Option.some.inj h
      rw [List.take_succ_cons, List.take_zero, List.take_zero, List.flatten_cons, List.flatten_cons, List.length_append]
      exact ⟨by rw [List.flatten_nil, List.append_nil, List.nil_append], by rw [List.flatten_nil, List.length_nil, Nat.zero_add]; exact Nat.le_add_right _ _⟩
    | succ i =>
      obtain ⟨h1, h2⟩ := ih (i := i) h
      rw [List.take_succ_cons, List.flatten_cons, h1, List.take_succ_cons, List.flatten_cons, List.append_assoc, List.length_append, List.flatten_cons, List.length_append, Nat.add_assoc]
      exact ⟨rfl, Nat.add_le_add_left h2 _⟩
/-- `[y for x in ROWS for y in x]` -/
theorem flat_comp {x y : Str} {px py px2 pe pos : Pos} {iter : Expr} {scope : Scope} {cl : List (Str × Addr)} {Q : Value → Shared → Prop}
    (hh : A.handled = none) (hclos : closureFor scope env = pure cl) (hcell : ∀ y ∈ scope.names, y.2 ≠ .cell) (hkind : scope.kind = .function)
    (hnames : ∀ y ∈ scope.names, y.2 = .local → scope.names.lookup y.1 = some .local) (hx : scope.names.lookup x = some .local) (hy : scope.names.lookup y = some .local)
    (hdx : (x == ("__debug__" : Str)) = false) (hdy : (y == ("__debug__" : Str)) = false)
    (h : wpAny (model prog w) A (eval iter env) (fun xv s₁ => ∃ (Rs : Addr) (refs : List Value) (vss : List (List Value)), xv = .ref Rs ∧ s₁.heap.IsList Rs refs.toArray ∧ refs.length ≤ sizeLine ∧ vss.flatten.length ≤ sizeLine ∧ refs.length = vss.length ∧
      (∀ (i : Nat) vs, vss[i]? = some vs → ∃ Ar, refs[i]? = some (.ref Ar) ∧ s₁.heap.IsList Ar vs.toArray) ∧
      ∀ D h' tk, Kept s₁.heap h' → h'.get? D = some (lst vss.flatten) → s₁.heap.get? D = none → s₁.heap.objs.size ≤ D → Q (.ref D) { s₁ with heap := h', toks := tk }) E s)
    (hs : ∀ x, foldedSetIterable iter env x = pure x := by intro _; rfl) :
    wpAny (model prog w) A (eval (.ListComp (.Name y pe) [⟨.Name x px, iter, [], 0⟩, ⟨.Name y py, .Name x px2, [], 0⟩] scope pos) env) Q E s := by
  rw [eval_ListComp]
  refine wpAny_comprehension_free (use := none) rfl hs hclos hkind hnames (wpAny_mono h (fun xv s₁ h₁ => ?_) fun _ _ e => e)
  obtain ⟨Rs, refs, vss, rfl, hl, hrz, hfz, hlen, hrows, hQ⟩ := h₁
  obtain ⟨g, gn, dr, tk₀, os⟩ := s₁
  dsimp only at hl hrows hQ
  have hRs : @LT.lt Nat _ Rs g.objs.size := by obtain ⟨o, e, -⟩ := hl; exact Heap.lt_size e
  refine wpAny_pyIter_list hl ?_
  refine wpAny_newObj_type (wpAny_newFunctionEnv hcell (by intro y hy; simp at hy) (fun h₁ hns₁ hsb₁ => ?_) hkind)
  dsimp only at hns₁ hsb₁ ⊢
  have hg1 : ∀ o : Obj, (g.push o).objs.size = g.objs.size + 1 := fun o => Heap.size_push ..
  generalize hH1 : g.push { cls := .type "list_iterator", data := .fields #[.ref Rs, .int 0 0] } = H1 at hns₁ hsb₁ ⊢
  have z1 : H1.objs.size = g.objs.size + 1 := by rw [← hH1, hg1]
  generalize hH2 : H1.push { cls := .type "list", dict := none, data := .seq ([] : List Value).toArray } = H2 at hns₁ hsb₁ ⊢
  have z2 : H2.objs.size = g.objs.size + 2 := by rw [← hH2, Heap.size_push, z1]
  have up : ∀ b o, b ≠ H2.objs.size → H2.get? b = some o → h₁.get? b = some o := fun b o hb e => hsb₁.extBut b o hb (Heap.get?_push_of_some _ e)
  have upg : Kept g H2 := fun b o e => by rw [← hH2]; refine Heap.get?_push_of_some _ ?_; rw [← hH1]; exact Heap.get?_push_of_some _ e
  have S₀ : FlatAt g h₁ g.objs.size H2.objs.size H1.objs.size Rs refs 0 [] := by
    refine ⟨fun b o e => up b o ?_ (upg b o e), ⟨{ cls := .type "list_iterator", data := .fields #[.ref Rs, .int 0 0] }, up _ _ ?_ ?_, rfl, rfl⟩, hl.at fun o e => up _ o ?_ (upg _ o e), up _ _ ?_ ?_, ⟨_, hns₁⟩, ?_, ?_⟩
    · intro q; exact absurd (Heap.lt_size e) (Nat.not_lt.mpr (by rw [q, z2]; exact Nat.le_add_right _ _))
    · rw [z2]; exact Nat.ne_of_lt (by omega)
    · rw [← hH2]; refine Heap.get?_push_of_some _ ?_; rw [← hH1]; exact Heap.get?_push_size _ rfl
    · rw [z2]; exact Nat.ne_of_lt (by omega)
    · rw [z2, z1]; exact Nat.ne_of_lt (by omega)
    · rw [← hH2]; exact Heap.get?_push_size _ rfl
    · exact ⟨Nat.le_refl _, by rw [z2]; omega, by rw [z1]; omega⟩
    · rw [z1, z2]; exact ⟨Nat.ne_of_lt (by omega), Nat.ne_of_lt (by omega), Nat.ne_of_gt (by omega), Nat.ne_of_lt (by omega), Nat.ne_of_lt (by omega), Nat.ne_of_lt (by omega)⟩
  have dfree : ∀ h' : Heap, g.get? H1.objs.size = none := fun _ => by
    cases e : g.get? H1.objs.size with
    | none => rfl
    | some o => exact absurd (Heap.lt_size e) (Nat.not_lt.mpr (by rw [z1]; exact Nat.le_succ _))
  show codeAny (model prog w) A (.compStart _ 0 _ (.ref H1.objs.size) (compEnvC scope cl H2.objs.size env)) (compPost _ _ _ _ _ (.ref H1.objs.size) H2.objs.size) _
  generalize hI : g.objs.size = I at *
  generalize hC : H2.objs.size = C at *
  generalize hD : H1.objs.size = D at *
  generalize hct : compEnvC scope cl C env = cenv
  have c1 : cenv.locals = C := by rw [← hct]; rfl
  have c2 : cenv.scope.kind = .function := by rw [← hct]; exact hkind
  have c3 : cenv.kindOf x = some .local := by rw [← hct]; exact lookup_relabel_local hx
  have c4 : cenv.kindOf y = some .local := by rw [← hct]; exact lookup_relabel_local hy
  have c5 : (cenv.scope.kind == .class || (cenv.scope.kind == .module && cenv.locals != cenv.globals)) = false := by rw [← hct]; simp [compEnvC, relabel, hkind]
  clear hct
  have loop : codeAny (model prog w) A (.compLoop (.ListComp (.Name y pe) [⟨.Name x px, iter, [], 0⟩, ⟨.Name y py, .Name x px2, [], 0⟩] scope pos) 0 (.ref I) (.ref D) cenv)
      (compPost (model prog w) A E none Q (.ref D) C) ⟨h₁, gn, dr, tk₀ + ([] : List (Str × Value)).length, os⟩ := by
    refine loop_outer (fun k s' => ∃ h' tk i, s' = ⟨h', gn, dr, tk, os⟩ ∧ k = vss.length + 1 - i ∧ i ≤ vss.length ∧ FlatAt g h' I C D Rs refs i (vss.take i).flatten) ?_ (vss.length + 1) ⟨h₁, _, 0, rfl, rfl, Nat.zero_le _, S₀⟩
    rintro k s' ⟨h', tk, i, rfl, rfl, hi, S⟩ E'
    by_cases hlt : i < vss.length
    · obtain ⟨Ar, hAr, hlA⟩ := hrows i vss[i] (List.getElem?_eq_getElem hlt)
      obtain ⟨f1, f2⟩ := flatten_snoc (vss := vss) (i := i) (List.getElem?_eq_getElem hlt)
      refine wpAny_pyNext_list_item S.itr S.src (x := .ref Ar) (by simpa using hAr) fun h₂ hit₂ hs₂ => ?_
      have S₂ : FlatAt g h₂ I C D Rs refs (i + 1) (vss.take i).flatten := by
        obtain ⟨m, hm⟩ := S.ns
        exact ⟨Kept.ext S.keep hs₂.extBut S.size.1, hit₂, S.src.extBut hs₂.extBut S.ne.2.2.2.1, hs₂.extBut _ _ (Ne.symm S.ne.2.1) S.acc, ⟨_, hm.sameBut hs₂ (Ne.symm S.ne.1)⟩, S.size, S.ne⟩
      obtain ⟨m, hm⟩ := S₂.ns
      subst c1
      refine wpAny_assign_Name (wpAny_storeName_local c3 hm (fun h₃ hn₃ hs₃ => ?_) c5)
      have S₃ : FlatAt g h₃ I cenv.locals D Rs refs (i + 1) (vss.take i).flatten :=
        ⟨Kept.ext S₂.keep hs₃.extBut S.size.2.1, S₂.itr.extBut hs₃.extBut S.ne.1, S₂.src.extBut hs₃.extBut S.ne.2.2.2.2.1, hs₃.extBut _ _ (Ne.symm S.ne.2.2.1) S₂.acc, ⟨_, hn₃⟩, S.size, S.ne⟩
      refine wpAny_Name (wpAny_loadName_local (v := .ref Ar) c2 c3 hn₃ (if_pos rfl) ?_) hdx
      have hlA₃ : h₃.IsList Ar vss[i].toArray := hlA.at fun o e => S₃.keep _ _ e
      refine wpAny_pyIter_list hlA₃ ?_
      have S₄ : FlatAt g (h₃.push { cls := .type "list_iterator", data := .fields #[.ref Ar, .int 0 0] }) I cenv.locals D Rs refs (i + 1) (vss.take i).flatten := S₃.to fun b o _ e => Heap.get?_push_of_some _ e
      obtain ⟨q1, q2, q3, q4⟩ := S₃.lt
      have hit0 : (h₃.push { cls := .type "list_iterator", data := .fields #[.ref Ar, .int 0 0] }).IsListIter h₃.objs.size Ar 0 := ⟨_, Heap.get?_push_size _ rfl, rfl, rfl⟩
      have fin := flat_inner (prog := prog) (w := w) (A := A) (x := x) (px := px) (py := py) (px2 := px2) (pe := pe) (pos := pos) (iter := iter) (scope := scope) (cl := cl) (tk₀ := tk + 1) (gn := gn) (dr := dr) (os := os) (n := vss.length + 1 - i) (K := fun n s₅ => ∃ m, m < n ∧ ∃ h' tk i, s₅ = ⟨h', gn, dr, tk, os⟩ ∧ m = vss.length + 1 - i ∧ i ≤ vss.length ∧ FlatAt g h' I cenv.locals D Rs refs i (vss.take i).flatten)
        hh rfl c2 c4 c5 hdy hlA (Nat.le_trans f2 hfz) hit0 ⟨Ne.symm (Nat.ne_of_lt q1), Ne.symm (Nat.ne_of_lt q2), Ne.symm (Nat.ne_of_lt q3), Ne.symm (Nat.ne_of_lt q4), Nat.le_trans S.size.1 (Nat.le_of_lt q1)⟩ S₄
        (fun h₅ tk₅ S₅ => ⟨vss.length + 1 - (i + 1), by omega, h₅, tk₅, i + 1, rfl, rfl, hlt, by rw [f1]; exact S₅⟩)
      exact start_inner fin fun E'' => wpAny_pyIter_listiter hit0 fin
    · have hi' : i = vss.length := by omega
      subst hi'
      rw [List.take_length] at S
      refine wpAny_pyNext_list_end hh S.itr S.src (by rw [← hlen]; simp) fun h₂ hs₂ => ?_
      obtain ⟨m, hm⟩ := S.ns
      refine ⟨m, hm.at fun o e => hs₂ _ o (Ne.symm S.ne.1) e, fun h₃ hs₃ => ?_⟩
      refine hQ D h₃ _ (Kept.ext (Kept.ext S.keep hs₂ S.size.1) hs₃.extBut S.size.2.1) ?_ (dfree h₃) (hI ▸ S.size.2.2)
      exact hs₃.extBut _ _ (Ne.symm S.ne.2.2.1) (hs₂ _ _ (Ne.symm S.ne.2.1) S.acc)
  exact codeAny_compStart_list loop (wpAny_pyIter_listiter S₀.itr loop)
end
end
theorem top_off : True := by w_top off; trivial
local macro_rules | `(tactic| k_all) => `(tactic| assumption)
local macro_rules | `(tactic| k_ne) => `(tactic| (refine neN ?_; (try dsimp only); (first | assumption | (refine Ne.symm ?_; assumption) | (refine Nat.ne_of_lt ?_; (first | assumption | (apply And.left; (iterate 14 (first | done | assumption | apply And.right)); done))) | (refine Nat.ne_of_gt ?_; (first | assumption | (apply And.left; (iterate 14 (first | done | assumption | apply And.right)); done))) | omega)))
section
def stripP : List Nat → List Nat → List Nat × List Nat
  | x :: xs, y :: ys => if x = y then stripP xs ys else (x :: xs, y :: ys)
  | a, b => (a, b)
theorem stripP_nil_l (b : List Nat) : stripP [] b = ([], b) := by unfold stripP; rfl
theorem stripP_nil_r (a : List Nat) : stripP a [] = (a, []) := by cases a <;> rfl
theorem stripP_step {a b : List Nat} {k : Nat} (ha : k < a.length) (hb : k < b.length) (h : a.getD k 0 = b.getD k 0) : stripP (a.drop (k + 1)) (b.drop (k + 1)) = stripP (a.drop k) (b.drop k) := by
  rw [List.drop_eq_getElem_cons ha, List.drop_eq_getElem_cons hb]
  have : a[k] = b[k] := by simpa [List.getD_eq_getElem?_getD, ha, hb] using h
  conv => rhs; unfold stripP
  rw [if_pos this]
theorem stripP_stop {a b : List Nat} {k : Nat} (h : a.length ≤ k ∨ b.length ≤ k ∨ a.getD k 0 ≠ b.getD k 0) : stripP (a.drop k) (b.drop k) = (a.drop k, b.drop k) := by
  by_cases ha : k < a.length
  · by_cases hb : k < b.length
    · have h' : a.getD k 0 ≠ b.getD k 0 := by rcases h with h | h | h <;> first | omega | exact h
      rw [List.drop_eq_getElem_cons ha, List.drop_eq_getElem_cons hb]
      have : a[k] ≠ b[k] := by simpa [List.getD_eq_getElem?_getD, ha, hb] using h'
      unfold stripP
      rw [if_neg this]
    · rw [List.drop_eq_nil_of_le (by omega : b.length ≤ k), stripP_nil_r]
  · rw [List.drop_eq_nil_of_le (by omega : a.length ≤ k), stripP_nil_l]

theorem rev_get {a b : List Nat} {k : Nat} (ha : k < a.length) (hb : k < b.length) (h : a.getD (a.length - (k + 1)) 0 = b.getD (b.length - (k + 1)) 0) : a.reverse.getD k 0 = b.reverse.getD k 0 := by
  simp only [List.getD_eq_getElem?_getD, List.getElem?_reverse ha, List.getElem?_reverse hb] at h ⊢
  rw [show a.length - 1 - k = a.length - (k + 1) by omega, show b.length - 1 - k = b.length - (k + 1) by omega]
  exact h
theorem rev_ne {a b : List Nat} {k : Nat} (ha : k < a.length) (hb : k < b.length) (h : a.getD (a.length - (k + 1)) 0 ≠ b.getD (b.length - (k + 1)) 0) : a.reverse.getD k 0 ≠ b.reverse.getD k 0 := by
  simp only [List.getD_eq_getElem?_getD, List.getElem?_reverse ha, List.getElem?_reverse hb] at h ⊢
  rw [show a.length - 1 - k = a.length - (k + 1) by omega, show b.length - 1 - k = b.length - (k + 1) by omega]
  exact h
theorem rev_drop_rev (l : List Nat) (j : Nat) : (l.reverse.drop j).reverse = l.take (l.length - j) := by
  rw [List.drop_reverse, List.reverse_reverse]
theorem getD_mem {l : List Nat} {i : Nat} (h : i < l.length) : l.getD i 0 ∈ l := by
  rw [List.getD_eq_getElem?_getD, List.getElem?_eq_getElem h]
  exact List.getElem_mem h

set_option maxRecDepth 100000 in
set_option maxHeartbeats 8000000 in
theorem subst_spec {w : World} {mg mb : Str → Option Value} {mean : ExcName → Option Value} {s : Shared} (G : Cx w mg mb mean s.heap) {a b : Nat} {ta tb : Tok} {Q : Value → Shared → Prop} {E : Value → Shared → Prop}
    (ha : Ab a) (hb : Ab b)
    (hQ : ∀ n t h' tk, n = (if a = b then 0 else 2) → Kept s.heap h' → Q (.int n t) { s with heap := h', toks := tk }) :
    wpAny (model PP w) (Lv 330) (call (.ref 21) [.str (sg a) ta, .str (sg b) tb]) Q E s := by
  obtain ⟨X, T⟩ := G
  (refine' call_own (by assumption) (Top.nolimit (by assumption)) ?ho ?hcd ?hb ?hl ?hc ?_ ?hr ?h1 ?h2 ?h3; (case ho => k_is); (case hcd => k_is); (case hb => exact BindsTo.of_eq rfl); (case hl => exact locs rfl); (case hc => decide); (case hr => decide); (case h1 => exact rfl); (case h2 => exact rfl); (case h3 => exact rfl))
  intro L h₁ tk F N
  have la : (sg a).length ≤ 1 := Nat.le_refl _
  have lb : (sg b).length ≤ 1 := Nat.le_refl _
  have lwa : Txt.lower (sg a) = sg a := by rcases ha with rfl | rfl | rfl <;> decide +kernel
  have lwb : Txt.lower (sg b) = sg b := by rcases hb with rfl | rfl | rfl <;> decide +kernel
  ((try dsimp only); repeat' (first | (with_reducible refine wpAny_execs_cons ?_) | (with_reducible refine wpAny_execs_nil ?_) | (with_reducible refine wpAny_If ?_) | ((with_reducible show wpAny _ _ (PySem.truthy (Value.str _ _)) _ _ _); refine SBL.truthy (by omega) ?_) | ( (fail_if_success (with_reducible first | show LCg.CompSrc _ _ _ _ _ _ _ _ _ _ _ _ _ _ | show LCt.CompSrcT _ _ _ _ _ _ _ _ _ _ _ _ _ _ _ | show LCp.SrcLP _ _ _ _ _ _ _ _ _ _ _ _ _ _ _ | show LCg.CompEnd _ _ _ _ _ _ _ _ _ _ _ _ _ _ | show WEnd _ _ _ _ _ _ _ _ _ _ | show After _ _ _ _ _ _ _ _ _ | show TEnd _ _ _ _ _ _ _ _ _ | show TPost _ _ _ _ _ _ _ _ _ _ _ | show wpAny _ _ (eval (Expr.ListComp _ _ _ _) _) _ _ _ | show wpAny _ _ (exec (Stmt.For _ _ _ _ _) _) _ _ _ | show wpAny _ _ (exec (Stmt.While _ _ _ _) _) _ _ _ | show wpAny _ _ (exec (Stmt.Assign _ (Expr.ListComp _ _ _ _) _) _) _ _ _ | show wpAny _ _ (call (Value.builtin "str.join") _) _ _ _ | show wpAny _ _ (compareOp _ (Value.ref _) (Value.ref _)) _ _ _ | show wpAny _ _ (call (Value.ref _) _) _ _ _)); first | walk1 | (dsimp only; walk1))))
  · rename (_ == _) = true => e
    exact hQ _ _ _ _ (if_pos (sg_inj.mp (by simpa using e))).symm F.keep
  · exfalso
    simp_all
  · rename (sg a == sg b) = false => e
    exact hQ _ _ _ _ (if_neg (fun q => by rw [q] at e; simp at e)).symm F.keep

end
section
def cost (x y : Nat) : Int := if x = y then 0 else 2
/-- min of two, as Python has it -/
def pyMin (a b : Int) : Int := if b < a then b else a
def innerF (bc : Nat) (al : List Nat) (st : List Int × Int × Int × Int) (i : Nat) : List Int × Int × Int × Int :=
  let sub := st.2.1 + cost bc (al.getD i 0)
  let d := st.1.getD i 0
  let r := pyMin (pyMin st.2.2.1 d + 2) sub
  (st.1.set i r, d, r, if r < st.2.2.2 then r else st.2.2.2)
def outerGo (al bl : List Nat) (mx : Int) : Nat → Nat → List Int → Int → Int
  | 0, _, _, res => res
  | n + 1, j, row, _ =>
    let st := (List.range al.length).foldl (innerF (bl.getD j 0) al) (row, (j : Int) * 2, (j : Int) * 2, 9223372036854775807)
    if st.2.2.2 > mx then mx + 1 else outerGo al bl mx n (j + 1) st.1 st.2.2.1
def stripS (a b : List Nat) : List Nat × List Nat := let p := stripP a.reverse b.reverse; (p.1.reverse, p.2.reverse)
def coreF (x y : List Nat) (mx : Int) : Int :=
  if ((y.length : Int) - x.length) * 2 > mx then mx + 1 else outerGo x y mx y.length 0 ((List.range x.length).map fun (i : Nat) => 2 * ((i : Int) + 1)) 0
def levF (a b : List Nat) (mx : Int) : Int :=
  if a = b then 0 else
  let q := stripS (stripP a b).1 (stripP a b).2
  if q.1 = [] ∨ q.2 = [] then 2 * ((q.1.length : Int) + q.2.length) else
  if q.2.length < q.1.length then coreF q.2 q.1 mx else coreF q.1 q.2 mx

/-- the inner loop's word: the row, the distance, the result, the minimum, behind i turns -/
inductive LiJ (x y : Str) (bc : Nat) (ta tb tc tm : Tok) (mx : Int) (I' R : Addr) (o' : Obj) (row : List Int) (d₀ r₀ mn₀ : Int) (i : Nat) (m' : Str → Option Value) (news' : List (Addr × Obj)) : Prop
  | mk (vs' : List Value) (k' : Nat) (d r mn : Int) (t1 t2 t3 : Tok) (row' : List Int) (e : news' = [(I', o'), (R, listOf vs'.toArray k')]) (hv : IntsAre vs' row')
      (hs : Has m' [("a", .str x ta), ("bchar", .str (sg bc) tc), ("distance", .int d t1), ("result", .int r t2), ("minimum", .int mn t3), ("b", .str y tb), ("max_cost", .int mx tm), ("row", .ref R)])
      (hf : (row', d, r, mn) = (List.range i).foldl (innerF bc (cl x)) (row, d₀, r₀, mn₀)) (hr : row'.length = x.length)
/-- the outer loop's word -/
inductive LoJ (x y : Str) (ta tb tm : Tok) (mx : Int) (D : Addr) (row₀ : List Int) (j : Nat) (m' : Str → Option Value) (news' : List (Addr × Obj)) : Prop
  | mk (vs' : List Value) (k' : Nat) (r : Int) (t : Tok) (row' : List Int) (e : news' = [(D, listOf vs'.toArray k')]) (hv : IntsAre vs' row') (hr : row'.length = x.length)
      (hs : Has m' [("a", .str x ta), ("b", .str y tb), ("max_cost", .int mx tm), ("row", .ref D), ("result", .int r t)])
      (hf : outerGo (cl x) (cl y) mx (y.length - j) j row' r = outerGo (cl x) (cl y) mx (cl y).length 0 row₀ 0)

set_option maxRecDepth 100000 in
set_option maxHeartbeats 8000000 in
theorem lev_inner {w : World} {mg mb : Str → Option Value} {mean : ExcName → Option Value} {h₀ hp : Heap} {gn : Array GenState} {dr : Drawn} {tk₀ : Nat} {os : OsState} (G : Cx w mg mb mean h₀) {L : Addr} {m : Str → Option Value}
    {x y : Str} {bc : Nat} {ta tb tc t1 t2 t3 tm : Tok} {mx d₀ r₀ mn₀ : Int} {I' R : Addr} {o' : Obj} {vs : List Value} {k : Nat} {row : List Int}
    (hx : x.length ≤ 3) (ax : Abs x) (hbc : Ab bc) (hI : R ≠ I') (hv : IntsAre vs row) (hr : row.length = x.length)
    (F : Fr h₀ L hp m) (N : News h₀ L hp [(I', o'), (R, listOf vs.toArray k)])
    (hs : Has m [("a", .str x ta), ("bchar", .str (sg bc) tc), ("distance", .int d₀ t1), ("result", .int r₀ t2), ("minimum", .int mn₀ t3), ("b", .str y tb), ("max_cost", .int mx tm), ("row", .ref R)]) {Q : Flow → Shared → Prop} :
    wpAny (model PP w) (Lv 321) (exec (stAt (inOf (stAt (fnStmts 5) 15)) 3) (envOf "_levenshtein_distance" (fnScope 5) L 28 (.ref 27)))
      (After h₀ L gn dr os (LiJ x y bc ta tb tc tm mx I' R o' row d₀ r₀ mn₀ x.length) Q) (fun _ _ => False) ⟨hp, gn, dr, tk₀, os⟩ := by
  obtain ⟨X, T⟩ := G
  (conv => (arg 3; congr; · whnf; · (arg 2; whnf)))
  replace F := frOver _ F hs
  have hxl := len_cl x
  refine for_in ?_
  ((try dsimp only); repeat' (first | (with_reducible refine wpAny_execs_cons ?_) | (with_reducible refine wpAny_execs_nil ?_) | (with_reducible refine wpAny_If ?_) | ((with_reducible show wpAny _ _ (PySem.truthy (Value.str _ _)) _ _ _); refine SBL.truthy (by omega) ?_) | ( (fail_if_success (with_reducible first | show LCg.CompSrc _ _ _ _ _ _ _ _ _ _ _ _ _ _ | show LCt.CompSrcT _ _ _ _ _ _ _ _ _ _ _ _ _ _ _ | show LCp.SrcLP _ _ _ _ _ _ _ _ _ _ _ _ _ _ _ | show LCg.CompEnd _ _ _ _ _ _ _ _ _ _ _ _ _ _ | show WEnd _ _ _ _ _ _ _ _ _ _ | show After _ _ _ _ _ _ _ _ _ | show TEnd _ _ _ _ _ _ _ _ _ | show TPost _ _ _ _ _ _ _ _ _ _ _ | show wpAny _ _ (eval (Expr.ListComp _ _ _ _) _) _ _ _ | show wpAny _ _ (exec (Stmt.For _ _ _ _ _) _) _ _ _ | show wpAny _ _ (exec (Stmt.While _ _ _ _) _) _ _ _ | show wpAny _ _ (exec (Stmt.Assign _ (Expr.ListComp _ _ _ _) _) _) _ _ _ | show wpAny _ _ (call (Value.builtin "str.join") _) _ _ _ | show wpAny _ _ (compareOp _ (Value.ref _) (Value.ref _)) _ _ _ | show wpAny _ _ (call (Value.ref _) _) _ _ _)); first | walk1 | (dsimp only; walk1))))
  rename IsRange _ _ _ _ _ _ _ _ => hR
  rename Fr _ _ _ _ => F
  rename News _ _ _ _ => N
  refine for_range (n := x.length) (LiJ x y bc ta tb tc tm mx I' R o' row d₀ r₀ mn₀) rfl hR (small_one (by omega) (by omega) (by omega) (by omega)) (by rw [rangeSize_nat]; omega) rfl rfl F N ?_ ?_ ?_ <;> clear F N hR
  · exact ⟨vs, k, d₀, r₀, mn₀, _, _, _, row, rfl, hv, ⟨rfl, rfl, rfl, rfl, rfl, rfl, rfl, rfl, trivial⟩, rfl, hr⟩
  · rintro i t m₁ _ I h tk o hi ⟨vs', k', d, r, mn, t1, t2, t3, row', rfl, hv', hs', hf, hr'⟩ hne F N
    replace F := frOverX _ F hs'
    have hI := neN hI
    have hRI := neN (hne _ (.tail _ (.head _)))
    have hII := neN (hne _ (.head _))
    rw [Int.zero_add] at F
    ((try dsimp only); repeat' (first | (with_reducible refine wpAny_execs_cons ?_) | (with_reducible refine wpAny_execs_nil ?_) | (with_reducible refine wpAny_If ?_) | ((with_reducible show wpAny _ _ (PySem.truthy (Value.str _ _)) _ _ _); refine SBL.truthy (by omega) ?_) | ( (fail_if_success (with_reducible first | show LCg.CompSrc _ _ _ _ _ _ _ _ _ _ _ _ _ _ | show LCt.CompSrcT _ _ _ _ _ _ _ _ _ _ _ _ _ _ _ | show LCp.SrcLP _ _ _ _ _ _ _ _ _ _ _ _ _ _ _ | show LCg.CompEnd _ _ _ _ _ _ _ _ _ _ _ _ _ _ | show WEnd _ _ _ _ _ _ _ _ _ _ | show After _ _ _ _ _ _ _ _ _ | show TEnd _ _ _ _ _ _ _ _ _ | show TPost _ _ _ _ _ _ _ _ _ _ _ | show wpAny _ _ (eval (Expr.ListComp _ _ _ _) _) _ _ _ | show wpAny _ _ (exec (Stmt.For _ _ _ _ _) _) _ _ _ | show wpAny _ _ (exec (Stmt.While _ _ _ _) _) _ _ _ | show wpAny _ _ (exec (Stmt.Assign _ (Expr.ListComp _ _ _ _) _) _) _ _ _ | show wpAny _ _ (call (Value.builtin "str.join") _) _ _ _ | show wpAny _ _ (compareOp _ (Value.ref _) (Value.ref _)) _ _ _ | show wpAny _ _ (call (Value.ref _) _) _ _ _)); first | walk1 | (dsimp only; walk1))))
    rw [item_at x i hi]
    refine weaken (subst_spec (Cx.keeps ⟨X, T⟩ F.keep) hbc (ax _ (getD_mem (by omega))) ?_)
    intro c tc' h₂ tk₂ hc hk
    replace F := frKept F hk
    replace N := newsKept N hk
    clear hk
    ((try dsimp only); repeat' (first | (with_reducible refine wpAny_execs_cons ?_) | (with_reducible refine wpAny_execs_nil ?_) | (with_reducible refine wpAny_If ?_) | ((with_reducible show wpAny _ _ (PySem.truthy (Value.str _ _)) _ _ _); refine SBL.truthy (by omega) ?_) | ( (fail_if_success (with_reducible first | show LCg.CompSrc _ _ _ _ _ _ _ _ _ _ _ _ _ _ | show LCt.CompSrcT _ _ _ _ _ _ _ _ _ _ _ _ _ _ _ | show LCp.SrcLP _ _ _ _ _ _ _ _ _ _ _ _ _ _ _ | show LCg.CompEnd _ _ _ _ _ _ _ _ _ _ _ _ _ _ | show WEnd _ _ _ _ _ _ _ _ _ _ | show After _ _ _ _ _ _ _ _ _ | show TEnd _ _ _ _ _ _ _ _ _ | show TPost _ _ _ _ _ _ _ _ _ _ _ | show wpAny _ _ (eval (Expr.ListComp _ _ _ _) _) _ _ _ | show wpAny _ _ (exec (Stmt.For _ _ _ _ _) _) _ _ _ | show wpAny _ _ (exec (Stmt.While _ _ _ _) _) _ _ _ | show wpAny _ _ (exec (Stmt.Assign _ (Expr.ListComp _ _ _ _) _) _) _ _ _ | show wpAny _ _ (call (Value.builtin "str.join") _) _ _ _ | show wpAny _ _ (compareOp _ (Value.ref _) (Value.ref _)) _ _ _ | show wpAny _ _ (call (Value.ref _) _) _ _ _)); first | walk1 | (dsimp only; walk1))))
    · rename _ < mn => hlt
      subst hc
      simp only [Int.toNat_natCast] at hlt
      exact TEnd.intro [(I', o'), (R, _)] (by assumption) (by assumption) (by intro p hp; exact hp) (by simp [hRI, hII]) ⟨_, _, _, _, _, _, _, _, _, rfl, by assumption, ⟨rfl, rfl, rfl, rfl, rfl, rfl, rfl, rfl, trivial⟩, by
        rw [List.range_succ, List.foldl_append, ← hf]
        simp only [List.foldl_cons, List.foldl_nil, innerF, pyMin, cost, Int.toNat_natCast]
        rw [if_pos hlt], by simp [hr']⟩
    · rename ¬ _ < mn => hlt
      subst hc
      simp only [Int.toNat_natCast] at hlt
      exact TEnd.intro [(I', o'), (R, _)] (by assumption) (by assumption) (by intro p hp; exact hp) (by simp [hRI, hII]) ⟨_, _, _, _, _, _, _, _, _, rfl, by assumption, ⟨rfl, rfl, rfl, rfl, rfl, rfl, rfl, rfl, trivial⟩, by
        rw [List.range_succ, List.foldl_append, ← hf]
        simp only [List.foldl_cons, List.foldl_nil, innerF, pyMin, cost, Int.toNat_natCast]
        rw [if_neg hlt], by simp [hr']⟩
  · exact fun m₁ _ h tk hJ F N => After.next F N hJ

set_option maxRecDepth 100000 in
set_option maxHeartbeats 8000000 in
theorem lev_core {w : World} {mg mb : Str → Option Value} {mean : ExcName → Option Value} {h₀ hp : Heap} {gn : Array GenState} {dr : Drawn} {tk₀ : Nat} {os : OsState} (G : Cx w mg mb mean h₀) {L : Addr} {m : Str → Option Value}
    {x y : Str} {ta tb tm : Tok} {mx : Int} (hx : x.length ≤ 3) (hy : y.length ≤ 3) (ax : Abs x) (ay : Abs y) (hm : 0 ≤ mx) (hm' : mx ≤ 20)
    (F : Fr h₀ L hp m) (hs : Has m [("a", .str x ta), ("b", .str y tb), ("max_cost", .int mx tm)]) {Q : Flow → Shared → Prop}
    (hQ : ∀ n t h' tk, n = outerGo (cl x) (cl y) mx (cl y).length 0 ((List.range (cl x).length).map fun (i : Nat) => 2 * ((i : Int) + 1)) 0 → Kept h₀ h' → Q (.ret (.int n t)) ⟨h', gn, dr, tk, os⟩) :
    wpAny (model PP w) (Lv 321) (execs ((fnStmts 5).drop 13) (envOf "_levenshtein_distance" (fnScope 5) L 28 (.ref 27))) Q (fun _ _ => False) ⟨hp, gn, dr, tk₀, os⟩ := by
  have G' := G
  obtain ⟨X, T⟩ := G
  (conv => (arg 3; congr; · whnf; · (arg 2; whnf)))
  replace F := frOver _ F hs
  have N : News h₀ L hp [] := News.nil
  have hxl := len_cl x
  have hyl := len_cl y
  ((try dsimp only); repeat' (first | (with_reducible refine wpAny_execs_cons ?_) | (with_reducible refine wpAny_execs_nil ?_) | (with_reducible refine wpAny_If ?_) | ((with_reducible show wpAny _ _ (PySem.truthy (Value.str _ _)) _ _ _); refine SBL.truthy (by omega) ?_) | ( (fail_if_success (with_reducible first | show LCg.CompSrc _ _ _ _ _ _ _ _ _ _ _ _ _ _ | show LCt.CompSrcT _ _ _ _ _ _ _ _ _ _ _ _ _ _ _ | show LCp.SrcLP _ _ _ _ _ _ _ _ _ _ _ _ _ _ _ | show LCg.CompEnd _ _ _ _ _ _ _ _ _ _ _ _ _ _ | show WEnd _ _ _ _ _ _ _ _ _ _ | show After _ _ _ _ _ _ _ _ _ | show TEnd _ _ _ _ _ _ _ _ _ | show TPost _ _ _ _ _ _ _ _ _ _ _ | show wpAny _ _ (eval (Expr.ListComp _ _ _ _) _) _ _ _ | show wpAny _ _ (exec (Stmt.For _ _ _ _ _) _) _ _ _ | show wpAny _ _ (exec (Stmt.While _ _ _ _) _) _ _ _ | show wpAny _ _ (exec (Stmt.Assign _ (Expr.ListComp _ _ _ _) _) _) _ _ _ | show wpAny _ _ (call (Value.builtin "str.join") _) _ _ _ | show wpAny _ _ (compareOp _ (Value.ref _) (Value.ref _)) _ _ _ | show wpAny _ _ (call (Value.ref _) _) _ _ _)); first | walk1 | (dsimp only; walk1))))
  rename IsRange _ _ _ _ _ _ _ _ => hR
  rename Fr _ _ _ _ => F
  rename News _ _ _ _ => N
  refine list_rangeK (n := x.length) rfl F N hR ?_ ?_ (by omega) ?_
  · have : x.length = 0 ∨ x.length = 1 ∨ x.length = 2 ∨ x.length = 3 := by omega
    rcases this with h | h | h | h <;> rw [h] <;> decide
  · have : x.length = 0 ∨ x.length = 1 ∨ x.length = 2 ∨ x.length = 3 := by omega
    rcases this with h | h | h | h <;> rw [h] <;> decide
  clear F N hR
  intro D h₁ tk₁ vs k F N _ hv
  ((try dsimp only); repeat' (first | (with_reducible refine wpAny_execs_cons ?_) | (with_reducible refine wpAny_execs_nil ?_) | (with_reducible refine wpAny_If ?_) | ((with_reducible show wpAny _ _ (PySem.truthy (Value.str _ _)) _ _ _); refine SBL.truthy (by omega) ?_) | ( (fail_if_success (with_reducible first | show LCg.CompSrc _ _ _ _ _ _ _ _ _ _ _ _ _ _ | show LCt.CompSrcT _ _ _ _ _ _ _ _ _ _ _ _ _ _ _ | show LCp.SrcLP _ _ _ _ _ _ _ _ _ _ _ _ _ _ _ | show LCg.CompEnd _ _ _ _ _ _ _ _ _ _ _ _ _ _ | show WEnd _ _ _ _ _ _ _ _ _ _ | show After _ _ _ _ _ _ _ _ _ | show TEnd _ _ _ _ _ _ _ _ _ | show TPost _ _ _ _ _ _ _ _ _ _ _ | show wpAny _ _ (eval (Expr.ListComp _ _ _ _) _) _ _ _ | show wpAny _ _ (exec (Stmt.For _ _ _ _ _) _) _ _ _ | show wpAny _ _ (exec (Stmt.While _ _ _ _) _) _ _ _ | show wpAny _ _ (exec (Stmt.Assign _ (Expr.ListComp _ _ _ _) _) _) _ _ _ | show wpAny _ _ (call (Value.builtin "str.join") _) _ _ _ | show wpAny _ _ (compareOp _ (Value.ref _) (Value.ref _)) _ _ _ | show wpAny _ _ (call (Value.ref _) _) _ _ _)); first | walk1 | (dsimp only; walk1))))
  rename Fr _ _ _ _ => F
  rename News _ _ _ _ => N
  have hrow : rangeInts 2 2 x.length = (List.range (cl x).length).map fun (i : Nat) => 2 * ((i : Int) + 1) := by
    rw [rangeInts, ← hxl]; apply List.map_congr_left; intro i _; omega
  rw [hrow] at hv
  replace F := frOver [("a", .str x ta), ("b", .str y tb), ("max_cost", .int mx tm), ("row", .ref D), ("result", .int 0 _)] F ⟨rfl, rfl, rfl, rfl, rfl, trivial⟩
  generalize (fun y => _ : Str → Option Value) = m₁ at F
  generalize hrw : ((List.range (cl x).length).map fun (i : Nat) => 2 * ((i : Int) + 1)) = row₀ at hv hQ
  have hr₀ : row₀.length = x.length := by rw [← hrw, List.length_map, List.length_range, hxl]
  clear hrow hrw
  refine for_in ?_
  ((try dsimp only); repeat' (first | (with_reducible refine wpAny_execs_cons ?_) | (with_reducible refine wpAny_execs_nil ?_) | (with_reducible refine wpAny_If ?_) | ((with_reducible show wpAny _ _ (PySem.truthy (Value.str _ _)) _ _ _); refine SBL.truthy (by omega) ?_) | ( (fail_if_success (with_reducible first | show LCg.CompSrc _ _ _ _ _ _ _ _ _ _ _ _ _ _ | show LCt.CompSrcT _ _ _ _ _ _ _ _ _ _ _ _ _ _ _ | show LCp.SrcLP _ _ _ _ _ _ _ _ _ _ _ _ _ _ _ | show LCg.CompEnd _ _ _ _ _ _ _ _ _ _ _ _ _ _ | show WEnd _ _ _ _ _ _ _ _ _ _ | show After _ _ _ _ _ _ _ _ _ | show TEnd _ _ _ _ _ _ _ _ _ | show TPost _ _ _ _ _ _ _ _ _ _ _ | show wpAny _ _ (eval (Expr.ListComp _ _ _ _) _) _ _ _ | show wpAny _ _ (exec (Stmt.For _ _ _ _ _) _) _ _ _ | show wpAny _ _ (exec (Stmt.While _ _ _ _) _) _ _ _ | show wpAny _ _ (exec (Stmt.Assign _ (Expr.ListComp _ _ _ _) _) _) _ _ _ | show wpAny _ _ (call (Value.builtin "str.join") _) _ _ _ | show wpAny _ _ (compareOp _ (Value.ref _) (Value.ref _)) _ _ _ | show wpAny _ _ (call (Value.ref _) _) _ _ _)); first | walk1 | (dsimp only; walk1))))
  rename IsRange _ _ _ _ _ _ _ _ => hR
  rename Fr _ _ _ _ => F
  rename News _ _ _ _ => N
  refine for_range (n := y.length) (LoJ x y ta tb tm mx D row₀) rfl hR (small_one (by omega) (by omega) (by omega) (by omega)) (by rw [rangeSize_nat]; omega) rfl rfl F N ?_ ?_ ?_ <;> clear F N hR
  · exact ⟨vs, k, 0, _, row₀, rfl, hv, hr₀, ⟨rfl, rfl, rfl, rfl, rfl, trivial⟩, by rw [Nat.sub_zero, hyl]⟩
  · rintro j t m₂ _ I h tk o hj ⟨vs', k', r, tr, row', rfl, hv', hr', hs', hf⟩ hne F N
    replace F := frOverX _ F hs'
    have hDI := neN (hne _ (.head _))
    rw [Int.zero_add] at F
    ((try dsimp only); repeat' (first | (with_reducible refine wpAny_execs_cons ?_) | (with_reducible refine wpAny_execs_nil ?_) | (with_reducible refine wpAny_If ?_) | ((with_reducible show wpAny _ _ (PySem.truthy (Value.str _ _)) _ _ _); refine SBL.truthy (by omega) ?_) | ( (fail_if_success (with_reducible first | show LCg.CompSrc _ _ _ _ _ _ _ _ _ _ _ _ _ _ | show LCt.CompSrcT _ _ _ _ _ _ _ _ _ _ _ _ _ _ _ | show LCp.SrcLP _ _ _ _ _ _ _ _ _ _ _ _ _ _ _ | show LCg.CompEnd _ _ _ _ _ _ _ _ _ _ _ _ _ _ | show WEnd _ _ _ _ _ _ _ _ _ _ | show After _ _ _ _ _ _ _ _ _ | show TEnd _ _ _ _ _ _ _ _ _ | show TPost _ _ _ _ _ _ _ _ _ _ _ | show wpAny _ _ (eval (Expr.ListComp _ _ _ _) _) _ _ _ | show wpAny _ _ (exec (Stmt.For _ _ _ _ _) _) _ _ _ | show wpAny _ _ (exec (Stmt.While _ _ _ _) _) _ _ _ | show wpAny _ _ (exec (Stmt.Assign _ (Expr.ListComp _ _ _ _) _) _) _ _ _ | show wpAny _ _ (call (Value.builtin "str.join") _) _ _ _ | show wpAny _ _ (compareOp _ (Value.ref _) (Value.ref _)) _ _ _ | show wpAny _ _ (call (Value.ref _) _) _ _ _)); first | walk1 | (dsimp only; walk1))))
    rename Fr _ _ _ _ => F
    rename News _ _ _ _ => N
    rw [item_at y j hj] at F
    refine cut F _ (lev_inner G' hx ax (ay _ (getD_mem (i := j) (by omega))) hDI hv' hr' F N ⟨rfl, rfl, rfl, rfl, rfl, rfl, rfl, rfl, trivial⟩) ?_
    clear F N
    rintro h₂ tk₂ m₃ _ F N ⟨vs₂, k₂, d₂, r₂, mn₂, t1, t2, t3, row₂, rfl, hv₂, hs₂, hf₂, hr₂⟩
    replace F := frOver _ F hs₂
    have hstep : outerGo (cl x) (cl y) mx (y.length - j) j row' r = if mn₂ > mx then mx + 1 else outerGo (cl x) (cl y) mx (y.length - (j + 1)) (j + 1) row₂ r₂ := by
      rw [show y.length - j = (y.length - (j + 1)) + 1 by omega, outerGo, ← hxl, ← hf₂]
    ((try dsimp only); repeat' (first | (with_reducible refine wpAny_execs_cons ?_) | (with_reducible refine wpAny_execs_nil ?_) | (with_reducible refine wpAny_If ?_) | ((with_reducible show wpAny _ _ (PySem.truthy (Value.str _ _)) _ _ _); refine SBL.truthy (by omega) ?_) | ( (fail_if_success (with_reducible first | show LCg.CompSrc _ _ _ _ _ _ _ _ _ _ _ _ _ _ | show LCt.CompSrcT _ _ _ _ _ _ _ _ _ _ _ _ _ _ _ | show LCp.SrcLP _ _ _ _ _ _ _ _ _ _ _ _ _ _ _ | show LCg.CompEnd _ _ _ _ _ _ _ _ _ _ _ _ _ _ | show WEnd _ _ _ _ _ _ _ _ _ _ | show After _ _ _ _ _ _ _ _ _ | show TEnd _ _ _ _ _ _ _ _ _ | show TPost _ _ _ _ _ _ _ _ _ _ _ | show wpAny _ _ (eval (Expr.ListComp _ _ _ _) _) _ _ _ | show wpAny _ _ (exec (Stmt.For _ _ _ _ _) _) _ _ _ | show wpAny _ _ (exec (Stmt.While _ _ _ _) _) _ _ _ | show wpAny _ _ (exec (Stmt.Assign _ (Expr.ListComp _ _ _ _) _) _) _ _ _ | show wpAny _ _ (call (Value.builtin "str.join") _) _ _ _ | show wpAny _ _ (compareOp _ (Value.ref _) (Value.ref _)) _ _ _ | show wpAny _ _ (call (Value.ref _) _) _ _ _)); first | walk1 | (dsimp only; walk1))))
    · rename mx < mn₂ => hlt
      exact hQ _ _ _ _ (by rw [← hf, hstep, if_pos hlt]) F.keep
    · rename ¬ mx < mn₂ => hlt
      exact TEnd.intro [(D, _)] F N (by intro p hp; exact hp) (by simp [hDI]) ⟨vs₂, k₂, r₂, t2, row₂, rfl, hv₂, hr₂, ⟨rfl, rfl, rfl, rfl, rfl, trivial⟩, by rw [← hf, hstep, if_neg hlt]⟩
  · rintro m₂ _ h tk ⟨vs', k', r, t, row', rfl, hv', hr', hs', hf⟩ F N
    replace F := frOver _ F hs'
    ((try dsimp only); repeat' (first | (with_reducible refine wpAny_execs_cons ?_) | (with_reducible refine wpAny_execs_nil ?_) | (with_reducible refine wpAny_If ?_) | ((with_reducible show wpAny _ _ (PySem.truthy (Value.str _ _)) _ _ _); refine SBL.truthy (by omega) ?_) | ( (fail_if_success (with_reducible first | show LCg.CompSrc _ _ _ _ _ _ _ _ _ _ _ _ _ _ | show LCt.CompSrcT _ _ _ _ _ _ _ _ _ _ _ _ _ _ _ | show LCp.SrcLP _ _ _ _ _ _ _ _ _ _ _ _ _ _ _ | show LCg.CompEnd _ _ _ _ _ _ _ _ _ _ _ _ _ _ | show WEnd _ _ _ _ _ _ _ _ _ _ | show After _ _ _ _ _ _ _ _ _ | show TEnd _ _ _ _ _ _ _ _ _ | show TPost _ _ _ _ _ _ _ _ _ _ _ | show wpAny _ _ (eval (Expr.ListComp _ _ _ _) _) _ _ _ | show wpAny _ _ (exec (Stmt.For _ _ _ _ _) _) _ _ _ | show wpAny _ _ (exec (Stmt.While _ _ _ _) _) _ _ _ | show wpAny _ _ (exec (Stmt.Assign _ (Expr.ListComp _ _ _ _) _) _) _ _ _ | show wpAny _ _ (call (Value.builtin "str.join") _) _ _ _ | show wpAny _ _ (compareOp _ (Value.ref _) (Value.ref _)) _ _ _ | show wpAny _ _ (call (Value.ref _) _) _ _ _)); first | walk1 | (dsimp only; walk1))))
    exact hQ _ _ _ _ (by rw [← hf, Nat.sub_self, outerGo]) F.keep
end
section
/-- the words of the two strips and of the statements between -/
inductive PreE (a b : Str) (ta tb tm : Tok) (mx : Int) (m : Str → Option Value) (news : List (Addr × Obj)) : Prop
  | mk (e : news = []) (k : Nat) (t : Tok) (hs : Has m [("pre", .int k t), ("max_cost", .int mx tm), ("b", .str b tb), ("a", .str a ta)]) (h : stripP (cl a) (cl b) = ((cl a).drop k, (cl b).drop k))
inductive PreJ (a b : Str) (ta tb tm : Tok) (mx : Int) (n : Nat) (m : Str → Option Value) (news : List (Addr × Obj)) : Prop
  | mk (e : news = []) (k : Nat) (t : Tok) (hs : Has m [("pre", .int k t), ("max_cost", .int mx tm), ("b", .str b tb), ("a", .str a ta)]) (hn : n + k = a.length) (hb : k ≤ b.length) (h : stripP (cl a) (cl b) = stripP ((cl a).drop k) ((cl b).drop k))
inductive PostE (a' b' : Str) (tm : Tok) (mx : Int) (m : Str → Option Value) (news : List (Addr × Obj)) : Prop
  | mk (e : news = []) (k : Nat) (t ua ub : Tok) (hs : Has m [("post", .int (-(k : Int)) t), ("max_cost", .int mx tm), ("b", .str b' ub), ("a", .str a' ua)]) (ha : k ≤ a'.length) (hb : k ≤ b'.length) (h : stripP (cl a').reverse (cl b').reverse = ((cl a').reverse.drop k, (cl b').reverse.drop k))
inductive PostJ (a' b' : Str) (tm : Tok) (mx : Int) (n : Nat) (m : Str → Option Value) (news : List (Addr × Obj)) : Prop
  | mk (e : news = []) (k : Nat) (t ua ub : Tok) (hs : Has m [("post", .int (-(k : Int)) t), ("max_cost", .int mx tm), ("b", .str b' ub), ("a", .str a' ua)]) (hn : n + k = a'.length) (hb : k ≤ b'.length) (h : stripP (cl a').reverse (cl b').reverse = stripP ((cl a').reverse.drop k) ((cl b').reverse.drop k))
inductive CutA (x b' : Str) (j : Nat) (tm : Tok) (mx : Int) (m : Str → Option Value) (news : List (Addr × Obj)) : Prop
  | mk (e : news = []) (t ta tb : Tok) (hs : Has m [("a", .str x ta), ("post", .int (-(j : Int)) t), ("max_cost", .int mx tm), ("b", .str b' tb)])
inductive CutB (x y : Str) (tm : Tok) (mx : Int) (m : Str → Option Value) (news : List (Addr × Obj)) : Prop
  | mk (e : news = []) (t ta tb : Tok) (hs : Has m [("b", .str y tb), ("a", .str x ta), ("max_cost", .int mx tm)])
inductive Three (x y : Str) (ua ub tm : Tok) (mx : Int) (P : Prop) (m : Str → Option Value) (news : List (Addr × Obj)) : Prop
  | mk (e : news = []) (hs : Has m [("b", .str y ub), ("a", .str x ua), ("max_cost", .int mx tm)]) (h : P)
inductive Swap (x y : Str) (tm : Tok) (mx : Int) (m : Str → Option Value) (news : List (Addr × Obj)) : Prop
  | mk (p q : Str) (tp tq : Tok) (hs : Has m [("a", .str p tp), ("b", .str q tq), ("max_cost", .int mx tm)]) (hp : p.length ≤ 3) (hq : q.length ≤ 3) (ap : Abs p) (aq : Abs q)
      (h : (if (cl y).length < (cl x).length then coreF (cl y) (cl x) mx else coreF (cl x) (cl y) mx) = coreF (cl p) (cl q) mx)
theorem cut_lt {s l k : Nat} (h : s + k = l) (n : ¬ ((s : Int) = 0)) : k < l := by omega
theorem cut_le {s l k : Nat} (h : s + k = l) (n : (s : Int) = 0) : l ≤ k := by omega
theorem ar_n {n k l : Nat} (h : n + k = l) (h' : k < l) : n - 1 < n := by omega
theorem ar_s {n k l : Nat} (h : n + k = l) (h' : k < l) : n - 1 + (k + 1) = l := by omega
theorem ar_z (k : Nat) : (-((k + 1 : Nat) : Int) - 1) = -((k + 2 : Nat) : Int) := by omega
theorem ar_y (k : Nat) : (-((k + 1 : Nat) : Int) - 1) = -(((k + 1 : Nat) : Int) + 1) := by omega
section
set_option maxRecDepth 100000 in
set_option maxHeartbeats 8000000 in
theorem lev_spec {w : World} {mg mb : Str → Option Value} {mean : ExcName → Option Value} {s : Shared} (G : Cx w mg mb mean s.heap) {a b : Str} {ta tb tm : Tok} {mx : Int} {Q : Value → Shared → Prop} {E : Value → Shared → Prop}
    (ha : a.length ≤ 3) (hb : b.length ≤ 3) (aa : Abs a) (ab : Abs b) (hm : 0 ≤ mx) (hm' : mx ≤ 20)
    (hQ : ∀ n t h' tk, n = levF (cl a) (cl b) mx → Kept s.heap h' → Q (.int n t) { s with heap := h', toks := tk }) :
    wpAny (model PP w) (Lv 320) (call (.ref 28) [.str a ta, .str b tb, .int mx tm]) Q E s := by
  obtain ⟨X, T⟩ := G
  (refine' call_own (by assumption) (Top.nolimit (by assumption)) ?ho ?hcd ?hb ?hl ?hc ?_ ?hr ?h1 ?h2 ?h3; (case ho => k_is); (case hcd => k_is); (case hb => exact BindsTo.of_eq rfl); (case hl => exact locs rfl); (case hc => decide); (case hr => decide); (case h1 => exact rfl); (case h2 => exact rfl); (case h3 => exact rfl))
  intro L h₁ tk F N
  replace F := frOver [("max_cost", .int mx tm), ("b", .str b tb), ("a", .str a ta)] F ⟨rfl, rfl, rfl, trivial⟩
  generalize (fun y => List.lookup y _ : Str → Option Value) = m₀ at F
  ((try dsimp only); repeat' (first | (with_reducible refine wpAny_execs_cons ?_) | (with_reducible refine wpAny_execs_nil ?_) | (with_reducible refine wpAny_If ?_) | ((with_reducible show wpAny _ _ (PySem.truthy (Value.str _ _)) _ _ _); refine SBL.truthy (by omega) ?_) | ( (fail_if_success (with_reducible first | show LCg.CompSrc _ _ _ _ _ _ _ _ _ _ _ _ _ _ | show LCt.CompSrcT _ _ _ _ _ _ _ _ _ _ _ _ _ _ _ | show LCp.SrcLP _ _ _ _ _ _ _ _ _ _ _ _ _ _ _ | show LCg.CompEnd _ _ _ _ _ _ _ _ _ _ _ _ _ _ | show WEnd _ _ _ _ _ _ _ _ _ _ | show After _ _ _ _ _ _ _ _ _ | show TEnd _ _ _ _ _ _ _ _ _ | show TPost _ _ _ _ _ _ _ _ _ _ _ | show wpAny _ _ (eval (Expr.ListComp _ _ _ _) _) _ _ _ | show wpAny _ _ (exec (Stmt.For _ _ _ _ _) _) _ _ _ | show wpAny _ _ (exec (Stmt.While _ _ _ _) _) _ _ _ | show wpAny _ _ (exec (Stmt.Assign _ (Expr.ListComp _ _ _ _) _) _) _ _ _ | show wpAny _ _ (call (Value.builtin "str.join") _) _ _ _ | show wpAny _ _ (compareOp _ (Value.ref _) (Value.ref _)) _ _ _ | show wpAny _ _ (call (Value.ref _) _) _ _ _)); first | (with_reducible ((with_reducible show wpAny _ _ (subscriptTail _ (Expr.Slice none (some (Expr.BoolOp _ _ _)) none _) _ _) _ _ _); (with_reducible rename Fr _ _ _ _ => F'); (with_reducible rename News _ _ _ _ => N'); (refine slice_strN_nn (hsz := ?hsz) (s := ⟨_, _, _, _, _⟩) F' N' ?_); (case hsz => size_fits); intro _ _ _ _ _)) | walk1 | (dsimp only; walk1))))
  · rename (_ == _) = true => e
    have e' : a = b := by simpa using e
    exact hQ _ _ _ _ (by rw [e', levF, if_pos rfl]) F.keep
  rename (_ == _) = false => e
  have hne : cl a ≠ cl b := fun q => by rw [str_ext q] at e; simp at e
  clear e
  rename Fr _ _ _ _ => F
  rename News _ _ _ _ => N
  refine cut F (PreE a b ta tb tm mx) ?_ ?_
  · refine while_inv (PreJ a b ta tb tm mx) a.length F N ?_ ?_ <;> clear F N
    · exact ⟨rfl, 0, _, ⟨rfl, rfl, rfl, rfl, trivial⟩, rfl, Nat.zero_le _, rfl⟩
    · rintro n m₁ news₁ h₁ tk₁ F N ⟨rfl, k, t, hs, hn, hkb, hst⟩
      replace F := frOver _ F hs
      have hla := len_cl a
      have hlb := len_cl b
      have hfa : (Txt.slice a (some (k : Int)) none).length + k = a.length := by rw [len_cl, cl_from, List.length_drop, ← hla]; exact Nat.sub_add_cancel (hn ▸ Nat.le_add_left _ _)
      have hfb : (Txt.slice b (some (k : Int)) none).length + k = b.length := by rw [len_cl, cl_from, List.length_drop, ← hlb]; exact Nat.sub_add_cancel hkb
      ((try dsimp only); repeat' (first | (with_reducible refine wpAny_execs_cons ?_) | (with_reducible refine wpAny_execs_nil ?_) | (with_reducible refine wpAny_If ?_) | ((with_reducible show wpAny _ _ (PySem.truthy (Value.str _ _)) _ _ _); refine SBL.truthy (by omega) ?_) | ( (fail_if_success (with_reducible first | show LCg.CompSrc _ _ _ _ _ _ _ _ _ _ _ _ _ _ | show LCt.CompSrcT _ _ _ _ _ _ _ _ _ _ _ _ _ _ _ | show LCp.SrcLP _ _ _ _ _ _ _ _ _ _ _ _ _ _ _ | show LCg.CompEnd _ _ _ _ _ _ _ _ _ _ _ _ _ _ | show WEnd _ _ _ _ _ _ _ _ _ _ | show After _ _ _ _ _ _ _ _ _ | show TEnd _ _ _ _ _ _ _ _ _ | show TPost _ _ _ _ _ _ _ _ _ _ _ | show wpAny _ _ (eval (Expr.ListComp _ _ _ _) _) _ _ _ | show wpAny _ _ (exec (Stmt.For _ _ _ _ _) _) _ _ _ | show wpAny _ _ (exec (Stmt.While _ _ _ _) _) _ _ _ | show wpAny _ _ (exec (Stmt.Assign _ (Expr.ListComp _ _ _ _) _) _) _ _ _ | show wpAny _ _ (call (Value.builtin "str.join") _) _ _ _ | show wpAny _ _ (compareOp _ (Value.ref _) (Value.ref _)) _ _ _ | show wpAny _ _ (call (Value.ref _) _) _ _ _)); first | (with_reducible ((with_reducible show wpAny _ _ (subscriptTail _ (Expr.Slice none (some (Expr.BoolOp _ _ _)) none _) _ _) _ _ _); (with_reducible rename Fr _ _ _ _ => F'); (with_reducible rename News _ _ _ _ => N'); (refine slice_strN_nn (hsz := ?hsz) (s := ⟨_, _, _, _, _⟩) F' N' ?_); (case hsz => size_fits); intro _ _ _ _ _)) | walk1 | (dsimp only; walk1))))
      · rename (_ == _) = true => e
        have hka := cut_lt hfa (by assumption)
        have hkb := cut_lt hfb (by assumption)
        rw [item_at a k hka, item_at b k hkb] at e
        have e' := sg_inj.mp (eq_of_beq e)
        exact WEnd.next (n - 1) (by assumption) (by assumption) (ar_n hn hka) ⟨rfl, k + 1, _, ⟨rfl, rfl, rfl, rfl, trivial⟩, ar_s hn hka, hkb, by rw [hst, stripP_step (hla ▸ hka) (hlb ▸ hkb) e']⟩
      · rename (_ == _) = false => e
        rw [item_at a k (cut_lt hfa (by assumption)), item_at b k (cut_lt hfb (by assumption))] at e
        exact After.next (by assumption) (by assumption) ⟨rfl, k, t, ⟨rfl, rfl, rfl, rfl, trivial⟩, by rw [hst]; exact stripP_stop (.inr (.inr fun q => by rw [q, beq_self_eq_true] at e; cases e))⟩
      · exact After.next (by assumption) (by assumption) ⟨rfl, k, t, ⟨rfl, rfl, rfl, rfl, trivial⟩, by rw [hst]; exact stripP_stop (.inr (.inl (hlb ▸ cut_le hfb (by assumption))))⟩
      · exact After.next (by assumption) (by assumption) ⟨rfl, k, t, ⟨rfl, rfl, rfl, rfl, trivial⟩, by rw [hst]; exact stripP_stop (.inl (hla ▸ cut_le hfa (by assumption)))⟩
  clear F N
  rintro h₂ tk₂ m₂ _ F N ⟨rfl, k, t, hs, hst⟩
  replace F := frOver _ F hs
  ((try dsimp only); repeat' (first | (with_reducible refine wpAny_execs_cons ?_) | (with_reducible refine wpAny_execs_nil ?_) | (with_reducible refine wpAny_If ?_) | ((with_reducible show wpAny _ _ (PySem.truthy (Value.str _ _)) _ _ _); refine SBL.truthy (by omega) ?_) | ( (fail_if_success (with_reducible first | show LCg.CompSrc _ _ _ _ _ _ _ _ _ _ _ _ _ _ | show LCt.CompSrcT _ _ _ _ _ _ _ _ _ _ _ _ _ _ _ | show LCp.SrcLP _ _ _ _ _ _ _ _ _ _ _ _ _ _ _ | show LCg.CompEnd _ _ _ _ _ _ _ _ _ _ _ _ _ _ | show WEnd _ _ _ _ _ _ _ _ _ _ | show After _ _ _ _ _ _ _ _ _ | show TEnd _ _ _ _ _ _ _ _ _ | show TPost _ _ _ _ _ _ _ _ _ _ _ | show wpAny _ _ (eval (Expr.ListComp _ _ _ _) _) _ _ _ | show wpAny _ _ (exec (Stmt.For _ _ _ _ _) _) _ _ _ | show wpAny _ _ (exec (Stmt.While _ _ _ _) _) _ _ _ | show wpAny _ _ (exec (Stmt.Assign _ (Expr.ListComp _ _ _ _) _) _) _ _ _ | show wpAny _ _ (call (Value.builtin "str.join") _) _ _ _ | show wpAny _ _ (compareOp _ (Value.ref _) (Value.ref _)) _ _ _ | show wpAny _ _ (call (Value.ref _) _) _ _ _)); first | (with_reducible ((with_reducible show wpAny _ _ (subscriptTail _ (Expr.Slice none (some (Expr.BoolOp _ _ _)) none _) _ _) _ _ _); (with_reducible rename Fr _ _ _ _ => F'); (with_reducible rename News _ _ _ _ => N'); (refine slice_strN_nn (hsz := ?hsz) (s := ⟨_, _, _, _, _⟩) F' N' ?_); (case hsz => size_fits); intro _ _ _ _ _)) | walk1 | (dsimp only; walk1))))
  rename Fr _ _ _ _ => F
  rename News _ _ _ _ => N
  have ea : cl (Txt.slice a (some (k : Int)) none) = (stripP (cl a) (cl b)).1 := by rw [hst, cl_from]
  have eb : cl (Txt.slice b (some (k : Int)) none) = (stripP (cl a) (cl b)).2 := by rw [hst, cl_from]
  have ha' : (Txt.slice a (some (k : Int)) none).length ≤ 3 := by omega
  have hb' : (Txt.slice b (some (k : Int)) none).length ≤ 3 := by omega
  have aa' : Abs (Txt.slice a (some (k : Int)) none) := fun c hc => aa c (by rw [cl_from] at hc; exact List.mem_of_mem_drop hc)
  have ab' : Abs (Txt.slice b (some (k : Int)) none) := fun c hc => ab c (by rw [cl_from] at hc; exact List.mem_of_mem_drop hc)
  generalize Txt.slice a (some (k : Int)) none = a' at *
  generalize Txt.slice b (some (k : Int)) none = b' at *
  replace F := frOver [("post", .int 0 _), ("max_cost", .int mx tm), ("b", .str b' _), ("a", .str a' _)] F ⟨rfl, rfl, rfl, rfl, trivial⟩
  generalize (fun y => _ : Str → Option Value) = m₃ at F
  refine cut F (PostE a' b' tm mx) ?_ ?_
  · refine while_inv (PostJ a' b' tm mx) a'.length F N ?_ ?_ <;> clear F N
    · exact ⟨rfl, 0, _, _, _, ⟨rfl, rfl, rfl, rfl, trivial⟩, rfl, Nat.zero_le _, rfl⟩
    · rintro n m₁ news₁ h₁ tk₁ F N ⟨rfl, k, t, ua, ub, hs, hn, hkb, hst⟩
      replace F := frOver _ F hs
      have hla := len_cl a'
      have hlb := len_cl b'
      rcases k with _ | k
      · have hfa : (Txt.slice a' none none).length + 0 = a'.length := by rw [slice_nn]; rfl
        have hfb : (Txt.slice b' none none).length + 0 = b'.length := by rw [slice_nn]; rfl
        replace F : Fr s.heap L h₁ (over [("post", .int 0 t), ("max_cost", .int mx tm), ("b", .str b' ub), ("a", .str a' ua)] m₁) := F
        ((try dsimp only); repeat' (first | (with_reducible refine wpAny_execs_cons ?_) | (with_reducible refine wpAny_execs_nil ?_) | (with_reducible refine wpAny_If ?_) | ((with_reducible show wpAny _ _ (PySem.truthy (Value.str _ _)) _ _ _); refine SBL.truthy (by omega) ?_) | ( (fail_if_success (with_reducible first | show LCg.CompSrc _ _ _ _ _ _ _ _ _ _ _ _ _ _ | show LCt.CompSrcT _ _ _ _ _ _ _ _ _ _ _ _ _ _ _ | show LCp.SrcLP _ _ _ _ _ _ _ _ _ _ _ _ _ _ _ | show LCg.CompEnd _ _ _ _ _ _ _ _ _ _ _ _ _ _ | show WEnd _ _ _ _ _ _ _ _ _ _ | show After _ _ _ _ _ _ _ _ _ | show TEnd _ _ _ _ _ _ _ _ _ | show TPost _ _ _ _ _ _ _ _ _ _ _ | show wpAny _ _ (eval (Expr.ListComp _ _ _ _) _) _ _ _ | show wpAny _ _ (exec (Stmt.For _ _ _ _ _) _) _ _ _ | show wpAny _ _ (exec (Stmt.While _ _ _ _) _) _ _ _ | show wpAny _ _ (exec (Stmt.Assign _ (Expr.ListComp _ _ _ _) _) _) _ _ _ | show wpAny _ _ (call (Value.builtin "str.join") _) _ _ _ | show wpAny _ _ (compareOp _ (Value.ref _) (Value.ref _)) _ _ _ | show wpAny _ _ (call (Value.ref _) _) _ _ _)); first | (with_reducible ((with_reducible show wpAny _ _ (subscriptTail _ (Expr.Slice none (some (Expr.BoolOp _ _ _)) none _) _ _) _ _ _); (with_reducible rename Fr _ _ _ _ => F'); (with_reducible rename News _ _ _ _ => N'); (refine slice_strN_nn (hsz := ?hsz) (s := ⟨_, _, _, _, _⟩) F' N' ?_); (case hsz => size_fits); intro _ _ _ _ _)) | walk1 | (dsimp only; walk1))))
        · rename (_ == _) = true => e
          have hka := cut_lt hfa (by assumption)
          have hkb := cut_lt hfb (by assumption)
          rw [show ((0 : Int) - 1) = -(((0 : Nat) : Int) + 1) from rfl, item_neg a' 0 hka, item_neg b' 0 hkb] at e
          have e' := sg_inj.mp (eq_of_beq e)
          exact WEnd.next (n - 1) (by assumption) (by assumption) (ar_n hn hka) ⟨rfl, 1, _, _, _, ⟨rfl, rfl, rfl, rfl, trivial⟩, ar_s hn hka, hkb, by rw [hst]; exact (stripP_step (by rw [List.length_reverse, ← hla]; exact hka) (by rw [List.length_reverse, ← hlb]; exact hkb) (rev_get (hla ▸ hka) (hlb ▸ hkb) (by rw [← hla, ← hlb]; exact e'))).symm⟩
        · rename (_ == _) = false => e
          have hka := cut_lt hfa (by assumption)
          have hkb := cut_lt hfb (by assumption)
          rw [show ((0 : Int) - 1) = -(((0 : Nat) : Int) + 1) from rfl, item_neg a' 0 hka, item_neg b' 0 hkb] at e
          exact After.next (by assumption) (by assumption) ⟨rfl, 0, _, _, _, ⟨rfl, rfl, rfl, rfl, trivial⟩, Nat.zero_le _, Nat.zero_le _, by rw [hst]; exact stripP_stop (.inr (.inr (rev_ne (hla ▸ hka) (hlb ▸ hkb) (by rw [← hla, ← hlb]; exact fun q => by rw [q, beq_self_eq_true] at e; cases e))))⟩
        · exact After.next (by assumption) (by assumption) ⟨rfl, 0, _, _, _, ⟨rfl, rfl, rfl, rfl, trivial⟩, Nat.zero_le _, Nat.zero_le _, by rw [hst]; exact stripP_stop (.inr (.inl (by rw [List.length_reverse, ← hlb]; exact cut_le hfb (by assumption))))⟩
        · exact After.next (by assumption) (by assumption) ⟨rfl, 0, _, _, _, ⟨rfl, rfl, rfl, rfl, trivial⟩, Nat.zero_le _, Nat.zero_le _, by rw [hst]; exact stripP_stop (.inl (by rw [List.length_reverse, ← hla]; exact cut_le hfa (by assumption)))⟩
      · have hna : k + 1 ≤ a'.length := hn ▸ Nat.le_add_left _ _
        have hfa : (Txt.slice a' none (some (-((k + 1 : Nat) : Int)))).length + (k + 1) = a'.length := by rw [len_cl, cl_toNeg _ _ (Nat.succ_pos k), List.length_take, ← hla, Nat.min_eq_left (Nat.sub_le _ _)]; exact Nat.sub_add_cancel hna
        have hfb : (Txt.slice b' none (some (-((k + 1 : Nat) : Int)))).length + (k + 1) = b'.length := by rw [len_cl, cl_toNeg _ _ (Nat.succ_pos k), List.length_take, ← hlb, Nat.min_eq_left (Nat.sub_le _ _)]; exact Nat.sub_add_cancel hkb
        ((try dsimp only); repeat' (first | (with_reducible refine wpAny_execs_cons ?_) | (with_reducible refine wpAny_execs_nil ?_) | (with_reducible refine wpAny_If ?_) | ((with_reducible show wpAny _ _ (PySem.truthy (Value.str _ _)) _ _ _); refine SBL.truthy (by omega) ?_) | ( (fail_if_success (with_reducible first | show LCg.CompSrc _ _ _ _ _ _ _ _ _ _ _ _ _ _ | show LCt.CompSrcT _ _ _ _ _ _ _ _ _ _ _ _ _ _ _ | show LCp.SrcLP _ _ _ _ _ _ _ _ _ _ _ _ _ _ _ | show LCg.CompEnd _ _ _ _ _ _ _ _ _ _ _ _ _ _ | show WEnd _ _ _ _ _ _ _ _ _ _ | show After _ _ _ _ _ _ _ _ _ | show TEnd _ _ _ _ _ _ _ _ _ | show TPost _ _ _ _ _ _ _ _ _ _ _ | show wpAny _ _ (eval (Expr.ListComp _ _ _ _) _) _ _ _ | show wpAny _ _ (exec (Stmt.For _ _ _ _ _) _) _ _ _ | show wpAny _ _ (exec (Stmt.While _ _ _ _) _) _ _ _ | show wpAny _ _ (exec (Stmt.Assign _ (Expr.ListComp _ _ _ _) _) _) _ _ _ | show wpAny _ _ (call (Value.builtin "str.join") _) _ _ _ | show wpAny _ _ (compareOp _ (Value.ref _) (Value.ref _)) _ _ _ | show wpAny _ _ (call (Value.ref _) _) _ _ _)); first | (with_reducible ((with_reducible show wpAny _ _ (subscriptTail _ (Expr.Slice none (some (Expr.BoolOp _ _ _)) none _) _ _) _ _ _); (with_reducible rename Fr _ _ _ _ => F'); (with_reducible rename News _ _ _ _ => N'); (refine slice_strN_nn (hsz := ?hsz) (s := ⟨_, _, _, _, _⟩) F' N' ?_); (case hsz => size_fits); intro _ _ _ _ _)) | walk1 | (dsimp only; walk1))))
        all_goals try (exfalso; omega)
        · rename (_ == _) = true => e
          have hka := cut_lt hfa (by assumption)
          have hkb := cut_lt hfb (by assumption)
          rw [ar_y, item_neg a' (k + 1) hka, item_neg b' (k + 1) hkb] at e
          have e' := sg_inj.mp (eq_of_beq e)
          exact WEnd.next (n - 1) (by assumption) (by assumption) (ar_n hn hka) ⟨rfl, k + 2, _, _, _, ⟨congrArg (fun z => some (Value.int z _)) (ar_z k), rfl, rfl, rfl, trivial⟩, ar_s hn hka, hkb, by rw [hst]; exact (stripP_step (by rw [List.length_reverse, ← hla]; exact hka) (by rw [List.length_reverse, ← hlb]; exact hkb) (rev_get (hla ▸ hka) (hlb ▸ hkb) (by rw [← hla, ← hlb]; exact e'))).symm⟩
        · rename (_ == _) = false => e
          have hka := cut_lt hfa (by assumption)
          have hkb' := cut_lt hfb (by assumption)
          rw [ar_y, item_neg a' (k + 1) hka, item_neg b' (k + 1) hkb'] at e
          exact After.next (by assumption) (by assumption) ⟨rfl, k + 1, _, _, _, ⟨rfl, rfl, rfl, rfl, trivial⟩, hna, hkb, by rw [hst]; exact stripP_stop (.inr (.inr (rev_ne (hla ▸ hka) (hlb ▸ hkb') (by rw [← hla, ← hlb]; exact fun q => by rw [q, beq_self_eq_true] at e; cases e))))⟩
        · exact After.next (by assumption) (by assumption) ⟨rfl, k + 1, _, _, _, ⟨rfl, rfl, rfl, rfl, trivial⟩, hna, hkb, by rw [hst]; exact stripP_stop (.inr (.inl (by rw [List.length_reverse, ← hlb]; exact cut_le hfb (by assumption))))⟩
        · exact After.next (by assumption) (by assumption) ⟨rfl, k + 1, _, _, _, ⟨rfl, rfl, rfl, rfl, trivial⟩, hna, hkb, by rw [hst]; exact stripP_stop (.inl (by rw [List.length_reverse, ← hla]; exact cut_le hfa (by assumption)))⟩
  clear F N
  rintro h₃ tk₃ m₄ _ F N ⟨rfl, j, tp, ua, ub, hs₂, hja, hjb, hst₂⟩
  replace F := frOver _ F hs₂
  have hla := len_cl a'
  have hlb := len_cl b'
  refine wpAny_execs_cons ?_
  refine cut F (CutA (mk ((cl a').take (a'.length - j))) b' j tm mx) ?_ ?_
  · rcases j with _ | j
    · replace F : Fr s.heap L h₃ (over [("post", .int 0 tp), ("max_cost", .int mx tm), ("b", .str b' ub), ("a", .str a' ua)] m₄) := F
      have e0 : Txt.slice a' none none = mk ((cl a').take (a'.length - 0)) := by apply str_ext; rw [slice_nn, cl_mk, Nat.sub_zero, List.take_of_length_le (by omega)]
      ((try dsimp only); repeat' (first | (with_reducible refine wpAny_execs_cons ?_) | (with_reducible refine wpAny_execs_nil ?_) | (with_reducible refine wpAny_If ?_) | ((with_reducible show wpAny _ _ (PySem.truthy (Value.str _ _)) _ _ _); refine SBL.truthy (by omega) ?_) | ( (fail_if_success (with_reducible first | show LCg.CompSrc _ _ _ _ _ _ _ _ _ _ _ _ _ _ | show LCt.CompSrcT _ _ _ _ _ _ _ _ _ _ _ _ _ _ _ | show LCp.SrcLP _ _ _ _ _ _ _ _ _ _ _ _ _ _ _ | show LCg.CompEnd _ _ _ _ _ _ _ _ _ _ _ _ _ _ | show WEnd _ _ _ _ _ _ _ _ _ _ | show After _ _ _ _ _ _ _ _ _ | show TEnd _ _ _ _ _ _ _ _ _ | show TPost _ _ _ _ _ _ _ _ _ _ _ | show wpAny _ _ (eval (Expr.ListComp _ _ _ _) _) _ _ _ | show wpAny _ _ (exec (Stmt.For _ _ _ _ _) _) _ _ _ | show wpAny _ _ (exec (Stmt.While _ _ _ _) _) _ _ _ | show wpAny _ _ (exec (Stmt.Assign _ (Expr.ListComp _ _ _ _) _) _) _ _ _ | show wpAny _ _ (call (Value.builtin "str.join") _) _ _ _ | show wpAny _ _ (compareOp _ (Value.ref _) (Value.ref _)) _ _ _ | show wpAny _ _ (call (Value.ref _) _) _ _ _)); first | (with_reducible ((with_reducible show wpAny _ _ (subscriptTail _ (Expr.Slice none (some (Expr.BoolOp _ _ _)) none _) _ _) _ _ _); (with_reducible rename Fr _ _ _ _ => F'); (with_reducible rename News _ _ _ _ => N'); (refine slice_strN_nn (hsz := ?hsz) (s := ⟨_, _, _, _, _⟩) F' N' ?_); (case hsz => size_fits); intro _ _ _ _ _)) | walk1 | (dsimp only; walk1))))
      exact After.next (by assumption) (by assumption) ⟨rfl, _, _, _, congrArg (fun z => some (Value.str z _)) e0, rfl, rfl, rfl, trivial⟩
    · have e0 : Txt.slice a' none (some (-((j + 1 : Nat) : Int))) = mk ((cl a').take (a'.length - (j + 1))) := by apply str_ext; rw [cl_toNeg _ _ (by omega), cl_mk]
      ((try dsimp only); repeat' (first | (with_reducible refine wpAny_execs_cons ?_) | (with_reducible refine wpAny_execs_nil ?_) | (with_reducible refine wpAny_If ?_) | ((with_reducible show wpAny _ _ (PySem.truthy (Value.str _ _)) _ _ _); refine SBL.truthy (by omega) ?_) | ( (fail_if_success (with_reducible first | show LCg.CompSrc _ _ _ _ _ _ _ _ _ _ _ _ _ _ | show LCt.CompSrcT _ _ _ _ _ _ _ _ _ _ _ _ _ _ _ | show LCp.SrcLP _ _ _ _ _ _ _ _ _ _ _ _ _ _ _ | show LCg.CompEnd _ _ _ _ _ _ _ _ _ _ _ _ _ _ | show WEnd _ _ _ _ _ _ _ _ _ _ | show After _ _ _ _ _ _ _ _ _ | show TEnd _ _ _ _ _ _ _ _ _ | show TPost _ _ _ _ _ _ _ _ _ _ _ | show wpAny _ _ (eval (Expr.ListComp _ _ _ _) _) _ _ _ | show wpAny _ _ (exec (Stmt.For _ _ _ _ _) _) _ _ _ | show wpAny _ _ (exec (Stmt.While _ _ _ _) _) _ _ _ | show wpAny _ _ (exec (Stmt.Assign _ (Expr.ListComp _ _ _ _) _) _) _ _ _ | show wpAny _ _ (call (Value.builtin "str.join") _) _ _ _ | show wpAny _ _ (compareOp _ (Value.ref _) (Value.ref _)) _ _ _ | show wpAny _ _ (call (Value.ref _) _) _ _ _)); first | (with_reducible ((with_reducible show wpAny _ _ (subscriptTail _ (Expr.Slice none (some (Expr.BoolOp _ _ _)) none _) _ _) _ _ _); (with_reducible rename Fr _ _ _ _ => F'); (with_reducible rename News _ _ _ _ => N'); (refine slice_strN_nn (hsz := ?hsz) (s := ⟨_, _, _, _, _⟩) F' N' ?_); (case hsz => size_fits); intro _ _ _ _ _)) | walk1 | (dsimp only; walk1))))
      all_goals try (exfalso; omega)
      exact After.next (by assumption) (by assumption) ⟨rfl, _, _, _, congrArg (fun z => some (Value.str z _)) e0, rfl, rfl, rfl, trivial⟩
  clear F N hs₂
  rintro h₄ tk₄ m₅ _ F N ⟨rfl, tp, ua, ub, hs₃⟩
  replace F := frOver _ F hs₃
  dsimp only
  refine wpAny_execs_cons ?_
  refine cut F (CutB (mk ((cl a').take (a'.length - j))) (mk ((cl b').take (b'.length - j))) tm mx) ?_ ?_
  · rcases j with _ | j
    · replace F : Fr s.heap L h₄ (over [("a", .str (mk ((cl a').take (a'.length - 0))) ua), ("post", .int 0 tp), ("max_cost", .int mx tm), ("b", .str b' ub)] m₅) := F
      have e0 : Txt.slice b' none none = mk ((cl b').take (b'.length - 0)) := by apply str_ext; rw [slice_nn, cl_mk, Nat.sub_zero, List.take_of_length_le (by omega)]
      ((try dsimp only); repeat' (first | (with_reducible refine wpAny_execs_cons ?_) | (with_reducible refine wpAny_execs_nil ?_) | (with_reducible refine wpAny_If ?_) | ((with_reducible show wpAny _ _ (PySem.truthy (Value.str _ _)) _ _ _); refine SBL.truthy (by omega) ?_) | ( (fail_if_success (with_reducible first | show LCg.CompSrc _ _ _ _ _ _ _ _ _ _ _ _ _ _ | show LCt.CompSrcT _ _ _ _ _ _ _ _ _ _ _ _ _ _ _ | show LCp.SrcLP _ _ _ _ _ _ _ _ _ _ _ _ _ _ _ | show LCg.CompEnd _ _ _ _ _ _ _ _ _ _ _ _ _ _ | show WEnd _ _ _ _ _ _ _ _ _ _ | show After _ _ _ _ _ _ _ _ _ | show TEnd _ _ _ _ _ _ _ _ _ | show TPost _ _ _ _ _ _ _ _ _ _ _ | show wpAny _ _ (eval (Expr.ListComp _ _ _ _) _) _ _ _ | show wpAny _ _ (exec (Stmt.For _ _ _ _ _) _) _ _ _ | show wpAny _ _ (exec (Stmt.While _ _ _ _) _) _ _ _ | show wpAny _ _ (exec (Stmt.Assign _ (Expr.ListComp _ _ _ _) _) _) _ _ _ | show wpAny _ _ (call (Value.builtin "str.join") _) _ _ _ | show wpAny _ _ (compareOp _ (Value.ref _) (Value.ref _)) _ _ _ | show wpAny _ _ (call (Value.ref _) _) _ _ _)); first | (with_reducible ((with_reducible show wpAny _ _ (subscriptTail _ (Expr.Slice none (some (Expr.BoolOp _ _ _)) none _) _ _) _ _ _); (with_reducible rename Fr _ _ _ _ => F'); (with_reducible rename News _ _ _ _ => N'); (refine slice_strN_nn (hsz := ?hsz) (s := ⟨_, _, _, _, _⟩) F' N' ?_); (case hsz => size_fits); intro _ _ _ _ _)) | walk1 | (dsimp only; walk1))))
      exact After.next (by assumption) (by assumption) ⟨rfl, 0, _, _, congrArg (fun z => some (Value.str z _)) e0, rfl, rfl, trivial⟩
    · have e0 : Txt.slice b' none (some (-((j + 1 : Nat) : Int))) = mk ((cl b').take (b'.length - (j + 1))) := by apply str_ext; rw [cl_toNeg _ _ (by omega), cl_mk]
      ((try dsimp only); repeat' (first | (with_reducible refine wpAny_execs_cons ?_) | (with_reducible refine wpAny_execs_nil ?_) | (with_reducible refine wpAny_If ?_) | ((with_reducible show wpAny _ _ (PySem.truthy (Value.str _ _)) _ _ _); refine SBL.truthy (by omega) ?_) | ( (fail_if_success (with_reducible first | show LCg.CompSrc _ _ _ _ _ _ _ _ _ _ _ _ _ _ | show LCt.CompSrcT _ _ _ _ _ _ _ _ _ _ _ _ _ _ _ | show LCp.SrcLP _ _ _ _ _ _ _ _ _ _ _ _ _ _ _ | show LCg.CompEnd _ _ _ _ _ _ _ _ _ _ _ _ _ _ | show WEnd _ _ _ _ _ _ _ _ _ _ | show After _ _ _ _ _ _ _ _ _ | show TEnd _ _ _ _ _ _ _ _ _ | show TPost _ _ _ _ _ _ _ _ _ _ _ | show wpAny _ _ (eval (Expr.ListComp _ _ _ _) _) _ _ _ | show wpAny _ _ (exec (Stmt.For _ _ _ _ _) _) _ _ _ | show wpAny _ _ (exec (Stmt.While _ _ _ _) _) _ _ _ | show wpAny _ _ (exec (Stmt.Assign _ (Expr.ListComp _ _ _ _) _) _) _ _ _ | show wpAny _ _ (call (Value.builtin "str.join") _) _ _ _ | show wpAny _ _ (compareOp _ (Value.ref _) (Value.ref _)) _ _ _ | show wpAny _ _ (call (Value.ref _) _) _ _ _)); first | (with_reducible ((with_reducible show wpAny _ _ (subscriptTail _ (Expr.Slice none (some (Expr.BoolOp _ _ _)) none _) _ _) _ _ _); (with_reducible rename Fr _ _ _ _ => F'); (with_reducible rename News _ _ _ _ => N'); (refine slice_strN_nn (hsz := ?hsz) (s := ⟨_, _, _, _, _⟩) F' N' ?_); (case hsz => size_fits); intro _ _ _ _ _)) | walk1 | (dsimp only; walk1))))
      all_goals try (exfalso; omega)
      exact After.next (by assumption) (by assumption) ⟨rfl, 0, _, _, congrArg (fun z => some (Value.str z _)) e0, rfl, rfl, trivial⟩
  clear F N hs₃
  rintro h₅ tk₅ m₆ _ F N ⟨rfl, _, ua, ub, hs₄⟩
  replace F := frOver _ F hs₄
  have eA : cl (mk ((cl a').take (a'.length - j))) = (stripS (stripP (cl a) (cl b)).1 (stripP (cl a) (cl b)).2).1 := by rw [cl_mk, stripS, ← ea, ← eb, hst₂]; dsimp only; rw [rev_drop_rev, hla]
  have eB : cl (mk ((cl b').take (b'.length - j))) = (stripS (stripP (cl a) (cl b)).1 (stripP (cl a) (cl b)).2).2 := by rw [cl_mk, stripS, ← ea, ← eb, hst₂]; dsimp only; rw [rev_drop_rev, hlb]
  have hA : (mk ((cl a').take (a'.length - j))).length ≤ 3 := by rw [len_cl, cl_mk, List.length_take]; omega
  have hB : (mk ((cl b').take (b'.length - j))).length ≤ 3 := by rw [len_cl, cl_mk, List.length_take]; omega
  have aA : Abs (mk ((cl a').take (a'.length - j))) := fun c hc => aa' c (by rw [cl_mk] at hc; exact List.mem_of_mem_take hc)
  have aB : Abs (mk ((cl b').take (b'.length - j))) := fun c hc => ab' c (by rw [cl_mk] at hc; exact List.mem_of_mem_take hc)
  clear hs₄ hst₂ hja hjb hla hlb
  generalize mk ((cl a').take (a'.length - j)) = x at *
  generalize mk ((cl b').take (b'.length - j)) = y at *
  have hlev : levF (cl a) (cl b) mx = if cl x = [] ∨ cl y = [] then 2 * (((cl x).length : Int) + (cl y).length) else if (cl y).length < (cl x).length then coreF (cl y) (cl x) mx else coreF (cl x) (cl y) mx := by
    rw [levF, if_neg hne]; dsimp only; rw [← eA, ← eB]
  rw [hlev] at hQ
  clear hlev eA eB ea eb ha' hb' aa' ab' hst hs hne
  have hx := len_cl x
  have hy := len_cl y
  dsimp only
  refine wpAny_execs_cons ?_
  refine cut F (Three x y ua ub tm mx (cl x ≠ [] ∧ cl y ≠ [])) ?_ ?_
  · ((try dsimp only); repeat' (first | (with_reducible refine wpAny_execs_cons ?_) | (with_reducible refine wpAny_execs_nil ?_) | (with_reducible refine wpAny_If ?_) | ((with_reducible show wpAny _ _ (PySem.truthy (Value.str _ _)) _ _ _); refine SBL.truthy (by omega) ?_) | ( (fail_if_success (with_reducible first | show LCg.CompSrc _ _ _ _ _ _ _ _ _ _ _ _ _ _ | show LCt.CompSrcT _ _ _ _ _ _ _ _ _ _ _ _ _ _ _ | show LCp.SrcLP _ _ _ _ _ _ _ _ _ _ _ _ _ _ _ | show LCg.CompEnd _ _ _ _ _ _ _ _ _ _ _ _ _ _ | show WEnd _ _ _ _ _ _ _ _ _ _ | show After _ _ _ _ _ _ _ _ _ | show TEnd _ _ _ _ _ _ _ _ _ | show TPost _ _ _ _ _ _ _ _ _ _ _ | show wpAny _ _ (eval (Expr.ListComp _ _ _ _) _) _ _ _ | show wpAny _ _ (exec (Stmt.For _ _ _ _ _) _) _ _ _ | show wpAny _ _ (exec (Stmt.While _ _ _ _) _) _ _ _ | show wpAny _ _ (exec (Stmt.Assign _ (Expr.ListComp _ _ _ _) _) _) _ _ _ | show wpAny _ _ (call (Value.builtin "str.join") _) _ _ _ | show wpAny _ _ (compareOp _ (Value.ref _) (Value.ref _)) _ _ _ | show wpAny _ _ (call (Value.ref _) _) _ _ _)); first | (with_reducible ((with_reducible show wpAny _ _ (subscriptTail _ (Expr.Slice none (some (Expr.BoolOp _ _ _)) none _) _ _) _ _ _); (with_reducible rename Fr _ _ _ _ => F'); (with_reducible rename News _ _ _ _ => N'); (refine slice_strN_nn (hsz := ?hsz) (s := ⟨_, _, _, _, _⟩) F' N' ?_); (case hsz => size_fits); intro _ _ _ _ _)) | walk1 | (dsimp only; walk1))))
    · exact After.next F N ⟨rfl, ⟨rfl, rfl, rfl, trivial⟩, fun q => by rw [q] at hx; simp at hx; omega, fun q => by rw [q] at hy; simp at hy; omega⟩
    · exact hQ _ _ _ _ (by rw [if_pos (.inr (List.eq_nil_of_length_eq_zero (by omega))), hx, hy]) F.keep
    · exact hQ _ _ _ _ (by rw [if_pos (.inl (List.eq_nil_of_length_eq_zero (by omega))), hx, hy]) F.keep
  clear F N
  rintro h₆ tk₆ m₇ _ F N ⟨rfl, hs₅, nx, ny⟩
  rw [if_neg (by simp [nx, ny])] at hQ
  replace F := frOver _ F hs₅
  dsimp only
  refine wpAny_execs_cons ?_
  refine cut F (Three x y ua ub tm mx True) ?_ ?_
  · ((try dsimp only); repeat' (first | (with_reducible refine wpAny_execs_cons ?_) | (with_reducible refine wpAny_execs_nil ?_) | (with_reducible refine wpAny_If ?_) | ((with_reducible show wpAny _ _ (PySem.truthy (Value.str _ _)) _ _ _); refine SBL.truthy (by omega) ?_) | ( (fail_if_success (with_reducible first | show LCg.CompSrc _ _ _ _ _ _ _ _ _ _ _ _ _ _ | show LCt.CompSrcT _ _ _ _ _ _ _ _ _ _ _ _ _ _ _ | show LCp.SrcLP _ _ _ _ _ _ _ _ _ _ _ _ _ _ _ | show LCg.CompEnd _ _ _ _ _ _ _ _ _ _ _ _ _ _ | show WEnd _ _ _ _ _ _ _ _ _ _ | show After _ _ _ _ _ _ _ _ _ | show TEnd _ _ _ _ _ _ _ _ _ | show TPost _ _ _ _ _ _ _ _ _ _ _ | show wpAny _ _ (eval (Expr.ListComp _ _ _ _) _) _ _ _ | show wpAny _ _ (exec (Stmt.For _ _ _ _ _) _) _ _ _ | show wpAny _ _ (exec (Stmt.While _ _ _ _) _) _ _ _ | show wpAny _ _ (exec (Stmt.Assign _ (Expr.ListComp _ _ _ _) _) _) _ _ _ | show wpAny _ _ (call (Value.builtin "str.join") _) _ _ _ | show wpAny _ _ (compareOp _ (Value.ref _) (Value.ref _)) _ _ _ | show wpAny _ _ (call (Value.ref _) _) _ _ _)); first | (with_reducible ((with_reducible show wpAny _ _ (subscriptTail _ (Expr.Slice none (some (Expr.BoolOp _ _ _)) none _) _ _) _ _ _); (with_reducible rename Fr _ _ _ _ => F'); (with_reducible rename News _ _ _ _ => N'); (refine slice_strN_nn (hsz := ?hsz) (s := ⟨_, _, _, _, _⟩) F' N' ?_); (case hsz => size_fits); intro _ _ _ _ _)) | walk1 | (dsimp only; walk1))))
    exact After.next F N ⟨rfl, ⟨rfl, rfl, rfl, trivial⟩, trivial⟩
  clear F N hs₅
  rintro h₇ tk₇ m₈ _ F N ⟨rfl, hs₆, -⟩
  replace F := frOver _ F hs₆
  dsimp only
  refine wpAny_execs_cons ?_
  refine cut F (Swap x y tm mx) ?_ ?_
  · ((try dsimp only); repeat' (first | (with_reducible refine wpAny_execs_cons ?_) | (with_reducible refine wpAny_execs_nil ?_) | (with_reducible refine wpAny_If ?_) | ((with_reducible show wpAny _ _ (PySem.truthy (Value.str _ _)) _ _ _); refine SBL.truthy (by omega) ?_) | ( (fail_if_success (with_reducible first | show LCg.CompSrc _ _ _ _ _ _ _ _ _ _ _ _ _ _ | show LCt.CompSrcT _ _ _ _ _ _ _ _ _ _ _ _ _ _ _ | show LCp.SrcLP _ _ _ _ _ _ _ _ _ _ _ _ _ _ _ | show LCg.CompEnd _ _ _ _ _ _ _ _ _ _ _ _ _ _ | show WEnd _ _ _ _ _ _ _ _ _ _ | show After _ _ _ _ _ _ _ _ _ | show TEnd _ _ _ _ _ _ _ _ _ | show TPost _ _ _ _ _ _ _ _ _ _ _ | show wpAny _ _ (eval (Expr.ListComp _ _ _ _) _) _ _ _ | show wpAny _ _ (exec (Stmt.For _ _ _ _ _) _) _ _ _ | show wpAny _ _ (exec (Stmt.While _ _ _ _) _) _ _ _ | show wpAny _ _ (exec (Stmt.Assign _ (Expr.ListComp _ _ _ _) _) _) _ _ _ | show wpAny _ _ (call (Value.builtin "str.join") _) _ _ _ | show wpAny _ _ (compareOp _ (Value.ref _) (Value.ref _)) _ _ _ | show wpAny _ _ (call (Value.ref _) _) _ _ _)); first | (with_reducible ((with_reducible show wpAny _ _ (subscriptTail _ (Expr.Slice none (some (Expr.BoolOp _ _ _)) none _) _ _) _ _ _); (with_reducible rename Fr _ _ _ _ => F'); (with_reducible rename News _ _ _ _ => N'); (refine slice_strN_nn (hsz := ?hsz) (s := ⟨_, _, _, _, _⟩) F' N' ?_); (case hsz => size_fits); intro _ _ _ _ _)) | walk1 | (dsimp only; walk1))))
    · exact After.next (by assumption) (by assumption) ⟨y, x, _, _, ⟨rfl, rfl, rfl, trivial⟩, hB, hA, aB, aA, if_pos (by omega)⟩
    · exact After.next (by assumption) (by assumption) ⟨x, y, _, _, ⟨rfl, rfl, rfl, trivial⟩, hA, hB, aA, aB, if_neg (by omega)⟩
  clear F N hs₆
  rintro h₈ tk₈ m₉ _ F N ⟨p, q, tp, tq, hs₇, hp, hq, ap, aq, hcore⟩
  rw [hcore] at hQ
  replace F := frOver _ F hs₇
  have hpl := len_cl p
  have hql := len_cl q
  replace N : News s.heap L h₈ [] := News.nil
  dsimp only
  refine wpAny_execs_cons ?_
  refine cut F (Three p q tp tq tm mx (¬ mx < ((q.length : Int) - p.length) * 2)) ?_ ?_
  · ((try dsimp only); repeat' (first | (with_reducible refine wpAny_execs_cons ?_) | (with_reducible refine wpAny_execs_nil ?_) | (with_reducible refine wpAny_If ?_) | ((with_reducible show wpAny _ _ (PySem.truthy (Value.str _ _)) _ _ _); refine SBL.truthy (by omega) ?_) | ( (fail_if_success (with_reducible first | show LCg.CompSrc _ _ _ _ _ _ _ _ _ _ _ _ _ _ | show LCt.CompSrcT _ _ _ _ _ _ _ _ _ _ _ _ _ _ _ | show LCp.SrcLP _ _ _ _ _ _ _ _ _ _ _ _ _ _ _ | show LCg.CompEnd _ _ _ _ _ _ _ _ _ _ _ _ _ _ | show WEnd _ _ _ _ _ _ _ _ _ _ | show After _ _ _ _ _ _ _ _ _ | show TEnd _ _ _ _ _ _ _ _ _ | show TPost _ _ _ _ _ _ _ _ _ _ _ | show wpAny _ _ (eval (Expr.ListComp _ _ _ _) _) _ _ _ | show wpAny _ _ (exec (Stmt.For _ _ _ _ _) _) _ _ _ | show wpAny _ _ (exec (Stmt.While _ _ _ _) _) _ _ _ | show wpAny _ _ (exec (Stmt.Assign _ (Expr.ListComp _ _ _ _) _) _) _ _ _ | show wpAny _ _ (call (Value.builtin "str.join") _) _ _ _ | show wpAny _ _ (compareOp _ (Value.ref _) (Value.ref _)) _ _ _ | show wpAny _ _ (call (Value.ref _) _) _ _ _)); first | (with_reducible ((with_reducible show wpAny _ _ (subscriptTail _ (Expr.Slice none (some (Expr.BoolOp _ _ _)) none _) _ _) _ _ _); (with_reducible rename Fr _ _ _ _ => F'); (with_reducible rename News _ _ _ _ => N'); (refine slice_strN_nn (hsz := ?hsz) (s := ⟨_, _, _, _, _⟩) F' N' ?_); (case hsz => size_fits); intro _ _ _ _ _)) | walk1 | (dsimp only; walk1))))
    · rename mx < _ => hlt
      exact hQ _ _ _ _ (by rw [coreF, ← hpl, ← hql, if_pos hlt]) F.keep
    · exact After.next F N ⟨rfl, ⟨rfl, rfl, rfl, trivial⟩, by assumption⟩
  clear F N hs₇
  rintro h₉ tk₉ m₁₀ _ F N ⟨rfl, hs₈, hlt⟩
  refine lev_core ⟨X, T⟩ hp hq ap aq hm hm' F ⟨hs₈.2.1, hs₈.1, hs₈.2.2⟩ ?_
  intro n t h' tk hn hk
  exact hQ n t h' tk (by rw [hn, coreF, ← hpl, ← hql, if_neg hlt]) hk
end
end
section
/-- the dots -/
def dots : Str := ⟨#[46, 46, 46]⟩
def elF (p q g : List Nat) : Bool := p.isPrefixOf g && q.isSuffixOf g && decide (p.length + q.length ≤ g.length)
def short2 : List Str := [mk [], mk [97], mk [98], mk [34], mk [97, 97], mk [97, 98], mk [97, 34], mk [98, 97], mk [98, 98], mk [98, 34], mk [34, 97], mk [34, 98], mk [34, 34]]
theorem short2_mem {x : Str} (h : x.length ≤ 2) (a : Abs x) : x ∈ short2 := by
  rw [← mk_cl x]
  have hl := len_cl x
  have ha : ∀ c ∈ cl x, Ab c := a
  revert ha
  generalize cl x = l at hl
  rcases l with _ | ⟨c, _ | ⟨d, _ | ⟨e, r⟩⟩⟩ <;> intro ha
  · decide
  · rcases ha c (by simp) with rfl | rfl | rfl <;> decide
  · rcases ha c (by simp) with rfl | rfl | rfl <;> rcases ha d (by simp) with rfl | rfl | rfl <;> decide
  · simp at hl; omega
theorem split_all : ∀ p ∈ short2, ∀ q ∈ short2, p.length + q.length ≤ 2 → Txt.split (p ++ dots ++ q) (Str.ofString "...") = [p, q] ∧ (Builtin.Str.occurrences (p ++ dots ++ q) (Str.ofString "...") 0 (p ++ dots ++ q).length 1).isEmpty = false := by decide +kernel
section
variable {prog : Program} {w : World} {A : Around} {E : Value → Shared → Prop} {hp₀ : Heap} {gn : Array GenState} {dr : Drawn} {tk₀ : Nat} {os : OsState} {h₀ : Heap} {L : Addr} {m : Str → Option Value} {Q : Value → Shared → Prop}
theorem split_two {news : List (Addr × Obj)} {x y p q : Str} {t u : Tok} (F : Fr h₀ L hp₀ m) (N : News h₀ L hp₀ news) (hy : (y.length == 0) = false) (e : Txt.split x y = [p, q])
    (h : ∀ D t1 t2 h' k, Fr h₀ L h' m → News h₀ L h' ((D, listOf #[.str p t1, .str q t2] 0) :: news) → (∀ p ∈ news, p.1 < D) → Q (.ref D) ⟨h', gn, dr, k, os⟩)
    (hsz : x.length + 2 ≤ sizeLine := by size_fits) :
    wpAny (model prog w) A (call (.builtin "str.split") [.str x t, .str y u]) Q E ⟨hp₀, gn, dr, tk₀, os⟩ := by
  refine splitN1 F N hy (fun l h' k el F' N' => ?_) hsz
  rw [e] at el
  rcases l with _ | ⟨⟨a, t1⟩, _ | ⟨⟨b, t2⟩, _ | _⟩⟩ <;> simp at el
  obtain ⟨rfl, rfl⟩ := el
  exact h _ t1 t2 h' k F' N' fun p hp => Heap.lt_size (N p hp).1
end

open PySem.Builtin PySem.Builtin.Str in
theorem gives_find4 (x y : Str) (i j : Int) (t u v z : Tok) : Gives (Builtin.«str.find» ⟨[.str x t, .str y u, .int i v, .int j z], []⟩) (.int (match Builtin.Str.occurrences x y (fromIndex x.length i) (min (fromIndex x.length j) x.length) 1 with | k :: _ => (k : Int) | [] => -1)) := by
  show Gives (match Builtin.Str.occurrences x y (fromIndex x.length i) (min (fromIndex x.length j) x.length) 1 with | k :: _ => retInt k | [] => (do rule "str.find.not-found"; retInt (-1))) _
  cases Builtin.Str.occurrences x y (fromIndex x.length i) (min (fromIndex x.length j) x.length) 1 with
  | nil => exact .rule (.of_eq rfl)
  | cons k _ => exact .of_eq rfl
theorem occ_empty (x : Str) (lo hi : Nat) (h : lo ≤ hi) : ∃ r, Builtin.Str.occurrences x (mk []) lo hi 1 = lo :: r := by
  have e := StrLaws.occ_eq x (mk []) lo hi 1
  have hr : List.range' lo (hi + 1 - lo) = lo :: List.range' (lo + 1) (hi - lo) := by
    rw [show hi + 1 - lo = (hi - lo) + 1 by omega, List.range'_succ]
  rw [hr] at e
  have hs : Builtin.Str.subAt x (mk []) lo = true := by
    unfold Builtin.Str.subAt
    simp [mk, Str.length]
    omega
  have hb : (forIn (lo :: List.range' (lo + 1) (hi - lo)) (#[], lo) (StrLaws.occBody x (mk []) hi 1)).run.fst[0]? = some lo := by
    have hbody : StrLaws.occBody x (mk []) hi 1 lo (#[], lo) = pure (ForInStep.yield (#[].push lo, lo + (mk []).length)) := by
      unfold StrLaws.occBody
      rw [if_pos ⟨⟨⟨Nat.zero_lt_one, Nat.le_refl _⟩, h⟩, hs⟩]
    rw [List.forIn_cons, hbody]
    exact StrLaws.occ_head_keeps x (mk []) hi 1 lo _ (#[].push lo, lo + (mk []).length) rfl
  rw [e]
  rw [← Array.getElem?_toList] at hb
  cases hq : (forIn (lo :: List.range' (lo + 1) (hi - lo)) (#[], lo) (StrLaws.occBody x (mk []) hi 1)).run.fst.toList with
  | nil => rw [hq] at hb; simp at hb
  | cons a r => rw [hq] at hb; simp at hb; exact ⟨r, by rw [hb]⟩
theorem find_empty {prog : Program} {w : World} {A : Around} {E : Value → Shared → Prop} {s : Shared} {x : Str} {t u v z : Tok} {i j : Int} {Q : Value → Shared → Prop} (h0 : 0 ≤ i) (h1 : i ≤ j) (h2 : j ≤ x.length)
    (h : Q (.int i s.toks) { s with toks := s.toks + 1 }) : wpAny (model prog w) A (call (.builtin "str.find") [.str x t, .str (mk []) u, .int i v, .int j z]) Q E s := by
  refine call_gives F.slot_str_find (typeIs_str _ _ _) F.entry_str_find (F.args_str_find_4 _ _ _ _) (gives_find4 x (mk []) i j t u v z) ?_
  have e1 : fromIndex x.length i = i.toNat := by unfold fromIndex; rw [if_neg (Int.not_lt.mpr h0), toN_max]
  have e2 : min (fromIndex x.length j) x.length = j.toNat := by unfold fromIndex; rw [if_neg (Int.not_lt.mpr (Int.le_trans h0 h1)), toN_max, Nat.min_eq_left (Int.toNat_le.mpr h2)]
  rw [e1, e2]
  obtain ⟨r, hr⟩ := occ_empty x i.toNat j.toNat (Int.toNat_le_toNat h1)
  rw [hr]
  show Q (.int (i.toNat : Int) s.toks) { s with toks := s.toks + 1 }
  rw [Int.toNat_of_nonneg h0]
  exact h

theorem subAt_cl (g p : Str) (i : Nat) : Builtin.Str.subAt g p i = true ↔ ((cl g).drop i).take (cl p).length = cl p := by
  unfold Builtin.Str.subAt
  rw [beq_iff_eq, ← Array.toList_inj, Array.toList_extract, List.extract_eq_take_drop]
  rw [show i + p.length - i = (cl p).length by rw [← len_cl]; omega]
theorem starts_cl (g p : Str) : Txt.startswith g p = (cl p).isPrefixOf (cl g) := by
  rw [Bool.eq_iff_iff, List.isPrefixOf_iff_prefix, List.prefix_iff_eq_take]
  unfold Txt.startswith
  rw [Bool.and_eq_true, subAt_cl, decide_eq_true_eq, List.drop_zero, len_cl, len_cl, Nat.zero_add]
  constructor
  · intro h; exact h.2.symm
  · intro h; exact ⟨by rw [h, List.length_take]; omega, h.symm⟩
theorem ends_cl (g p : Str) : Txt.endswith g p = (cl p).isSuffixOf (cl g) := by
  rw [Bool.eq_iff_iff, List.isSuffixOf_iff_suffix, List.suffix_iff_eq_drop]
  unfold Txt.endswith
  rw [Bool.and_eq_true, subAt_cl, decide_eq_true_eq, len_cl, len_cl, Nat.zero_add]
  constructor
  · rintro ⟨h1, h2⟩
    rw [List.take_of_length_le (by rw [List.length_drop]; omega)] at h2
    exact h2.symm
  · intro h
    have hl := congrArg List.length h
    rw [List.length_drop] at hl
    exact ⟨by omega, by rw [List.take_of_length_le (by rw [List.length_drop]; omega)]; exact h.symm⟩
theorem elF_iff (p q g : Str) : elF (cl p) (cl q) (cl g) = (Txt.startswith g p && Txt.endswith g q && decide (p.length + q.length ≤ g.length)) := by
  rw [elF, starts_cl, ends_cl, len_cl, len_cl, len_cl]
theorem starts_nil (g p : Str) (h : (p.length : Int) = 0) : Txt.startswith g p = true := by
  rw [starts_cl, List.eq_nil_of_length_eq_zero (by rw [← len_cl]; omega : (cl p).length = 0)]; rfl
theorem ends_nil (g p : Str) (h : (p.length : Int) = 0) : Txt.endswith g p = true := by
  rw [ends_cl, List.eq_nil_of_length_eq_zero (by rw [← len_cl]; omega : (cl p).length = 0), List.isSuffixOf_iff_suffix]; exact List.nil_suffix
theorem mk_nil_of {p : Str} (h : (p.length : Int) = 0) : p = mk [] := by
  apply str_ext
  rw [cl_mk]
  exact List.eq_nil_of_length_eq_zero (by rw [← len_cl]; omega)
set_option maxRecDepth 100000 in
set_option maxHeartbeats 8000000 in
theorem ell_for {w : World} {mg mb : Str → Option Value} {mean : ExcName → Option Value} {h₀ hp : Heap} {gn : Array GenState} {dr : Drawn} {tk₀ : Nat} {os : OsState} (G : Cx w mg mb mean h₀) {L D : Addr} {m : Str → Option Value}
    {g : Str} {tg t1 t2 : Tok} {sp ep : Int} {vs : List Value} {k : Nat} {news : List (Addr × Obj)} (h0 : 0 ≤ sp) (h1 : sp ≤ ep) (h2 : ep ≤ g.length) (hg : g.length ≤ 3)
    (hvs : ∀ v ∈ vs, ∃ t, v = .str (mk []) t) (F : Fr h₀ L hp m) (N : News h₀ L hp news) (hD : (D, listOf vs.toArray k) ∈ news)
    (hs : Has m [("got", .str g tg), ("startpos", .int sp t1), ("endpos", .int ep t2), ("ws", .ref D)]) {Q : Flow → Shared → Prop} :
    wpAny (model PP w) (Lv 331) (exec (stAt (fnStmts 8) 9) (envOf "_ellipsis_match" (fnScope 8) L 35 (.ref 34))) (After h₀ L gn dr os (fun _ _ => True) Q) (fun _ _ => False) ⟨hp, gn, dr, tk₀, os⟩ := by
  obtain ⟨X, T⟩ := G
  (conv => (arg 3; congr; · whnf; · (arg 2; whnf)))
  replace F := frOver _ F hs
  refine for_in ?_
  ((try dsimp only); repeat' (first | (with_reducible refine wpAny_execs_cons ?_) | (with_reducible refine wpAny_execs_nil ?_) | (with_reducible refine wpAny_If ?_) | ((with_reducible show wpAny _ _ (PySem.truthy (Value.str _ _)) _ _ _); refine SBL.truthy (by omega) ?_) | ( (fail_if_success (with_reducible first | show LCg.CompSrc _ _ _ _ _ _ _ _ _ _ _ _ _ _ | show LCt.CompSrcT _ _ _ _ _ _ _ _ _ _ _ _ _ _ _ | show LCp.SrcLP _ _ _ _ _ _ _ _ _ _ _ _ _ _ _ | show LCg.CompEnd _ _ _ _ _ _ _ _ _ _ _ _ _ _ | show WEnd _ _ _ _ _ _ _ _ _ _ | show After _ _ _ _ _ _ _ _ _ | show TEnd _ _ _ _ _ _ _ _ _ | show TPost _ _ _ _ _ _ _ _ _ _ _ | show wpAny _ _ (eval (Expr.ListComp _ _ _ _) _) _ _ _ | show wpAny _ _ (exec (Stmt.For _ _ _ _ _) _) _ _ _ | show wpAny _ _ (exec (Stmt.While _ _ _ _) _) _ _ _ | show wpAny _ _ (exec (Stmt.Assign _ (Expr.ListComp _ _ _ _) _) _) _ _ _ | show wpAny _ _ (call (Value.builtin "str.join") _) _ _ _ | show wpAny _ _ (compareOp _ (Value.ref _) (Value.ref _)) _ _ _ | show wpAny _ _ (call (Value.ref _) _) _ _ _)); first | walk1 | (dsimp only; walk1))))
  refine for_list (vs := vs) (fun i m' news' => news' = [(D, listOf vs.toArray k)] ∧ ∃ t1, Has m' [("got", .str g tg), ("startpos", .int sp t1), ("endpos", .int ep t2), ("ws", .ref D)]) rfl
    (.inr ⟨listOf vs.toArray k, rfl, ⟨k, rfl⟩, by rintro i m₁ _ ⟨rfl, _⟩; exact .head _⟩) rfl rfl F (news := [(D, listOf vs.toArray k)]) (by intro p hp; rw [List.mem_singleton.mp hp]; exact N _ hD) ?_ ?_ ?_ <;> clear F N
  · exact ⟨rfl, _, ⟨rfl, rfl, rfl, rfl, trivial⟩⟩
  · rintro i v m₁ _ I h tk o hv ⟨rfl, t1, hs'⟩ hne F N
    obtain ⟨tv, rfl⟩ := hvs v (List.mem_of_getElem? hv)
    replace F := frOverX _ F hs'
    have hDI := neN (hne _ (.head _))
    ((try dsimp only); repeat' (first | (with_reducible refine wpAny_execs_cons ?_) | (with_reducible refine wpAny_execs_nil ?_) | (with_reducible refine wpAny_If ?_) | ((with_reducible show wpAny _ _ (PySem.truthy (Value.str _ _)) _ _ _); refine SBL.truthy (by omega) ?_) | ( (fail_if_success (with_reducible first | show LCg.CompSrc _ _ _ _ _ _ _ _ _ _ _ _ _ _ | show LCt.CompSrcT _ _ _ _ _ _ _ _ _ _ _ _ _ _ _ | show LCp.SrcLP _ _ _ _ _ _ _ _ _ _ _ _ _ _ _ | show LCg.CompEnd _ _ _ _ _ _ _ _ _ _ _ _ _ _ | show WEnd _ _ _ _ _ _ _ _ _ _ | show After _ _ _ _ _ _ _ _ _ | show TEnd _ _ _ _ _ _ _ _ _ | show TPost _ _ _ _ _ _ _ _ _ _ _ | show wpAny _ _ (eval (Expr.ListComp _ _ _ _) _) _ _ _ | show wpAny _ _ (exec (Stmt.For _ _ _ _ _) _) _ _ _ | show wpAny _ _ (exec (Stmt.While _ _ _ _) _) _ _ _ | show wpAny _ _ (exec (Stmt.Assign _ (Expr.ListComp _ _ _ _) _) _) _ _ _ | show wpAny _ _ (call (Value.builtin "str.join") _) _ _ _ | show wpAny _ _ (compareOp _ (Value.ref _) (Value.ref _)) _ _ _ | show wpAny _ _ (call (Value.ref _) _) _ _ _)); first | walk1 | (dsimp only; walk1))))
    refine find_empty h0 h1 h2 ?_
    have he : (mk []).length = 0 := rfl
    ((try dsimp only); repeat' (first | (with_reducible refine wpAny_execs_cons ?_) | (with_reducible refine wpAny_execs_nil ?_) | (with_reducible refine wpAny_If ?_) | ((with_reducible show wpAny _ _ (PySem.truthy (Value.str _ _)) _ _ _); refine SBL.truthy (by omega) ?_) | ( (fail_if_success (with_reducible first | show LCg.CompSrc _ _ _ _ _ _ _ _ _ _ _ _ _ _ | show LCt.CompSrcT _ _ _ _ _ _ _ _ _ _ _ _ _ _ _ | show LCp.SrcLP _ _ _ _ _ _ _ _ _ _ _ _ _ _ _ | show LCg.CompEnd _ _ _ _ _ _ _ _ _ _ _ _ _ _ | show WEnd _ _ _ _ _ _ _ _ _ _ | show After _ _ _ _ _ _ _ _ _ | show TEnd _ _ _ _ _ _ _ _ _ | show TPost _ _ _ _ _ _ _ _ _ _ _ | show wpAny _ _ (eval (Expr.ListComp _ _ _ _) _) _ _ _ | show wpAny _ _ (exec (Stmt.For _ _ _ _ _) _) _ _ _ | show wpAny _ _ (exec (Stmt.While _ _ _ _) _) _ _ _ | show wpAny _ _ (exec (Stmt.Assign _ (Expr.ListComp _ _ _ _) _) _) _ _ _ | show wpAny _ _ (call (Value.builtin "str.join") _) _ _ _ | show wpAny _ _ (compareOp _ (Value.ref _) (Value.ref _)) _ _ _ | show wpAny _ _ (call (Value.ref _) _) _ _ _)); first | walk1 | (dsimp only; walk1))))
    exact TEnd.intro [(D, _)] (by assumption) (by assumption) (by intro p hp; exact hp) (by simp; exact hDI) ⟨rfl, _, rfl, congrArg (fun z => some (Value.int z _)) (show sp + ((mk []).length : Int) = sp from by rw [he]; omega), rfl, rfl, trivial⟩
  · rintro m₁ _ h tk ⟨rfl, t1, hs'⟩ F N
    exact After.next F N trivial
section
set_option maxRecDepth 100000 in
set_option maxHeartbeats 8000000 in
theorem ell_spec {w : World} {mg mb : Str → Option Value} {mean : ExcName → Option Value} {s : Shared} (G : Cx w mg mb mean s.heap) {p q g : Str} {ta tb : Tok} {Q : Value → Shared → Prop} {E : Value → Shared → Prop}
    (hpq : p.length + q.length ≤ 2) (hg : g.length ≤ 3) (ap : Abs p) (aq : Abs q) (ag : Abs g)
    (hQ : ∀ v h' tk, v = elF (cl p) (cl q) (cl g) → Kept s.heap h' → Q (.bool v) { s with heap := h', toks := tk }) :
    wpAny (model PP w) (Lv 330) (call (.ref 35) [.str (p ++ dots ++ q) ta, .str g tb]) Q E s := by
  obtain ⟨X, T⟩ := G
  (refine' call_own (by assumption) (Top.nolimit (by assumption)) ?ho ?hcd ?hb ?hl ?hc ?_ ?hr ?h1 ?h2 ?h3; (case ho => k_is); (case hcd => k_is); (case hb => exact BindsTo.of_eq rfl); (case hl => exact locs rfl); (case hc => decide); (case hr => decide); (case h1 => exact rfl); (case h2 => exact rfl); (case h3 => exact rfl))
  intro L h₁ tk F N
  have hw : (p ++ dots ++ q).length ≤ 5 := by rw [Str.length_append, Str.length_append]; show p.length + 3 + q.length ≤ 5; omega
  obtain ⟨hsp, hin⟩ := split_all p (short2_mem (by omega) ap) q (short2_mem (by omega) aq) hpq
  generalize hW : p ++ dots ++ q = W at *
  replace F := frOver [("want", .str W ta), ("got", .str g tb)] F ⟨rfl, rfl, trivial⟩
  generalize (fun y => _ : Str → Option Value) = m₁ at F
  have hpl := len_cl p
  have hql := len_cl q
  have hgl := len_cl g
  rw [elF_iff] at hQ
  ((try dsimp only); repeat' (first | (with_reducible refine wpAny_execs_cons ?_) | (with_reducible refine wpAny_execs_nil ?_) | (with_reducible refine wpAny_If ?_) | ((with_reducible show wpAny _ _ (PySem.truthy (Value.str _ _)) _ _ _); refine SBL.truthy (by omega) ?_) | ( (fail_if_success (with_reducible first | show LCg.CompSrc _ _ _ _ _ _ _ _ _ _ _ _ _ _ | show LCt.CompSrcT _ _ _ _ _ _ _ _ _ _ _ _ _ _ _ | show LCp.SrcLP _ _ _ _ _ _ _ _ _ _ _ _ _ _ _ | show LCg.CompEnd _ _ _ _ _ _ _ _ _ _ _ _ _ _ | show WEnd _ _ _ _ _ _ _ _ _ _ | show After _ _ _ _ _ _ _ _ _ | show TEnd _ _ _ _ _ _ _ _ _ | show TPost _ _ _ _ _ _ _ _ _ _ _ | show wpAny _ _ (eval (Expr.ListComp _ _ _ _) _) _ _ _ | show wpAny _ _ (exec (Stmt.For _ _ _ _ _) _) _ _ _ | show wpAny _ _ (exec (Stmt.While _ _ _ _) _) _ _ _ | show wpAny _ _ (exec (Stmt.Assign _ (Expr.ListComp _ _ _ _) _) _) _ _ _ | show wpAny _ _ (call (Value.builtin "str.join") _) _ _ _ | show wpAny _ _ (compareOp _ (Value.ref _) (Value.ref _)) _ _ _ | show wpAny _ _ (call (Value.ref _) _) _ _ _)); first | (with_reducible ((with_reducible show wpAny _ _ (call (Value.builtin "str.split") _) _ _ _); refine split_two (by k_asm) (by k_asm) rfl (by assumption) ?_ (by size_fits); intro D' t1' t2' h' k' F' N' l1; (try k_lt l1); (try k_sweep))) | walk1 | (dsimp only; walk1))))
  · exact hQ _ _ _ (by rw [decide_eq_false (by omega), Bool.and_false]) (Fr.keep (by assumption))
  · rename Fr _ _ _ _ => F
    rename News _ _ _ _ => N
    refine cut F _ (ell_for (vs := []) ⟨X, T⟩ (by omega) (by omega) (by omega) hg (fun v hv => nomatch hv) F N (.tail _ (.head _)) ⟨rfl, rfl, rfl, rfl, trivial⟩) ?_
    clear F N
    intro h₂ tk₂ m₂ news₂ F N _
    ((try dsimp only); repeat' (first | (with_reducible refine wpAny_execs_cons ?_) | (with_reducible refine wpAny_execs_nil ?_) | (with_reducible refine wpAny_If ?_) | ((with_reducible show wpAny _ _ (PySem.truthy (Value.str _ _)) _ _ _); refine SBL.truthy (by omega) ?_) | ( (fail_if_success (with_reducible first | show LCg.CompSrc _ _ _ _ _ _ _ _ _ _ _ _ _ _ | show LCt.CompSrcT _ _ _ _ _ _ _ _ _ _ _ _ _ _ _ | show LCp.SrcLP _ _ _ _ _ _ _ _ _ _ _ _ _ _ _ | show LCg.CompEnd _ _ _ _ _ _ _ _ _ _ _ _ _ _ | show WEnd _ _ _ _ _ _ _ _ _ _ | show After _ _ _ _ _ _ _ _ _ | show TEnd _ _ _ _ _ _ _ _ _ | show TPost _ _ _ _ _ _ _ _ _ _ _ | show wpAny _ _ (eval (Expr.ListComp _ _ _ _) _) _ _ _ | show wpAny _ _ (exec (Stmt.For _ _ _ _ _) _) _ _ _ | show wpAny _ _ (exec (Stmt.While _ _ _ _) _) _ _ _ | show wpAny _ _ (exec (Stmt.Assign _ (Expr.ListComp _ _ _ _) _) _) _ _ _ | show wpAny _ _ (call (Value.builtin "str.join") _) _ _ _ | show wpAny _ _ (compareOp _ (Value.ref _) (Value.ref _)) _ _ _ | show wpAny _ _ (call (Value.ref _) _) _ _ _)); first | (with_reducible ((with_reducible show wpAny _ _ (call (Value.builtin "str.split") _) _ _ _); refine split_two (by k_asm) (by k_asm) rfl (by assumption) ?_ (by size_fits); intro D' t1' t2' h' k' F' N' l1; (try k_lt l1); (try k_sweep))) | walk1 | (dsimp only; walk1))))
    exact hQ _ _ _ (by simp_all; omega) F.keep
  · exact hQ _ _ _ (by simp_all [starts_nil, ends_nil] <;> omega) (Fr.keep (by assumption))
  · exact hQ _ _ _ (by simp_all [starts_nil, ends_nil] <;> omega) (Fr.keep (by assumption))
  · rename Fr _ _ _ _ => F
    rename News _ _ _ _ => N
    refine cut F _ (ell_for (vs := [.str q _]) ⟨X, T⟩ (by omega) (by omega) (by omega) hg (fun v hv => ⟨_, (List.mem_singleton.mp hv).trans (congrArg (fun z => Value.str z _) (mk_nil_of (by omega)))⟩) F N (.tail _ (.head _)) ⟨rfl, rfl, rfl, rfl, trivial⟩) ?_
    clear F N
    intro h₂ tk₂ m₂ news₂ F N _
    ((try dsimp only); repeat' (first | (with_reducible refine wpAny_execs_cons ?_) | (with_reducible refine wpAny_execs_nil ?_) | (with_reducible refine wpAny_If ?_) | ((with_reducible show wpAny _ _ (PySem.truthy (Value.str _ _)) _ _ _); refine SBL.truthy (by omega) ?_) | ( (fail_if_success (with_reducible first | show LCg.CompSrc _ _ _ _ _ _ _ _ _ _ _ _ _ _ | show LCt.CompSrcT _ _ _ _ _ _ _ _ _ _ _ _ _ _ _ | show LCp.SrcLP _ _ _ _ _ _ _ _ _ _ _ _ _ _ _ | show LCg.CompEnd _ _ _ _ _ _ _ _ _ _ _ _ _ _ | show WEnd _ _ _ _ _ _ _ _ _ _ | show After _ _ _ _ _ _ _ _ _ | show TEnd _ _ _ _ _ _ _ _ _ | show TPost _ _ _ _ _ _ _ _ _ _ _ | show wpAny _ _ (eval (Expr.ListComp _ _ _ _) _) _ _ _ | show wpAny _ _ (exec (Stmt.For _ _ _ _ _) _) _ _ _ | show wpAny _ _ (exec (Stmt.While _ _ _ _) _) _ _ _ | show wpAny _ _ (exec (Stmt.Assign _ (Expr.ListComp _ _ _ _) _) _) _ _ _ | show wpAny _ _ (call (Value.builtin "str.join") _) _ _ _ | show wpAny _ _ (compareOp _ (Value.ref _) (Value.ref _)) _ _ _ | show wpAny _ _ (call (Value.ref _) _) _ _ _)); first | (with_reducible ((with_reducible show wpAny _ _ (call (Value.builtin "str.split") _) _ _ _); refine split_two (by k_asm) (by k_asm) rfl (by assumption) ?_ (by size_fits); intro D' t1' t2' h' k' F' N' l1; (try k_lt l1); (try k_sweep))) | walk1 | (dsimp only; walk1))))
    exact hQ _ _ _ (by simp_all [starts_nil, ends_nil] <;> omega) F.keep
  · exact hQ _ _ _ (by simp_all [starts_nil, ends_nil] <;> omega) (Fr.keep (by assumption))
  · exact hQ _ _ _ (by simp_all [starts_nil, ends_nil] <;> omega) (Fr.keep (by assumption))
  · rename Fr _ _ _ _ => F
    rename News _ _ _ _ => N
    refine cut F _ (ell_for (vs := [.str p _]) ⟨X, T⟩ (by omega) (by omega) (by omega) hg (fun v hv => ⟨_, (List.mem_singleton.mp hv).trans (congrArg (fun z => Value.str z _) (mk_nil_of (by omega)))⟩) F N (.tail _ (.head _)) ⟨rfl, rfl, rfl, rfl, trivial⟩) ?_
    clear F N
    intro h₂ tk₂ m₂ news₂ F N _
    ((try dsimp only); repeat' (first | (with_reducible refine wpAny_execs_cons ?_) | (with_reducible refine wpAny_execs_nil ?_) | (with_reducible refine wpAny_If ?_) | ((with_reducible show wpAny _ _ (PySem.truthy (Value.str _ _)) _ _ _); refine SBL.truthy (by omega) ?_) | ( (fail_if_success (with_reducible first | show LCg.CompSrc _ _ _ _ _ _ _ _ _ _ _ _ _ _ | show LCt.CompSrcT _ _ _ _ _ _ _ _ _ _ _ _ _ _ _ | show LCp.SrcLP _ _ _ _ _ _ _ _ _ _ _ _ _ _ _ | show LCg.CompEnd _ _ _ _ _ _ _ _ _ _ _ _ _ _ | show WEnd _ _ _ _ _ _ _ _ _ _ | show After _ _ _ _ _ _ _ _ _ | show TEnd _ _ _ _ _ _ _ _ _ | show TPost _ _ _ _ _ _ _ _ _ _ _ | show wpAny _ _ (eval (Expr.ListComp _ _ _ _) _) _ _ _ | show wpAny _ _ (exec (Stmt.For _ _ _ _ _) _) _ _ _ | show wpAny _ _ (exec (Stmt.While _ _ _ _) _) _ _ _ | show wpAny _ _ (exec (Stmt.Assign _ (Expr.ListComp _ _ _ _) _) _) _ _ _ | show wpAny _ _ (call (Value.builtin "str.join") _) _ _ _ | show wpAny _ _ (compareOp _ (Value.ref _) (Value.ref _)) _ _ _ | show wpAny _ _ (call (Value.ref _) _) _ _ _)); first | (with_reducible ((with_reducible show wpAny _ _ (call (Value.builtin "str.split") _) _ _ _); refine split_two (by k_asm) (by k_asm) rfl (by assumption) ?_ (by size_fits); intro D' t1' t2' h' k' F' N' l1; (try k_lt l1); (try k_sweep))) | walk1 | (dsimp only; walk1))))
    exact hQ _ _ _ (by simp_all [starts_nil, ends_nil] <;> omega) F.keep
  · exact hQ _ _ _ (by simp_all [starts_nil, ends_nil] <;> omega) (Fr.keep (by assumption))
  · rename Fr _ _ _ _ => F
    rename News _ _ _ _ => N
    refine cut F _ (ell_for (vs := [.str p _, .str q _]) ⟨X, T⟩ (by omega) (by omega) (by omega) hg (by intro v hv; rcases List.mem_cons.mp hv with rfl | hv; exact ⟨_, congrArg (fun z => Value.str z _) (mk_nil_of (by omega))⟩; exact ⟨_, (List.mem_singleton.mp hv).trans (congrArg (fun z => Value.str z _) (mk_nil_of (by omega)))⟩) F N (.tail _ (.head _)) ⟨rfl, rfl, rfl, rfl, trivial⟩) ?_
    clear F N
    intro h₂ tk₂ m₂ news₂ F N _
    ((try dsimp only); repeat' (first | (with_reducible refine wpAny_execs_cons ?_) | (with_reducible refine wpAny_execs_nil ?_) | (with_reducible refine wpAny_If ?_) | ((with_reducible show wpAny _ _ (PySem.truthy (Value.str _ _)) _ _ _); refine SBL.truthy (by omega) ?_) | ( (fail_if_success (with_reducible first | show LCg.CompSrc _ _ _ _ _ _ _ _ _ _ _ _ _ _ | show LCt.CompSrcT _ _ _ _ _ _ _ _ _ _ _ _ _ _ _ | show LCp.SrcLP _ _ _ _ _ _ _ _ _ _ _ _ _ _ _ | show LCg.CompEnd _ _ _ _ _ _ _ _ _ _ _ _ _ _ | show WEnd _ _ _ _ _ _ _ _ _ _ | show After _ _ _ _ _ _ _ _ _ | show TEnd _ _ _ _ _ _ _ _ _ | show TPost _ _ _ _ _ _ _ _ _ _ _ | show wpAny _ _ (eval (Expr.ListComp _ _ _ _) _) _ _ _ | show wpAny _ _ (exec (Stmt.For _ _ _ _ _) _) _ _ _ | show wpAny _ _ (exec (Stmt.While _ _ _ _) _) _ _ _ | show wpAny _ _ (exec (Stmt.Assign _ (Expr.ListComp _ _ _ _) _) _) _ _ _ | show wpAny _ _ (call (Value.builtin "str.join") _) _ _ _ | show wpAny _ _ (compareOp _ (Value.ref _) (Value.ref _)) _ _ _ | show wpAny _ _ (call (Value.ref _) _) _ _ _)); first | (with_reducible ((with_reducible show wpAny _ _ (call (Value.builtin "str.split") _) _ _ _); refine split_two (by k_asm) (by k_asm) rfl (by assumption) ?_ (by size_fits); intro D' t1' t2' h' k' F' N' l1; (try k_lt l1); (try k_sweep))) | walk1 | (dsimp only; walk1))))
    exact hQ _ _ _ (by simp_all [starts_nil, ends_nil] <;> omega) F.keep
end
end
section
def dotsGo (x y : List Nat) : Bool := if x.length - y.length > 1 then false else (List.range x.length).any fun k => elF (x.take k) (x.drop (k + 1)) y
def dotsF (a b : List Nat) : Bool := if a.length < b.length then dotsGo b a else dotsGo a b
theorem ofs_dots : Str.ofString "..." = dots := by decide +kernel

inductive DoJ (x y : Str) (t1 t2 : Tok) (i : Nat) (m' : Str → Option Value) (news' : List (Addr × Obj)) : Prop
  | mk (e : news' = []) (hs : Has m' [("one", .str x t1), ("other", .str y t2)]) (hf : ∀ k, k < i → elF ((cl x).take k) ((cl x).drop (k + 1)) (cl y) = false)
inductive DoE (x y : Str) (m : Str → Option Value) (news : List (Addr × Obj)) : Prop
  | mk (p q : Str) (tp tq : Tok) (hs : Has m [("one", .str p tp), ("other", .str q tq)]) (hp : p.length ≤ 3) (hq : q.length ≤ 3) (ap : Abs p) (aq : Abs q) (hl : q.length ≤ p.length) (hd : dotsF (cl x) (cl y) = dotsGo (cl p) (cl q))
set_option maxRecDepth 100000 in
set_option maxHeartbeats 8000000 in
theorem dots_for {w : World} {mg mb : Str → Option Value} {mean : ExcName → Option Value} {h₀ hp : Heap} {gn : Array GenState} {dr : Drawn} {tk₀ : Nat} {os : OsState} (G : Cx w mg mb mean h₀) {L : Addr} {m : Str → Option Value}
    {x y : Str} {t1 t2 : Tok} (hx : x.length ≤ 3) (hy : y.length ≤ 3) (ax : Abs x) (ay : Abs y) (F : Fr h₀ L hp m)
    (hs : Has m [("one", .str x t1), ("other", .str y t2)]) {Q : Flow → Shared → Prop}
    (hQ : ∀ v h' tk, v = ((List.range (cl x).length).any fun k => elF ((cl x).take k) ((cl x).drop (k + 1)) (cl y)) → Kept h₀ h' → Q (.ret (.bool v)) ⟨h', gn, dr, tk, os⟩) :
    wpAny (model PP w) (Lv 321) (execs ((fnStmts 16).drop 2) (envOf "_law_near_by_dots" (fnScope 16) L 106 (.ref 105))) Q (fun _ _ => False) ⟨hp, gn, dr, tk₀, os⟩ := by
  obtain ⟨X, T⟩ := G
  (conv => (arg 3; congr; · whnf; · (arg 2; whnf)))
  replace F := frOver _ F hs
  have N : News h₀ L hp [] := News.nil
  have hxl := len_cl x
  refine wpAny_execs_cons ?_
  refine for_in ?_
  ((try dsimp only); repeat' (first | (with_reducible refine wpAny_execs_cons ?_) | (with_reducible refine wpAny_execs_nil ?_) | (with_reducible refine wpAny_If ?_) | ((with_reducible show wpAny _ _ (PySem.truthy (Value.str _ _)) _ _ _); refine SBL.truthy (by omega) ?_) | ( (fail_if_success (with_reducible first | show LCg.CompSrc _ _ _ _ _ _ _ _ _ _ _ _ _ _ | show LCt.CompSrcT _ _ _ _ _ _ _ _ _ _ _ _ _ _ _ | show LCp.SrcLP _ _ _ _ _ _ _ _ _ _ _ _ _ _ _ | show LCg.CompEnd _ _ _ _ _ _ _ _ _ _ _ _ _ _ | show WEnd _ _ _ _ _ _ _ _ _ _ | show After _ _ _ _ _ _ _ _ _ | show TEnd _ _ _ _ _ _ _ _ _ | show TPost _ _ _ _ _ _ _ _ _ _ _ | show wpAny _ _ (eval (Expr.ListComp _ _ _ _) _) _ _ _ | show wpAny _ _ (exec (Stmt.For _ _ _ _ _) _) _ _ _ | show wpAny _ _ (exec (Stmt.While _ _ _ _) _) _ _ _ | show wpAny _ _ (exec (Stmt.Assign _ (Expr.ListComp _ _ _ _) _) _) _ _ _ | show wpAny _ _ (call (Value.builtin "str.join") _) _ _ _ | show wpAny _ _ (compareOp _ (Value.ref _) (Value.ref _)) _ _ _ | show wpAny _ _ (call (Value.ref _) _) _ _ _)); first | walk1 | (dsimp only; walk1))))
  rename IsRange _ _ _ _ _ _ _ _ => hR
  rename Fr _ _ _ _ => F
  rename News _ _ _ _ => N
  refine for_range (n := x.length) (DoJ x y t1 t2)
    rfl hR (small_one (by omega) (by omega) (by omega) (by omega)) (by rw [rangeSize_nat]; omega) rfl rfl F N ?_ ?_ ?_ <;> clear F N hR
  · exact ⟨rfl, ⟨rfl, rfl, trivial⟩, fun k hk => absurd hk (Nat.not_lt_zero _)⟩
  · rintro i t m₁ _ I h tk o hi ⟨rfl, hs', hf⟩ hne F N
    replace F := frOverX _ F hs'
    rw [Int.zero_add] at F
    ((try dsimp only); repeat' (first | (with_reducible refine wpAny_execs_cons ?_) | (with_reducible refine wpAny_execs_nil ?_) | (with_reducible refine wpAny_If ?_) | ((with_reducible show wpAny _ _ (PySem.truthy (Value.str _ _)) _ _ _); refine SBL.truthy (by omega) ?_) | ( (fail_if_success (with_reducible first | show LCg.CompSrc _ _ _ _ _ _ _ _ _ _ _ _ _ _ | show LCt.CompSrcT _ _ _ _ _ _ _ _ _ _ _ _ _ _ _ | show LCp.SrcLP _ _ _ _ _ _ _ _ _ _ _ _ _ _ _ | show LCg.CompEnd _ _ _ _ _ _ _ _ _ _ _ _ _ _ | show WEnd _ _ _ _ _ _ _ _ _ _ | show After _ _ _ _ _ _ _ _ _ | show TEnd _ _ _ _ _ _ _ _ _ | show TPost _ _ _ _ _ _ _ _ _ _ _ | show wpAny _ _ (eval (Expr.ListComp _ _ _ _) _) _ _ _ | show wpAny _ _ (exec (Stmt.For _ _ _ _ _) _) _ _ _ | show wpAny _ _ (exec (Stmt.While _ _ _ _) _) _ _ _ | show wpAny _ _ (exec (Stmt.Assign _ (Expr.ListComp _ _ _ _) _) _) _ _ _ | show wpAny _ _ (call (Value.builtin "str.join") _) _ _ _ | show wpAny _ _ (compareOp _ (Value.ref _) (Value.ref _)) _ _ _ | show wpAny _ _ (call (Value.ref _) _) _ _ _)); first | walk1 | (dsimp only; walk1))))
    rename Fr _ _ _ _ => F
    rename News _ _ _ _ => N
    have ep : cl (Txt.slice x none (some (i : Int))) = (cl x).take i := cl_to x i
    have eq : cl (Txt.slice x (some ((i : Int) + 1)) none) = (cl x).drop (i + 1) := cl_from x (i + 1)
    have lp : (Txt.slice x none (some (i : Int))).length + (Txt.slice x (some ((i : Int) + 1)) none).length ≤ 2 := by
      rw [len_cl, len_cl, ep, eq, List.length_take, List.length_drop]; omega
    have ap : Abs (Txt.slice x none (some (i : Int))) := fun c hc => ax c (by rw [ep] at hc; exact List.mem_of_mem_take hc)
    have aq : Abs (Txt.slice x (some ((i : Int) + 1)) none) := fun c hc => ax c (by rw [eq] at hc; exact List.mem_of_mem_drop hc)
    rw [ofs_dots]
    refine weaken (ell_spec (Cx.keeps ⟨X, T⟩ F.keep) lp hy ap aq ay ?_)
    intro v h₂ tk₂ hv hk
    rw [ep, eq] at hv
    replace F := frKept F hk
    replace N := newsKept N hk
    clear hk
    cases v with
    | true =>
      ((try dsimp only); repeat' (first | (with_reducible refine wpAny_execs_cons ?_) | (with_reducible refine wpAny_execs_nil ?_) | (with_reducible refine wpAny_If ?_) | ((with_reducible show wpAny _ _ (PySem.truthy (Value.str _ _)) _ _ _); refine SBL.truthy (by omega) ?_) | ( (fail_if_success (with_reducible first | show LCg.CompSrc _ _ _ _ _ _ _ _ _ _ _ _ _ _ | show LCt.CompSrcT _ _ _ _ _ _ _ _ _ _ _ _ _ _ _ | show LCp.SrcLP _ _ _ _ _ _ _ _ _ _ _ _ _ _ _ | show LCg.CompEnd _ _ _ _ _ _ _ _ _ _ _ _ _ _ | show WEnd _ _ _ _ _ _ _ _ _ _ | show After _ _ _ _ _ _ _ _ _ | show TEnd _ _ _ _ _ _ _ _ _ | show TPost _ _ _ _ _ _ _ _ _ _ _ | show wpAny _ _ (eval (Expr.ListComp _ _ _ _) _) _ _ _ | show wpAny _ _ (exec (Stmt.For _ _ _ _ _) _) _ _ _ | show wpAny _ _ (exec (Stmt.While _ _ _ _) _) _ _ _ | show wpAny _ _ (exec (Stmt.Assign _ (Expr.ListComp _ _ _ _) _) _) _ _ _ | show wpAny _ _ (call (Value.builtin "str.join") _) _ _ _ | show wpAny _ _ (compareOp _ (Value.ref _) (Value.ref _)) _ _ _ | show wpAny _ _ (call (Value.ref _) _) _ _ _)); first | walk1 | (dsimp only; walk1))))
      exact hQ _ _ _ (by symm; rw [List.any_eq_true]; exact ⟨i, List.mem_range.mpr (by omega), hv.symm⟩) F.keep
    | false =>
      ((try dsimp only); repeat' (first | (with_reducible refine wpAny_execs_cons ?_) | (with_reducible refine wpAny_execs_nil ?_) | (with_reducible refine wpAny_If ?_) | ((with_reducible show wpAny _ _ (PySem.truthy (Value.str _ _)) _ _ _); refine SBL.truthy (by omega) ?_) | ( (fail_if_success (with_reducible first | show LCg.CompSrc _ _ _ _ _ _ _ _ _ _ _ _ _ _ | show LCt.CompSrcT _ _ _ _ _ _ _ _ _ _ _ _ _ _ _ | show LCp.SrcLP _ _ _ _ _ _ _ _ _ _ _ _ _ _ _ | show LCg.CompEnd _ _ _ _ _ _ _ _ _ _ _ _ _ _ | show WEnd _ _ _ _ _ _ _ _ _ _ | show After _ _ _ _ _ _ _ _ _ | show TEnd _ _ _ _ _ _ _ _ _ | show TPost _ _ _ _ _ _ _ _ _ _ _ | show wpAny _ _ (eval (Expr.ListComp _ _ _ _) _) _ _ _ | show wpAny _ _ (exec (Stmt.For _ _ _ _ _) _) _ _ _ | show wpAny _ _ (exec (Stmt.While _ _ _ _) _) _ _ _ | show wpAny _ _ (exec (Stmt.Assign _ (Expr.ListComp _ _ _ _) _) _) _ _ _ | show wpAny _ _ (call (Value.builtin "str.join") _) _ _ _ | show wpAny _ _ (compareOp _ (Value.ref _) (Value.ref _)) _ _ _ | show wpAny _ _ (call (Value.ref _) _) _ _ _)); first | walk1 | (dsimp only; walk1))))
      exact TEnd.intro [] F N (by intro p hp; exact hp) (fun p hp => nomatch hp) ⟨rfl, ⟨rfl, rfl, trivial⟩, fun k hk => by
        rcases Nat.lt_succ_iff_lt_or_eq.mp hk with hk | rfl
        · exact hf k hk
        · exact hv.symm⟩
  · rintro m₁ _ h tk ⟨rfl, hs', hf⟩ F N
    ((try dsimp only); repeat' (first | (with_reducible refine wpAny_execs_cons ?_) | (with_reducible refine wpAny_execs_nil ?_) | (with_reducible refine wpAny_If ?_) | ((with_reducible show wpAny _ _ (PySem.truthy (Value.str _ _)) _ _ _); refine SBL.truthy (by omega) ?_) | ( (fail_if_success (with_reducible first | show LCg.CompSrc _ _ _ _ _ _ _ _ _ _ _ _ _ _ | show LCt.CompSrcT _ _ _ _ _ _ _ _ _ _ _ _ _ _ _ | show LCp.SrcLP _ _ _ _ _ _ _ _ _ _ _ _ _ _ _ | show LCg.CompEnd _ _ _ _ _ _ _ _ _ _ _ _ _ _ | show WEnd _ _ _ _ _ _ _ _ _ _ | show After _ _ _ _ _ _ _ _ _ | show TEnd _ _ _ _ _ _ _ _ _ | show TPost _ _ _ _ _ _ _ _ _ _ _ | show wpAny _ _ (eval (Expr.ListComp _ _ _ _) _) _ _ _ | show wpAny _ _ (exec (Stmt.For _ _ _ _ _) _) _ _ _ | show wpAny _ _ (exec (Stmt.While _ _ _ _) _) _ _ _ | show wpAny _ _ (exec (Stmt.Assign _ (Expr.ListComp _ _ _ _) _) _) _ _ _ | show wpAny _ _ (call (Value.builtin "str.join") _) _ _ _ | show wpAny _ _ (compareOp _ (Value.ref _) (Value.ref _)) _ _ _ | show wpAny _ _ (call (Value.ref _) _) _ _ _)); first | walk1 | (dsimp only; walk1))))
    exact hQ _ _ _ (by symm; rw [List.any_eq_false]; intro k hk; rw [hf k (by rw [List.mem_range] at hk; omega)]; exact Bool.false_ne_true) F.keep

set_option maxRecDepth 100000 in
set_option maxHeartbeats 8000000 in
theorem dots_spec {w : World} {mg mb : Str → Option Value} {mean : ExcName → Option Value} {s : Shared} (G : Cx w mg mb mean s.heap) {x y : Str} {ta tb : Tok} {Q : Value → Shared → Prop} {E : Value → Shared → Prop}
    (hx : x.length ≤ 3) (hy : y.length ≤ 3) (ax : Abs x) (ay : Abs y)
    (hQ : ∀ v h' tk, v = dotsF (cl x) (cl y) → Kept s.heap h' → Q (.bool v) { s with heap := h', toks := tk }) :
    wpAny (model PP w) (Lv 320) (call (.ref 106) [.str x ta, .str y tb]) Q E s := by
  have G' := G
  obtain ⟨X, T⟩ := G
  (refine' call_own (by assumption) (Top.nolimit (by assumption)) ?ho ?hcd ?hb ?hl ?hc ?_ ?hr ?h1 ?h2 ?h3; (case ho => k_is); (case hcd => k_is); (case hb => exact BindsTo.of_eq rfl); (case hl => exact locs rfl); (case hc => decide); (case hr => decide); (case h1 => exact rfl); (case h2 => exact rfl); (case h3 => exact rfl))
  intro L h₁ tk F N
  have hxl := len_cl x
  have hyl := len_cl y
  replace F := frOver [("one", .str x ta), ("other", .str y tb)] F ⟨rfl, rfl, trivial⟩
  generalize (fun y => _ : Str → Option Value) = m₁ at F
  refine wpAny_execs_cons ?_
  refine cut F (DoE x y) ?_ ?_
  · ((try dsimp only); repeat' (first | (with_reducible refine wpAny_execs_cons ?_) | (with_reducible refine wpAny_execs_nil ?_) | (with_reducible refine wpAny_If ?_) | ((with_reducible show wpAny _ _ (PySem.truthy (Value.str _ _)) _ _ _); refine SBL.truthy (by omega) ?_) | ( (fail_if_success (with_reducible first | show LCg.CompSrc _ _ _ _ _ _ _ _ _ _ _ _ _ _ | show LCt.CompSrcT _ _ _ _ _ _ _ _ _ _ _ _ _ _ _ | show LCp.SrcLP _ _ _ _ _ _ _ _ _ _ _ _ _ _ _ | show LCg.CompEnd _ _ _ _ _ _ _ _ _ _ _ _ _ _ | show WEnd _ _ _ _ _ _ _ _ _ _ | show After _ _ _ _ _ _ _ _ _ | show TEnd _ _ _ _ _ _ _ _ _ | show TPost _ _ _ _ _ _ _ _ _ _ _ | show wpAny _ _ (eval (Expr.ListComp _ _ _ _) _) _ _ _ | show wpAny _ _ (exec (Stmt.For _ _ _ _ _) _) _ _ _ | show wpAny _ _ (exec (Stmt.While _ _ _ _) _) _ _ _ | show wpAny _ _ (exec (Stmt.Assign _ (Expr.ListComp _ _ _ _) _) _) _ _ _ | show wpAny _ _ (call (Value.builtin "str.join") _) _ _ _ | show wpAny _ _ (compareOp _ (Value.ref _) (Value.ref _)) _ _ _ | show wpAny _ _ (call (Value.ref _) _) _ _ _)); first | walk1 | (dsimp only; walk1))))
    · exact After.next (by assumption) (by assumption) ⟨y, x, _, _, ⟨rfl, rfl, trivial⟩, hy, hx, ay, ax, by omega, if_pos (by omega)⟩
    · exact After.next (by assumption) (by assumption) ⟨x, y, _, _, ⟨rfl, rfl, trivial⟩, hx, hy, ax, ay, by omega, if_neg (by omega)⟩
  clear F N
  rintro h₂ tk₂ m₂ _ F N ⟨p, q, tp, tq, hs, hp, hq, ap, aq, hpq, hd⟩
  rw [hd, dotsGo] at hQ
  replace F := frOver _ F hs
  replace N : News s.heap L h₂ [] := News.nil
  have hpl := len_cl p
  have hql := len_cl q
  dsimp only
  refine wpAny_execs_cons ?_
  refine cut F (fun m news => Has m [("one", .str p tp), ("other", .str q tq)] ∧ ¬ (cl p).length - (cl q).length > 1) ?_ ?_
  · ((try dsimp only); repeat' (first | (with_reducible refine wpAny_execs_cons ?_) | (with_reducible refine wpAny_execs_nil ?_) | (with_reducible refine wpAny_If ?_) | ((with_reducible show wpAny _ _ (PySem.truthy (Value.str _ _)) _ _ _); refine SBL.truthy (by omega) ?_) | ( (fail_if_success (with_reducible first | show LCg.CompSrc _ _ _ _ _ _ _ _ _ _ _ _ _ _ | show LCt.CompSrcT _ _ _ _ _ _ _ _ _ _ _ _ _ _ _ | show LCp.SrcLP _ _ _ _ _ _ _ _ _ _ _ _ _ _ _ | show LCg.CompEnd _ _ _ _ _ _ _ _ _ _ _ _ _ _ | show WEnd _ _ _ _ _ _ _ _ _ _ | show After _ _ _ _ _ _ _ _ _ | show TEnd _ _ _ _ _ _ _ _ _ | show TPost _ _ _ _ _ _ _ _ _ _ _ | show wpAny _ _ (eval (Expr.ListComp _ _ _ _) _) _ _ _ | show wpAny _ _ (exec (Stmt.For _ _ _ _ _) _) _ _ _ | show wpAny _ _ (exec (Stmt.While _ _ _ _) _) _ _ _ | show wpAny _ _ (exec (Stmt.Assign _ (Expr.ListComp _ _ _ _) _) _) _ _ _ | show wpAny _ _ (call (Value.builtin "str.join") _) _ _ _ | show wpAny _ _ (compareOp _ (Value.ref _) (Value.ref _)) _ _ _ | show wpAny _ _ (call (Value.ref _) _) _ _ _)); first | walk1 | (dsimp only; walk1))))
    · exact hQ _ _ _ (by rw [if_pos (by omega)]) F.keep
    · exact After.next F N ⟨⟨rfl, rfl, trivial⟩, by omega⟩
  clear F N
  rintro h₃ tk₃ m₃ _ F N ⟨hs', hn⟩
  rw [if_neg hn] at hQ
  refine dots_for G' hp hq ap aq F hs' ?_
  intro v h' tk hv hk
  exact hQ v h' tk hv hk
end
section
def delAt (x : List Nat) (k : Nat) : List Nat := x.take k ++ x.drop (k + 1)
def diffTo (a b : List Nat) (i : Nat) : List Nat := (List.range i).filter fun k => decide (a.getD k 0 ≠ b.getD k 0)
def diffN (a b : List Nat) : Nat := (diffTo a b a.length).length
def nearGo (x y : List Nat) : Bool := ((List.range x.length).map (delAt x)).contains y
def nearF (a b : List Nat) : Bool := if a.length = b.length then decide (diffN a b < 2) else if a.length < b.length then nearGo b a else nearGo a b

theorem intsSnocN {z : Int} {t : Tok} : ∀ {vs : List Value} {ns : List Int}, IntsAre vs ns → IntsAre (vs ++ [.int z t]) (ns ++ [z]) := by
  intro vs ns h
  induction h with
  | nil => exact .cons z t .nil
  | cons y u _ ih => exact .cons y u ih
theorem diff_succ (a b : List Nat) (i : Nat) : diffTo a b (i + 1) = if a.getD i 0 ≠ b.getD i 0 then diffTo a b i ++ [i] else diffTo a b i := by
  unfold diffTo
  rw [List.range_succ, List.filter_append, List.filter_cons, List.filter_nil]
  by_cases q : a.getD i 0 ≠ b.getD i 0
  · rw [if_pos (decide_eq_true q), if_pos q]
  · rw [if_neg (by rw [decide_eq_true_eq]; exact q), if_neg q, List.append_nil]
inductive NdJ (L : Addr) (o1 o2 : Obj) (x y : Str) (i : Nat) (ys : List Value) (news' : List (Addr × Obj)) : Prop
  | mk (e : news' = [(L + 1 + 1, o1), (L + 1, o2)]) (hy : IntsAre ys ((diffTo (cl x) (cl y) i).map fun (k : Nat) => (k : Int)))
inductive NeE (L : Addr) (o1 o2 : Obj) (x y : Str) (m : Str → Option Value) (news : List (Addr × Obj)) : Prop
  | mk (e : news = [(L + 1 + 1, o1), (L + 1, o2)]) (h : (cl x).length ≠ (cl y).length)
inductive NsE (L : Addr) (x y : Str) (m : Str → Option Value) (news : List (Addr × Obj)) : Prop
  | mk (o1 o2 : Obj) (p q : Str) (tp tq : Tok) (e : news = [(L + 1 + 1, o1), (L + 1, o2)]) (d1 : o1.data = .cell (some (.str q tq))) (d2 : o2.data = .cell (some (.str p tp))) (hp : p.length ≤ 3) (hq : q.length ≤ 3) (h : nearF (cl x) (cl y) = nearGo (cl p) (cl q))
set_option maxRecDepth 100000 in
set_option maxHeartbeats 8000000 in
theorem near_spec {w : World} {mg mb : Str → Option Value} {mean : ExcName → Option Value} {s : Shared} (G : Cx w mg mb mean s.heap) {x y : Str} {ta tb : Tok} {Q : Value → Shared → Prop} {E : Value → Shared → Prop}
    (hx : x.length ≤ 3) (hy : y.length ≤ 3) 
    (hQ : ∀ v h' tk, v = nearF (cl x) (cl y) → Kept s.heap h' → Q (.bool v) { s with heap := h', toks := tk }) :
    wpAny (model PP w) (Lv 320) (call (.ref 111) [.str x ta, .str y tb]) Q E s := by
  obtain ⟨X, T⟩ := G
  (refine' call_ownC (by assumption) (Top.nolimit (by assumption)) ?ho ?hcd ?hb ?hl ?hc ?_ ?hr ?h1 ?h2 ?h3; (case ho => k_is); (case hcd => k_is); (case hb => exact BindsTo.of_eq rfl); (case hl => exact rfl); (case hc => decide +kernel); (case hr => decide); (case h1 => exact rfl); (case h2 => exact rfl); (case h3 => exact rfl))
  intro L h₁ tk cells F N Y
  obtain ⟨o1, o2, rfl, d1, d2⟩ := CellsAre.two Y
  clear Y
  replace d1 : o1.data = .cell (some (.str y tb)) := d1
  replace d2 : o2.data = .cell (some (.str x ta)) := d2
  have hxl := len_cl x
  have hyl := len_cl y
  generalize bindL _ _ _ = m₁ at F
  refine wpAny_execs_cons ?_
  refine cut F (NeE L o1 o2 x y) ?_ ?_
  · ((try dsimp only); repeat' (first | (with_reducible refine wpAny_execs_cons ?_) | (with_reducible refine wpAny_execs_nil ?_) | (with_reducible refine wpAny_If ?_) | ((with_reducible show wpAny _ _ (PySem.truthy (Value.str _ _)) _ _ _); refine SBL.truthy (by omega) ?_) | ( (fail_if_success (with_reducible first | show LCg.CompSrc _ _ _ _ _ _ _ _ _ _ _ _ _ _ | show LCt.CompSrcT _ _ _ _ _ _ _ _ _ _ _ _ _ _ _ | show LCp.SrcLP _ _ _ _ _ _ _ _ _ _ _ _ _ _ _ | show LCg.CompEnd _ _ _ _ _ _ _ _ _ _ _ _ _ _ | show WEnd _ _ _ _ _ _ _ _ _ _ | show After _ _ _ _ _ _ _ _ _ | show TEnd _ _ _ _ _ _ _ _ _ | show TPost _ _ _ _ _ _ _ _ _ _ _ | show wpAny _ _ (eval (Expr.ListComp _ _ _ _) _) _ _ _ | show wpAny _ _ (exec (Stmt.For _ _ _ _ _) _) _ _ _ | show wpAny _ _ (exec (Stmt.While _ _ _ _) _) _ _ _ | show wpAny _ _ (exec (Stmt.Assign _ (Expr.ListComp _ _ _ _) _) _) _ _ _ | show wpAny _ _ (call (Value.builtin "str.join") _) _ _ _ | show wpAny _ _ (compareOp _ (Value.ref _) (Value.ref _)) _ _ _ | show wpAny _ _ (call (Value.ref _) _) _ _ _)); first | walk1 | (dsimp only; walk1))))
    · have hxy : x.length = y.length := by omega
      (k_dflt (refine LCt.ListComp_T (F₀ := by k_asm) (by with_unfolding_all rfl) (by decide) (by rfl) (by decide) (by rfl) ?_))
      ((try dsimp only); repeat' (first | (with_reducible refine wpAny_execs_cons ?_) | (with_reducible refine wpAny_execs_nil ?_) | (with_reducible refine wpAny_If ?_) | ((with_reducible show wpAny _ _ (PySem.truthy (Value.str _ _)) _ _ _); refine SBL.truthy (by omega) ?_) | ( (fail_if_success (with_reducible first | show LCg.CompSrc _ _ _ _ _ _ _ _ _ _ _ _ _ _ | show LCt.CompSrcT _ _ _ _ _ _ _ _ _ _ _ _ _ _ _ | show LCp.SrcLP _ _ _ _ _ _ _ _ _ _ _ _ _ _ _ | show LCg.CompEnd _ _ _ _ _ _ _ _ _ _ _ _ _ _ | show WEnd _ _ _ _ _ _ _ _ _ _ | show After _ _ _ _ _ _ _ _ _ | show TEnd _ _ _ _ _ _ _ _ _ | show TPost _ _ _ _ _ _ _ _ _ _ _ | show wpAny _ _ (eval (Expr.ListComp _ _ _ _) _) _ _ _ | show wpAny _ _ (exec (Stmt.For _ _ _ _ _) _) _ _ _ | show wpAny _ _ (exec (Stmt.While _ _ _ _) _) _ _ _ | show wpAny _ _ (exec (Stmt.Assign _ (Expr.ListComp _ _ _ _) _) _) _ _ _ | show wpAny _ _ (call (Value.builtin "str.join") _) _ _ _ | show wpAny _ _ (compareOp _ (Value.ref _) (Value.ref _)) _ _ _ | show wpAny _ _ (call (Value.ref _) _) _ _ _)); first | walk1 | (dsimp only; walk1))))
      rename IsRange _ _ _ _ _ _ _ _ => hR
      rename Fr _ _ _ _ => F
      rename News _ _ _ _ => N
      refine LCt.CompSrcT.range (n := x.length) rfl F N hR (small_one (by omega) (by omega) (by omega) (by omega)) (by rw [rangeSize_nat]; omega) (Nat.le_trans hx (by decide)) (fun g => compRestT_inv (NdJ L o1 o2 x y) ?_ ?_ ?_) <;> clear F N hR
      · exact ⟨rfl, .nil⟩
      · rintro i ys _ hi ⟨rfl, hys⟩ v I oI C oC D' mc h tk E' ⟨t, rfl⟩ hC hm F N off hne
        rw [Int.zero_add] at hm
        have hi' : i < y.length := hxy ▸ hi
        have hsc := diff_succ (cl x) (cl y) i
        ((try dsimp only); repeat' (first | (with_reducible refine wpAny_execs_cons ?_) | (with_reducible refine wpAny_execs_nil ?_) | (with_reducible refine wpAny_If ?_) | ((with_reducible show wpAny _ _ (PySem.truthy (Value.str _ _)) _ _ _); refine SBL.truthy (by omega) ?_) | ( (fail_if_success (with_reducible first | show LCg.CompSrc _ _ _ _ _ _ _ _ _ _ _ _ _ _ | show LCt.CompSrcT _ _ _ _ _ _ _ _ _ _ _ _ _ _ _ | show LCp.SrcLP _ _ _ _ _ _ _ _ _ _ _ _ _ _ _ | show LCg.CompEnd _ _ _ _ _ _ _ _ _ _ _ _ _ _ | show WEnd _ _ _ _ _ _ _ _ _ _ | show After _ _ _ _ _ _ _ _ _ | show TEnd _ _ _ _ _ _ _ _ _ | show TPost _ _ _ _ _ _ _ _ _ _ _ | show wpAny _ _ (eval (Expr.ListComp _ _ _ _) _) _ _ _ | show wpAny _ _ (exec (Stmt.For _ _ _ _ _) _) _ _ _ | show wpAny _ _ (exec (Stmt.While _ _ _ _) _) _ _ _ | show wpAny _ _ (exec (Stmt.Assign _ (Expr.ListComp _ _ _ _) _) _) _ _ _ | show wpAny _ _ (call (Value.builtin "str.join") _) _ _ _ | show wpAny _ _ (compareOp _ (Value.ref _) (Value.ref _)) _ _ _ | show wpAny _ _ (call (Value.ref _) _) _ _ _)); first | walk1 | (dsimp only; walk1))))
        · rename (_ != _) = true => e
          rw [item_at x i hi, item_at y i hi', bne_iff_ne, ne_eq, sg_inj] at e
          rw [if_pos e] at hsc
          refine LCg.CompEnd.intro (by assumption) (by assumption) _ (fun p hp => hp) off trivial ⟨rfl, ?_⟩
          rw [hsc, List.map_append]
          exact intsSnocN hys
        · rename (_ != _) = false => e
          rw [item_at x i hi, item_at y i hi', bne_eq_false_iff_eq, sg_inj] at e
          rw [if_neg (fun q => q e)] at hsc
          refine LCg.CompEnd.intro (by assumption) (by assumption) _ (fun p hp => hp) off trivial ⟨rfl, ?_⟩
          rw [hsc]
          exact hys
      · rintro ys _ ⟨rfl, hys⟩ D' h tk F N off
        ((try dsimp only); repeat' (first | (with_reducible refine wpAny_execs_cons ?_) | (with_reducible refine wpAny_execs_nil ?_) | (with_reducible refine wpAny_If ?_) | ((with_reducible show wpAny _ _ (PySem.truthy (Value.str _ _)) _ _ _); refine SBL.truthy (by omega) ?_) | ( (fail_if_success (with_reducible first | show LCg.CompSrc _ _ _ _ _ _ _ _ _ _ _ _ _ _ | show LCt.CompSrcT _ _ _ _ _ _ _ _ _ _ _ _ _ _ _ | show LCp.SrcLP _ _ _ _ _ _ _ _ _ _ _ _ _ _ _ | show LCg.CompEnd _ _ _ _ _ _ _ _ _ _ _ _ _ _ | show WEnd _ _ _ _ _ _ _ _ _ _ | show After _ _ _ _ _ _ _ _ _ | show TEnd _ _ _ _ _ _ _ _ _ | show TPost _ _ _ _ _ _ _ _ _ _ _ | show wpAny _ _ (eval (Expr.ListComp _ _ _ _) _) _ _ _ | show wpAny _ _ (exec (Stmt.For _ _ _ _ _) _) _ _ _ | show wpAny _ _ (exec (Stmt.While _ _ _ _) _) _ _ _ | show wpAny _ _ (exec (Stmt.Assign _ (Expr.ListComp _ _ _ _) _) _) _ _ _ | show wpAny _ _ (call (Value.builtin "str.join") _) _ _ _ | show wpAny _ _ (compareOp _ (Value.ref _) (Value.ref _)) _ _ _ | show wpAny _ _ (call (Value.ref _) _) _ _ _)); first | walk1 | (dsimp only; walk1))))
        have hyl2 : ys.length = (diffTo (cl x) (cl y) x.length).length := by rw [hys.length, List.length_map]
        have hyl3 : ys.length ≤ 3 := by rw [hyl2]; exact Nat.le_trans (List.length_filter_le ..) (by rw [List.length_range]; exact hx)
        refine len_list (N.isList (.head _)) (by rw [List.size_toArray]; omega) ?_
        rw [List.size_toArray, hyl2]
        ((try dsimp only); repeat' (first | (with_reducible refine wpAny_execs_cons ?_) | (with_reducible refine wpAny_execs_nil ?_) | (with_reducible refine wpAny_If ?_) | ((with_reducible show wpAny _ _ (PySem.truthy (Value.str _ _)) _ _ _); refine SBL.truthy (by omega) ?_) | ( (fail_if_success (with_reducible first | show LCg.CompSrc _ _ _ _ _ _ _ _ _ _ _ _ _ _ | show LCt.CompSrcT _ _ _ _ _ _ _ _ _ _ _ _ _ _ _ | show LCp.SrcLP _ _ _ _ _ _ _ _ _ _ _ _ _ _ _ | show LCg.CompEnd _ _ _ _ _ _ _ _ _ _ _ _ _ _ | show WEnd _ _ _ _ _ _ _ _ _ _ | show After _ _ _ _ _ _ _ _ _ | show TEnd _ _ _ _ _ _ _ _ _ | show TPost _ _ _ _ _ _ _ _ _ _ _ | show wpAny _ _ (eval (Expr.ListComp _ _ _ _) _) _ _ _ | show wpAny _ _ (exec (Stmt.For _ _ _ _ _) _) _ _ _ | show wpAny _ _ (exec (Stmt.While _ _ _ _) _) _ _ _ | show wpAny _ _ (exec (Stmt.Assign _ (Expr.ListComp _ _ _ _) _) _) _ _ _ | show wpAny _ _ (call (Value.builtin "str.join") _) _ _ _ | show wpAny _ _ (compareOp _ (Value.ref _) (Value.ref _)) _ _ _ | show wpAny _ _ (call (Value.ref _) _) _ _ _)); first | walk1 | (dsimp only; walk1))))
        exact hQ _ _ _ (by rw [nearF, if_pos (hxl ▸ hyl ▸ hxy), diffN, ← hxl]; exact decide_eq_decide.mpr ⟨Int.ofNat_lt.mp, Int.ofNat_lt.mpr⟩) (Fr.keep (by assumption))
    · exact After.next F N ⟨rfl, by omega⟩
  clear F N
  rintro h₂ tk₂ m₂ _ F N ⟨rfl, hne⟩
  dsimp only
  refine wpAny_execs_cons ?_
  refine cut F (NsE L x y) ?_ ?_
  · ((try dsimp only); repeat' (first | (with_reducible refine wpAny_execs_cons ?_) | (with_reducible refine wpAny_execs_nil ?_) | (with_reducible refine wpAny_If ?_) | ((with_reducible show wpAny _ _ (PySem.truthy (Value.str _ _)) _ _ _); refine SBL.truthy (by omega) ?_) | ( (fail_if_success (with_reducible first | show LCg.CompSrc _ _ _ _ _ _ _ _ _ _ _ _ _ _ | show LCt.CompSrcT _ _ _ _ _ _ _ _ _ _ _ _ _ _ _ | show LCp.SrcLP _ _ _ _ _ _ _ _ _ _ _ _ _ _ _ | show LCg.CompEnd _ _ _ _ _ _ _ _ _ _ _ _ _ _ | show WEnd _ _ _ _ _ _ _ _ _ _ | show After _ _ _ _ _ _ _ _ _ | show TEnd _ _ _ _ _ _ _ _ _ | show TPost _ _ _ _ _ _ _ _ _ _ _ | show wpAny _ _ (eval (Expr.ListComp _ _ _ _) _) _ _ _ | show wpAny _ _ (exec (Stmt.For _ _ _ _ _) _) _ _ _ | show wpAny _ _ (exec (Stmt.While _ _ _ _) _) _ _ _ | show wpAny _ _ (exec (Stmt.Assign _ (Expr.ListComp _ _ _ _) _) _) _ _ _ | show wpAny _ _ (call (Value.builtin "str.join") _) _ _ _ | show wpAny _ _ (compareOp _ (Value.ref _) (Value.ref _)) _ _ _ | show wpAny _ _ (call (Value.ref _) _) _ _ _)); first | walk1 | (dsimp only; walk1))))
    · exact After.next (by assumption) (newsSub (by assumption) (by intro p hp; exact .tail _ hp)) ⟨_, _, y, x, _, _, rfl, by assumption, by assumption, hy, hx, by rw [nearF, if_neg hne, if_pos (by omega)]⟩
    · exact After.next F N ⟨_, _, x, y, _, _, rfl, d1, d2, hx, hy, by rw [nearF, if_neg hne, if_neg (by omega)]⟩
  clear F N d1 d2
  rintro h₃ tk₃ m₃ _ F N ⟨o1, o2, p, q, tp, tq, rfl, d1, d2, hp, hq, hn⟩
  rw [hn, nearGo] at hQ
  clear hne hn
  have hpl := len_cl p
  have hql := len_cl q
  ((try dsimp only); repeat' (first | (with_reducible refine wpAny_execs_cons ?_) | (with_reducible refine wpAny_execs_nil ?_) | (with_reducible refine wpAny_If ?_) | ((with_reducible show wpAny _ _ (PySem.truthy (Value.str _ _)) _ _ _); refine SBL.truthy (by omega) ?_) | ( (fail_if_success (with_reducible first | show LCg.CompSrc _ _ _ _ _ _ _ _ _ _ _ _ _ _ | show LCt.CompSrcT _ _ _ _ _ _ _ _ _ _ _ _ _ _ _ | show LCp.SrcLP _ _ _ _ _ _ _ _ _ _ _ _ _ _ _ | show LCg.CompEnd _ _ _ _ _ _ _ _ _ _ _ _ _ _ | show WEnd _ _ _ _ _ _ _ _ _ _ | show After _ _ _ _ _ _ _ _ _ | show TEnd _ _ _ _ _ _ _ _ _ | show TPost _ _ _ _ _ _ _ _ _ _ _ | show wpAny _ _ (eval (Expr.ListComp _ _ _ _) _) _ _ _ | show wpAny _ _ (exec (Stmt.For _ _ _ _ _) _) _ _ _ | show wpAny _ _ (exec (Stmt.While _ _ _ _) _) _ _ _ | show wpAny _ _ (exec (Stmt.Assign _ (Expr.ListComp _ _ _ _) _) _) _ _ _ | show wpAny _ _ (call (Value.builtin "str.join") _) _ _ _ | show wpAny _ _ (compareOp _ (Value.ref _) (Value.ref _)) _ _ _ | show wpAny _ _ (call (Value.ref _) _) _ _ _)); first | walk1 | (dsimp only; walk1))))
  (k_dflt (refine LCg.ListComp_U (F₀ := by k_asm) (by with_unfolding_all rfl) (by decide) (by rfl) (by decide) (by rfl) ?_))
  ((try dsimp only); repeat' (first | (with_reducible refine wpAny_execs_cons ?_) | (with_reducible refine wpAny_execs_nil ?_) | (with_reducible refine wpAny_If ?_) | ((with_reducible show wpAny _ _ (PySem.truthy (Value.str _ _)) _ _ _); refine SBL.truthy (by omega) ?_) | ( (fail_if_success (with_reducible first | show LCg.CompSrc _ _ _ _ _ _ _ _ _ _ _ _ _ _ | show LCt.CompSrcT _ _ _ _ _ _ _ _ _ _ _ _ _ _ _ | show LCp.SrcLP _ _ _ _ _ _ _ _ _ _ _ _ _ _ _ | show LCg.CompEnd _ _ _ _ _ _ _ _ _ _ _ _ _ _ | show WEnd _ _ _ _ _ _ _ _ _ _ | show After _ _ _ _ _ _ _ _ _ | show TEnd _ _ _ _ _ _ _ _ _ | show TPost _ _ _ _ _ _ _ _ _ _ _ | show wpAny _ _ (eval (Expr.ListComp _ _ _ _) _) _ _ _ | show wpAny _ _ (exec (Stmt.For _ _ _ _ _) _) _ _ _ | show wpAny _ _ (exec (Stmt.While _ _ _ _) _) _ _ _ | show wpAny _ _ (exec (Stmt.Assign _ (Expr.ListComp _ _ _ _) _) _) _ _ _ | show wpAny _ _ (call (Value.builtin "str.join") _) _ _ _ | show wpAny _ _ (compareOp _ (Value.ref _) (Value.ref _)) _ _ _ | show wpAny _ _ (call (Value.ref _) _) _ _ _)); first | walk1 | (dsimp only; walk1))))
  rename IsRange _ _ _ _ _ _ _ _ => hR
  rename Fr _ _ _ _ => F
  rename News _ _ _ _ => N
  refine LCg.CompSrc.range (n := p.length) rfl F N hR (small_one (by omega) (by omega) (by omega) (by omega)) (by rw [rangeSize_nat]; omega) (by show _ ≤ 2 ^ 24; omega) (fun g => compRest_of (fun i ys => StrsAre ys ((List.range i).map fun k => mk (delAt (cl p) k))) ?_ ?_ ?_) <;> clear F N hR
  · exact .nil
  · rintro i ys hi hI v I oI C oC D mc h tk E' ⟨t, rfl⟩ hC hm F N off hne'
    rw [Int.zero_add] at hm
    ((try dsimp only); repeat' (first | (with_reducible refine wpAny_execs_cons ?_) | (with_reducible refine wpAny_execs_nil ?_) | (with_reducible refine wpAny_If ?_) | ((with_reducible show wpAny _ _ (PySem.truthy (Value.str _ _)) _ _ _); refine SBL.truthy (by omega) ?_) | ( (fail_if_success (with_reducible first | show LCg.CompSrc _ _ _ _ _ _ _ _ _ _ _ _ _ _ | show LCt.CompSrcT _ _ _ _ _ _ _ _ _ _ _ _ _ _ _ | show LCp.SrcLP _ _ _ _ _ _ _ _ _ _ _ _ _ _ _ | show LCg.CompEnd _ _ _ _ _ _ _ _ _ _ _ _ _ _ | show WEnd _ _ _ _ _ _ _ _ _ _ | show After _ _ _ _ _ _ _ _ _ | show TEnd _ _ _ _ _ _ _ _ _ | show TPost _ _ _ _ _ _ _ _ _ _ _ | show wpAny _ _ (eval (Expr.ListComp _ _ _ _) _) _ _ _ | show wpAny _ _ (exec (Stmt.For _ _ _ _ _) _) _ _ _ | show wpAny _ _ (exec (Stmt.While _ _ _ _) _) _ _ _ | show wpAny _ _ (exec (Stmt.Assign _ (Expr.ListComp _ _ _ _) _) _) _ _ _ | show wpAny _ _ (call (Value.builtin "str.join") _) _ _ _ | show wpAny _ _ (compareOp _ (Value.ref _) (Value.ref _)) _ _ _ | show wpAny _ _ (call (Value.ref _) _) _ _ _)); first | walk1 | (dsimp only; walk1))))
    dsimp only
    exact LCg.CompEnd.intro (by assumption) (by assumption) _ (fun p hp => hp) off trivial ⟨rfl, by
      have e : Txt.slice p none (some (i : Int)) ++ Txt.slice p (some ((i : Int) + 1)) none = mk (delAt (cl p) i) := by
        apply str_ext; rw [cl_append, cl_to, cl_mk, delAt]; congr 1; exact cl_from p (i + 1)
      rw [List.range_succ, List.map_append, e]
      exact strsSnoc hI⟩
  · intro ys hI D h tk F N off
    ((try dsimp only); repeat' (first | (with_reducible refine wpAny_execs_cons ?_) | (with_reducible refine wpAny_execs_nil ?_) | (with_reducible refine wpAny_If ?_) | ((with_reducible show wpAny _ _ (PySem.truthy (Value.str _ _)) _ _ _); refine SBL.truthy (by omega) ?_) | ( (fail_if_success (with_reducible first | show LCg.CompSrc _ _ _ _ _ _ _ _ _ _ _ _ _ _ | show LCt.CompSrcT _ _ _ _ _ _ _ _ _ _ _ _ _ _ _ | show LCp.SrcLP _ _ _ _ _ _ _ _ _ _ _ _ _ _ _ | show LCg.CompEnd _ _ _ _ _ _ _ _ _ _ _ _ _ _ | show WEnd _ _ _ _ _ _ _ _ _ _ | show After _ _ _ _ _ _ _ _ _ | show TEnd _ _ _ _ _ _ _ _ _ | show TPost _ _ _ _ _ _ _ _ _ _ _ | show wpAny _ _ (eval (Expr.ListComp _ _ _ _) _) _ _ _ | show wpAny _ _ (exec (Stmt.For _ _ _ _ _) _) _ _ _ | show wpAny _ _ (exec (Stmt.While _ _ _ _) _) _ _ _ | show wpAny _ _ (exec (Stmt.Assign _ (Expr.ListComp _ _ _ _) _) _) _ _ _ | show wpAny _ _ (call (Value.builtin "str.join") _) _ _ _ | show wpAny _ _ (compareOp _ (Value.ref _) (Value.ref _)) _ _ _ | show wpAny _ _ (call (Value.ref _) _) _ _ _)); first | walk1 | (dsimp only; walk1))))
    exact hQ _ _ _ (by rw [any_mk, hpl]) F.keep
end
section
/-- the entries of a lexer's dict -/
abbrev lexEs (w : World) (k1 k2 k3 k4 : Tok) (n : Int) (tn tw : Tok) (fp : Value) (l : Addr) : List DictEntry :=
  [{ hash := PyData.keyHash w.params (Str.ofString "lineno"), key := .str (Str.ofString "lineno") k1, val := .int n tn },
   { hash := PyData.keyHash w.params (Str.ofString "instream"), key := .str (Str.ofString "instream") k2, val := fp },
   { hash := PyData.keyHash w.params (Str.ofString "whitespace"), key := .str (Str.ofString "whitespace") k3, val := .str (Str.ofString "\n\t\x0d ") tw },
   { hash := PyData.keyHash w.params (Str.ofString "pushback"), key := .str (Str.ofString "pushback") k4, val := .ref l }]
set_option maxRecDepth 100000 in
set_option maxHeartbeats 8000000 in
theorem init_spec {w : World} {mg mb : Str → Option Value} {mean : ExcName → Option Value} {s : Shared} {g : Heap} (G : Cx w mg mb mean g) {x dx : Addr} (hxd : dx < x) (B : Bs g s.heap [(x, instObj 73 dx), (dx, emptyDict)]) {fp : Value} {R : Result → Shared → Prop}
    (hQ : ∀ l h' tk k1 k2 k3 k4 tn tw, Kept g h' → Bs g h' [(l, listOf #[] 0), (x, instObj 73 dx), (dx, dictOf (lexEs w k1 k2 k3 k4 1 tn tw fp l) 4)] → x < l → dx < l → R (.ok (.ret .none)) { s with heap := h', toks := tk }) :
    codeAny (model PP w) (Lv 320) (.call (.ref 49) ⟨[.ref x, fp], []⟩) R s := by
  obtain ⟨X, T⟩ := G
  (refine' code_ownM (by assumption) (Top.nolimit (by assumption)) (by assumption) ?ho ?hcd ?hb ?hl ?hc ?_ ?hr ?h1 ?h2 ?h3; (case ho => k_is); (case hcd => k_is); (case hb => exact BindsTo.of_eq rfl); (case hl => exact locs rfl); (case hc => decide); (case hr => decide); (case h1 => exact rfl); (case h2 => exact rfl); (case h3 => exact rfl))
  intro L h₁ tk F N hlt
  k_lt hlt
  have hxd := ltN hxd
  replace F := frOver [("self", .ref x), ("fp", fp)] F ⟨rfl, rfl, trivial⟩
  generalize (fun y => _ : Str → Option Value) = m₁ at F
  ((try dsimp only); repeat' (first | (with_reducible refine wpAny_execs_cons ?_) | (with_reducible refine wpAny_execs_nil ?_) | (with_reducible refine wpAny_If ?_) | ((with_reducible show wpAny _ _ (PySem.truthy (Value.str _ _)) _ _ _); refine SBL.truthy (by omega) ?_) | ( (fail_if_success (with_reducible first | show LCg.CompSrc _ _ _ _ _ _ _ _ _ _ _ _ _ _ | show LCt.CompSrcT _ _ _ _ _ _ _ _ _ _ _ _ _ _ _ | show LCp.SrcLP _ _ _ _ _ _ _ _ _ _ _ _ _ _ _ | show LCg.CompEnd _ _ _ _ _ _ _ _ _ _ _ _ _ _ | show WEnd _ _ _ _ _ _ _ _ _ _ | show After _ _ _ _ _ _ _ _ _ | show TEnd _ _ _ _ _ _ _ _ _ | show TPost _ _ _ _ _ _ _ _ _ _ _ | show wpAny _ _ (eval (Expr.ListComp _ _ _ _) _) _ _ _ | show wpAny _ _ (exec (Stmt.For _ _ _ _ _) _) _ _ _ | show wpAny _ _ (exec (Stmt.While _ _ _ _) _) _ _ _ | show wpAny _ _ (exec (Stmt.Assign _ (Expr.ListComp _ _ _ _) _) _) _ _ _ | show wpAny _ _ (call (Value.builtin "str.join") _) _ _ _ | show wpAny _ _ (compareOp _ (Value.ref _) (Value.ref _)) _ _ _ | show wpAny _ _ (call (Value.ref _) _) _ _ _)); first | walk1 | (dsimp only; walk1))))
  rename Fr _ _ _ _ => F
  rename News _ _ _ _ => N
  rename _ ∧ _ => hl
  exact hQ _ _ _ _ _ _ _ _ _ F.keep (Bs.of N F) hl.1 hl.2
/-- a lexer is made -/
theorem make_spec {w : World} {mg mb : Str → Option Value} {mean : ExcName → Option Value} {s : Shared} {h₀ : Heap} {L : Addr} {m : Str → Option Value} {news : List (Addr × Obj)} (X : (Mine.hd.heap_39 w.params).In h₀) (T : Top topProg LS mean mg mb h₀)
    (F : Fr h₀ L s.heap m) (N : News h₀ L s.heap news) {fp : Value} {Q : Value → Shared → Prop} {E : Value → Shared → Prop}
    (hm : makesIn (Mine.hd.heap_39 w.params) 73 = true) (hi : findIn (Mine.hd.heap_39 w.params) (.ref 73) "__init__" = some (some (.ref 49))) (hf : typeIn (Mine.hd.heap_39 w.params) (.ref 49) = some (.type "function"))
    (h : ∀ x dx l h' tk k1 k2 k3 k4 tn tw, Fr h₀ L h' m → News h₀ L h' ((l, listOf #[] 0) :: (x, instObj 73 dx) :: (dx, dictOf (lexEs w k1 k2 k3 k4 1 tn tw fp l) 4) :: news) → (∀ p ∈ news, p.1 < dx) → dx < x → x < l → dx < l → Q (.ref x) { s with heap := h', toks := tk }) :
    wpAny (model PP w) (Lv 311) (call (.ref 73) [fp]) Q E s := by
  refine wpAny_call (make_K F N (X.keeps F.keep) hm hi hf ?_)
  intro x dx h' F' N' hl hd
  have N2 : News h₀ L h' [(x, instObj 73 dx), (dx, emptyDict)] := fun p hp => N' p (by rcases List.mem_cons.mp hp with rfl | hp; exact .head _; rcases List.mem_cons.mp hp with rfl | hp; exact .tail _ (.head _); cases hp)
  refine weakenC (init_spec (g := hid h' [(x, instObj 73 dx), (dx, emptyDict)]) (Cx.keeps ⟨X, T⟩ (hid_kept F' N2)) hd (hid_bs N2) ?_) (h2 := Nat.le_of_ble_eq_true rfl) (h5 := Nat.le_of_ble_eq_true rfl)
  intro l h₂ tk k1 k2 k3 k4 tn tw hk B h1 h2
  refine ⟨rfl, h x dx l h₂ tk k1 k2 k3 k4 tn tw (back_fr F' N2 hk) (newsApp (back_news F' N2 B) (back_rest (fun p hp => N' p (.tail _ (.tail _ hp))) (fun p hp q => ?_) hk)) hl hd h1 h2⟩
  have hp' := hl p hp
  simp at q
  rcases q with q | q <;> rw [q] at hp'
  · exact absurd (Nat.lt_trans hp' hd) (Nat.lt_irrefl _)
  · exact absurd hp' (Nat.lt_irrefl _)
end
section
def handDef : Arguments × List Stmt × Scope := match stAt (fnStmts 12) 1 with | .FunctionDef _ p b _ _ _ s _ _ _ => (p, b, s) | _ => (default, [], default)
set_option genInjectivity false in
/-- all that a lexer has that stays -/
structure Lx where
  x : Addr
  dx : Addr
  l : Addr
  y : Addr
  dy : Addr
  l2 : Addr
  f : Addr
  cc : Addr
  D : Addr
  c : Addr
  k1 : Tok
  k2 : Tok
  k3 : Tok
  k4 : Tok
  tw : Tok
  j1 : Tok
  j2 : Tok
  j3 : Tok
  j4 : Tok
  j5 : Tok
  jn : Tok
  jw : Tok
  oc : Obj
  oq : Obj
  vs : Array Value
  tq : Tok
  dc : Value
  pm : Value
  ct : Value
abbrev strEs (w : World) (j1 j2 j3 j4 j5 jn jw : Tok) (l f : Addr) : List DictEntry :=
  lexEs w j1 j2 j3 j4 1 jn jw .none l ++ [{ hash := PyData.keyHash w.params (Str.ofString "read"), key := .str (Str.ofString "read") j5, val := .ref f }]
abbrev handFn (dc pm ct : Value) (cc c : Addr) : Obj := fnMade (Str.ofString "hand") (Str.ofString "_law_lexer.<locals>.hand") handDef.1 handDef.2.1 handDef.2.2 [(Str.ofString "signs", c)] dc pm cc ct
abbrev Lx.news (a : Lx) (w : World) (n : Int) (tn : Tok) (pb : List Value) (kb : Nat) (sv : List Value) (ks : Nat) : List (Addr × Obj) :=
  [(a.l, listOf pb.toArray kb), (a.x, instObj 73 a.dx), (a.dx, dictOf (lexEs w a.k1 a.k2 a.k3 a.k4 n tn a.tw (.ref a.y) a.l) 4), (a.y, instObj 73 a.dy), (a.dy, dictOf (strEs w a.j1 a.j2 a.j3 a.j4 a.j5 a.jn a.jw a.l2 a.f) 5),
   (a.f, handFn a.dc a.pm a.ct a.cc a.c), (a.cc, a.oc), (a.D, listOf sv.toArray ks), (a.c, a.oq)]
structure Lx.Ok (a : Lx) : Prop where
  o1 : @LT.lt Nat _ a.c a.D
  o2 : @LT.lt Nat _ a.D a.cc
  o3 : @LT.lt Nat _ a.cc a.f
  o4 : @LT.lt Nat _ a.f a.dy
  o5 : @LT.lt Nat _ a.dy a.y
  o6 : @LT.lt Nat _ a.y a.dx
  o7 : @LT.lt Nat _ a.dx a.x
  o8 : @LT.lt Nat _ a.x a.l
  d1 : a.oc.data = .fields a.vs
  d2 : a.vs[1]? = some (.str (Str.ofString "_law_lexer.<locals>.hand") a.tq)
  d3 : a.oq.data = .cell (some (.ref a.D))
/-- the state of a lexer: the line's number, what is pushed back, what is left to read -/
def LexSt (w : World) (g h : Heap) (a : Lx) (n : Int) (pushed : List Str) (left : List Nat) : Prop :=
  ∃ tn pb kb sv ks, Bs g h (a.news w n tn pb kb sv ks) ∧ StrsAre pb pushed ∧ StrsAre sv (left.map sg)
theorem lex_pack {w : World} {g h : Heap} {L T l x dx l2 y dy f cc D c : Addr} {m : Str → Option Value} {k1 k2 k3 k4 tn tw j1 j2 j3 j4 j5 jn jw : Tok} {dc pm ct : Value} {oc oq : Obj} {vs : Array Value} {tq : Tok} {sv : List Value} {ks : Nat} {left : List Nat} {ps : Array Value}
    (F : Fr g L h m)
    (N : News g L h [(T, { cls := .type "tuple", data := .seq #[.ref x, .ref D] }), (l, listOf #[] 0), (x, instObj 73 dx), (dx, dictOf (lexEs w k1 k2 k3 k4 1 tn tw (.ref y) l) 4), (l2, listOf #[] 0), (y, instObj 73 dy), (dy, dictOf (strEs w j1 j2 j3 j4 j5 jn jw l2 f) 5),
      (f, handFn dc pm ct cc c), (cc, oc), (D, listOf sv.toArray ks), (c, oq), (79, tabObj ps)])
    (hv : StrsAre sv (left.map sg)) (d1 : oc.data = .fields vs) (d2 : vs[1]? = some (.str (Str.ofString "_law_lexer.<locals>.hand") tq)) (d3 : oq.data = .cell (some (.ref D)))
    (o1 : @LT.lt Nat _ c D) (o2 : @LT.lt Nat _ D cc) (o3 : @LT.lt Nat _ cc f) (o4 : @LT.lt Nat _ f dy) (o5 : @LT.lt Nat _ dy y) (o6 : @LT.lt Nat _ y dx) (o7 : @LT.lt Nat _ dx x) (o8 : @LT.lt Nat _ x l) (o9 : @LT.lt Nat _ l T) (o0 : @LT.lt Nat _ 79 c) {P : Prop}
    (hQ : ∀ a, Lx.Ok a → LexSt w g h a 1 [] left → h.get? T = some { cls := .type "tuple", data := .seq #[.ref a.x, .ref a.D] } → g.get? T = none → @LT.lt Nat _ a.l T → (∃ ps, h.get? 79 = some (tabObj ps)) → @LT.lt Nat _ 79 a.c → P) : P := by
  have B' := Bs.of N F
  refine hQ ⟨x, dx, l, y, dy, l2, f, cc, D, c, k1, k2, k3, k4, tw, j1, j2, j3, j4, j5, jn, jw, oc, oq, vs, tq, dc, pm, ct⟩ ⟨o1, o2, o3, o4, o5, o6, o7, o8, d1, d2, d3⟩ ⟨tn, [], 0, sv, ks, B'.sub ?_, .nil, hv⟩ (B'.got _ (.head _)).1 (B'.got _ (.head _)).2 o9 ⟨ps, (N (79, _) (by k_mem)).1⟩ o0
  intro p hp
  repeat (first | exact hp | (rcases List.mem_cons.mp hp with rfl | hp; · k_mem) | cases hp)
section
set_option maxRecDepth 100000 in
set_option maxHeartbeats 8000000 in
theorem lexer_spec {w : World} {mg mb : Str → Option Value} {mean : ExcName → Option Value} {s : Shared} {g : Heap} (G : Cx w mg mb mean g) (C : CodeHd g 83 79) (B : Bs g s.heap [(79, tabObj #[])]) {x : Str} {ta : Tok} {R : Result → Shared → Prop}
    (hx : x.length ≤ 70) 
    (hQ : ∀ a T h' tk, Lx.Ok a → LexSt w g h' a 1 [] (cl x) → h'.get? T = some { cls := .type "tuple", data := .seq #[.ref a.x, .ref a.D] } → g.get? T = none → @LT.lt Nat _ a.l T → (∃ ps, h'.get? 79 = some (tabObj ps)) → @LT.lt Nat _ 79 a.c → R (.ok (.ret (.ref T))) { s with heap := h', toks := tk }) :
    codeAny (model PP w) (Lv 310) (.call (.ref 84) ⟨[.str x ta], []⟩) R s := by
  obtain ⟨X, T⟩ := G
  (refine' code_ownCM (by assumption) (Top.nolimit (by assumption)) (by assumption) ?ho ?hcd ?hb ?hl ?hc ?_ ?hr ?h1 ?h2 ?h3; (case ho => k_is); (case hcd => k_is); (case hb => exact BindsTo.of_eq rfl); (case hl => exact rfl); (case hc => decide +kernel); (case hr => decide); (case h1 => exact rfl); (case h2 => exact rfl); (case h3 => exact rfl))
  intro L h₁ tk cells F N Y hlt
  obtain ⟨o1, rfl, d1⟩ := CellsAre.one Y
  clear Y
  replace d1 : o1.data = .cell none := d1
  replace F := frOver [("text", .str x ta)] F ⟨rfl, trivial⟩
  generalize bindL _ _ _ = m₁ at F
  k_lt hlt
  dsimp only [List.cons_append, List.nil_append] at N
  ((try dsimp only); repeat' (first | (with_reducible refine wpAny_execs_cons ?_) | (with_reducible refine wpAny_execs_nil ?_) | (with_reducible refine wpAny_If ?_) | ((with_reducible show wpAny _ _ (PySem.truthy (Value.str _ _)) _ _ _); refine SBL.truthy (by omega) ?_) | ( (fail_if_success (with_reducible first | show LCg.CompSrc _ _ _ _ _ _ _ _ _ _ _ _ _ _ | show LCt.CompSrcT _ _ _ _ _ _ _ _ _ _ _ _ _ _ _ | show LCp.SrcLP _ _ _ _ _ _ _ _ _ _ _ _ _ _ _ | show LCg.CompEnd _ _ _ _ _ _ _ _ _ _ _ _ _ _ | show WEnd _ _ _ _ _ _ _ _ _ _ | show After _ _ _ _ _ _ _ _ _ | show TEnd _ _ _ _ _ _ _ _ _ | show TPost _ _ _ _ _ _ _ _ _ _ _ | show wpAny _ _ (eval (Expr.ListComp _ _ _ _) _) _ _ _ | show wpAny _ _ (exec (Stmt.For _ _ _ _ _) _) _ _ _ | show wpAny _ _ (exec (Stmt.While _ _ _ _) _) _ _ _ | show wpAny _ _ (exec (Stmt.Assign _ (Expr.ListComp _ _ _ _) _) _) _ _ _ | show wpAny _ _ (call (Value.builtin "str.join") _) _ _ _ | show wpAny _ _ (compareOp _ (Value.ref _) (Value.ref _)) _ _ _ | show wpAny _ _ (call (Value.ref _) _) _ _ _)); first | (with_reducible ((with_reducible show wpAny _ _ (call (Value.type "list") [Value.str _ _]) _ _ _); refine list_strK rfl (by k_asm) (by k_asm) ?_ (by size_fits); intro D' h' tk' vs' k' F' N' l1 hv'; (try k_lt l1); (try k_sweep))) | walk1 | (dsimp only; walk1))))
  with_reducible ((with_reducible show wpAny _ _ (call (Value.ref 73) [_]) _ _ _); refine make_spec (by k_asm) (by k_asm) (by k_asm) (by k_asm) (by k_is) (by k_is) (by k_is) ?_; intro x' dx' l' h' tk' k1' k2' k3' k4' tn' tw' F' N' l1 l2 l3 l4; (try k_lt l1); (try k_lt2 l2); (try k_lt2 l3); (try k_lt2 l4); (try k_sweep))
  ((try dsimp only); repeat' (first | (with_reducible refine wpAny_execs_cons ?_) | (with_reducible refine wpAny_execs_nil ?_) | (with_reducible refine wpAny_If ?_) | ((with_reducible show wpAny _ _ (PySem.truthy (Value.str _ _)) _ _ _); refine SBL.truthy (by omega) ?_) | ( (fail_if_success (with_reducible first | show LCg.CompSrc _ _ _ _ _ _ _ _ _ _ _ _ _ _ | show LCt.CompSrcT _ _ _ _ _ _ _ _ _ _ _ _ _ _ _ | show LCp.SrcLP _ _ _ _ _ _ _ _ _ _ _ _ _ _ _ | show LCg.CompEnd _ _ _ _ _ _ _ _ _ _ _ _ _ _ | show WEnd _ _ _ _ _ _ _ _ _ _ | show After _ _ _ _ _ _ _ _ _ | show TEnd _ _ _ _ _ _ _ _ _ | show TPost _ _ _ _ _ _ _ _ _ _ _ | show wpAny _ _ (eval (Expr.ListComp _ _ _ _) _) _ _ _ | show wpAny _ _ (exec (Stmt.For _ _ _ _ _) _) _ _ _ | show wpAny _ _ (exec (Stmt.While _ _ _ _) _) _ _ _ | show wpAny _ _ (exec (Stmt.Assign _ (Expr.ListComp _ _ _ _) _) _) _ _ _ | show wpAny _ _ (call (Value.builtin "str.join") _) _ _ _ | show wpAny _ _ (compareOp _ (Value.ref _) (Value.ref _)) _ _ _ | show wpAny _ _ (call (Value.ref _) _) _ _ _)); first | (with_reducible ((with_reducible show wpAny _ _ (call (Value.type "list") [Value.str _ _]) _ _ _); refine list_strK rfl (by k_asm) (by k_asm) ?_ (by size_fits); intro D' h' tk' vs' k' F' N' l1 hv'; (try k_lt l1); (try k_sweep))) | walk1 | (dsimp only; walk1))))
  with_reducible ((with_reducible show wpAny _ _ (call (Value.ref 73) [_]) _ _ _); refine make_spec (by k_asm) (by k_asm) (by k_asm) (by k_asm) (by k_is) (by k_is) (by k_is) ?_; intro x' dx' l' h' tk' k1' k2' k3' k4' tn' tw' F' N' l1 l2 l3 l4; (try k_lt l1); (try k_lt2 l2); (try k_lt2 l3); (try k_lt2 l4); (try k_sweep))
  ((try dsimp only); repeat' (first | (with_reducible refine wpAny_execs_cons ?_) | (with_reducible refine wpAny_execs_nil ?_) | (with_reducible refine wpAny_If ?_) | ((with_reducible show wpAny _ _ (PySem.truthy (Value.str _ _)) _ _ _); refine SBL.truthy (by omega) ?_) | ( (fail_if_success (with_reducible first | show LCg.CompSrc _ _ _ _ _ _ _ _ _ _ _ _ _ _ | show LCt.CompSrcT _ _ _ _ _ _ _ _ _ _ _ _ _ _ _ | show LCp.SrcLP _ _ _ _ _ _ _ _ _ _ _ _ _ _ _ | show LCg.CompEnd _ _ _ _ _ _ _ _ _ _ _ _ _ _ | show WEnd _ _ _ _ _ _ _ _ _ _ | show After _ _ _ _ _ _ _ _ _ | show TEnd _ _ _ _ _ _ _ _ _ | show TPost _ _ _ _ _ _ _ _ _ _ _ | show wpAny _ _ (eval (Expr.ListComp _ _ _ _) _) _ _ _ | show wpAny _ _ (exec (Stmt.For _ _ _ _ _) _) _ _ _ | show wpAny _ _ (exec (Stmt.While _ _ _ _) _) _ _ _ | show wpAny _ _ (exec (Stmt.Assign _ (Expr.ListComp _ _ _ _) _) _) _ _ _ | show wpAny _ _ (call (Value.builtin "str.join") _) _ _ _ | show wpAny _ _ (compareOp _ (Value.ref _) (Value.ref _)) _ _ _ | show wpAny _ _ (call (Value.ref _) _) _ _ _)); first | (with_reducible ((with_reducible show wpAny _ _ (call (Value.type "list") [Value.str _ _]) _ _ _); refine list_strK rfl (by k_asm) (by k_asm) ?_ (by size_fits); intro D' h' tk' vs' k' F' N' l1 hv'; (try k_lt l1); (try k_sweep))) | walk1 | (dsimp only; walk1))))
  rename Fr _ _ _ _ => F
  rename News _ _ _ _ => N
  rename StrsAre _ _ => hv
  rename Obj.data _ = .fields _ => d1'
  rename Obj.data _ = .cell (some _) => d3'
  rename _ = some (Value.str _ _) => d2'
  refine lex_pack F N hv d1' d2' d3' (by omega) (by omega) (by omega) (by omega) (by omega) (by omega) (by omega) (by omega) (by omega) (by omega) ?_
  intro a ok st hT hg hl ht h7
  exact hQ a _ _ _ ok st hT hg hl ht h7
end
end
section
theorem handScope_eq : handDef.2.2 = { kind := .function, names := [(Str.ofString "size", .local), (Str.ofString "piece", .local), (Str.ofString "signs", .free)], isGenerator := false, isCoroutine := false } := rfl
section
set_option maxRecDepth 100000 in
set_option maxHeartbeats 600000 in
theorem hand_spec {w : World} {mg mb : Str → Option Value} {mean : ExcName → Option Value} {s : Shared} {g : Heap} (G : Cx w mg mb mean g) {a : Lx} (ok : a.Ok) {n : Int} {pb : List Str} {left : List Nat} (S : LexSt w g s.heap a n pb left) (hle : left.length ≤ 70) {t1 : Tok} {R : Result → Shared → Prop}
    (hQ : ∀ h' tk t, LexSt w g h' a n pb (left.drop 1) → R (.ok (.ret (.str (mk (left.take 1)) t))) { s with heap := h', toks := tk }) :
    codeAny (model PP w) (Lv 340) (.call (.ref a.f) ⟨[.int 1 t1], []⟩) R s := by
  obtain ⟨X, T⟩ := G
  obtain ⟨x, dx, l, y, dy, l2, f, cc, D, c, k1, k2, k3, k4, tw, j1, j2, j3, j4, j5, jn, jw, oc, oq, vs, tq, dc, pm, ct⟩ := a
  obtain ⟨tn, pb', kb, sv, ks, B, hp, hv⟩ := S
  obtain ⟨o1, o2, o3, o4, o5, o6, o7, o8, d1, d2, d3⟩ := ok
  dsimp only [Lx.news] at *
  refine' code_nestM (Top.nolimit T) B ?ho ?hcd ?hb ?hl ?hc ?_ ?hr ?h1 ?h2 ?h3
  case ho => k_mem
  case hcd => exact ⟨cc, oc, vs, tq, rfl, (B.got (cc, oc) (by k_mem)).1, d1, d2⟩
  case hb => exact BindsTo.of_eq rfl
  case hl => exact locs rfl
  case hc => decide
  case hr => decide
  case h1 => exact rfl
  case h2 => exact rfl
  case h3 => exact rfl
  intro L h₁ tk F N hlt
  k_lt hlt
  replace F := frOver [("size", .int 1 t1)] F ⟨rfl, trivial⟩
  generalize (fun y => _ : Str → Option Value) = m₁ at F
  rw [handScope_eq]
  (conv => (arg 3; congr; · whnf; · (arg 2; whnf)))
  ((try dsimp only); repeat' (first | (with_reducible refine wpAny_execs_cons ?_) | (with_reducible refine wpAny_execs_nil ?_) | (with_reducible refine wpAny_If ?_) | ((with_reducible show wpAny _ _ (PySem.truthy (Value.str _ _)) _ _ _); refine SBL.truthy (by omega) ?_) | ( (fail_if_success (with_reducible first | show LCg.CompSrc _ _ _ _ _ _ _ _ _ _ _ _ _ _ | show LCt.CompSrcT _ _ _ _ _ _ _ _ _ _ _ _ _ _ _ | show LCp.SrcLP _ _ _ _ _ _ _ _ _ _ _ _ _ _ _ | show LCg.CompEnd _ _ _ _ _ _ _ _ _ _ _ _ _ _ | show WEnd _ _ _ _ _ _ _ _ _ _ | show After _ _ _ _ _ _ _ _ _ | show TEnd _ _ _ _ _ _ _ _ _ | show TPost _ _ _ _ _ _ _ _ _ _ _ | show wpAny _ _ (eval (Expr.ListComp _ _ _ _) _) _ _ _ | show wpAny _ _ (exec (Stmt.For _ _ _ _ _) _) _ _ _ | show wpAny _ _ (exec (Stmt.While _ _ _ _) _) _ _ _ | show wpAny _ _ (exec (Stmt.Assign _ (Expr.ListComp _ _ _ _) _) _) _ _ _ | show wpAny _ _ (call (Value.builtin "str.join") _) _ _ _ | show wpAny _ _ (compareOp _ (Value.ref _) (Value.ref _)) _ _ _ | show wpAny _ _ (call (Value.ref _) _) _ _ _)); first | (with_reducible (k_here; (with_reducible show wpAny _ _ (eval (Expr.Name (Str.ofString "signs") _) _) _ _ _); k_dflt (refine' nameX_F ?hN ?hc0 ?hm0 ?hd0 ?_ ?ha0 ?hb0; (case ha0 => rfl); (case hb0 => rfl); (case hN => k_asm); (case hc0 => rfl); (case hm0 => k_mem); (case hd0 => k_asm); k_whole))) | (with_reducible ((with_reducible show wpAny _ _ (subscriptTail _ (Expr.Slice _ _ _ _) (Value.ref _) (Value.ref _)) _ _ _); k_dflt (refine' slice_toK (k := 1) ?jF ?jN ?jm ?_ ?ja ?jb ?jc; (case jF => k_asm); (case jN => k_asm); (case jm => k_mem); (case ja => with_unfolding_all rfl); (case jb => (intro _; with_unfolding_all rfl)); (case jc => (simp only [StrsAre.len (by assumption), List.length_map]; exact Nat.le_trans (by assumption) (by decide)))); intro D' h' F' N' l1; (try k_lt l1); (try k_sweep))) | (with_reducible ((with_reducible show wpAny _ _ (delItem (Value.ref _) (Value.ref _)) _ _ _); k_dflt (refine' delTo_K (k := 1) ?dF ?dN ?dU ?_ ?dc; (case dF => k_asm); (case dN => k_asm); (case dU => k_updF); (case dc => (simp only [StrsAre.len (by assumption), List.length_map]; exact Nat.le_trans (by assumption) (by decide)))); intro h' n' F' N'; (try dsimp only at N'))) | walk1 | (dsimp only; walk1))))
  refine join_mk (by assumption) (by k_mem) (StrsAre.take hv 1) ?_ ?_
  · rw [← List.map_take, sum_sg, List.length_take]; omega
  rw [← List.map_take, flat_sg]
  intro t' k'
  ((try dsimp only); repeat' (first | (with_reducible refine wpAny_execs_cons ?_) | (with_reducible refine wpAny_execs_nil ?_) | (with_reducible refine wpAny_If ?_) | ((with_reducible show wpAny _ _ (PySem.truthy (Value.str _ _)) _ _ _); refine SBL.truthy (by omega) ?_) | ( (fail_if_success (with_reducible first | show LCg.CompSrc _ _ _ _ _ _ _ _ _ _ _ _ _ _ | show LCt.CompSrcT _ _ _ _ _ _ _ _ _ _ _ _ _ _ _ | show LCp.SrcLP _ _ _ _ _ _ _ _ _ _ _ _ _ _ _ | show LCg.CompEnd _ _ _ _ _ _ _ _ _ _ _ _ _ _ | show WEnd _ _ _ _ _ _ _ _ _ _ | show After _ _ _ _ _ _ _ _ _ | show TEnd _ _ _ _ _ _ _ _ _ | show TPost _ _ _ _ _ _ _ _ _ _ _ | show wpAny _ _ (eval (Expr.ListComp _ _ _ _) _) _ _ _ | show wpAny _ _ (exec (Stmt.For _ _ _ _ _) _) _ _ _ | show wpAny _ _ (exec (Stmt.While _ _ _ _) _) _ _ _ | show wpAny _ _ (exec (Stmt.Assign _ (Expr.ListComp _ _ _ _) _) _) _ _ _ | show wpAny _ _ (call (Value.builtin "str.join") _) _ _ _ | show wpAny _ _ (compareOp _ (Value.ref _) (Value.ref _)) _ _ _ | show wpAny _ _ (call (Value.ref _) _) _ _ _)); first | (with_reducible (k_here; (with_reducible show wpAny _ _ (eval (Expr.Name (Str.ofString "signs") _) _) _ _ _); k_dflt (refine' nameX_F ?hN ?hc0 ?hm0 ?hd0 ?_ ?ha0 ?hb0; (case ha0 => rfl); (case hb0 => rfl); (case hN => k_asm); (case hc0 => rfl); (case hm0 => k_mem); (case hd0 => k_asm); k_whole))) | (with_reducible ((with_reducible show wpAny _ _ (subscriptTail _ (Expr.Slice _ _ _ _) (Value.ref _) (Value.ref _)) _ _ _); k_dflt (refine' slice_toK (k := 1) ?jF ?jN ?jm ?_ ?ja ?jb ?jc; (case jF => k_asm); (case jN => k_asm); (case jm => k_mem); (case ja => with_unfolding_all rfl); (case jb => (intro _; with_unfolding_all rfl)); (case jc => (simp only [StrsAre.len (by assumption), List.length_map]; exact Nat.le_trans (by assumption) (by decide)))); intro D' h' F' N' l1; (try k_lt l1); (try k_sweep))) | (with_reducible ((with_reducible show wpAny _ _ (delItem (Value.ref _) (Value.ref _)) _ _ _); k_dflt (refine' delTo_K (k := 1) ?dF ?dN ?dU ?_ ?dc; (case dF => k_asm); (case dN => k_asm); (case dU => k_updF); (case dc => (simp only [StrsAre.len (by assumption), List.length_map]; exact Nat.le_trans (by assumption) (by decide)))); intro h' n' F' N'; (try dsimp only at N'))) | walk1 | (dsimp only; walk1))))
  rename Fr _ _ _ _ => F
  rename News _ _ _ _ => N
  refine hQ _ _ _ ⟨_, _, _, _, _, (Bs.of N F).sub (fun p hp => .tail _ hp), hp, ?_⟩
  rw [List.map_drop]
  exact StrsAre.drop hv 1
end

abbrev Lx.ads (a : Lx) : List Addr := [a.l, a.x, a.dx, a.y, a.dy, a.f, a.cc, a.D, a.c]
theorem news_ads {a : Lx} {w : World} {n : Int} {tn : Tok} {pb sv : List Value} {kb ks : Nat} : ∀ p ∈ a.news w n tn pb kb sv ks, p.1 ∈ a.ads :=
  fun p hp => List.mem_map_of_mem (f := fun p : Addr × Obj => p.1) hp
theorem ads_mid {a : Lx} (ok : a.Ok) : ∀ b ∈ a.ads, @LE.le Nat _ a.c b ∧ @LE.le Nat _ b a.l := by
  obtain ⟨o1, o2, o3, o4, o5, o6, o7, o8, -, -, -⟩ := ok
  have d1 := Nat.le_of_lt o1
  have d2 := Nat.le_trans d1 (Nat.le_of_lt o2)
  have d3 := Nat.le_trans d2 (Nat.le_of_lt o3)
  have d4 := Nat.le_trans d3 (Nat.le_of_lt o4)
  have d5 := Nat.le_trans d4 (Nat.le_of_lt o5)
  have d6 := Nat.le_trans d5 (Nat.le_of_lt o6)
  have d7 := Nat.le_trans d6 (Nat.le_of_lt o7)
  have d8 := Nat.le_trans d7 (Nat.le_of_lt o8)
  have u8 := Nat.le_of_lt o8
  have u7 := Nat.le_trans (Nat.le_of_lt o7) u8
  have u6 := Nat.le_trans (Nat.le_of_lt o6) u7
  have u5 := Nat.le_trans (Nat.le_of_lt o5) u6
  have u4 := Nat.le_trans (Nat.le_of_lt o4) u5
  have u3 := Nat.le_trans (Nat.le_of_lt o3) u4
  have u2 := Nat.le_trans (Nat.le_of_lt o2) u3
  have u1 := Nat.le_trans (Nat.le_of_lt o1) u2
  exact List.forall_mem_cons.mpr ⟨⟨d8, Nat.le_refl _⟩, List.forall_mem_cons.mpr ⟨⟨d7, u8⟩, List.forall_mem_cons.mpr ⟨⟨d6, u7⟩, List.forall_mem_cons.mpr ⟨⟨d5, u6⟩, List.forall_mem_cons.mpr ⟨⟨d4, u5⟩, List.forall_mem_cons.mpr ⟨⟨d3, u4⟩, List.forall_mem_cons.mpr ⟨⟨d2, u3⟩, List.forall_mem_cons.mpr ⟨⟨d1, u2⟩, List.forall_mem_cons.mpr ⟨⟨Nat.le_refl _, u1⟩, fun _ h => nomatch h⟩⟩⟩⟩⟩⟩⟩⟩⟩
theorem ads_of {a : Lx} (ok : a.Ok) {b : Addr} (h : @LT.lt Nat _ a.l b ∨ @LT.lt Nat _ b a.c) : b ∉ a.ads := fun q =>
  h.elim (fun h => Nat.lt_irrefl _ (Nat.lt_of_lt_of_le h (ads_mid ok b q).2)) fun h => Nat.lt_irrefl _ (Nat.lt_of_lt_of_le h (ads_mid ok b q).1)
theorem lex_news {w : World} {h₀ h : Heap} {L : Addr} {a : Lx} {n : Int} {tn : Tok} {pb sv : List Value} {kb ks : Nat} (ok : a.Ok) (B : Bs h₀ h (a.news w n tn pb kb sv ks)) (hl : @LT.lt Nat _ a.l L) : News h₀ L h (a.news w n tn pb kb sv ks) :=
  fun p hp => ⟨(B.got p hp).1, fun e => ads_of ok (.inl hl) (e ▸ news_ads p hp), (B.got p hp).2⟩
/-- a call over a lexer, from a frame that has more -/
theorem lex_goA {w : World} {mg mb : Str → Option Value} {mean : ExcName → Option Value} {h₀ h : Heap} {L : Addr} {m : Str → Option Value} {rest : List (Addr × Obj)} {a : Lx} {n : Int} {pb : List Str} {left : List Nat}
    (G : Cx w mg mb mean h₀) (F : Fr h₀ L h m) (N : News h₀ L h rest) (ok : a.Ok) (S : LexSt w h₀ h a n pb left) (hl : @LT.lt Nat _ a.l L) (ap : ∀ p ∈ rest, p.1 ∉ a.ads) :
    ∃ g, Cx w mg mb mean g ∧ LexSt w g h a n pb left ∧ ∀ h' n' pb' left', LexSt w g h' a n' pb' left' → Fr h₀ L h' m ∧ News h₀ L h' rest ∧ LexSt w h₀ h' a n' pb' left' := by
  obtain ⟨tn, pb1, kb, sv, ks, B, hp, hv⟩ := S
  have N1 := lex_news ok B hl
  refine ⟨hid h (a.news w n tn pb1 kb sv ks), G.keeps (hid_kept F N1), ⟨tn, pb1, kb, sv, ks, hid_bs N1, hp, hv⟩, ?_⟩
  rintro h' n' pb' left' ⟨tn', pb2, kb', sv', ks', B', hp', hv'⟩
  have F' := back_fr F N1 B'.keep
  exact ⟨F', back_rest (news := a.news w n tn pb1 kb sv ks) N ap B'.keep, tn', pb2, kb', sv', ks', Bs.of (back_news F N1 B') F', hp', hv'⟩
theorem lex_go {w : World} {mg mb : Str → Option Value} {mean : ExcName → Option Value} {h₀ h : Heap} {L : Addr} {m : Str → Option Value} {rest : List (Addr × Obj)} {a : Lx} {n : Int} {pb : List Str} {left : List Nat}
    (G : Cx w mg mb mean h₀) (F : Fr h₀ L h m) (N : News h₀ L h rest) (ok : a.Ok) (S : LexSt w h₀ h a n pb left) (hl : @LT.lt Nat _ a.l L) (ap : ∀ p ∈ rest, @LT.lt Nat _ a.l p.1 ∨ @LT.lt Nat _ p.1 a.c) :
    ∃ g, Cx w mg mb mean g ∧ LexSt w g h a n pb left ∧ ∀ h' n' pb' left', LexSt w g h' a n' pb' left' → Fr h₀ L h' m ∧ News h₀ L h' rest ∧ LexSt w h₀ h' a n' pb' left' :=
  lex_goA G F N ok S hl fun p hp => ads_of ok (ap p hp)
theorem ads_off {a : Lx} {b : Addr} (h : b ∉ a.ads) {w : World} {n : Int} {tn : Tok} {pb sv : List Value} {kb ks : Nat} : ∀ p ∈ a.news w n tn pb kb sv ks, p.1 ≠ b := fun p hp e => h (e ▸ news_ads p hp)
theorem ads_ne {a : Lx} {w : World} {n : Int} {tn : Tok} {pb sv : List Value} {kb ks : Nat} {I : Addr} (h : ∀ p ∈ a.news w n tn pb kb sv ks, p.1 ≠ I) : I ∉ a.ads := fun q => by
  have : I ∈ (a.news w n tn pb kb sv ks).map (·.1) := q
  obtain ⟨p, hp, e⟩ := List.mem_map.mp this
  exact h p hp e
end
section
theorem head_nl {l : List Nat} : mk (l.take 1) = Str.ofString "\n" ↔ l.head? = some 10 := by
  have e : Str.ofString "\n" = mk [10] := by decide +kernel
  rw [e, cl_inj, cl_mk, cl_mk]
  cases l with
  | nil => simp
  | cons a r => simp
theorem seq_zero (v : Value) (l : List Value) : seqIndex? 0 (v :: l).toArray.size = some 0 := by
  unfold seqIndex?
  have e1 : (if (0 : Int) < 0 then (0 : Int) + ((v :: l).toArray.size : Nat) else (0 : Int)) = 0 := if_neg (by decide)
  simp only [e1]
  rw [if_pos (by simp only [Bool.and_eq_true, decide_eq_true_eq, List.size_toArray, List.length_cons]; omega)]
  rfl
section
set_option maxRecDepth 100000 in
set_option maxHeartbeats 600000 in
theorem read_spec {w : World} {mg mb : Str → Option Value} {mean : ExcName → Option Value} {s : Shared} {g : Heap} (G : Cx w mg mb mean g) {a : Lx} (ok : a.Ok) {n : Int} {pb : List Str} {left : List Nat} (S : LexSt w g s.heap a n pb left) (hle : left.length ≤ 70) {R : Result → Shared → Prop}
    (hQ : ∀ h' tk t n', LexSt w g h' a n' pb (left.drop 1) → n' = (if left.head? = some 10 then n + 1 else n) → R (.ok (.ret (.str (mk (left.take 1)) t))) { s with heap := h', toks := tk }) :
    codeAny (model PP w) (Lv 335) (.call (.ref 56) ⟨[.ref a.x], []⟩) R s := by
  have G' := G
  obtain ⟨X, T⟩ := G
  have ok' := ok
  have S' := S
  obtain ⟨x, dx, l, y, dy, l2, f, cc, D, c, k1, k2, k3, k4, tw, j1, j2, j3, j4, j5, jn, jw, oc, oq, vs, tq, dc, pm, ct⟩ := a
  obtain ⟨tn, pb', kb, sv, ks, B, hp, hv⟩ := S
  obtain ⟨o1, o2, o3, o4, o5, o6, o7, o8, d1, d2, d3⟩ := ok
  dsimp only [Lx.news] at *
  (refine' code_ownM (by assumption) (Top.nolimit (by assumption)) (by assumption) ?ho ?hcd ?hb ?hl ?hc ?_ ?hr ?h1 ?h2 ?h3; (case ho => k_is); (case hcd => k_is); (case hb => exact BindsTo.of_eq rfl); (case hl => exact locs rfl); (case hc => decide); (case hr => decide); (case h1 => exact rfl); (case h2 => exact rfl); (case h3 => exact rfl))
  intro L h₁ tk F N hlt
  k_lt hlt
  replace F := frOver [("self", .ref x)] F ⟨rfl, trivial⟩
  generalize (fun y => _ : Str → Option Value) = m₁ at F
  ((try dsimp only); repeat' (first | (with_reducible refine wpAny_execs_cons ?_) | (with_reducible refine wpAny_execs_nil ?_) | (with_reducible refine wpAny_If ?_) | ((with_reducible show wpAny _ _ (PySem.truthy (Value.str _ _)) _ _ _); refine SBL.truthy (by omega) ?_) | ( (fail_if_success (with_reducible first | show LCg.CompSrc _ _ _ _ _ _ _ _ _ _ _ _ _ _ | show LCt.CompSrcT _ _ _ _ _ _ _ _ _ _ _ _ _ _ _ | show LCp.SrcLP _ _ _ _ _ _ _ _ _ _ _ _ _ _ _ | show LCg.CompEnd _ _ _ _ _ _ _ _ _ _ _ _ _ _ | show WEnd _ _ _ _ _ _ _ _ _ _ | show After _ _ _ _ _ _ _ _ _ | show TEnd _ _ _ _ _ _ _ _ _ | show TPost _ _ _ _ _ _ _ _ _ _ _ | show wpAny _ _ (eval (Expr.ListComp _ _ _ _) _) _ _ _ | show wpAny _ _ (exec (Stmt.For _ _ _ _ _) _) _ _ _ | show wpAny _ _ (exec (Stmt.While _ _ _ _) _) _ _ _ | show wpAny _ _ (exec (Stmt.Assign _ (Expr.ListComp _ _ _ _) _) _) _ _ _ | show wpAny _ _ (call (Value.builtin "str.join") _) _ _ _ | show wpAny _ _ (compareOp _ (Value.ref _) (Value.ref _)) _ _ _ | show wpAny _ _ (call (Value.ref _) _) _ _ _)); first | (with_reducible ((with_reducible show wpAny _ _ (callWith _ (Value.ref _) _ _ _) _ _ _); k_dflt (refine' callWith_F ?_ ?_; exact FnAt.of (by k_asm) (by k_mem); k_whole))) | walk1 | (dsimp only; walk1))))
  rename Fr _ _ _ _ => F
  rename News _ _ _ _ => N
  refine wpAny_call ?_
  have S2 : LexSt w g h₁ ⟨x, dx, l, y, dy, l2, f, cc, D, c, k1, k2, k3, k4, tw, j1, j2, j3, j4, j5, jn, jw, oc, oq, vs, tq, dc, pm, ct⟩ n pb left := ⟨_, _, _, _, _, Bs.of N F, hp, hv⟩
  obtain ⟨g', G2, S3, back⟩ := lex_go G' F (rest := []) News.nil ok' S2 hlt.1 (fun p hp => nomatch hp)
  refine weakenC (hand_spec G2 ok' S3 hle ?_)
  intro h' tk' t S4
  clear F N
  obtain ⟨F, -, tn', pb2, kb2, sv2, ks2, B2, hp2, hv2⟩ := back _ _ _ _ S4
  have N := lex_news ok' B2 hlt.1
  clear S2 S3 S4 back G2 B B2 S'
  dsimp only [Lx.news] at N
  ((try dsimp only); repeat' (first | (with_reducible refine wpAny_execs_cons ?_) | (with_reducible refine wpAny_execs_nil ?_) | (with_reducible refine wpAny_If ?_) | ((with_reducible show wpAny _ _ (PySem.truthy (Value.str _ _)) _ _ _); refine SBL.truthy (by omega) ?_) | ( (fail_if_success (with_reducible first | show LCg.CompSrc _ _ _ _ _ _ _ _ _ _ _ _ _ _ | show LCt.CompSrcT _ _ _ _ _ _ _ _ _ _ _ _ _ _ _ | show LCp.SrcLP _ _ _ _ _ _ _ _ _ _ _ _ _ _ _ | show LCg.CompEnd _ _ _ _ _ _ _ _ _ _ _ _ _ _ | show WEnd _ _ _ _ _ _ _ _ _ _ | show After _ _ _ _ _ _ _ _ _ | show TEnd _ _ _ _ _ _ _ _ _ | show TPost _ _ _ _ _ _ _ _ _ _ _ | show wpAny _ _ (eval (Expr.ListComp _ _ _ _) _) _ _ _ | show wpAny _ _ (exec (Stmt.For _ _ _ _ _) _) _ _ _ | show wpAny _ _ (exec (Stmt.While _ _ _ _) _) _ _ _ | show wpAny _ _ (exec (Stmt.Assign _ (Expr.ListComp _ _ _ _) _) _) _ _ _ | show wpAny _ _ (call (Value.builtin "str.join") _) _ _ _ | show wpAny _ _ (compareOp _ (Value.ref _) (Value.ref _)) _ _ _ | show wpAny _ _ (call (Value.ref _) _) _ _ _)); first | (with_reducible ((with_reducible show wpAny _ _ (callWith _ (Value.ref _) _ _ _) _ _ _); k_dflt (refine' callWith_F ?_ ?_; exact FnAt.of (by k_asm) (by k_mem); k_whole))) | walk1 | (dsimp only; walk1))))
  · rename (mk _ == _) = true => he
    rename Fr _ _ _ _ => F
    rename News _ _ _ _ => N
    have he' := eq_of_beq he
    refine hQ _ _ _ _ ⟨_, _, _, _, _, Bs.of N F, hp2, hv2⟩ ?_
    rw [if_pos (head_nl.mp he')]
  · rename (mk _ == _) = false => he
    rename Fr _ _ _ _ => F
    rename News _ _ _ _ => N
    refine hQ _ _ _ _ ⟨_, _, _, _, _, Bs.of N F, hp2, hv2⟩ ?_
    rw [if_neg]
    intro q
    rw [head_nl.mpr q, beq_self_eq_true] at he
    cases he
end
set_option maxRecDepth 100000 in
set_option maxHeartbeats 600000 in
theorem push_spec {w : World} {mg mb : Str → Option Value} {mean : ExcName → Option Value} {s : Shared} {g : Heap} (G : Cx w mg mb mean g) {a : Lx} (ok : a.Ok) {n : Int} {pb : List Str} {left : List Nat} (S : LexSt w g s.heap a n pb left) (hle : pb.length ≤ 70) {x : Str} {t1 : Tok} {R : Result → Shared → Prop}
    (hQ : ∀ h' tk, LexSt w g h' a n (pb ++ [x]) left → R (.ok (.ret .none)) { s with heap := h', toks := tk }) :
    codeAny (model PP w) (Lv 320) (.call (.ref 70) ⟨[.ref a.x, .str x t1], []⟩) R s := by
  obtain ⟨X, T⟩ := G
  obtain ⟨x', dx, l, y, dy, l2, f, cc, D, c, k1, k2, k3, k4, tw, j1, j2, j3, j4, j5, jn, jw, oc, oq, vs, tq, dc, pm, ct⟩ := a
  obtain ⟨tn, pb', kb, sv, ks, B, hp, hv⟩ := S
  obtain ⟨o1, o2, o3, o4, o5, o6, o7, o8, d1, d2, d3⟩ := ok
  dsimp only [Lx.news] at *
  (refine' code_ownM (by assumption) (Top.nolimit (by assumption)) (by assumption) ?ho ?hcd ?hb ?hl ?hc ?_ ?hr ?h1 ?h2 ?h3; (case ho => k_is); (case hcd => k_is); (case hb => exact BindsTo.of_eq rfl); (case hl => exact locs rfl); (case hc => decide); (case hr => decide); (case h1 => exact rfl); (case h2 => exact rfl); (case h3 => exact rfl))
  intro L h₁ tk F N hlt
  k_lt hlt
  replace F := frOver [("self", .ref x'), ("token", .str x t1)] F ⟨rfl, rfl, trivial⟩
  generalize (fun y => _ : Str → Option Value) = m₁ at F
  have hpl := StrsAre.len hp
  ((try dsimp only); repeat' (first | (with_reducible refine wpAny_execs_cons ?_) | (with_reducible refine wpAny_execs_nil ?_) | (with_reducible refine wpAny_If ?_) | ((with_reducible show wpAny _ _ (PySem.truthy (Value.str _ _)) _ _ _); refine SBL.truthy (by omega) ?_) | ( (fail_if_success (with_reducible first | show LCg.CompSrc _ _ _ _ _ _ _ _ _ _ _ _ _ _ | show LCt.CompSrcT _ _ _ _ _ _ _ _ _ _ _ _ _ _ _ | show LCp.SrcLP _ _ _ _ _ _ _ _ _ _ _ _ _ _ _ | show LCg.CompEnd _ _ _ _ _ _ _ _ _ _ _ _ _ _ | show WEnd _ _ _ _ _ _ _ _ _ _ | show After _ _ _ _ _ _ _ _ _ | show TEnd _ _ _ _ _ _ _ _ _ | show TPost _ _ _ _ _ _ _ _ _ _ _ | show wpAny _ _ (eval (Expr.ListComp _ _ _ _) _) _ _ _ | show wpAny _ _ (exec (Stmt.For _ _ _ _ _) _) _ _ _ | show wpAny _ _ (exec (Stmt.While _ _ _ _) _) _ _ _ | show wpAny _ _ (exec (Stmt.Assign _ (Expr.ListComp _ _ _ _) _) _) _ _ _ | show wpAny _ _ (call (Value.builtin "str.join") _) _ _ _ | show wpAny _ _ (compareOp _ (Value.ref _) (Value.ref _)) _ _ _ | show wpAny _ _ (call (Value.ref _) _) _ _ _)); first | (with_reducible ((with_reducible show wpAny _ _ (callWith _ (Value.ref _) _ _ _) _ _ _); k_dflt (refine' callWith_F ?_ ?_; exact FnAt.of (by k_asm) (by k_mem); k_whole))) | walk1 | (dsimp only; walk1))))
  rename Fr _ _ _ _ => F
  rename News _ _ _ _ => N
  rw [List.push_toArray] at N
  exact hQ _ _ ⟨_, _, _, _, _, Bs.of N F, strsSnoc hp, hv⟩
set_option maxRecDepth 100000 in
set_option maxHeartbeats 600000 in
theorem get_spec1 {w : World} {mg mb : Str → Option Value} {mean : ExcName → Option Value} {s : Shared} {g : Heap} (G : Cx w mg mb mean g) {a : Lx} (ok : a.Ok) {n : Int} {x : Str} {pb : List Str} {left : List Nat} (S : LexSt w g s.heap a n (x :: pb) left) (hle : pb.length ≤ 70) {R : Result → Shared → Prop}
    (hQ : ∀ h' tk t, LexSt w g h' a n pb left → R (.ok (.ret (.str x t))) { s with heap := h', toks := tk }) :
    codeAny (model PP w) (Lv 320) (.call (.ref 63) ⟨[.ref a.x], []⟩) R s := by
  obtain ⟨X, T⟩ := G
  obtain ⟨x', dx, l, y, dy, l2, f, cc, D, c, k1, k2, k3, k4, tw, j1, j2, j3, j4, j5, jn, jw, oc, oq, vs, tq, dc, pm, ct⟩ := a
  obtain ⟨tn, pb', kb, sv, ks, B, hp, hv⟩ := S
  obtain ⟨o1, o2, o3, o4, o5, o6, o7, o8, d1, d2, d3⟩ := ok
  dsimp only [Lx.news] at *
  (refine' code_ownM (by assumption) (Top.nolimit (by assumption)) (by assumption) ?ho ?hcd ?hb ?hl ?hc ?_ ?hr ?h1 ?h2 ?h3; (case ho => k_is); (case hcd => k_is); (case hb => exact BindsTo.of_eq rfl); (case hl => exact locs rfl); (case hc => decide); (case hr => decide); (case h1 => exact rfl); (case h2 => exact rfl); (case h3 => exact rfl))
  intro L h₁ tk F N hlt
  k_lt hlt
  replace F := frOver [("self", .ref x')] F ⟨rfl, trivial⟩
  generalize (fun y => _ : Str → Option Value) = m₁ at F
  cases hp with
  | cons _ tx hp => ?_
  have hpl := StrsAre.len hp
  ((try dsimp only); repeat' (first | (with_reducible refine wpAny_execs_cons ?_) | (with_reducible refine wpAny_execs_nil ?_) | (with_reducible refine wpAny_If ?_) | ((with_reducible show wpAny _ _ (PySem.truthy (Value.str _ _)) _ _ _); refine SBL.truthy (by omega) ?_) | ( (fail_if_success (with_reducible first | show LCg.CompSrc _ _ _ _ _ _ _ _ _ _ _ _ _ _ | show LCt.CompSrcT _ _ _ _ _ _ _ _ _ _ _ _ _ _ _ | show LCp.SrcLP _ _ _ _ _ _ _ _ _ _ _ _ _ _ _ | show LCg.CompEnd _ _ _ _ _ _ _ _ _ _ _ _ _ _ | show WEnd _ _ _ _ _ _ _ _ _ _ | show After _ _ _ _ _ _ _ _ _ | show TEnd _ _ _ _ _ _ _ _ _ | show TPost _ _ _ _ _ _ _ _ _ _ _ | show wpAny _ _ (eval (Expr.ListComp _ _ _ _) _) _ _ _ | show wpAny _ _ (exec (Stmt.For _ _ _ _ _) _) _ _ _ | show wpAny _ _ (exec (Stmt.While _ _ _ _) _) _ _ _ | show wpAny _ _ (exec (Stmt.Assign _ (Expr.ListComp _ _ _ _) _) _) _ _ _ | show wpAny _ _ (call (Value.builtin "str.join") _) _ _ _ | show wpAny _ _ (compareOp _ (Value.ref _) (Value.ref _)) _ _ _ | show wpAny _ _ (call (Value.ref _) _) _ _ _)); first | (with_reducible ((with_reducible show wpAny _ _ (callWith _ (Value.ref _) _ _ _) _ _ _); k_dflt (refine' callWith_F ?_ ?_; exact FnAt.of (by k_asm) (by k_mem); k_whole))) | walk1 | (dsimp only; walk1))))
  refine kl_popAt (i := 0) (k := 0) (p := []) F N (by decide) (seq_zero _ _) (by rfl) (by k_upd) (by show (_ :: _ : List Value).length ≤ _; rw [List.length_cons, hpl]; exact Nat.le_trans (Nat.succ_le_succ hle) (by decide)) ?_
  intro h' F' N'
  exact hQ _ _ _ ⟨_, _, _, _, _, Bs.of N' F', hp, hv⟩
end
section
theorem WEnd.cont {gn : Array GenState} {dr : Drawn} {os : OsState} {h₀ : Heap} {L : Addr} {J : Nat → (Str → Option Value) → List (Addr × Obj) → Prop} {Q : Flow → Shared → Prop} {n : Nat} {h' : Heap} {tk : Nat} {m₂ : Str → Option Value} {news₂ : List (Addr × Obj)} (n' : Nat)
    (F : Fr h₀ L h' m₂) (N : News h₀ L h' news₂) (hn : n' < n) (hj : J n' m₂ news₂) : WEnd h₀ L J gn dr os Q n .cont ⟨h', gn, dr, tk, os⟩ := ⟨h', tk, m₂, news₂, n', rfl, F, N, hn, hj⟩
theorem mk_one (c : Nat) : mk [c] = sg c := rfl
theorem mk_ne_empty {c : Nat} {r : List Nat} : mk (c :: r) ≠ Str.ofString "" := by
  rw [ofs_empty]
  intro e
  have := cl_inj.mp e
  rw [cl_mk, cl_mk] at this
  cases this
/-- one step of the iterator over a lexer -/
theorem next_lex {w : World} {mg mb : Str → Option Value} {mean : ExcName → Option Value} {h₀ h : Heap} {L : Addr} {m : Str → Option Value} {gn : Array GenState} {dr : Drawn} {tk₀ : Nat} {os : OsState} {a : Lx} {n : Int} {pb : List Str} {left : List Nat} {I q : Addr} {t : Tok} {Q : Option Value → Shared → Prop}
    (G : Cx w mg mb mean h₀) (F : Fr h₀ L h m) (N : News h₀ L h [(I, ciObj (.ref q) t), (q, methodObj (.ref 56) (.ref a.x))]) (ok : a.Ok) (S : LexSt w h₀ h a n pb left) (hle : left.length ≤ 70) (hl : @LT.lt Nat _ a.l L) (hI : @LT.lt Nat _ a.l I) (hq : @LT.lt Nat _ a.l q) (hIq : @Ne Nat q I)
    (h1 : ∀ c r, left = c :: r → ∀ h' tk t', Fr h₀ L h' m → News h₀ L h' [(I, ciObj (.ref q) t), (q, methodObj (.ref 56) (.ref a.x))] → LexSt w h₀ h' a (if c = 10 then n + 1 else n) pb r → Q (some (.str (sg c) t')) ⟨h', gn, dr, tk, os⟩)
    (h0 : left = [] → ∀ h' tk, Fr h₀ L h' m → LexSt w h₀ h' a n pb [] → Q none ⟨h', gn, dr, tk, os⟩) :
    wpAny (model PP w) (Lv 321) (pyNext (.ref I)) Q E ⟨h, gn, dr, tk₀, os⟩ := by
  have fn : ∀ h', Fr h₀ L h' m → ∃ oc od fd sl, h'.get? 56 = some ⟨oc, od, .func fd, sl⟩ := fun h' F' => ⟨_, _, _, _, F'.keep _ _ (G.X 56 _ (by k_is))⟩
  refine ci_next (f := .none) (q := q) (t := t) (ff := 56) (self := .ref a.x) rfl (N _ (.head _)).1 (N _ (.tail _ (.head _))).1 (fn _ F) ?_
  obtain ⟨g', G2, S3, back⟩ := lex_go G F N ok S hl (fun p hp => by
    rcases List.mem_cons.mp hp with rfl | hp
    · exact .inl hI
    · rcases List.mem_cons.mp hp with rfl | hp
      · exact .inl hq
      · cases hp)
  refine weakenC (read_spec G2 ok S3 hle ?_)
  rintro h' tk t' n' S4 rfl
  obtain ⟨F', N', S5⟩ := back _ _ _ _ S4
  refine ⟨_, _, rfl, (N' _ (.head _)).1, (N' _ (.tail _ (.head _))).1, fn _ F', fun hx => ?_, fun hx h'' hc he => ?_⟩
  · cases left with
    | nil => exact absurd ofs_empty.symm hx
    | cons c r =>
      have e : (if (c :: r).head? = some 10 then n + 1 else n) = (if c = 10 then n + 1 else n) := by simp
      rw [e] at S5
      exact h1 c r rfl h' tk t' F' N' S5
  · cases left with
    | cons c r => exact absurd hx mk_ne_empty
    | nil =>
      obtain ⟨tn, pb1, kb, sv, ks, B, hp, hv⟩ := S5
      have hL : L ≠ I := fun e => (N' _ (.head _)).2.1 e.symm
      have hk : ∀ b o, b ∉ [I] → h'.get? b = some o → h''.get? b = some o := fun b o hb e => he b o (by simpa using hb) e
      have F'' := LCg.fr_but F' hk hL (N' _ (.head _)).2.2
      exact h0 rfl h'' tk F'' ⟨tn, pb1, kb, sv, ks, Bs.of (LCg.news_but (lex_news ok B hl) hk (ads_off (ads_of ok (.inl hI)))) F'', hp, hv⟩

/-- self._read_char() from a frame -/
theorem call_read {w : World} {mg mb : Str → Option Value} {mean : ExcName → Option Value} {h₀ h : Heap} {L : Addr} {m : Str → Option Value} {gn : Array GenState} {dr : Drawn} {tk₀ : Nat} {os : OsState} {a : Lx} {n : Int} {pb : List Str} {d : Nat} {left : List Nat} {rest : List (Addr × Obj)} {Q : Value → Shared → Prop} {E : Value → Shared → Prop}
    (G : Cx w mg mb mean h₀) (F : Fr h₀ L h m) (N : News h₀ L h rest) (ok : a.Ok) (S : LexSt w h₀ h a n pb (d :: left)) (hle : (d :: left).length ≤ 70) (hl : @LT.lt Nat _ a.l L) (ap : ∀ p ∈ rest, @LT.lt Nat _ a.l p.1 ∨ @LT.lt Nat _ p.1 a.c)
    (h1 : ∀ h' tk t', Fr h₀ L h' m → News h₀ L h' rest → LexSt w h₀ h' a (if d = 10 then n + 1 else n) pb left → Q (.str (sg d) t') ⟨h', gn, dr, tk, os⟩) :
    wpAny (model PP w) (Lv 321) (call (.ref 56) [.ref a.x]) Q E ⟨h, gn, dr, tk₀, os⟩ := by
  obtain ⟨g', G2, S3, back⟩ := lex_go G F N ok S hl ap
  refine wpAny_call (weakenC (read_spec G2 ok S3 hle ?_))
  rintro h' tk t' n' S4 rfl
  obtain ⟨F', N', S5⟩ := back _ _ _ _ S4
  have e : (if (d :: left).head? = some 10 then n + 1 else n) = (if d = 10 then n + 1 else n) := by simp
  rw [e] at S5
  exact h1 h' tk t' F' N' S5
def methDef (j : Nat) : List Stmt × Scope := match PySem.Challenge.pw_pe0157_01.main.body.drop 10 with
  | .ClassDef _ _ _ b _ _ _ _ _ _ _ :: _ => (match b.drop j with | .FunctionDef _ _ b _ _ _ s _ _ _ :: _ => (b, s) | _ => ([], default))
  | _ => ([], default)
def elseOf : Stmt → List Stmt
  | .If _ _ b _ => b
  | _ => []
def getFor : Stmt := stAt (methDef 2).1 3
def getFor1 : Stmt := stAt (inOf (stAt (inOf getFor) 1)) 0
def getFor2 : Stmt := stAt (elseOf (stAt (inOf getFor) 1)) 2
theorem getScope_eq : (methDef 2).2 = { kind := .function, names := [(Str.ofString "self", .local), (Str.ofString "token", .local), (Str.ofString "fiter", .local), (Str.ofString "ch", .local), (Str.ofString "iter", .globalImplicit)], isGenerator := false, isCoroutine := false } := rfl
abbrev getEnv (L : Addr) : Env := envOf "_netrclex.get_token" { kind := .function, names := [(Str.ofString "self", .local), (Str.ofString "token", .local), (Str.ofString "fiter", .local), (Str.ofString "ch", .local), (Str.ofString "iter", .globalImplicit)], isGenerator := false, isCoroutine := false } L 63 (.ref 62)
end
section
/-- the sign inside a bare word or a quoted one -/
def qGo (tok : List Nat) : List Nat → Option (List Nat × List Nat)
  | [] => none
  | 34 :: r => some (tok, r)
  | [92] => none
  | 92 :: d :: r => if d = 10 then none else qGo (tok ++ [d]) r
  | c :: r => if c = 97 ∨ c = 98 then qGo (tok ++ [c]) r else none
def bGo (tok : List Nat) : List Nat → Option (List Nat × List Nat)
  | [] => none
  | 10 :: r => some (tok, r)
  | [92] => none
  | 92 :: d :: r => if d = 10 then none else bGo (tok ++ [d]) r
  | c :: r => if c = 97 ∨ c = 98 then bGo (tok ++ [c]) r else none
def tGo : List Nat → Option (List Nat × List Nat × Int)
  | [] => some ([], [], 0)
  | 10 :: r => (tGo r).map fun z => (z.1, z.2.1, z.2.2 + 1)
  | 34 :: r => (qGo [] r).map fun z => (z.1, z.2, 0)
  | l => (bGo [] l).map fun z => (z.1, z.2, 1)
abbrev wsHas (x : Str) : Bool := (Builtin.Str.occurrences (Str.ofString "\n\t\x0d ") x 0 (Str.ofString "\n\t\x0d ").length 1).isEmpty
theorem ws10 : wsHas (Str.ofString "\n") = false := by decide +kernel
theorem ws34 : wsHas (Str.ofString "\"") = true := by decide +kernel
theorem ws92 : wsHas (Str.ofString "\\") = true := by decide +kernel
theorem ws97 : wsHas (Str.ofString "a") = true := by decide +kernel
theorem ws98 : wsHas (Str.ofString "b") = true := by decide +kernel
theorem ws_no {x : Str} {P : Prop} {a b : Bool} (h : wsHas x = a) (h' : wsHas x = b) (hab : a ≠ b) : P := absurd (h.symm.trans h') hab
inductive GtJ (go : List Nat → List Nat → Option (List Nat × List Nat)) (w : World) (a : Lx) (I q : Addr) (t : Tok) (n : Int) (pbs : List Str) (tok rest : List Nat) (k : Nat) (m' : Str → Option Value) (news' : List (Addr × Obj)) : Prop
  | mk (tn : Tok) (pb : List Value) (kb : Nat) (sv : List Value) (ks : Nat) (left tok0 : List Nat) (t1 : Tok) (e : news' = (I, ciObj (.ref q) t) :: (q, methodObj (.ref 56) (.ref a.x)) :: a.news w n tn pb kb sv ks) (hpb : StrsAre pb pbs) (hv : StrsAre sv (left.map sg))
      (hle : left.length ≤ 70) (hlt : tok0.length + left.length ≤ 1000) (hs : Has m' [("self", .ref a.x), ("token", .str (mk tok0) t1), ("fiter", .ref I)]) (ht : go tok0 left = some (tok, rest)) (hk : k = left.length)
section
set_option maxRecDepth 100000 in
set_option maxHeartbeats 600000 in
theorem get_quoted {w : World} {mg mb : Str → Option Value} {mean : ExcName → Option Value} {h₀ hp : Heap} {L : Addr} {m : Str → Option Value} {gn : Array GenState} {dr : Drawn} {tk₀ : Nat} {os : OsState} (G : Cx w mg mb mean h₀) {a : Lx} (ok : a.Ok) {n : Int} {tn t t1 : Tok} {pb sv : List Value} {kb ks : Nat} {pbs : List Str} {left tok0 tok rest : List Nat} {I q : Addr}
    (hl : @LT.lt Nat _ a.l L) (hI : @LT.lt Nat _ q I) (hq : @LT.lt Nat _ a.l q) (F : Fr h₀ L hp m) (N : News h₀ L hp ((I, ciObj (.ref q) t) :: (q, methodObj (.ref 56) (.ref a.x)) :: a.news w n tn pb kb sv ks)) (hpb : StrsAre pb pbs) (hv : StrsAre sv (left.map sg)) (hle : left.length ≤ 70) (hlt : tok0.length + left.length ≤ 1000)
    (hs : Has m [("self", .ref a.x), ("token", .str (mk tok0) t1), ("fiter", .ref I)]) (ht : qGo tok0 left = some (tok, rest)) {Q : Flow → Shared → Prop}
    (hQ : ∀ h' tk t, LexSt w h₀ h' a n pbs rest → Q (.ret (.str (mk tok) t)) ⟨h', gn, dr, tk, os⟩) :
    wpAny (model PP w) (Lv 321) (exec getFor1 (getEnv L)) Q (fun _ _ => False) ⟨hp, gn, dr, tk₀, os⟩ := by
  have G' := G
  obtain ⟨X, T⟩ := G
  have ok' := ok
  (conv => (arg 3; congr; · whnf; · (arg 2; whnf)))
  replace F := frOver _ F hs
  refine for_in ?_
  ((try dsimp only); repeat' (first | (with_reducible refine wpAny_execs_cons ?_) | (with_reducible refine wpAny_execs_nil ?_) | (with_reducible refine wpAny_If ?_) | ((with_reducible show wpAny _ _ (PySem.truthy (Value.str _ _)) _ _ _); refine SBL.truthy (by omega) ?_) | ( (fail_if_success (with_reducible first | show LCg.CompSrc _ _ _ _ _ _ _ _ _ _ _ _ _ _ | show LCt.CompSrcT _ _ _ _ _ _ _ _ _ _ _ _ _ _ _ | show LCp.SrcLP _ _ _ _ _ _ _ _ _ _ _ _ _ _ _ | show LCg.CompEnd _ _ _ _ _ _ _ _ _ _ _ _ _ _ | show WEnd _ _ _ _ _ _ _ _ _ _ | show After _ _ _ _ _ _ _ _ _ | show TEnd _ _ _ _ _ _ _ _ _ | show TPost _ _ _ _ _ _ _ _ _ _ _ | show wpAny _ _ (eval (Expr.ListComp _ _ _ _) _) _ _ _ | show wpAny _ _ (exec (Stmt.For _ _ _ _ _) _) _ _ _ | show wpAny _ _ (exec (Stmt.While _ _ _ _) _) _ _ _ | show wpAny _ _ (exec (Stmt.Assign _ (Expr.ListComp _ _ _ _) _) _) _ _ _ | show wpAny _ _ (call (Value.builtin "str.join") _) _ _ _ | show wpAny _ _ (compareOp _ (Value.ref _) (Value.ref _)) _ _ _ | show wpAny _ _ (call (Value.ref _) _) _ _ _)); first | walk1 | (dsimp only; walk1))))
  refine ci_iter (N (I, _) (.head _)).1 rfl ?_
  refine for_it (GtJ qGo w a I q t n pbs tok rest) left.length F N
    ⟨tn, pb, kb, sv, ks, left, tok0, t1, rfl, hpb, hv, hle, hlt, ⟨rfl, rfl, rfl, trivial⟩, ht, rfl⟩ ?_ (fun f s' q => q)
  clear F N hpb hv hle hlt hs ht
  rintro k m₁ _ h₁ tk₁ F N ⟨tn, pb, kb, sv, ks, left, tok0, t1, rfl, hpb, hv, hle, hlt, hs, ht, rfl⟩
  have S : LexSt w h₀ h₁ a n pbs left := ⟨_, _, _, _, _, (Bs.of N F).sub (fun p hp => .tail _ (.tail _ hp)), hpb, hv⟩
  refine next_lex (t := t) G' F (newsSub N ?_) ok' S hle hl ?_ hq ?_ ?_ ?_
  · intro p hp
    rcases List.mem_cons.mp hp with rfl | hp
    · k_mem
    · rw [List.mem_singleton.mp hp]; k_mem
  · exact Nat.lt_trans hq hI
  · exact Nat.ne_of_lt hI
  · rintro ch r rfl h' tk' t' F2 N2 ⟨tn2, pb2, kb2, sv2, ks2, B2, hp2, hv2⟩
    replace F := frOver _ F2 hs
    replace N := newsApp N2 (lex_news ok' B2 hl)
    dsimp only [List.cons_append, List.nil_append] at N
    clear F2 N2 B2 S hv hs
    have hle' := hle
    simp only [List.length_cons] at hle hlt
    have hq := ltN hq
    have hI := ltN hI
    have hl := ltN hl
    unfold qGo at ht
    split at ht
    · cases ‹_ = (_ : List Nat)›
    · rename_i r' e
      cases e
      cases ht
      rw [sg_q]
      rw [if_neg (show ¬ (34 : Nat) = 10 by decide)] at N
      ((try dsimp only); repeat' (first | (with_reducible refine wpAny_execs_cons ?_) | (with_reducible refine wpAny_execs_nil ?_) | (with_reducible refine wpAny_If ?_) | ((with_reducible show wpAny _ _ (PySem.truthy (Value.str _ _)) _ _ _); refine SBL.truthy (by omega) ?_) | ( (fail_if_success (with_reducible first | show LCg.CompSrc _ _ _ _ _ _ _ _ _ _ _ _ _ _ | show LCt.CompSrcT _ _ _ _ _ _ _ _ _ _ _ _ _ _ _ | show LCp.SrcLP _ _ _ _ _ _ _ _ _ _ _ _ _ _ _ | show LCg.CompEnd _ _ _ _ _ _ _ _ _ _ _ _ _ _ | show WEnd _ _ _ _ _ _ _ _ _ _ | show After _ _ _ _ _ _ _ _ _ | show TEnd _ _ _ _ _ _ _ _ _ | show TPost _ _ _ _ _ _ _ _ _ _ _ | show wpAny _ _ (eval (Expr.ListComp _ _ _ _) _) _ _ _ | show wpAny _ _ (exec (Stmt.For _ _ _ _ _) _) _ _ _ | show wpAny _ _ (exec (Stmt.While _ _ _ _) _) _ _ _ | show wpAny _ _ (exec (Stmt.Assign _ (Expr.ListComp _ _ _ _) _) _) _ _ _ | show wpAny _ _ (call (Value.builtin "str.join") _) _ _ _ | show wpAny _ _ (compareOp _ (Value.ref _) (Value.ref _)) _ _ _ | show wpAny _ _ (call (Value.ref _) _) _ _ _)); first | walk1 | (dsimp only; walk1))))
      rename Fr _ _ _ _ => F
      rename News _ _ _ _ => N
      exact hQ _ _ _ ⟨_, _, _, _, _, (Bs.of N F).sub (fun p hp => .tail _ (.tail _ hp)), hp2, hv2⟩
    · cases ht
    · rename_i d r' e
      cases e
      have hd : d ≠ 10 := fun q => by rw [if_pos q] at ht; cases ht
      rw [if_neg hd] at ht
      rw [sg_b]
      rw [if_neg (show ¬ (92 : Nat) = 10 by decide)] at N
      ((try dsimp only); repeat' (first | (with_reducible refine wpAny_execs_cons ?_) | (with_reducible refine wpAny_execs_nil ?_) | (with_reducible refine wpAny_If ?_) | ((with_reducible show wpAny _ _ (PySem.truthy (Value.str _ _)) _ _ _); refine SBL.truthy (by omega) ?_) | ( (fail_if_success (with_reducible first | show LCg.CompSrc _ _ _ _ _ _ _ _ _ _ _ _ _ _ | show LCt.CompSrcT _ _ _ _ _ _ _ _ _ _ _ _ _ _ _ | show LCp.SrcLP _ _ _ _ _ _ _ _ _ _ _ _ _ _ _ | show LCg.CompEnd _ _ _ _ _ _ _ _ _ _ _ _ _ _ | show WEnd _ _ _ _ _ _ _ _ _ _ | show After _ _ _ _ _ _ _ _ _ | show TEnd _ _ _ _ _ _ _ _ _ | show TPost _ _ _ _ _ _ _ _ _ _ _ | show wpAny _ _ (eval (Expr.ListComp _ _ _ _) _) _ _ _ | show wpAny _ _ (exec (Stmt.For _ _ _ _ _) _) _ _ _ | show wpAny _ _ (exec (Stmt.While _ _ _ _) _) _ _ _ | show wpAny _ _ (exec (Stmt.Assign _ (Expr.ListComp _ _ _ _) _) _) _ _ _ | show wpAny _ _ (call (Value.builtin "str.join") _) _ _ _ | show wpAny _ _ (compareOp _ (Value.ref _) (Value.ref _)) _ _ _ | show wpAny _ _ (call (Value.ref _) _) _ _ _)); first | walk1 | (dsimp only; walk1))))
      rename Fr _ _ _ _ => F
      rename News _ _ _ _ => N
      have S : LexSt w h₀ _ a n pbs (d :: r') := ⟨_, _, _, _, _, (Bs.of N F).sub (fun p hp => .tail _ (.tail _ hp)), hp2, hv2⟩
      refine call_read (rest := [(I, ciObj (.ref q) t), (q, methodObj (.ref 56) (.ref a.x))]) G' F (newsSub N ?_) ok' S (Nat.le_of_succ_le hle) hl ?_ ?_
      · intro p hp
        rcases List.mem_cons.mp hp with rfl | hp
        · k_mem
        · rw [List.mem_singleton.mp hp]; k_mem
      · intro p hp
        rcases List.mem_cons.mp hp with rfl | hp
        · exact .inl (Nat.lt_trans hq hI)
        · rw [List.mem_singleton.mp hp]; exact .inl hq
      clear F N S hp2 hv2
      rintro h' tk' t' F2 N2 ⟨tn2, pb2, kb2, sv2, ks2, B2, hp2, hv2⟩
      rw [if_neg hd] at B2
      replace F := frOver [("ch", .str (Str.ofString "\\") _), ("self", .ref a.x), ("token", .str (mk tok0) t1), ("fiter", .ref I)] F2 ⟨rfl, rfl, rfl, rfl, trivial⟩
      replace N := newsApp N2 (lex_news ok' B2 hl)
      dsimp only [List.cons_append, List.nil_append] at N
      clear F2 N2 B2
      simp only [List.length_cons] at hle hlt
      have ht0 : (mk tok0).length ≤ 1000 := by rw [len_cl, cl_mk]; omega
      have hd1 : (sg d).length = 1 := rfl
      generalize (fun y => _ : Str → Option Value) = m₂ at F
      ((try dsimp only); repeat' (first | (with_reducible refine wpAny_execs_cons ?_) | (with_reducible refine wpAny_execs_nil ?_) | (with_reducible refine wpAny_If ?_) | ((with_reducible show wpAny _ _ (PySem.truthy (Value.str _ _)) _ _ _); refine SBL.truthy (by omega) ?_) | ( (fail_if_success (with_reducible first | show LCg.CompSrc _ _ _ _ _ _ _ _ _ _ _ _ _ _ | show LCt.CompSrcT _ _ _ _ _ _ _ _ _ _ _ _ _ _ _ | show LCp.SrcLP _ _ _ _ _ _ _ _ _ _ _ _ _ _ _ | show LCg.CompEnd _ _ _ _ _ _ _ _ _ _ _ _ _ _ | show WEnd _ _ _ _ _ _ _ _ _ _ | show After _ _ _ _ _ _ _ _ _ | show TEnd _ _ _ _ _ _ _ _ _ | show TPost _ _ _ _ _ _ _ _ _ _ _ | show wpAny _ _ (eval (Expr.ListComp _ _ _ _) _) _ _ _ | show wpAny _ _ (exec (Stmt.For _ _ _ _ _) _) _ _ _ | show wpAny _ _ (exec (Stmt.While _ _ _ _) _) _ _ _ | show wpAny _ _ (exec (Stmt.Assign _ (Expr.ListComp _ _ _ _) _) _) _ _ _ | show wpAny _ _ (call (Value.builtin "str.join") _) _ _ _ | show wpAny _ _ (compareOp _ (Value.ref _) (Value.ref _)) _ _ _ | show wpAny _ _ (call (Value.ref _) _) _ _ _)); first | walk1 | (dsimp only; walk1))))
      rename Fr _ _ _ _ => F
      rename News _ _ _ _ => N
      exact WEnd.next _ F N (by simp only [List.length_cons]; omega) ⟨_, _, _, _, _, r', tok0 ++ [d], _, rfl, hp2, hv2, by omega, by simp only [List.length_append, List.length_singleton]; omega, ⟨rfl, congrArg (fun z => some (Value.str z _)) (mk_snoc tok0 d), rfl, trivial⟩, ht, rfl⟩
    · rename_i c' r' e1 e2 e3 e
      cases e
      have hc : ch = 97 ∨ ch = 98 := by
        by_cases q : ch = 97 ∨ ch = 98
        · exact q
        · rw [if_neg q] at ht; cases ht
      rw [if_pos hc] at ht
      have hn : ch ≠ 10 := by omega
      rw [if_neg hn] at N
      have ht0 : (mk tok0).length ≤ 1000 := by rw [len_cl, cl_mk]; omega
      rcases hc with rfl | rfl
      · rw [sg_x]
        ((try dsimp only); repeat' (first | (with_reducible refine wpAny_execs_cons ?_) | (with_reducible refine wpAny_execs_nil ?_) | (with_reducible refine wpAny_If ?_) | ((with_reducible show wpAny _ _ (PySem.truthy (Value.str _ _)) _ _ _); refine SBL.truthy (by omega) ?_) | ( (fail_if_success (with_reducible first | show LCg.CompSrc _ _ _ _ _ _ _ _ _ _ _ _ _ _ | show LCt.CompSrcT _ _ _ _ _ _ _ _ _ _ _ _ _ _ _ | show LCp.SrcLP _ _ _ _ _ _ _ _ _ _ _ _ _ _ _ | show LCg.CompEnd _ _ _ _ _ _ _ _ _ _ _ _ _ _ | show WEnd _ _ _ _ _ _ _ _ _ _ | show After _ _ _ _ _ _ _ _ _ | show TEnd _ _ _ _ _ _ _ _ _ | show TPost _ _ _ _ _ _ _ _ _ _ _ | show wpAny _ _ (eval (Expr.ListComp _ _ _ _) _) _ _ _ | show wpAny _ _ (exec (Stmt.For _ _ _ _ _) _) _ _ _ | show wpAny _ _ (exec (Stmt.While _ _ _ _) _) _ _ _ | show wpAny _ _ (exec (Stmt.Assign _ (Expr.ListComp _ _ _ _) _) _) _ _ _ | show wpAny _ _ (call (Value.builtin "str.join") _) _ _ _ | show wpAny _ _ (compareOp _ (Value.ref _) (Value.ref _)) _ _ _ | show wpAny _ _ (call (Value.ref _) _) _ _ _)); first | walk1 | (dsimp only; walk1))))
        rename Fr _ _ _ _ => F
        rename News _ _ _ _ => N
        rw [← sg_x] at F
        exact WEnd.next _ F N (by simp only [List.length_cons]; omega) ⟨_, _, _, _, _, r, tok0 ++ [97], _, rfl, hp2, hv2, by omega, by simp only [List.length_append, List.length_singleton]; omega, ⟨rfl, congrArg (fun z => some (Value.str z _)) (mk_snoc tok0 97), rfl, trivial⟩, ht, rfl⟩
      · rw [sg_y]
        ((try dsimp only); repeat' (first | (with_reducible refine wpAny_execs_cons ?_) | (with_reducible refine wpAny_execs_nil ?_) | (with_reducible refine wpAny_If ?_) | ((with_reducible show wpAny _ _ (PySem.truthy (Value.str _ _)) _ _ _); refine SBL.truthy (by omega) ?_) | ( (fail_if_success (with_reducible first | show LCg.CompSrc _ _ _ _ _ _ _ _ _ _ _ _ _ _ | show LCt.CompSrcT _ _ _ _ _ _ _ _ _ _ _ _ _ _ _ | show LCp.SrcLP _ _ _ _ _ _ _ _ _ _ _ _ _ _ _ | show LCg.CompEnd _ _ _ _ _ _ _ _ _ _ _ _ _ _ | show WEnd _ _ _ _ _ _ _ _ _ _ | show After _ _ _ _ _ _ _ _ _ | show TEnd _ _ _ _ _ _ _ _ _ | show TPost _ _ _ _ _ _ _ _ _ _ _ | show wpAny _ _ (eval (Expr.ListComp _ _ _ _) _) _ _ _ | show wpAny _ _ (exec (Stmt.For _ _ _ _ _) _) _ _ _ | show wpAny _ _ (exec (Stmt.While _ _ _ _) _) _ _ _ | show wpAny _ _ (exec (Stmt.Assign _ (Expr.ListComp _ _ _ _) _) _) _ _ _ | show wpAny _ _ (call (Value.builtin "str.join") _) _ _ _ | show wpAny _ _ (compareOp _ (Value.ref _) (Value.ref _)) _ _ _ | show wpAny _ _ (call (Value.ref _) _) _ _ _)); first | walk1 | (dsimp only; walk1))))
        rename Fr _ _ _ _ => F
        rename News _ _ _ _ => N
        rw [← sg_y] at F
        exact WEnd.next _ F N (by simp only [List.length_cons]; omega) ⟨_, _, _, _, _, r, tok0 ++ [98], _, rfl, hp2, hv2, by omega, by simp only [List.length_append, List.length_singleton]; omega, ⟨rfl, congrArg (fun z => some (Value.str z _)) (mk_snoc tok0 98), rfl, trivial⟩, ht, rfl⟩
  · rintro rfl
    rw [qGo] at ht
    cases ht
set_option maxRecDepth 100000 in
set_option maxHeartbeats 600000 in
theorem get_bare {w : World} {mg mb : Str → Option Value} {mean : ExcName → Option Value} {h₀ hp : Heap} {L : Addr} {m : Str → Option Value} {gn : Array GenState} {dr : Drawn} {tk₀ : Nat} {os : OsState} (G : Cx w mg mb mean h₀) {a : Lx} (ok : a.Ok) {n : Int} {tn t t1 : Tok} {pb sv : List Value} {kb ks : Nat} {pbs : List Str} {left tok0 tok rest : List Nat} {I q : Addr}
    (hl : @LT.lt Nat _ a.l L) (hI : @LT.lt Nat _ q I) (hq : @LT.lt Nat _ a.l q) (F : Fr h₀ L hp m) (N : News h₀ L hp ((I, ciObj (.ref q) t) :: (q, methodObj (.ref 56) (.ref a.x)) :: a.news w n tn pb kb sv ks)) (hpb : StrsAre pb pbs) (hv : StrsAre sv (left.map sg)) (hle : left.length ≤ 70) (hlt : tok0.length + left.length ≤ 1000)
    (hs : Has m [("self", .ref a.x), ("token", .str (mk tok0) t1), ("fiter", .ref I)]) (ht : bGo tok0 left = some (tok, rest)) {Q : Flow → Shared → Prop}
    (hQ : ∀ h' tk t, LexSt w h₀ h' a (n + 1) pbs rest → Q (.ret (.str (mk tok) t)) ⟨h', gn, dr, tk, os⟩) :
    wpAny (model PP w) (Lv 321) (exec getFor2 (getEnv L)) Q (fun _ _ => False) ⟨hp, gn, dr, tk₀, os⟩ := by
  have G' := G
  obtain ⟨X, T⟩ := G
  have ok' := ok
  (conv => (arg 3; congr; · whnf; · (arg 2; whnf)))
  replace F := frOver _ F hs
  refine for_in ?_
  ((try dsimp only); repeat' (first | (with_reducible refine wpAny_execs_cons ?_) | (with_reducible refine wpAny_execs_nil ?_) | (with_reducible refine wpAny_If ?_) | ((with_reducible show wpAny _ _ (PySem.truthy (Value.str _ _)) _ _ _); refine SBL.truthy (by omega) ?_) | ( (fail_if_success (with_reducible first | show LCg.CompSrc _ _ _ _ _ _ _ _ _ _ _ _ _ _ | show LCt.CompSrcT _ _ _ _ _ _ _ _ _ _ _ _ _ _ _ | show LCp.SrcLP _ _ _ _ _ _ _ _ _ _ _ _ _ _ _ | show LCg.CompEnd _ _ _ _ _ _ _ _ _ _ _ _ _ _ | show WEnd _ _ _ _ _ _ _ _ _ _ | show After _ _ _ _ _ _ _ _ _ | show TEnd _ _ _ _ _ _ _ _ _ | show TPost _ _ _ _ _ _ _ _ _ _ _ | show wpAny _ _ (eval (Expr.ListComp _ _ _ _) _) _ _ _ | show wpAny _ _ (exec (Stmt.For _ _ _ _ _) _) _ _ _ | show wpAny _ _ (exec (Stmt.While _ _ _ _) _) _ _ _ | show wpAny _ _ (exec (Stmt.Assign _ (Expr.ListComp _ _ _ _) _) _) _ _ _ | show wpAny _ _ (call (Value.builtin "str.join") _) _ _ _ | show wpAny _ _ (compareOp _ (Value.ref _) (Value.ref _)) _ _ _ | show wpAny _ _ (call (Value.ref _) _) _ _ _)); first | walk1 | (dsimp only; walk1))))
  refine ci_iter (N (I, _) (.head _)).1 rfl ?_
  refine for_it (GtJ bGo w a I q t n pbs tok rest) left.length F N
    ⟨tn, pb, kb, sv, ks, left, tok0, t1, rfl, hpb, hv, hle, hlt, ⟨rfl, rfl, rfl, trivial⟩, ht, rfl⟩ ?_ (fun f s' q => q)
  clear F N hpb hv hle hlt hs ht
  rintro k m₁ _ h₁ tk₁ F N ⟨tn, pb, kb, sv, ks, left, tok0, t1, rfl, hpb, hv, hle, hlt, hs, ht, rfl⟩
  have S : LexSt w h₀ h₁ a n pbs left := ⟨_, _, _, _, _, (Bs.of N F).sub (fun p hp => .tail _ (.tail _ hp)), hpb, hv⟩
  refine next_lex (t := t) G' F (newsSub N ?_) ok' S hle hl ?_ hq ?_ ?_ ?_
  · intro p hp
    rcases List.mem_cons.mp hp with rfl | hp
    · k_mem
    · rw [List.mem_singleton.mp hp]; k_mem
  · exact Nat.lt_trans hq hI
  · exact Nat.ne_of_lt hI
  · rintro ch r rfl h' tk' t' F2 N2 ⟨tn2, pb2, kb2, sv2, ks2, B2, hp2, hv2⟩
    replace F := frOver _ F2 hs
    replace N := newsApp N2 (lex_news ok' B2 hl)
    dsimp only [List.cons_append, List.nil_append] at N
    clear F2 N2 B2 S hv hs
    have hle' := hle
    simp only [List.length_cons] at hle hlt
    have hq := ltN hq
    have hI := ltN hI
    have hl := ltN hl
    unfold bGo at ht
    split at ht
    · cases ‹_ = (_ : List Nat)›
    · rename_i r' e
      cases e
      cases ht
      rw [sg_n]
      rw [if_pos rfl] at N
      ((try dsimp only); repeat' (first | (with_reducible refine wpAny_execs_cons ?_) | (with_reducible refine wpAny_execs_nil ?_) | (with_reducible refine wpAny_If ?_) | ((with_reducible show wpAny _ _ (PySem.truthy (Value.str _ _)) _ _ _); refine SBL.truthy (by omega) ?_) | ( (fail_if_success (with_reducible first | show LCg.CompSrc _ _ _ _ _ _ _ _ _ _ _ _ _ _ | show LCt.CompSrcT _ _ _ _ _ _ _ _ _ _ _ _ _ _ _ | show LCp.SrcLP _ _ _ _ _ _ _ _ _ _ _ _ _ _ _ | show LCg.CompEnd _ _ _ _ _ _ _ _ _ _ _ _ _ _ | show WEnd _ _ _ _ _ _ _ _ _ _ | show After _ _ _ _ _ _ _ _ _ | show TEnd _ _ _ _ _ _ _ _ _ | show TPost _ _ _ _ _ _ _ _ _ _ _ | show wpAny _ _ (eval (Expr.ListComp _ _ _ _) _) _ _ _ | show wpAny _ _ (exec (Stmt.For _ _ _ _ _) _) _ _ _ | show wpAny _ _ (exec (Stmt.While _ _ _ _) _) _ _ _ | show wpAny _ _ (exec (Stmt.Assign _ (Expr.ListComp _ _ _ _) _) _) _ _ _ | show wpAny _ _ (call (Value.builtin "str.join") _) _ _ _ | show wpAny _ _ (compareOp _ (Value.ref _) (Value.ref _)) _ _ _ | show wpAny _ _ (call (Value.ref _) _) _ _ _)); first | walk1 | (dsimp only; walk1))))
      all_goals try exact ws_no ws10 (by assumption) (by decide)
      rename Fr _ _ _ _ => F
      rename News _ _ _ _ => N
      exact hQ _ _ _ ⟨_, _, _, _, _, (Bs.of N F).sub (fun p hp => .tail _ (.tail _ hp)), hp2, hv2⟩
    · cases ht
    · rename_i d r' e
      cases e
      have hd : d ≠ 10 := fun q => by rw [if_pos q] at ht; cases ht
      rw [if_neg hd] at ht
      rw [sg_b]
      rw [if_neg (show ¬ (92 : Nat) = 10 by decide)] at N
      ((try dsimp only); repeat' (first | (with_reducible refine wpAny_execs_cons ?_) | (with_reducible refine wpAny_execs_nil ?_) | (with_reducible refine wpAny_If ?_) | ((with_reducible show wpAny _ _ (PySem.truthy (Value.str _ _)) _ _ _); refine SBL.truthy (by omega) ?_) | ( (fail_if_success (with_reducible first | show LCg.CompSrc _ _ _ _ _ _ _ _ _ _ _ _ _ _ | show LCt.CompSrcT _ _ _ _ _ _ _ _ _ _ _ _ _ _ _ | show LCp.SrcLP _ _ _ _ _ _ _ _ _ _ _ _ _ _ _ | show LCg.CompEnd _ _ _ _ _ _ _ _ _ _ _ _ _ _ | show WEnd _ _ _ _ _ _ _ _ _ _ | show After _ _ _ _ _ _ _ _ _ | show TEnd _ _ _ _ _ _ _ _ _ | show TPost _ _ _ _ _ _ _ _ _ _ _ | show wpAny _ _ (eval (Expr.ListComp _ _ _ _) _) _ _ _ | show wpAny _ _ (exec (Stmt.For _ _ _ _ _) _) _ _ _ | show wpAny _ _ (exec (Stmt.While _ _ _ _) _) _ _ _ | show wpAny _ _ (exec (Stmt.Assign _ (Expr.ListComp _ _ _ _) _) _) _ _ _ | show wpAny _ _ (call (Value.builtin "str.join") _) _ _ _ | show wpAny _ _ (compareOp _ (Value.ref _) (Value.ref _)) _ _ _ | show wpAny _ _ (call (Value.ref _) _) _ _ _)); first | walk1 | (dsimp only; walk1))))
      all_goals try exact ws_no ws92 (by assumption) (by decide)
      rename Fr _ _ _ _ => F
      rename News _ _ _ _ => N
      have S : LexSt w h₀ _ a n pbs (d :: r') := ⟨_, _, _, _, _, (Bs.of N F).sub (fun p hp => .tail _ (.tail _ hp)), hp2, hv2⟩
      refine call_read (rest := [(I, ciObj (.ref q) t), (q, methodObj (.ref 56) (.ref a.x))]) G' F (newsSub N ?_) ok' S (Nat.le_of_succ_le hle) hl ?_ ?_
      · intro p hp
        rcases List.mem_cons.mp hp with rfl | hp
        · k_mem
        · rw [List.mem_singleton.mp hp]; k_mem
      · intro p hp
        rcases List.mem_cons.mp hp with rfl | hp
        · exact .inl (Nat.lt_trans hq hI)
        · rw [List.mem_singleton.mp hp]; exact .inl hq
      clear F N S hp2 hv2
      rintro h' tk' t' F2 N2 ⟨tn2, pb2, kb2, sv2, ks2, B2, hp2, hv2⟩
      rw [if_neg hd] at B2
      replace F := frOver [("ch", .str (Str.ofString "\\") _), ("self", .ref a.x), ("token", .str (mk tok0) t1), ("fiter", .ref I)] F2 ⟨rfl, rfl, rfl, rfl, trivial⟩
      replace N := newsApp N2 (lex_news ok' B2 hl)
      dsimp only [List.cons_append, List.nil_append] at N
      clear F2 N2 B2
      simp only [List.length_cons] at hle hlt
      have ht0 : (mk tok0).length ≤ 1000 := by rw [len_cl, cl_mk]; omega
      have hd1 : (sg d).length = 1 := rfl
      generalize (fun y => _ : Str → Option Value) = m₂ at F
      ((try dsimp only); repeat' (first | (with_reducible refine wpAny_execs_cons ?_) | (with_reducible refine wpAny_execs_nil ?_) | (with_reducible refine wpAny_If ?_) | ((with_reducible show wpAny _ _ (PySem.truthy (Value.str _ _)) _ _ _); refine SBL.truthy (by omega) ?_) | ( (fail_if_success (with_reducible first | show LCg.CompSrc _ _ _ _ _ _ _ _ _ _ _ _ _ _ | show LCt.CompSrcT _ _ _ _ _ _ _ _ _ _ _ _ _ _ _ | show LCp.SrcLP _ _ _ _ _ _ _ _ _ _ _ _ _ _ _ | show LCg.CompEnd _ _ _ _ _ _ _ _ _ _ _ _ _ _ | show WEnd _ _ _ _ _ _ _ _ _ _ | show After _ _ _ _ _ _ _ _ _ | show TEnd _ _ _ _ _ _ _ _ _ | show TPost _ _ _ _ _ _ _ _ _ _ _ | show wpAny _ _ (eval (Expr.ListComp _ _ _ _) _) _ _ _ | show wpAny _ _ (exec (Stmt.For _ _ _ _ _) _) _ _ _ | show wpAny _ _ (exec (Stmt.While _ _ _ _) _) _ _ _ | show wpAny _ _ (exec (Stmt.Assign _ (Expr.ListComp _ _ _ _) _) _) _ _ _ | show wpAny _ _ (call (Value.builtin "str.join") _) _ _ _ | show wpAny _ _ (compareOp _ (Value.ref _) (Value.ref _)) _ _ _ | show wpAny _ _ (call (Value.ref _) _) _ _ _)); first | walk1 | (dsimp only; walk1))))
      rename Fr _ _ _ _ => F
      rename News _ _ _ _ => N
      exact WEnd.next _ F N (by simp only [List.length_cons]; omega) ⟨_, _, _, _, _, r', tok0 ++ [d], _, rfl, hp2, hv2, by omega, by simp only [List.length_append, List.length_singleton]; omega, ⟨rfl, congrArg (fun z => some (Value.str z _)) (mk_snoc tok0 d), rfl, trivial⟩, ht, rfl⟩
    · rename_i c' r' e1 e2 e3 e
      cases e
      have hc : ch = 97 ∨ ch = 98 := by
        by_cases q : ch = 97 ∨ ch = 98
        · exact q
        · rw [if_neg q] at ht; cases ht
      rw [if_pos hc] at ht
      have hn : ch ≠ 10 := by omega
      rw [if_neg hn] at N
      have ht0 : (mk tok0).length ≤ 1000 := by rw [len_cl, cl_mk]; omega
      rcases hc with rfl | rfl
      · rw [sg_x]
        ((try dsimp only); repeat' (first | (with_reducible refine wpAny_execs_cons ?_) | (with_reducible refine wpAny_execs_nil ?_) | (with_reducible refine wpAny_If ?_) | ((with_reducible show wpAny _ _ (PySem.truthy (Value.str _ _)) _ _ _); refine SBL.truthy (by omega) ?_) | ( (fail_if_success (with_reducible first | show LCg.CompSrc _ _ _ _ _ _ _ _ _ _ _ _ _ _ | show LCt.CompSrcT _ _ _ _ _ _ _ _ _ _ _ _ _ _ _ | show LCp.SrcLP _ _ _ _ _ _ _ _ _ _ _ _ _ _ _ | show LCg.CompEnd _ _ _ _ _ _ _ _ _ _ _ _ _ _ | show WEnd _ _ _ _ _ _ _ _ _ _ | show After _ _ _ _ _ _ _ _ _ | show TEnd _ _ _ _ _ _ _ _ _ | show TPost _ _ _ _ _ _ _ _ _ _ _ | show wpAny _ _ (eval (Expr.ListComp _ _ _ _) _) _ _ _ | show wpAny _ _ (exec (Stmt.For _ _ _ _ _) _) _ _ _ | show wpAny _ _ (exec (Stmt.While _ _ _ _) _) _ _ _ | show wpAny _ _ (exec (Stmt.Assign _ (Expr.ListComp _ _ _ _) _) _) _ _ _ | show wpAny _ _ (call (Value.builtin "str.join") _) _ _ _ | show wpAny _ _ (compareOp _ (Value.ref _) (Value.ref _)) _ _ _ | show wpAny _ _ (call (Value.ref _) _) _ _ _)); first | walk1 | (dsimp only; walk1))))
        all_goals try exact ws_no ws97 (by assumption) (by decide)
        rename Fr _ _ _ _ => F
        rename News _ _ _ _ => N
        rw [← sg_x] at F
        exact WEnd.next _ F N (by simp only [List.length_cons]; omega) ⟨_, _, _, _, _, r, tok0 ++ [97], _, rfl, hp2, hv2, by omega, by simp only [List.length_append, List.length_singleton]; omega, ⟨rfl, congrArg (fun z => some (Value.str z _)) (mk_snoc tok0 97), rfl, trivial⟩, ht, rfl⟩
      · rw [sg_y]
        ((try dsimp only); repeat' (first | (with_reducible refine wpAny_execs_cons ?_) | (with_reducible refine wpAny_execs_nil ?_) | (with_reducible refine wpAny_If ?_) | ((with_reducible show wpAny _ _ (PySem.truthy (Value.str _ _)) _ _ _); refine SBL.truthy (by omega) ?_) | ( (fail_if_success (with_reducible first | show LCg.CompSrc _ _ _ _ _ _ _ _ _ _ _ _ _ _ | show LCt.CompSrcT _ _ _ _ _ _ _ _ _ _ _ _ _ _ _ | show LCp.SrcLP _ _ _ _ _ _ _ _ _ _ _ _ _ _ _ | show LCg.CompEnd _ _ _ _ _ _ _ _ _ _ _ _ _ _ | show WEnd _ _ _ _ _ _ _ _ _ _ | show After _ _ _ _ _ _ _ _ _ | show TEnd _ _ _ _ _ _ _ _ _ | show TPost _ _ _ _ _ _ _ _ _ _ _ | show wpAny _ _ (eval (Expr.ListComp _ _ _ _) _) _ _ _ | show wpAny _ _ (exec (Stmt.For _ _ _ _ _) _) _ _ _ | show wpAny _ _ (exec (Stmt.While _ _ _ _) _) _ _ _ | show wpAny _ _ (exec (Stmt.Assign _ (Expr.ListComp _ _ _ _) _) _) _ _ _ | show wpAny _ _ (call (Value.builtin "str.join") _) _ _ _ | show wpAny _ _ (compareOp _ (Value.ref _) (Value.ref _)) _ _ _ | show wpAny _ _ (call (Value.ref _) _) _ _ _)); first | walk1 | (dsimp only; walk1))))
        all_goals try exact ws_no ws98 (by assumption) (by decide)
        rename Fr _ _ _ _ => F
        rename News _ _ _ _ => N
        rw [← sg_y] at F
        exact WEnd.next _ F N (by simp only [List.length_cons]; omega) ⟨_, _, _, _, _, r, tok0 ++ [98], _, rfl, hp2, hv2, by omega, by simp only [List.length_append, List.length_singleton]; omega, ⟨rfl, congrArg (fun z => some (Value.str z _)) (mk_snoc tok0 98), rfl, trivial⟩, ht, rfl⟩
  · rintro rfl
    rw [bGo] at ht
    cases ht
end
end
section
inductive GfJ (w : World) (a : Lx) (I q : Addr) (t : Tok) (n k0 : Int) (pbs : List Str) (tok rest : List Nat) (k : Nat) (m' : Str → Option Value) (news' : List (Addr × Obj)) : Prop
  | mk (tn : Tok) (pb : List Value) (kb : Nat) (sv : List Value) (ks : Nat) (left : List Nat) (t1 : Tok) (n1 kk : Int) (e : news' = (I, ciObj (.ref q) t) :: (q, methodObj (.ref 56) (.ref a.x)) :: a.news w n1 tn pb kb sv ks) (hpb : StrsAre pb pbs) (hv : StrsAre sv (left.map sg))
      (hle : left.length ≤ 70) (hs : Has m' [("self", .ref a.x), ("token", .str (mk []) t1), ("fiter", .ref I)]) (ht : tGo left = some (tok, rest, kk)) (hn : n1 + kk = n + k0) (hk : k = left.length)
section
set_option maxRecDepth 100000 in
set_option maxHeartbeats 600000 in
theorem get_for {w : World} {mg mb : Str → Option Value} {mean : ExcName → Option Value} {h₀ hp : Heap} {L : Addr} {m : Str → Option Value} {gn : Array GenState} {dr : Drawn} {tk₀ : Nat} {os : OsState} (G : Cx w mg mb mean h₀) {a : Lx} (ok : a.Ok) {n : Int} {tn t t1 : Tok} {pb sv : List Value} {kb ks : Nat} {pbs : List Str} {left tok rest : List Nat} {k0 : Int} {I q : Addr}
    (hl : @LT.lt Nat _ a.l L) (hI : @LT.lt Nat _ q I) (hq : @LT.lt Nat _ a.l q) (F : Fr h₀ L hp m) (N : News h₀ L hp ((I, ciObj (.ref q) t) :: (q, methodObj (.ref 56) (.ref a.x)) :: a.news w n tn pb kb sv ks)) (hpb : StrsAre pb pbs) (hv : StrsAre sv (left.map sg)) (hle : left.length ≤ 70) 
    (hs : Has m [("self", .ref a.x), ("token", .str (mk []) t1), ("fiter", .ref I)]) (ht : tGo left = some (tok, rest, k0)) {Q : Flow → Shared → Prop}
    (hQ : ∀ h' tk t, LexSt w h₀ h' a (n + k0) pbs rest → Q (.ret (.str (mk tok) t)) ⟨h', gn, dr, tk, os⟩)
    (hN : ∀ h' tk m' t, Fr h₀ L h' m' → Has m' [("token", .str (mk []) t)] → tok = [] → rest = [] → LexSt w h₀ h' a (n + k0) pbs [] → Q .next ⟨h', gn, dr, tk, os⟩) :
    wpAny (model PP w) (Lv 321) (exec getFor (getEnv L)) Q (fun _ _ => False) ⟨hp, gn, dr, tk₀, os⟩ := by
  have G' := G
  obtain ⟨X, T⟩ := G
  have ok' := ok
  (conv => (arg 3; congr; · whnf; · (arg 2; whnf)))
  replace F := frOver _ F hs
  refine for_in ?_
  ((try dsimp only); repeat' (first | (with_reducible refine wpAny_execs_cons ?_) | (with_reducible refine wpAny_execs_nil ?_) | (with_reducible refine wpAny_If ?_) | ((with_reducible show wpAny _ _ (PySem.truthy (Value.str _ _)) _ _ _); refine SBL.truthy (by omega) ?_) | ( (fail_if_success (with_reducible first | show LCg.CompSrc _ _ _ _ _ _ _ _ _ _ _ _ _ _ | show LCt.CompSrcT _ _ _ _ _ _ _ _ _ _ _ _ _ _ _ | show LCp.SrcLP _ _ _ _ _ _ _ _ _ _ _ _ _ _ _ | show LCg.CompEnd _ _ _ _ _ _ _ _ _ _ _ _ _ _ | show WEnd _ _ _ _ _ _ _ _ _ _ | show After _ _ _ _ _ _ _ _ _ | show TEnd _ _ _ _ _ _ _ _ _ | show TPost _ _ _ _ _ _ _ _ _ _ _ | show wpAny _ _ (eval (Expr.ListComp _ _ _ _) _) _ _ _ | show wpAny _ _ (exec (Stmt.For _ _ _ _ _) _) _ _ _ | show wpAny _ _ (exec (Stmt.While _ _ _ _) _) _ _ _ | show wpAny _ _ (exec (Stmt.Assign _ (Expr.ListComp _ _ _ _) _) _) _ _ _ | show wpAny _ _ (call (Value.builtin "str.join") _) _ _ _ | show wpAny _ _ (compareOp _ (Value.ref _) (Value.ref _)) _ _ _ | show wpAny _ _ (call (Value.ref _) _) _ _ _)); first | walk1 | (dsimp only; walk1))))
  refine ci_iter (N (I, _) (.head _)).1 rfl ?_
  refine for_it (GfJ w a I q t n k0 pbs tok rest) left.length F N
    ⟨tn, pb, kb, sv, ks, left, t1, n, k0, rfl, hpb, hv, hle, ⟨rfl, rfl, rfl, trivial⟩, ht, rfl, rfl⟩ ?_ (fun f s' q => q)
  clear F N hpb hv hle hs ht
  rintro k m₁ _ h₁ tk₁ F N ⟨tn, pb, kb, sv, ks, left, t1, n1, kk, rfl, hpb, hv, hle, hs, ht, hnk, rfl⟩
  rw [← hnk] at hQ hN
  have S : LexSt w h₀ h₁ a n1 pbs left := ⟨_, _, _, _, _, (Bs.of N F).sub (fun p hp => .tail _ (.tail _ hp)), hpb, hv⟩
  refine next_lex (t := t) G' F (newsSub N ?_) ok' S hle hl ?_ hq ?_ ?_ ?_
  · intro p hp
    rcases List.mem_cons.mp hp with rfl | hp
    · k_mem
    · rw [List.mem_singleton.mp hp]; k_mem
  · exact Nat.lt_trans hq hI
  · exact Nat.ne_of_lt hI
  · rintro ch r rfl h' tk' t' F2 N2 ⟨tn2, pb2, kb2, sv2, ks2, B2, hp2, hv2⟩
    replace F := frOver _ F2 hs
    replace N := newsApp N2 (lex_news ok' B2 hl)
    dsimp only [List.cons_append, List.nil_append] at N
    clear F2 N2 B2 S hv hs
    have hle' := hle
    simp only [List.length_cons] at hle
    have hq' := hq
    have hI' := hI
    have hl' := hl
    have hq := ltN hq
    have hI := ltN hI
    have hl := ltN hl
    unfold tGo at ht
    split at ht
    · cases ‹_ = (_ : List Nat)›
    · rename_i r' e
      cases e
      rw [sg_n]
      rw [if_pos rfl] at N
      ((try dsimp only); repeat' (first | (with_reducible refine wpAny_execs_cons ?_) | (with_reducible refine wpAny_execs_nil ?_) | (with_reducible refine wpAny_If ?_) | ((with_reducible show wpAny _ _ (PySem.truthy (Value.str _ _)) _ _ _); refine SBL.truthy (by omega) ?_) | ( (fail_if_success (with_reducible first | show LCg.CompSrc _ _ _ _ _ _ _ _ _ _ _ _ _ _ | show LCt.CompSrcT _ _ _ _ _ _ _ _ _ _ _ _ _ _ _ | show LCp.SrcLP _ _ _ _ _ _ _ _ _ _ _ _ _ _ _ | show LCg.CompEnd _ _ _ _ _ _ _ _ _ _ _ _ _ _ | show WEnd _ _ _ _ _ _ _ _ _ _ | show After _ _ _ _ _ _ _ _ _ | show TEnd _ _ _ _ _ _ _ _ _ | show TPost _ _ _ _ _ _ _ _ _ _ _ | show wpAny _ _ (eval (Expr.ListComp _ _ _ _) _) _ _ _ | show wpAny _ _ (exec (Stmt.For _ _ _ _ _) _) _ _ _ | show wpAny _ _ (exec (Stmt.While _ _ _ _) _) _ _ _ | show wpAny _ _ (exec (Stmt.Assign _ (Expr.ListComp _ _ _ _) _) _) _ _ _ | show wpAny _ _ (call (Value.builtin "str.join") _) _ _ _ | show wpAny _ _ (compareOp _ (Value.ref _) (Value.ref _)) _ _ _ | show wpAny _ _ (call (Value.ref _) _) _ _ _)); first | walk1 | (dsimp only; walk1))))
      all_goals try exact ws_no ws10 (by assumption) (by decide)
      rename Fr _ _ _ _ => F
      rename News _ _ _ _ => N
      obtain ⟨⟨tok', rest', k2'⟩, hz, e⟩ := Option.map_eq_some_iff.mp ht
      cases e
      exact WEnd.cont _ F N (by simp only [List.length_cons]; omega) ⟨_, _, _, _, _, r, _, _, k2', rfl, hp2, hv2, by omega, ⟨rfl, rfl, rfl, trivial⟩, hz, by dsimp only at hnk; omega, rfl⟩
    · rename_i r' e
      cases e
      rw [sg_q]
      rw [if_neg (show ¬ (34 : Nat) = 10 by decide)] at N
      ((try dsimp only); repeat' (first | (with_reducible refine wpAny_execs_cons ?_) | (with_reducible refine wpAny_execs_nil ?_) | (with_reducible refine wpAny_If ?_) | ((with_reducible show wpAny _ _ (PySem.truthy (Value.str _ _)) _ _ _); refine SBL.truthy (by omega) ?_) | ( (fail_if_success (with_reducible first | show LCg.CompSrc _ _ _ _ _ _ _ _ _ _ _ _ _ _ | show LCt.CompSrcT _ _ _ _ _ _ _ _ _ _ _ _ _ _ _ | show LCp.SrcLP _ _ _ _ _ _ _ _ _ _ _ _ _ _ _ | show LCg.CompEnd _ _ _ _ _ _ _ _ _ _ _ _ _ _ | show WEnd _ _ _ _ _ _ _ _ _ _ | show After _ _ _ _ _ _ _ _ _ | show TEnd _ _ _ _ _ _ _ _ _ | show TPost _ _ _ _ _ _ _ _ _ _ _ | show wpAny _ _ (eval (Expr.ListComp _ _ _ _) _) _ _ _ | show wpAny _ _ (exec (Stmt.For _ _ _ _ _) _) _ _ _ | show wpAny _ _ (exec (Stmt.While _ _ _ _) _) _ _ _ | show wpAny _ _ (exec (Stmt.Assign _ (Expr.ListComp _ _ _ _) _) _) _ _ _ | show wpAny _ _ (call (Value.builtin "str.join") _) _ _ _ | show wpAny _ _ (compareOp _ (Value.ref _) (Value.ref _)) _ _ _ | show wpAny _ _ (call (Value.ref _) _) _ _ _)); first | walk1 | (dsimp only; walk1))))
      all_goals try exact ws_no ws34 (by assumption) (by decide)
      rename Fr _ _ _ _ => F
      rename News _ _ _ _ => N
      obtain ⟨⟨tok', rest'⟩, hz, e⟩ := Option.map_eq_some_iff.mp ht
      cases e
      refine get_quoted (tok0 := []) G' ok' hl' hI' hq' F N hp2 hv2 (by omega) (by simp only [List.length_nil]; omega) ⟨rfl, rfl, rfl, trivial⟩ hz ?_
      intro h3 tk3 t3 S3
      refine hQ _ _ _ ?_
      show LexSt w h₀ _ _ (n1 + 0) _ _
      rw [Int.add_zero]
      exact S3
    · rename_i e1 e2 e3
      obtain ⟨⟨tok', rest'⟩, hz, e⟩ := Option.map_eq_some_iff.mp ht
      cases e
      unfold bGo at hz
      split at hz
      · cases ‹_ = (_ : List Nat)›
      · exact absurd ‹_ :: _ = 10 :: _› (by intro q; exact e2 _ q)
      · cases hz
      · rename_i d r' e
        cases e
        have hd : d ≠ 10 := fun q => by rw [if_pos q] at hz; cases hz
        rw [if_neg hd] at hz
        rw [sg_b]
        rw [if_neg (show ¬ (92 : Nat) = 10 by decide)] at N
        ((try dsimp only); repeat' (first | (with_reducible refine wpAny_execs_cons ?_) | (with_reducible refine wpAny_execs_nil ?_) | (with_reducible refine wpAny_If ?_) | ((with_reducible show wpAny _ _ (PySem.truthy (Value.str _ _)) _ _ _); refine SBL.truthy (by omega) ?_) | ( (fail_if_success (with_reducible first | show LCg.CompSrc _ _ _ _ _ _ _ _ _ _ _ _ _ _ | show LCt.CompSrcT _ _ _ _ _ _ _ _ _ _ _ _ _ _ _ | show LCp.SrcLP _ _ _ _ _ _ _ _ _ _ _ _ _ _ _ | show LCg.CompEnd _ _ _ _ _ _ _ _ _ _ _ _ _ _ | show WEnd _ _ _ _ _ _ _ _ _ _ | show After _ _ _ _ _ _ _ _ _ | show TEnd _ _ _ _ _ _ _ _ _ | show TPost _ _ _ _ _ _ _ _ _ _ _ | show wpAny _ _ (eval (Expr.ListComp _ _ _ _) _) _ _ _ | show wpAny _ _ (exec (Stmt.For _ _ _ _ _) _) _ _ _ | show wpAny _ _ (exec (Stmt.While _ _ _ _) _) _ _ _ | show wpAny _ _ (exec (Stmt.Assign _ (Expr.ListComp _ _ _ _) _) _) _ _ _ | show wpAny _ _ (call (Value.builtin "str.join") _) _ _ _ | show wpAny _ _ (compareOp _ (Value.ref _) (Value.ref _)) _ _ _ | show wpAny _ _ (call (Value.ref _) _) _ _ _)); first | walk1 | (dsimp only; walk1))))
        all_goals try exact ws_no ws92 (by assumption) (by decide)
        rename Fr _ _ _ _ => F
        rename News _ _ _ _ => N
        have S : LexSt w h₀ _ a n1 pbs (d :: r') := ⟨_, _, _, _, _, (Bs.of N F).sub (fun p hp => .tail _ (.tail _ hp)), hp2, hv2⟩
        refine call_read (rest := [(I, ciObj (.ref q) t), (q, methodObj (.ref 56) (.ref a.x))]) G' F (newsSub N ?_) ok' S (Nat.le_of_succ_le hle) hl ?_ ?_
        · intro p hp
          rcases List.mem_cons.mp hp with rfl | hp
          · k_mem
          · rw [List.mem_singleton.mp hp]; k_mem
        · intro p hp
          rcases List.mem_cons.mp hp with rfl | hp
          · exact .inl (Nat.lt_trans hq hI)
          · rw [List.mem_singleton.mp hp]; exact .inl hq
        clear F N S hp2 hv2
        rintro h' tk' t' F2 N2 ⟨tn2, pb2, kb2, sv2, ks2, B2, hp2, hv2⟩
        rw [if_neg hd] at B2
        replace F := frOver [("ch", .str (Str.ofString "\\") _), ("self", .ref a.x), ("token", .str (mk []) t1), ("fiter", .ref I)] F2 ⟨rfl, rfl, rfl, rfl, trivial⟩
        replace N := newsApp N2 (lex_news ok' B2 hl)
        dsimp only [List.cons_append, List.nil_append] at N
        clear F2 N2 B2
        simp only [List.length_cons] at hle
        have ht0 : (mk []).length = 0 := rfl
        have hd1 : (sg d).length = 1 := rfl
        generalize (fun y => _ : Str → Option Value) = m₂ at F
        ((try dsimp only); repeat' (first | (with_reducible refine wpAny_execs_cons ?_) | (with_reducible refine wpAny_execs_nil ?_) | (with_reducible refine wpAny_If ?_) | ((with_reducible show wpAny _ _ (PySem.truthy (Value.str _ _)) _ _ _); refine SBL.truthy (by omega) ?_) | ( (fail_if_success (with_reducible first | show LCg.CompSrc _ _ _ _ _ _ _ _ _ _ _ _ _ _ | show LCt.CompSrcT _ _ _ _ _ _ _ _ _ _ _ _ _ _ _ | show LCp.SrcLP _ _ _ _ _ _ _ _ _ _ _ _ _ _ _ | show LCg.CompEnd _ _ _ _ _ _ _ _ _ _ _ _ _ _ | show WEnd _ _ _ _ _ _ _ _ _ _ | show After _ _ _ _ _ _ _ _ _ | show TEnd _ _ _ _ _ _ _ _ _ | show TPost _ _ _ _ _ _ _ _ _ _ _ | show wpAny _ _ (eval (Expr.ListComp _ _ _ _) _) _ _ _ | show wpAny _ _ (exec (Stmt.For _ _ _ _ _) _) _ _ _ | show wpAny _ _ (exec (Stmt.While _ _ _ _) _) _ _ _ | show wpAny _ _ (exec (Stmt.Assign _ (Expr.ListComp _ _ _ _) _) _) _ _ _ | show wpAny _ _ (call (Value.builtin "str.join") _) _ _ _ | show wpAny _ _ (compareOp _ (Value.ref _) (Value.ref _)) _ _ _ | show wpAny _ _ (call (Value.ref _) _) _ _ _)); first | walk1 | (dsimp only; walk1))))
        rename Fr _ _ _ _ => F
        rename News _ _ _ _ => N
        refine get_bare (tok0 := [d]) G' ok' hl' hI' hq' F N hp2 hv2 (by omega) (by simp only [List.length_singleton]; omega) ⟨rfl, congrArg (fun z => some (Value.str z _)) (mk_snoc [] d), rfl, trivial⟩ hz ?_
        intro h3 tk3 t3 S3
        exact hQ _ _ _ S3
      · rename_i c' r' f1 f2 f3 e
        cases e
        have hc : ch = 97 ∨ ch = 98 := by
          by_cases q : ch = 97 ∨ ch = 98
          · exact q
          · rw [if_neg q] at hz; cases hz
        rw [if_pos hc] at hz
        have hn : ch ≠ 10 := by omega
        rw [if_neg hn] at N
        have ht0 : (mk []).length = 0 := rfl
        rcases hc with rfl | rfl
        · rw [sg_x]
          ((try dsimp only); repeat' (first | (with_reducible refine wpAny_execs_cons ?_) | (with_reducible refine wpAny_execs_nil ?_) | (with_reducible refine wpAny_If ?_) | ((with_reducible show wpAny _ _ (PySem.truthy (Value.str _ _)) _ _ _); refine SBL.truthy (by omega) ?_) | ( (fail_if_success (with_reducible first | show LCg.CompSrc _ _ _ _ _ _ _ _ _ _ _ _ _ _ | show LCt.CompSrcT _ _ _ _ _ _ _ _ _ _ _ _ _ _ _ | show LCp.SrcLP _ _ _ _ _ _ _ _ _ _ _ _ _ _ _ | show LCg.CompEnd _ _ _ _ _ _ _ _ _ _ _ _ _ _ | show WEnd _ _ _ _ _ _ _ _ _ _ | show After _ _ _ _ _ _ _ _ _ | show TEnd _ _ _ _ _ _ _ _ _ | show TPost _ _ _ _ _ _ _ _ _ _ _ | show wpAny _ _ (eval (Expr.ListComp _ _ _ _) _) _ _ _ | show wpAny _ _ (exec (Stmt.For _ _ _ _ _) _) _ _ _ | show wpAny _ _ (exec (Stmt.While _ _ _ _) _) _ _ _ | show wpAny _ _ (exec (Stmt.Assign _ (Expr.ListComp _ _ _ _) _) _) _ _ _ | show wpAny _ _ (call (Value.builtin "str.join") _) _ _ _ | show wpAny _ _ (compareOp _ (Value.ref _) (Value.ref _)) _ _ _ | show wpAny _ _ (call (Value.ref _) _) _ _ _)); first | walk1 | (dsimp only; walk1))))
          all_goals try exact ws_no ws97 (by assumption) (by decide)
          rename Fr _ _ _ _ => F
          rename News _ _ _ _ => N
          rw [← sg_x] at F
          refine get_bare (tok0 := [97]) G' ok' hl' hI' hq' F N hp2 hv2 (by omega) (by simp only [List.length_singleton]; omega) ⟨rfl, congrArg (fun z => some (Value.str z _)) (mk_snoc [] 97), rfl, trivial⟩ hz ?_
          intro h3 tk3 t3 S3
          exact hQ _ _ _ S3
        · rw [sg_y]
          ((try dsimp only); repeat' (first | (with_reducible refine wpAny_execs_cons ?_) | (with_reducible refine wpAny_execs_nil ?_) | (with_reducible refine wpAny_If ?_) | ((with_reducible show wpAny _ _ (PySem.truthy (Value.str _ _)) _ _ _); refine SBL.truthy (by omega) ?_) | ( (fail_if_success (with_reducible first | show LCg.CompSrc _ _ _ _ _ _ _ _ _ _ _ _ _ _ | show LCt.CompSrcT _ _ _ _ _ _ _ _ _ _ _ _ _ _ _ | show LCp.SrcLP _ _ _ _ _ _ _ _ _ _ _ _ _ _ _ | show LCg.CompEnd _ _ _ _ _ _ _ _ _ _ _ _ _ _ | show WEnd _ _ _ _ _ _ _ _ _ _ | show After _ _ _ _ _ _ _ _ _ | show TEnd _ _ _ _ _ _ _ _ _ | show TPost _ _ _ _ _ _ _ _ _ _ _ | show wpAny _ _ (eval (Expr.ListComp _ _ _ _) _) _ _ _ | show wpAny _ _ (exec (Stmt.For _ _ _ _ _) _) _ _ _ | show wpAny _ _ (exec (Stmt.While _ _ _ _) _) _ _ _ | show wpAny _ _ (exec (Stmt.Assign _ (Expr.ListComp _ _ _ _) _) _) _ _ _ | show wpAny _ _ (call (Value.builtin "str.join") _) _ _ _ | show wpAny _ _ (compareOp _ (Value.ref _) (Value.ref _)) _ _ _ | show wpAny _ _ (call (Value.ref _) _) _ _ _)); first | walk1 | (dsimp only; walk1))))
          all_goals try exact ws_no ws98 (by assumption) (by decide)
          rename Fr _ _ _ _ => F
          rename News _ _ _ _ => N
          rw [← sg_y] at F
          refine get_bare (tok0 := [98]) G' ok' hl' hI' hq' F N hp2 hv2 (by omega) (by simp only [List.length_singleton]; omega) ⟨rfl, congrArg (fun z => some (Value.str z _)) (mk_snoc [] 98), rfl, trivial⟩ hz ?_
          intro h3 tk3 t3 S3
          exact hQ _ _ _ S3
  · rintro rfl h' tk' F2 S2
    rw [tGo] at ht
    cases ht
    exact hN _ _ _ _ F2 ⟨hs.2.1, trivial⟩ rfl rfl (by rw [Int.add_zero]; exact S2)
end
section
set_option maxRecDepth 100000 in
set_option maxHeartbeats 600000 in
theorem get_spec0 {w : World} {mg mb : Str → Option Value} {mean : ExcName → Option Value} {s : Shared} {g : Heap} (G : Cx w mg mb mean g) {a : Lx} (ok : a.Ok) {n : Int} {left : List Nat} (S : LexSt w g s.heap a n [] left) (hle : left.length ≤ 70) {R : Result → Shared → Prop}
    {tok rest : List Nat} {k : Int} (ht : tGo left = some (tok, rest, k))
    (hQ : ∀ h' tk t, LexSt w g h' a (n + k) [] rest → R (.ok (.ret (.str (mk tok) t))) { s with heap := h', toks := tk }) :
    codeAny (model PP w) (Lv 320) (.call (.ref 63) ⟨[.ref a.x], []⟩) R s := by
  have G' := G
  obtain ⟨X, T⟩ := G
  have ok' := ok
  obtain ⟨x', dx, l, y, dy, l2, f, cc, D, c, k1, k2, k3, k4, tw, j1, j2, j3, j4, j5, jn, jw, oc, oq, vs, tq, dc, pm, ct⟩ := a
  obtain ⟨tn, pb', kb, sv, ks, B, hp, hv⟩ := S
  obtain ⟨o1, o2, o3, o4, o5, o6, o7, o8, d1, d2, d3⟩ := ok
  cases hp
  dsimp only [Lx.news] at *
  (refine' code_ownM (by assumption) (Top.nolimit (by assumption)) (by assumption) ?ho ?hcd ?hb ?hl ?hc ?_ ?hr ?h1 ?h2 ?h3; (case ho => k_is); (case hcd => k_is); (case hb => exact BindsTo.of_eq rfl); (case hl => exact locs rfl); (case hc => decide); (case hr => decide); (case h1 => exact rfl); (case h2 => exact rfl); (case h3 => exact rfl))
  intro L h₁ tk F N hlt
  have hlt0 := hlt _ (.head _)
  k_lt hlt
  replace F := frOver [("self", .ref x')] F ⟨rfl, trivial⟩
  generalize (fun y => _ : Str → Option Value) = m₁ at F
  ((try dsimp only); repeat' (first | (with_reducible refine wpAny_execs_cons ?_) | (with_reducible refine wpAny_execs_nil ?_) | (with_reducible refine wpAny_If ?_) | ((with_reducible show wpAny _ _ (PySem.truthy (Value.str _ _)) _ _ _); refine SBL.truthy (by omega) ?_) | ( (fail_if_success (with_reducible first | show LCg.CompSrc _ _ _ _ _ _ _ _ _ _ _ _ _ _ | show LCt.CompSrcT _ _ _ _ _ _ _ _ _ _ _ _ _ _ _ | show LCp.SrcLP _ _ _ _ _ _ _ _ _ _ _ _ _ _ _ | show LCg.CompEnd _ _ _ _ _ _ _ _ _ _ _ _ _ _ | show WEnd _ _ _ _ _ _ _ _ _ _ | show After _ _ _ _ _ _ _ _ _ | show TEnd _ _ _ _ _ _ _ _ _ | show TPost _ _ _ _ _ _ _ _ _ _ _ | show wpAny _ _ (eval (Expr.ListComp _ _ _ _) _) _ _ _ | show wpAny _ _ (exec (Stmt.For _ _ _ _ _) _) _ _ _ | show wpAny _ _ (exec (Stmt.While _ _ _ _) _) _ _ _ | show wpAny _ _ (exec (Stmt.Assign _ (Expr.ListComp _ _ _ _) _) _) _ _ _ | show wpAny _ _ (call (Value.builtin "str.join") _) _ _ _ | show wpAny _ _ (compareOp _ (Value.ref _) (Value.ref _)) _ _ _ | show wpAny _ _ (call (Value.ref _) _) _ _ _)); first | (with_reducible ((with_reducible show wpAny _ _ (call (Value.builtin "iter") [Value.ref _, _]) _ _ _); k_dflt (refine ci_make (by k_asm) (by k_asm) (by k_mem) ?_); intro I' h' F' N' l1; (try k_lt l1))) | walk1 | (dsimp only; walk1))))
  rename Fr _ _ _ _ => F
  rename News _ _ _ _ => N
  rename _ ∧ _ ∧ _ ∧ _ ∧ _ ∧ _ ∧ _ ∧ _ ∧ _ ∧ _ => hI
  have hI1 := hI.1
  clear hlt hI
  rename _ ∧ _ ∧ _ ∧ _ ∧ _ ∧ _ ∧ _ ∧ _ ∧ _ => hq
  have hq1 := hq.1
  clear hq
  generalize tk + 1 + 1 + 1 + 1 + 1 + 1 = t at N
  refine get_for (n := n) (left := left) G' ok' ?_ ?_ ?_ F N .nil hv hle ⟨rfl, congrArg (fun z => some (Value.str z _)) ofs_empty, rfl, trivial⟩ ht ?_ ?_
  · exact hlt0
  · exact hI1
  · exact hq1
  · intro h3 tk3 t3 S3
    exact hQ _ _ _ S3
  · rintro h3 tk3 m3 t3 F3 hs rfl rfl S3
    replace F := frOver _ F3 hs
    clear N
    have N : News g L h3 [] := News.nil
    dsimp only
    ((try dsimp only); repeat' (first | (with_reducible refine wpAny_execs_cons ?_) | (with_reducible refine wpAny_execs_nil ?_) | (with_reducible refine wpAny_If ?_) | ((with_reducible show wpAny _ _ (PySem.truthy (Value.str _ _)) _ _ _); refine SBL.truthy (by omega) ?_) | ( (fail_if_success (with_reducible first | show LCg.CompSrc _ _ _ _ _ _ _ _ _ _ _ _ _ _ | show LCt.CompSrcT _ _ _ _ _ _ _ _ _ _ _ _ _ _ _ | show LCp.SrcLP _ _ _ _ _ _ _ _ _ _ _ _ _ _ _ | show LCg.CompEnd _ _ _ _ _ _ _ _ _ _ _ _ _ _ | show WEnd _ _ _ _ _ _ _ _ _ _ | show After _ _ _ _ _ _ _ _ _ | show TEnd _ _ _ _ _ _ _ _ _ | show TPost _ _ _ _ _ _ _ _ _ _ _ | show wpAny _ _ (eval (Expr.ListComp _ _ _ _) _) _ _ _ | show wpAny _ _ (exec (Stmt.For _ _ _ _ _) _) _ _ _ | show wpAny _ _ (exec (Stmt.While _ _ _ _) _) _ _ _ | show wpAny _ _ (exec (Stmt.Assign _ (Expr.ListComp _ _ _ _) _) _) _ _ _ | show wpAny _ _ (call (Value.builtin "str.join") _) _ _ _ | show wpAny _ _ (compareOp _ (Value.ref _) (Value.ref _)) _ _ _ | show wpAny _ _ (call (Value.ref _) _) _ _ _)); first | (with_reducible ((with_reducible show wpAny _ _ (call (Value.builtin "iter") [Value.ref _, _]) _ _ _); k_dflt (refine ci_make (by k_asm) (by k_asm) (by k_mem) ?_); intro I' h' F' N' l1; (try k_lt l1))) | walk1 | (dsimp only; walk1))))
    exact hQ _ _ _ S3
end
end
section
def esc1 (c : Nat) : List Nat := if c = 34 then [92, 34] else [c]
def esc (l : List Nat) : List Nat := l.flatMap esc1
def spell (l : List Nat) (q : Bool) : List Nat := if q = true ∨ l = [] then 34 :: (esc l ++ [34]) else esc l
abbrev inSpell (x : Str) : Bool := (Builtin.Str.occurrences (Str.ofString "\" \\") x 0 (Str.ofString "\" \\").length 1).isEmpty
theorem is34 : inSpell (Str.ofString "\"") = false := by decide +kernel
theorem is97 : inSpell (Str.ofString "a") = true := by decide +kernel
theorem is98 : inSpell (Str.ofString "b") = true := by decide +kernel
theorem is_no {x : Str} {P : Prop} {a b : Bool} (h : inSpell x = a) (h' : inSpell x = b) (hab : a ≠ b) : P := absurd (h.symm.trans h') hab
theorem esc_len (l : List Nat) : (esc l).length ≤ 2 * l.length := by
  induction l with
  | nil => exact Nat.le_refl _
  | cons c r ih =>
    show ((esc1 c) ++ esc r).length ≤ _
    rw [List.length_append, List.length_cons]
    have : (esc1 c).length ≤ 2 := by unfold esc1; split <;> simp
    omega
theorem esc_sum (l : List Nat) : ((l.map fun c => mk (esc1 c)).map (·.length)).sum = (esc l).length := by
  induction l with
  | nil => rfl
  | cons c r ih =>
    rw [List.map_cons, List.map_cons, List.sum_cons, ih]
    show _ = (esc1 c ++ esc r).length
    rw [List.length_append, len_cl, cl_mk]
theorem esc_flat (l : List Nat) : (l.map fun c => mk (esc1 c)).flatMap cl = esc l := by
  induction l with
  | nil => rfl
  | cons c r ih => rw [List.map_cons, List.flatMap_cons, ih]; rfl
theorem quo (l : List Nat) : Str.ofString "\"" ++ mk l ++ Str.ofString "\"" = mk (34 :: (l ++ [34])) := by
  rw [← sg_q]
  apply str_ext
  rw [cl_append, cl_append, cl_mk, cl_mk]
  rfl
set_option maxRecDepth 100000 in
set_option maxHeartbeats 600000 in
theorem spelled_spec {w : World} {mg mb : Str → Option Value} {mean : ExcName → Option Value} {s : Shared} (G : Cx w mg mb mean s.heap) {x : Str} {q : Bool} {ta : Tok} {Q : Value → Shared → Prop} {E : Value → Shared → Prop}
    (hx : x.length ≤ 3) (ax : Abs x)
    (hQ : ∀ v t h' tk, v = mk (spell (cl x) q) → Kept s.heap h' → Q (.str v t) { s with heap := h', toks := tk }) :
    wpAny (model PP w) (Lv 320) (call (.ref 89) [.str x ta, .bool q]) Q E s := by
  obtain ⟨X, T⟩ := G
  (refine' call_own (by assumption) (Top.nolimit (by assumption)) ?ho ?hcd ?hb ?hl ?hc ?_ ?hr ?h1 ?h2 ?h3; (case ho => k_is); (case hcd => k_is); (case hb => exact BindsTo.of_eq rfl); (case hl => exact locs rfl); (case hc => decide); (case hr => decide); (case h1 => exact rfl); (case h2 => exact rfl); (case h3 => exact rfl))
  intro L h₁ tk F N
  have hxl := len_cl x
  replace F := frOver [("word", .str x ta), ("quoted", .bool q)] F ⟨rfl, rfl, trivial⟩
  generalize (fun y => _ : Str → Option Value) = m₁ at F
  ((try dsimp only); repeat' (first | (with_reducible refine wpAny_execs_cons ?_) | (with_reducible refine wpAny_execs_nil ?_) | (with_reducible refine wpAny_If ?_) | ((with_reducible show wpAny _ _ (PySem.truthy (Value.str _ _)) _ _ _); refine SBL.truthy (by omega) ?_) | ( (fail_if_success (with_reducible first | show LCg.CompSrc _ _ _ _ _ _ _ _ _ _ _ _ _ _ | show LCt.CompSrcT _ _ _ _ _ _ _ _ _ _ _ _ _ _ _ | show LCp.SrcLP _ _ _ _ _ _ _ _ _ _ _ _ _ _ _ | show LCg.CompEnd _ _ _ _ _ _ _ _ _ _ _ _ _ _ | show WEnd _ _ _ _ _ _ _ _ _ _ | show After _ _ _ _ _ _ _ _ _ | show TEnd _ _ _ _ _ _ _ _ _ | show TPost _ _ _ _ _ _ _ _ _ _ _ | show wpAny _ _ (eval (Expr.ListComp _ _ _ _) _) _ _ _ | show wpAny _ _ (exec (Stmt.For _ _ _ _ _) _) _ _ _ | show wpAny _ _ (exec (Stmt.While _ _ _ _) _) _ _ _ | show wpAny _ _ (exec (Stmt.Assign _ (Expr.ListComp _ _ _ _) _) _) _ _ _ | show wpAny _ _ (call (Value.builtin "str.join") _) _ _ _ | show wpAny _ _ (compareOp _ (Value.ref _) (Value.ref _)) _ _ _ | show wpAny _ _ (call (Value.ref _) _) _ _ _)); first | walk1 | (dsimp only; walk1))))
  (k_dflt (refine comp_str (F₀ := by k_asm) (by with_unfolding_all rfl) (by decide) (by rfl) (by decide) (by rfl) ?_))
  walk1
  dsimp only
  refine ⟨x, ta, [], rfl, rfl, abs_ascii ax, F, N, Nat.le_trans (show x.length ≤ 3 from hx) (by decide), ?_⟩
  rintro s₂ ⟨g, rfl⟩
  clear F N
  refine compRest_inv (fun i ys news => news = [] ∧ StrsAre ys (((cl x).take i).map fun c => mk (esc1 c))) ⟨rfl, .nil⟩ ?_ ?_
  · rintro i ys _ hi ⟨rfl, hI⟩ v I oI C oC D mc h tk E' ⟨c, t, hc, rfl⟩ hC hm F N off hne'
    have hc' := sg_at hc
    replace hm : mc "sign" = some (.str (sg c) t) := hm
    have hsn : ∀ z, StrsAre [z] [mk (esc1 c)] → StrsAre (ys ++ [z]) (((cl x).take (i + 1)).map fun c => mk (esc1 c)) := fun z hz => by
      rw [take_snoc hc', List.map_append]; exact StrsAre.app hI hz
    rcases ax c (List.mem_of_getElem? hc') with rfl | rfl | rfl
    · rw [sg_x] at hm
      ((try dsimp only); repeat' (first | (with_reducible refine wpAny_execs_cons ?_) | (with_reducible refine wpAny_execs_nil ?_) | (with_reducible refine wpAny_If ?_) | ((with_reducible show wpAny _ _ (PySem.truthy (Value.str _ _)) _ _ _); refine SBL.truthy (by omega) ?_) | ( (fail_if_success (with_reducible first | show LCg.CompSrc _ _ _ _ _ _ _ _ _ _ _ _ _ _ | show LCt.CompSrcT _ _ _ _ _ _ _ _ _ _ _ _ _ _ _ | show LCp.SrcLP _ _ _ _ _ _ _ _ _ _ _ _ _ _ _ | show LCg.CompEnd _ _ _ _ _ _ _ _ _ _ _ _ _ _ | show WEnd _ _ _ _ _ _ _ _ _ _ | show After _ _ _ _ _ _ _ _ _ | show TEnd _ _ _ _ _ _ _ _ _ | show TPost _ _ _ _ _ _ _ _ _ _ _ | show wpAny _ _ (eval (Expr.ListComp _ _ _ _) _) _ _ _ | show wpAny _ _ (exec (Stmt.For _ _ _ _ _) _) _ _ _ | show wpAny _ _ (exec (Stmt.While _ _ _ _) _) _ _ _ | show wpAny _ _ (exec (Stmt.Assign _ (Expr.ListComp _ _ _ _) _) _) _ _ _ | show wpAny _ _ (call (Value.builtin "str.join") _) _ _ _ | show wpAny _ _ (compareOp _ (Value.ref _) (Value.ref _)) _ _ _ | show wpAny _ _ (call (Value.ref _) _) _ _ _)); first | walk1 | (dsimp only; walk1))))
      · exact LCg.CompEnd.intro (by assumption) (by assumption) _ (fun p hp => hp) off trivial ⟨rfl, hsn _ (.cons _ _ .nil)⟩
      · exact is_no is97 (by assumption) (by decide)
    · rw [sg_y] at hm
      ((try dsimp only); repeat' (first | (with_reducible refine wpAny_execs_cons ?_) | (with_reducible refine wpAny_execs_nil ?_) | (with_reducible refine wpAny_If ?_) | ((with_reducible show wpAny _ _ (PySem.truthy (Value.str _ _)) _ _ _); refine SBL.truthy (by omega) ?_) | ( (fail_if_success (with_reducible first | show LCg.CompSrc _ _ _ _ _ _ _ _ _ _ _ _ _ _ | show LCt.CompSrcT _ _ _ _ _ _ _ _ _ _ _ _ _ _ _ | show LCp.SrcLP _ _ _ _ _ _ _ _ _ _ _ _ _ _ _ | show LCg.CompEnd _ _ _ _ _ _ _ _ _ _ _ _ _ _ | show WEnd _ _ _ _ _ _ _ _ _ _ | show After _ _ _ _ _ _ _ _ _ | show TEnd _ _ _ _ _ _ _ _ _ | show TPost _ _ _ _ _ _ _ _ _ _ _ | show wpAny _ _ (eval (Expr.ListComp _ _ _ _) _) _ _ _ | show wpAny _ _ (exec (Stmt.For _ _ _ _ _) _) _ _ _ | show wpAny _ _ (exec (Stmt.While _ _ _ _) _) _ _ _ | show wpAny _ _ (exec (Stmt.Assign _ (Expr.ListComp _ _ _ _) _) _) _ _ _ | show wpAny _ _ (call (Value.builtin "str.join") _) _ _ _ | show wpAny _ _ (compareOp _ (Value.ref _) (Value.ref _)) _ _ _ | show wpAny _ _ (call (Value.ref _) _) _ _ _)); first | walk1 | (dsimp only; walk1))))
      · exact LCg.CompEnd.intro (by assumption) (by assumption) _ (fun p hp => hp) off trivial ⟨rfl, hsn _ (.cons _ _ .nil)⟩
      · exact is_no is98 (by assumption) (by decide)
    · rw [sg_q] at hm
      ((try dsimp only); repeat' (first | (with_reducible refine wpAny_execs_cons ?_) | (with_reducible refine wpAny_execs_nil ?_) | (with_reducible refine wpAny_If ?_) | ((with_reducible show wpAny _ _ (PySem.truthy (Value.str _ _)) _ _ _); refine SBL.truthy (by omega) ?_) | ( (fail_if_success (with_reducible first | show LCg.CompSrc _ _ _ _ _ _ _ _ _ _ _ _ _ _ | show LCt.CompSrcT _ _ _ _ _ _ _ _ _ _ _ _ _ _ _ | show LCp.SrcLP _ _ _ _ _ _ _ _ _ _ _ _ _ _ _ | show LCg.CompEnd _ _ _ _ _ _ _ _ _ _ _ _ _ _ | show WEnd _ _ _ _ _ _ _ _ _ _ | show After _ _ _ _ _ _ _ _ _ | show TEnd _ _ _ _ _ _ _ _ _ | show TPost _ _ _ _ _ _ _ _ _ _ _ | show wpAny _ _ (eval (Expr.ListComp _ _ _ _) _) _ _ _ | show wpAny _ _ (exec (Stmt.For _ _ _ _ _) _) _ _ _ | show wpAny _ _ (exec (Stmt.While _ _ _ _) _) _ _ _ | show wpAny _ _ (exec (Stmt.Assign _ (Expr.ListComp _ _ _ _) _) _) _ _ _ | show wpAny _ _ (call (Value.builtin "str.join") _) _ _ _ | show wpAny _ _ (compareOp _ (Value.ref _) (Value.ref _)) _ _ _ | show wpAny _ _ (call (Value.ref _) _) _ _ _)); first | walk1 | (dsimp only; walk1))))
      · exact is_no is34 (by assumption) (by decide)
      · rw [show Str.ofString "\\" ++ Str.ofString "\"" = mk (esc1 34) by decide +kernel]
        exact LCg.CompEnd.intro (by assumption) (by assumption) _ (fun p hp => hp) off trivial ⟨rfl, hsn _ (.cons _ _ .nil)⟩
  · rintro ys _ ⟨rfl, hI⟩ D h tk F N off
    rw [show x.cps.size = (cl x).length from hxl, List.take_length] at hI
    have hel := esc_len (cl x)
    ((try dsimp only); repeat' (first | (with_reducible refine wpAny_execs_cons ?_) | (with_reducible refine wpAny_execs_nil ?_) | (with_reducible refine wpAny_If ?_) | ((with_reducible show wpAny _ _ (PySem.truthy (Value.str _ _)) _ _ _); refine SBL.truthy (by omega) ?_) | ( (fail_if_success (with_reducible first | show LCg.CompSrc _ _ _ _ _ _ _ _ _ _ _ _ _ _ | show LCt.CompSrcT _ _ _ _ _ _ _ _ _ _ _ _ _ _ _ | show LCp.SrcLP _ _ _ _ _ _ _ _ _ _ _ _ _ _ _ | show LCg.CompEnd _ _ _ _ _ _ _ _ _ _ _ _ _ _ | show WEnd _ _ _ _ _ _ _ _ _ _ | show After _ _ _ _ _ _ _ _ _ | show TEnd _ _ _ _ _ _ _ _ _ | show TPost _ _ _ _ _ _ _ _ _ _ _ | show wpAny _ _ (eval (Expr.ListComp _ _ _ _) _) _ _ _ | show wpAny _ _ (exec (Stmt.For _ _ _ _ _) _) _ _ _ | show wpAny _ _ (exec (Stmt.While _ _ _ _) _) _ _ _ | show wpAny _ _ (exec (Stmt.Assign _ (Expr.ListComp _ _ _ _) _) _) _ _ _ | show wpAny _ _ (call (Value.builtin "str.join") _) _ _ _ | show wpAny _ _ (compareOp _ (Value.ref _) (Value.ref _)) _ _ _ | show wpAny _ _ (call (Value.ref _) _) _ _ _)); first | walk1 | (dsimp only; walk1))))
    refine join_mk (by assumption) (by k_mem) hI ?_ ?_
    · rw [esc_sum]; omega
    rw [esc_flat]
    intro t' k'
    have hml : (mk (esc (cl x))).length ≤ 6 := by rw [len_cl, cl_mk]; omega
    ((try dsimp only); repeat' (first | (with_reducible refine wpAny_execs_cons ?_) | (with_reducible refine wpAny_execs_nil ?_) | (with_reducible refine wpAny_If ?_) | ((with_reducible show wpAny _ _ (PySem.truthy (Value.str _ _)) _ _ _); refine SBL.truthy (by omega) ?_) | ( (fail_if_success (with_reducible first | show LCg.CompSrc _ _ _ _ _ _ _ _ _ _ _ _ _ _ | show LCt.CompSrcT _ _ _ _ _ _ _ _ _ _ _ _ _ _ _ | show LCp.SrcLP _ _ _ _ _ _ _ _ _ _ _ _ _ _ _ | show LCg.CompEnd _ _ _ _ _ _ _ _ _ _ _ _ _ _ | show WEnd _ _ _ _ _ _ _ _ _ _ | show After _ _ _ _ _ _ _ _ _ | show TEnd _ _ _ _ _ _ _ _ _ | show TPost _ _ _ _ _ _ _ _ _ _ _ | show wpAny _ _ (eval (Expr.ListComp _ _ _ _) _) _ _ _ | show wpAny _ _ (exec (Stmt.For _ _ _ _ _) _) _ _ _ | show wpAny _ _ (exec (Stmt.While _ _ _ _) _) _ _ _ | show wpAny _ _ (exec (Stmt.Assign _ (Expr.ListComp _ _ _ _) _) _) _ _ _ | show wpAny _ _ (call (Value.builtin "str.join") _) _ _ _ | show wpAny _ _ (compareOp _ (Value.ref _) (Value.ref _)) _ _ _ | show wpAny _ _ (call (Value.ref _) _) _ _ _)); first | walk1 | (dsimp only; walk1))))
    · rename q = true => hq
      exact hQ _ _ _ _ (by rw [spell, if_pos (.inl hq)]; exact quo _) (Fr.keep (by assumption))
    · rename (x == _) = true => he
      exact hQ _ _ _ _ (by rw [spell, if_pos (.inr (by rw [eq_of_beq he, ofs_empty]; rfl))]; exact quo _) (Fr.keep (by assumption))
    · rename q = false => hq
      rename (x == _) = false => he
      exact hQ _ _ _ _ (by rw [spell, if_neg]; rintro (h | h); { rw [hq] at h; cases h }; { rw [show x = Str.ofString "" by rw [ofs_empty, ← mk_cl x, h], beq_self_eq_true] at he; cases he }) (Fr.keep (by assumption))
end
section
abbrev IsWord (l : List Nat) : Prop := 1 ≤ l.length ∧ l.length ≤ 3 ∧ ∀ c ∈ l, Ab c
def textOf (ws : List (List Nat × Bool)) : List Nat := ws.flatMap fun p => spell p.1 p.2 ++ [10]
theorem abq_item (j : Int) (h0 : 0 ≤ j) (h3 : j < 3) : ∃ c, Ab c ∧ Txt.item (Str.ofString "ab\"") j = sg c := by
  have : j = 0 ∨ j = 1 ∨ j = 2 := by omega
  rcases this with rfl | rfl | rfl
  · exact ⟨97, .inl rfl, by decide +kernel⟩
  · exact ⟨98, .inr (.inl rfl), by decide +kernel⟩
  · exact ⟨34, .inr (.inr rfl), by decide +kernel⟩
theorem text_snoc (ws : List (List Nat × Bool)) (wd : List Nat) (b : Bool) : mk (textOf ws) ++ (mk (spell wd b) ++ Str.ofString "\n") = mk (textOf (ws ++ [(wd, b)])) := by
  rw [← sg_n]
  apply str_ext
  rw [cl_append, cl_append, cl_mk, cl_mk, cl_mk, textOf, textOf, List.flatMap_append, List.flatMap_singleton]
  rfl
theorem spell_len (l : List Nat) (q : Bool) : (spell l q).length ≤ 2 * l.length + 2 := by
  have := esc_len l
  unfold spell
  split
  · rw [List.length_cons, List.length_append, List.length_singleton]; omega
  · omega
theorem text_len (ws : List (List Nat × Bool)) (h : ∀ p ∈ ws, IsWord p.1) : (textOf ws).length ≤ 9 * ws.length := by
  induction ws with
  | nil => exact Nat.le_refl _
  | cons p r ih =>
    have h1 := ih fun q hq => h q (.tail _ hq)
    have h2 := spell_len p.1 p.2
    have h3 := (h p (.head _)).2.1
    show ((spell p.1 p.2 ++ [10]) ++ textOf r).length ≤ _
    simp only [List.length_append, List.length_cons, List.length_nil]
    omega
/-- the words drawn so far -/
inductive DrJ (L D₀ sc : Addr) (i : Nat) (m' : Str → Option Value) (news' : List (Addr × Obj)) : Prop
  | mk (oc : Obj) (v : Option Value) (us : List Value) (k : Nat) (tt : Tok) (ws : List (List Nat × Bool)) (e : news' = [(D₀, listOf us.toArray k), (L + 1, oc)]) (hd : oc.data = .cell v) (hs : Has m' [("script", .ref sc), ("words", .ref D₀), ("text", .str (mk (textOf ws)) tt)]) (hw : ∀ p ∈ ws, IsWord p.1) (hl : ws.length = i) (hu : StrsAre us (ws.map fun p => mk p.1))
inductive DnE (L I D₀ sc : Addr) (o oc : Obj) (us : List Value) (k : Nat) (ws : List (List Nat × Bool)) (tt : Tok) (m' : Str → Option Value) (news' : List (Addr × Obj)) : Prop
  | mk (e : news' = [(I, o), (D₀, listOf us.toArray k), (L + 1, oc)]) (n : Int) (tn : Tok) (hs : Has m' [("script", .ref sc), ("words", .ref D₀), ("text", .str (mk (textOf ws)) tt), ("number", .int n tn)])
inductive DwE (L I D₀ sc : Addr) (o : Obj) (us : List Value) (k : Nat) (ws : List (List Nat × Bool)) (tt : Tok) (m' : Str → Option Value) (news' : List (Addr × Obj)) : Prop
  | mk (oc : Obj) (n w0 : Int) (tn tw : Tok) (e : news' = [(I, o), (D₀, listOf us.toArray k), (L + 1, oc)]) (hd : oc.data = .cell (some (.int w0 tw))) (hs : Has m' [("script", .ref sc), ("words", .ref D₀), ("text", .str (mk (textOf ws)) tt), ("number", .int n tn)])
inductive DzE (L I D₀ sc : Addr) (o oc : Obj) (us : List Value) (k : Nat) (ws : List (List Nat × Bool)) (tt : Tok) (n : Int) (tn : Tok) (m' : Str → Option Value) (news' : List (Addr × Obj)) : Prop
  | mk (z : Int) (tz : Tok) (e : news' = [(I, o), (D₀, listOf us.toArray k), (L + 1, oc)]) (hz : z = 1 ∨ z = 2 ∨ z = 3) (hs : Has m' [("script", .ref sc), ("words", .ref D₀), ("text", .str (mk (textOf ws)) tt), ("number", .int n tn), ("size", .int z tz)])
inductive DxE (L I D₀ sc : Addr) (o : Obj) (us : List Value) (k : Nat) (ws : List (List Nat × Bool)) (tt : Tok) (n : Int) (tn : Tok) (z : Int) (tz : Tok) (m' : Str → Option Value) (news' : List (Addr × Obj)) : Prop
  | mk (oc : Obj) (w0 : Int) (tw : Tok) (e : news' = [(I, o), (D₀, listOf us.toArray k), (L + 1, oc)]) (hd : oc.data = .cell (some (.int w0 tw))) (hs : Has m' [("script", .ref sc), ("words", .ref D₀), ("text", .str (mk (textOf ws)) tt), ("number", .int n tn), ("size", .int z tz)])
inductive DdE (L I D₀ sc : Addr) (o oc : Obj) (us : List Value) (k : Nat) (ws : List (List Nat × Bool)) (tt : Tok) (n : Int) (tn : Tok) (m' : Str → Option Value) (news' : List (Addr × Obj)) : Prop
  | mk (wd : List Nat) (t' : Tok) (e : news' = [(I, o), (D₀, listOf us.toArray k), (L + 1, oc)]) (hw : IsWord wd) (hs : Has m' [("script", .ref sc), ("words", .ref D₀), ("text", .str (mk (textOf ws)) tt), ("number", .int n tn), ("word", .str (mk wd) t')])
inductive DcJ (L I D₀ : Addr) (o oc : Obj) (us : List Value) (k : Nat) (i : Nat) (ys : List Value) (news' : List (Addr × Obj)) : Prop
  | mk (e : news' = [(I, o), (D₀, listOf us.toArray k), (L + 1, oc)]) (l : List Nat) (hl : l.length = i) (ha : ∀ c ∈ l, Ab c) (hy : StrsAre ys (l.map sg))
set_option maxRecDepth 100000 in
set_option maxHeartbeats 8000000 in
theorem draw_spec {w : World} {mg mb : Str → Option Value} {mean : ExcName → Option Value} {s : Shared} (G : Cx w mg mb mean s.heap) {sc : Addr} {vs : List Value} {ns : List Int} {Q : Value → Shared → Prop} {E : Value → Shared → Prop}
    (hl : s.heap.IsList sc vs.toArray) (hv : IntsAre vs ns) (hn : ns.length ≤ 64)
    (hQ : ∀ ws T D us k t h' tk, (∀ p ∈ ws, IsWord p.1) → ws.length = 7 → Kept s.heap h' → StrsAre us (ws.map fun p => mk p.1) → h'.get? T = some { cls := .type "tuple", data := .seq #[.ref D, .str (mk (textOf ws)) t] } → h'.get? D = some (listOf us.toArray k) → s.heap.get? T = none → s.heap.get? D = none → @LT.lt Nat _ D T → Q (.ref T) { s with heap := h', toks := tk }) :
    wpAny (model PP w) (Lv 310) (call (.ref 99) [.ref sc]) Q E s := by
  have G' := G
  obtain ⟨X, T⟩ := G
  (refine' call_ownC (by assumption) (Top.nolimit (by assumption)) ?ho ?hcd ?hb ?hl ?hc ?_ ?hr ?h1 ?h2 ?h3; (case ho => k_is); (case hcd => k_is); (case hb => exact BindsTo.of_eq rfl); (case hl => exact rfl); (case hc => decide +kernel); (case hr => decide); (case h1 => exact rfl); (case h2 => exact rfl); (case h3 => exact rfl))
  intro L h₁ tk cells F N Y
  obtain ⟨o1, rfl, d1⟩ := CellsAre.one Y
  clear Y
  replace d1 : o1.data = .cell none := d1
  replace F := frOver [("script", .ref sc)] F ⟨rfl, trivial⟩
  generalize bindL _ _ _ = m₁ at F
  ((try dsimp only); repeat' (first | (with_reducible refine wpAny_execs_cons ?_) | (with_reducible refine wpAny_execs_nil ?_) | (with_reducible refine wpAny_If ?_) | ((with_reducible show wpAny _ _ (PySem.truthy (Value.str _ _)) _ _ _); refine SBL.truthy (by omega) ?_) | ( (fail_if_success (with_reducible first | show LCg.CompSrc _ _ _ _ _ _ _ _ _ _ _ _ _ _ | show LCt.CompSrcT _ _ _ _ _ _ _ _ _ _ _ _ _ _ _ | show LCp.SrcLP _ _ _ _ _ _ _ _ _ _ _ _ _ _ _ | show LCg.CompEnd _ _ _ _ _ _ _ _ _ _ _ _ _ _ | show WEnd _ _ _ _ _ _ _ _ _ _ | show After _ _ _ _ _ _ _ _ _ | show TEnd _ _ _ _ _ _ _ _ _ | show TPost _ _ _ _ _ _ _ _ _ _ _ | show wpAny _ _ (eval (Expr.ListComp _ _ _ _) _) _ _ _ | show wpAny _ _ (exec (Stmt.For _ _ _ _ _) _) _ _ _ | show wpAny _ _ (exec (Stmt.While _ _ _ _) _) _ _ _ | show wpAny _ _ (exec (Stmt.Assign _ (Expr.ListComp _ _ _ _) _) _) _ _ _ | show wpAny _ _ (call (Value.builtin "str.join") _) _ _ _ | show wpAny _ _ (compareOp _ (Value.ref _) (Value.ref _)) _ _ _ | show wpAny _ _ (call (Value.ref _) _) _ _ _)); first | walk1 | (dsimp only; walk1))))
  rename Fr _ _ _ _ => F
  rename News _ _ _ _ => N
  rename @LT.lt Nat _ _ _ => hLD
  rename Addr => D₀
  replace F := frOver [("script", .ref sc), ("words", .ref D₀), ("text", .str (mk (textOf [])) _)] F ⟨rfl, rfl, congrArg (fun z => some (Value.str z _)) ofs_empty, trivial⟩
  generalize (fun y => _ : Str → Option Value) = m₂ at F
  refine for_in ?_
  ((try dsimp only); repeat' (first | (with_reducible refine wpAny_execs_cons ?_) | (with_reducible refine wpAny_execs_nil ?_) | (with_reducible refine wpAny_If ?_) | ((with_reducible show wpAny _ _ (PySem.truthy (Value.str _ _)) _ _ _); refine SBL.truthy (by omega) ?_) | ( (fail_if_success (with_reducible first | show LCg.CompSrc _ _ _ _ _ _ _ _ _ _ _ _ _ _ | show LCt.CompSrcT _ _ _ _ _ _ _ _ _ _ _ _ _ _ _ | show LCp.SrcLP _ _ _ _ _ _ _ _ _ _ _ _ _ _ _ | show LCg.CompEnd _ _ _ _ _ _ _ _ _ _ _ _ _ _ | show WEnd _ _ _ _ _ _ _ _ _ _ | show After _ _ _ _ _ _ _ _ _ | show TEnd _ _ _ _ _ _ _ _ _ | show TPost _ _ _ _ _ _ _ _ _ _ _ | show wpAny _ _ (eval (Expr.ListComp _ _ _ _) _) _ _ _ | show wpAny _ _ (exec (Stmt.For _ _ _ _ _) _) _ _ _ | show wpAny _ _ (exec (Stmt.While _ _ _ _) _) _ _ _ | show wpAny _ _ (exec (Stmt.Assign _ (Expr.ListComp _ _ _ _) _) _) _ _ _ | show wpAny _ _ (call (Value.builtin "str.join") _) _ _ _ | show wpAny _ _ (compareOp _ (Value.ref _) (Value.ref _)) _ _ _ | show wpAny _ _ (call (Value.ref _) _) _ _ _)); first | walk1 | (dsimp only; walk1))))
  rename IsRange _ _ _ _ _ _ _ _ => hR
  rename Fr _ _ _ _ => F
  rename News _ _ _ _ => N
  refine for_range (n := 7) (DrJ L D₀ sc)
    rfl hR (by decide) (by decide) rfl rfl F N ?_ ?_ ?_ <;> clear F N hR
  · exact ⟨_, _, [], 0, _, [], rfl, d1, ⟨rfl, rfl, rfl, trivial⟩, (fun p hp => nomatch hp), rfl, .nil⟩
  · rintro i t m₃ _ I h tk o hi ⟨oc, v, us, k, tt, ws, rfl, d2, hs, hw, hwl, hus⟩ hne F N
    replace F := frOverX _ F hs
    rw [Int.zero_add] at F
    have hI1 := neN (hne _ (.head _))
    have hI2 := neN (hne _ (.tail _ (.head _)))
    have hI1 : @Ne Nat D₀ I := hI1
    have hI2 : @Ne Nat (L + 1) I := hI2
    -- number
    refine wpAny_execs_cons ?_
    refine cut F (DnE L I D₀ sc o oc us k ws tt) ?_ ?_
    · ((try dsimp only); repeat' (first | (with_reducible refine wpAny_execs_cons ?_) | (with_reducible refine wpAny_execs_nil ?_) | (with_reducible refine wpAny_If ?_) | ((with_reducible show wpAny _ _ (PySem.truthy (Value.str _ _)) _ _ _); refine SBL.truthy (by omega) ?_) | ( (fail_if_success (with_reducible first | show LCg.CompSrc _ _ _ _ _ _ _ _ _ _ _ _ _ _ | show LCt.CompSrcT _ _ _ _ _ _ _ _ _ _ _ _ _ _ _ | show LCp.SrcLP _ _ _ _ _ _ _ _ _ _ _ _ _ _ _ | show LCg.CompEnd _ _ _ _ _ _ _ _ _ _ _ _ _ _ | show WEnd _ _ _ _ _ _ _ _ _ _ | show After _ _ _ _ _ _ _ _ _ | show TEnd _ _ _ _ _ _ _ _ _ | show TPost _ _ _ _ _ _ _ _ _ _ _ | show wpAny _ _ (eval (Expr.ListComp _ _ _ _) _) _ _ _ | show wpAny _ _ (exec (Stmt.For _ _ _ _ _) _) _ _ _ | show wpAny _ _ (exec (Stmt.While _ _ _ _) _) _ _ _ | show wpAny _ _ (exec (Stmt.Assign _ (Expr.ListComp _ _ _ _) _) _) _ _ _ | show wpAny _ _ (call (Value.builtin "str.join") _) _ _ _ | show wpAny _ _ (compareOp _ (Value.ref _) (Value.ref _)) _ _ _ | show wpAny _ _ (call (Value.ref _) _) _ _ _)); first | walk1 | (dsimp only; walk1))))
      rename Fr _ _ _ _ => F
      rename News _ _ _ _ => N
      obtain ⟨ms, hms⟩ := pick_ints hv (some (i : Int)) none (some 7)
      refine sumK (vs := (slicePick vs.toArray (some (i : Int)) none (some 7)).toList) rfl F N (N.isList (.head _)) hms ?_
      clear F N
      intro h2 tk2 t2 F N
      ((try dsimp only); repeat' (first | (with_reducible refine wpAny_execs_cons ?_) | (with_reducible refine wpAny_execs_nil ?_) | (with_reducible refine wpAny_If ?_) | ((with_reducible show wpAny _ _ (PySem.truthy (Value.str _ _)) _ _ _); refine SBL.truthy (by omega) ?_) | ( (fail_if_success (with_reducible first | show LCg.CompSrc _ _ _ _ _ _ _ _ _ _ _ _ _ _ | show LCt.CompSrcT _ _ _ _ _ _ _ _ _ _ _ _ _ _ _ | show LCp.SrcLP _ _ _ _ _ _ _ _ _ _ _ _ _ _ _ | show LCg.CompEnd _ _ _ _ _ _ _ _ _ _ _ _ _ _ | show WEnd _ _ _ _ _ _ _ _ _ _ | show After _ _ _ _ _ _ _ _ _ | show TEnd _ _ _ _ _ _ _ _ _ | show TPost _ _ _ _ _ _ _ _ _ _ _ | show wpAny _ _ (eval (Expr.ListComp _ _ _ _) _) _ _ _ | show wpAny _ _ (exec (Stmt.For _ _ _ _ _) _) _ _ _ | show wpAny _ _ (exec (Stmt.While _ _ _ _) _) _ _ _ | show wpAny _ _ (exec (Stmt.Assign _ (Expr.ListComp _ _ _ _) _) _) _ _ _ | show wpAny _ _ (call (Value.builtin "str.join") _) _ _ _ | show wpAny _ _ (compareOp _ (Value.ref _) (Value.ref _)) _ _ _ | show wpAny _ _ (call (Value.ref _) _) _ _ _)); first | walk1 | (dsimp only; walk1))))
      exact After.next (by assumption) (newsSub (by assumption) (by intro p hp; exact .tail _ (.tail _ hp))) ⟨rfl, _, _, ⟨rfl, rfl, rfl, rfl, trivial⟩⟩
    clear F N
    rintro h2 tk2 m4 _ F N ⟨rfl, n, tn, hs4⟩
    replace F := frOver _ F hs4
    dsimp only
    -- which
    refine wpAny_execs_cons ?_
    refine cut F (DwE L I D₀ sc o us k ws tt) ?_ ?_
    · ((try dsimp only); repeat' (first | (with_reducible refine wpAny_execs_cons ?_) | (with_reducible refine wpAny_execs_nil ?_) | (with_reducible refine wpAny_If ?_) | ((with_reducible show wpAny _ _ (PySem.truthy (Value.str _ _)) _ _ _); refine SBL.truthy (by omega) ?_) | ( (fail_if_success (with_reducible first | show LCg.CompSrc _ _ _ _ _ _ _ _ _ _ _ _ _ _ | show LCt.CompSrcT _ _ _ _ _ _ _ _ _ _ _ _ _ _ _ | show LCp.SrcLP _ _ _ _ _ _ _ _ _ _ _ _ _ _ _ | show LCg.CompEnd _ _ _ _ _ _ _ _ _ _ _ _ _ _ | show WEnd _ _ _ _ _ _ _ _ _ _ | show After _ _ _ _ _ _ _ _ _ | show TEnd _ _ _ _ _ _ _ _ _ | show TPost _ _ _ _ _ _ _ _ _ _ _ | show wpAny _ _ (eval (Expr.ListComp _ _ _ _) _) _ _ _ | show wpAny _ _ (exec (Stmt.For _ _ _ _ _) _) _ _ _ | show wpAny _ _ (exec (Stmt.While _ _ _ _) _) _ _ _ | show wpAny _ _ (exec (Stmt.Assign _ (Expr.ListComp _ _ _ _) _) _) _ _ _ | show wpAny _ _ (call (Value.builtin "str.join") _) _ _ _ | show wpAny _ _ (compareOp _ (Value.ref _) (Value.ref _)) _ _ _ | show wpAny _ _ (call (Value.ref _) _) _ _ _)); first | walk1 | (dsimp only; walk1))))
      exact After.next (by assumption) (by assumption) ⟨_, _, _, _, _, rfl, by assumption, ⟨rfl, rfl, rfl, rfl, trivial⟩⟩
    clear F N hs4 d2
    rintro h3 tk3 m5 _ F N ⟨oc, n, w0, tn, tw, rfl, d2, hs5⟩
    replace F := frOver _ F hs5
    dsimp only
    -- size
    refine wpAny_execs_cons ?_
    refine cut F (DzE L I D₀ sc o oc us k ws tt n tn) ?_ ?_
    · ((try dsimp only); repeat' (first | (with_reducible refine wpAny_execs_cons ?_) | (with_reducible refine wpAny_execs_nil ?_) | (with_reducible refine wpAny_If ?_) | ((with_reducible show wpAny _ _ (PySem.truthy (Value.str _ _)) _ _ _); refine SBL.truthy (by omega) ?_) | ( (fail_if_success (with_reducible first | show LCg.CompSrc _ _ _ _ _ _ _ _ _ _ _ _ _ _ | show LCt.CompSrcT _ _ _ _ _ _ _ _ _ _ _ _ _ _ _ | show LCp.SrcLP _ _ _ _ _ _ _ _ _ _ _ _ _ _ _ | show LCg.CompEnd _ _ _ _ _ _ _ _ _ _ _ _ _ _ | show WEnd _ _ _ _ _ _ _ _ _ _ | show After _ _ _ _ _ _ _ _ _ | show TEnd _ _ _ _ _ _ _ _ _ | show TPost _ _ _ _ _ _ _ _ _ _ _ | show wpAny _ _ (eval (Expr.ListComp _ _ _ _) _) _ _ _ | show wpAny _ _ (exec (Stmt.For _ _ _ _ _) _) _ _ _ | show wpAny _ _ (exec (Stmt.While _ _ _ _) _) _ _ _ | show wpAny _ _ (exec (Stmt.Assign _ (Expr.ListComp _ _ _ _) _) _) _ _ _ | show wpAny _ _ (call (Value.builtin "str.join") _) _ _ _ | show wpAny _ _ (compareOp _ (Value.ref _) (Value.ref _)) _ _ _ | show wpAny _ _ (call (Value.ref _) _) _ _ _)); first | walk1 | (dsimp only; walk1))))
      · exact After.next (by assumption) (by assumption) ⟨_, _, rfl, .inl rfl, ⟨rfl, rfl, rfl, rfl, rfl, trivial⟩⟩
      · exact After.next (by assumption) (by assumption) ⟨_, _, rfl, .inr (.inl rfl), ⟨rfl, rfl, rfl, rfl, rfl, trivial⟩⟩
      · exact After.next (by assumption) (by assumption) ⟨_, _, rfl, .inr (.inr rfl), ⟨rfl, rfl, rfl, rfl, rfl, trivial⟩⟩
    clear F N hs5
    rintro h4 tk4 m6 _ F N ⟨z, tz, rfl, hz, hs6⟩
    replace F := frOver _ F hs6
    dsimp only
    -- which -= table[size]
    refine wpAny_execs_cons ?_
    refine cut F (DxE L I D₀ sc o us k ws tt n tn z tz) ?_ ?_
    · rcases hz with rfl | rfl | rfl
      all_goals ((try dsimp only); repeat' (first | (with_reducible refine wpAny_execs_cons ?_) | (with_reducible refine wpAny_execs_nil ?_) | (with_reducible refine wpAny_If ?_) | ((with_reducible show wpAny _ _ (PySem.truthy (Value.str _ _)) _ _ _); refine SBL.truthy (by omega) ?_) | ( (fail_if_success (with_reducible first | show LCg.CompSrc _ _ _ _ _ _ _ _ _ _ _ _ _ _ | show LCt.CompSrcT _ _ _ _ _ _ _ _ _ _ _ _ _ _ _ | show LCp.SrcLP _ _ _ _ _ _ _ _ _ _ _ _ _ _ _ | show LCg.CompEnd _ _ _ _ _ _ _ _ _ _ _ _ _ _ | show WEnd _ _ _ _ _ _ _ _ _ _ | show After _ _ _ _ _ _ _ _ _ | show TEnd _ _ _ _ _ _ _ _ _ | show TPost _ _ _ _ _ _ _ _ _ _ _ | show wpAny _ _ (eval (Expr.ListComp _ _ _ _) _) _ _ _ | show wpAny _ _ (exec (Stmt.For _ _ _ _ _) _) _ _ _ | show wpAny _ _ (exec (Stmt.While _ _ _ _) _) _ _ _ | show wpAny _ _ (exec (Stmt.Assign _ (Expr.ListComp _ _ _ _) _) _) _ _ _ | show wpAny _ _ (call (Value.builtin "str.join") _) _ _ _ | show wpAny _ _ (compareOp _ (Value.ref _) (Value.ref _)) _ _ _ | show wpAny _ _ (call (Value.ref _) _) _ _ _)); first | walk1 | (dsimp only; walk1))))
      all_goals exact After.next (by assumption) (newsSub (by assumption) (by intro p hp; exact .tail _ hp)) ⟨_, _, _, rfl, by assumption, ⟨rfl, rfl, rfl, rfl, rfl, trivial⟩⟩
    clear F N hs6 d2
    rintro h5 tk5 m7 _ F N ⟨oc, w0, tw, rfl, d2, hs7⟩
    replace F := frOver _ F hs7
    dsimp only
    -- word
    refine wpAny_execs_cons ?_
    refine cut F (DdE L I D₀ sc o oc us k ws tt n tn) ?_ ?_
    · obtain ⟨Z, rfl, hZ1, hZ3⟩ : ∃ Z : Nat, z = (Z : Int) ∧ 1 ≤ Z ∧ Z ≤ 3 := by
        rcases hz with rfl | rfl | rfl
        · exact ⟨1, rfl, by omega, by omega⟩
        · exact ⟨2, rfl, by omega, by omega⟩
        · exact ⟨3, rfl, by omega, by omega⟩
      ((try dsimp only); repeat' (first | (with_reducible refine wpAny_execs_cons ?_) | (with_reducible refine wpAny_execs_nil ?_) | (with_reducible refine wpAny_If ?_) | ((with_reducible show wpAny _ _ (PySem.truthy (Value.str _ _)) _ _ _); refine SBL.truthy (by omega) ?_) | ( (fail_if_success (with_reducible first | show LCg.CompSrc _ _ _ _ _ _ _ _ _ _ _ _ _ _ | show LCt.CompSrcT _ _ _ _ _ _ _ _ _ _ _ _ _ _ _ | show LCp.SrcLP _ _ _ _ _ _ _ _ _ _ _ _ _ _ _ | show LCg.CompEnd _ _ _ _ _ _ _ _ _ _ _ _ _ _ | show WEnd _ _ _ _ _ _ _ _ _ _ | show After _ _ _ _ _ _ _ _ _ | show TEnd _ _ _ _ _ _ _ _ _ | show TPost _ _ _ _ _ _ _ _ _ _ _ | show wpAny _ _ (eval (Expr.ListComp _ _ _ _) _) _ _ _ | show wpAny _ _ (exec (Stmt.For _ _ _ _ _) _) _ _ _ | show wpAny _ _ (exec (Stmt.While _ _ _ _) _) _ _ _ | show wpAny _ _ (exec (Stmt.Assign _ (Expr.ListComp _ _ _ _) _) _) _ _ _ | show wpAny _ _ (call (Value.builtin "str.join") _) _ _ _ | show wpAny _ _ (compareOp _ (Value.ref _) (Value.ref _)) _ _ _ | show wpAny _ _ (call (Value.ref _) _) _ _ _)); first | walk1 | (dsimp only; walk1))))
      (k_dflt (refine LCg.ListComp_U (F₀ := by k_asm) (by with_unfolding_all rfl) (by decide) (by rfl) (by decide) (by rfl) ?_))
      ((try dsimp only); repeat' (first | (with_reducible refine wpAny_execs_cons ?_) | (with_reducible refine wpAny_execs_nil ?_) | (with_reducible refine wpAny_If ?_) | ((with_reducible show wpAny _ _ (PySem.truthy (Value.str _ _)) _ _ _); refine SBL.truthy (by omega) ?_) | ( (fail_if_success (with_reducible first | show LCg.CompSrc _ _ _ _ _ _ _ _ _ _ _ _ _ _ | show LCt.CompSrcT _ _ _ _ _ _ _ _ _ _ _ _ _ _ _ | show LCp.SrcLP _ _ _ _ _ _ _ _ _ _ _ _ _ _ _ | show LCg.CompEnd _ _ _ _ _ _ _ _ _ _ _ _ _ _ | show WEnd _ _ _ _ _ _ _ _ _ _ | show After _ _ _ _ _ _ _ _ _ | show TEnd _ _ _ _ _ _ _ _ _ | show TPost _ _ _ _ _ _ _ _ _ _ _ | show wpAny _ _ (eval (Expr.ListComp _ _ _ _) _) _ _ _ | show wpAny _ _ (exec (Stmt.For _ _ _ _ _) _) _ _ _ | show wpAny _ _ (exec (Stmt.While _ _ _ _) _) _ _ _ | show wpAny _ _ (exec (Stmt.Assign _ (Expr.ListComp _ _ _ _) _) _) _ _ _ | show wpAny _ _ (call (Value.builtin "str.join") _) _ _ _ | show wpAny _ _ (compareOp _ (Value.ref _) (Value.ref _)) _ _ _ | show wpAny _ _ (call (Value.ref _) _) _ _ _)); first | walk1 | (dsimp only; walk1))))
      rename IsRange _ _ _ _ _ _ _ _ => hR
      rename Fr _ _ _ _ => F
      rename News _ _ _ _ => N
      refine LCg.CompSrc.range (n := Z) rfl F N hR (small_one (by omega) (by omega) (by omega) (by omega)) (by rw [rangeSize_nat]; omega) (by show _ ≤ 2 ^ 24; omega) (fun g => compRest_inv (DcJ L I D₀ o oc us k) ?_ ?_ ?_) <;> clear F N hR
      · exact ⟨rfl, [], rfl, (fun c hc => nomatch hc), .nil⟩
      · rintro p ys _ hp ⟨rfl, l, hll, hla, hI⟩ v I₂ oI C oC D mc h tk E' ⟨t, rfl⟩ hC hm F N off hne'
        rw [Int.zero_add] at hm
        have hp3 : p = 0 ∨ p = 1 ∨ p = 2 := by omega
        rcases hp3 with rfl | rfl | rfl
        all_goals ((try dsimp only); repeat' (first | (with_reducible refine wpAny_execs_cons ?_) | (with_reducible refine wpAny_execs_nil ?_) | (with_reducible refine wpAny_If ?_) | ((with_reducible show wpAny _ _ (PySem.truthy (Value.str _ _)) _ _ _); refine SBL.truthy (by omega) ?_) | ( (fail_if_success (with_reducible first | show LCg.CompSrc _ _ _ _ _ _ _ _ _ _ _ _ _ _ | show LCt.CompSrcT _ _ _ _ _ _ _ _ _ _ _ _ _ _ _ | show LCp.SrcLP _ _ _ _ _ _ _ _ _ _ _ _ _ _ _ | show LCg.CompEnd _ _ _ _ _ _ _ _ _ _ _ _ _ _ | show WEnd _ _ _ _ _ _ _ _ _ _ | show After _ _ _ _ _ _ _ _ _ | show TEnd _ _ _ _ _ _ _ _ _ | show TPost _ _ _ _ _ _ _ _ _ _ _ | show wpAny _ _ (eval (Expr.ListComp _ _ _ _) _) _ _ _ | show wpAny _ _ (exec (Stmt.For _ _ _ _ _) _) _ _ _ | show wpAny _ _ (exec (Stmt.While _ _ _ _) _) _ _ _ | show wpAny _ _ (exec (Stmt.Assign _ (Expr.ListComp _ _ _ _) _) _) _ _ _ | show wpAny _ _ (call (Value.builtin "str.join") _) _ _ _ | show wpAny _ _ (compareOp _ (Value.ref _) (Value.ref _)) _ _ _ | show wpAny _ _ (call (Value.ref _) _) _ _ _)); first | walk1 | (dsimp only; walk1))))
        all_goals obtain ⟨c, hc, e⟩ := abq_item ((w0.fdiv (3 ^ _)).fmod 3) (Int.fmod_nonneg_of_pos _ (by decide)) (Int.fmod_lt_of_pos _ (by decide))
        all_goals exact LCg.CompEnd.intro (by assumption) (by assumption) _ (fun p hp => hp) off trivial ⟨rfl, l ++ [c], by rw [List.length_append, hll]; rfl, (fun d hd => (List.mem_append.mp hd).elim (hla d) fun q => (List.mem_singleton.mp q) ▸ hc), by rw [e, List.map_append]; exact strsSnoc hI⟩
      · rintro ys _ ⟨rfl, l, hll, hla, hI⟩ D h tk F N off
        ((try dsimp only); repeat' (first | (with_reducible refine wpAny_execs_cons ?_) | (with_reducible refine wpAny_execs_nil ?_) | (with_reducible refine wpAny_If ?_) | ((with_reducible show wpAny _ _ (PySem.truthy (Value.str _ _)) _ _ _); refine SBL.truthy (by omega) ?_) | ( (fail_if_success (with_reducible first | show LCg.CompSrc _ _ _ _ _ _ _ _ _ _ _ _ _ _ | show LCt.CompSrcT _ _ _ _ _ _ _ _ _ _ _ _ _ _ _ | show LCp.SrcLP _ _ _ _ _ _ _ _ _ _ _ _ _ _ _ | show LCg.CompEnd _ _ _ _ _ _ _ _ _ _ _ _ _ _ | show WEnd _ _ _ _ _ _ _ _ _ _ | show After _ _ _ _ _ _ _ _ _ | show TEnd _ _ _ _ _ _ _ _ _ | show TPost _ _ _ _ _ _ _ _ _ _ _ | show wpAny _ _ (eval (Expr.ListComp _ _ _ _) _) _ _ _ | show wpAny _ _ (exec (Stmt.For _ _ _ _ _) _) _ _ _ | show wpAny _ _ (exec (Stmt.While _ _ _ _) _) _ _ _ | show wpAny _ _ (exec (Stmt.Assign _ (Expr.ListComp _ _ _ _) _) _) _ _ _ | show wpAny _ _ (call (Value.builtin "str.join") _) _ _ _ | show wpAny _ _ (compareOp _ (Value.ref _) (Value.ref _)) _ _ _ | show wpAny _ _ (call (Value.ref _) _) _ _ _)); first | walk1 | (dsimp only; walk1))))
        refine join_mk (by assumption) (by k_mem) hI ?_ ?_
        · rw [sum_sg]; omega
        rw [flat_sg]
        intro t' k'
        ((try dsimp only); repeat' (first | (with_reducible refine wpAny_execs_cons ?_) | (with_reducible refine wpAny_execs_nil ?_) | (with_reducible refine wpAny_If ?_) | ((with_reducible show wpAny _ _ (PySem.truthy (Value.str _ _)) _ _ _); refine SBL.truthy (by omega) ?_) | ( (fail_if_success (with_reducible first | show LCg.CompSrc _ _ _ _ _ _ _ _ _ _ _ _ _ _ | show LCt.CompSrcT _ _ _ _ _ _ _ _ _ _ _ _ _ _ _ | show LCp.SrcLP _ _ _ _ _ _ _ _ _ _ _ _ _ _ _ | show LCg.CompEnd _ _ _ _ _ _ _ _ _ _ _ _ _ _ | show WEnd _ _ _ _ _ _ _ _ _ _ | show After _ _ _ _ _ _ _ _ _ | show TEnd _ _ _ _ _ _ _ _ _ | show TPost _ _ _ _ _ _ _ _ _ _ _ | show wpAny _ _ (eval (Expr.ListComp _ _ _ _) _) _ _ _ | show wpAny _ _ (exec (Stmt.For _ _ _ _ _) _) _ _ _ | show wpAny _ _ (exec (Stmt.While _ _ _ _) _) _ _ _ | show wpAny _ _ (exec (Stmt.Assign _ (Expr.ListComp _ _ _ _) _) _) _ _ _ | show wpAny _ _ (call (Value.builtin "str.join") _) _ _ _ | show wpAny _ _ (compareOp _ (Value.ref _) (Value.ref _)) _ _ _ | show wpAny _ _ (call (Value.ref _) _) _ _ _)); first | walk1 | (dsimp only; walk1))))
        exact After.next (by assumption) (newsSub (by assumption) (by intro p hp; exact .tail _ hp)) ⟨_, _, rfl, ⟨by omega, by omega, hla⟩, ⟨rfl, rfl, rfl, rfl, rfl, trivial⟩⟩
    clear F N hs7
    rintro h6 tk6 m8 _ F N ⟨wd, t', rfl, hwd, hs8⟩
    replace F := frOver _ F hs8
    dsimp only
    ((try dsimp only); repeat' (first | (with_reducible refine wpAny_execs_cons ?_) | (with_reducible refine wpAny_execs_nil ?_) | (with_reducible refine wpAny_If ?_) | ((with_reducible show wpAny _ _ (PySem.truthy (Value.str _ _)) _ _ _); refine SBL.truthy (by omega) ?_) | ( (fail_if_success (with_reducible first | show LCg.CompSrc _ _ _ _ _ _ _ _ _ _ _ _ _ _ | show LCt.CompSrcT _ _ _ _ _ _ _ _ _ _ _ _ _ _ _ | show LCp.SrcLP _ _ _ _ _ _ _ _ _ _ _ _ _ _ _ | show LCg.CompEnd _ _ _ _ _ _ _ _ _ _ _ _ _ _ | show WEnd _ _ _ _ _ _ _ _ _ _ | show After _ _ _ _ _ _ _ _ _ | show TEnd _ _ _ _ _ _ _ _ _ | show TPost _ _ _ _ _ _ _ _ _ _ _ | show wpAny _ _ (eval (Expr.ListComp _ _ _ _) _) _ _ _ | show wpAny _ _ (exec (Stmt.For _ _ _ _ _) _) _ _ _ | show wpAny _ _ (exec (Stmt.While _ _ _ _) _) _ _ _ | show wpAny _ _ (exec (Stmt.Assign _ (Expr.ListComp _ _ _ _) _) _) _ _ _ | show wpAny _ _ (call (Value.builtin "str.join") _) _ _ _ | show wpAny _ _ (compareOp _ (Value.ref _) (Value.ref _)) _ _ _ | show wpAny _ _ (call (Value.ref _) _) _ _ _)); first | walk1 | (dsimp only; walk1))))
    rename Fr _ _ _ _ => F
    rename News _ _ _ _ => N
    have hwl2 : (mk wd).length ≤ 3 := by rw [len_cl, cl_mk]; exact hwd.2.1
    refine weaken (spelled_spec (Cx.keeps G' F.keep) hwl2 hwd.2.2 ?_)
    intro v5 t5 h5 tk5 hv5 hk
    rw [cl_mk] at hv5
    replace F := frKept F hk
    replace N := newsKept N hk
    clear hk
    have hsl := spell_len wd ((n.fdiv 39).fmod 2 == 1)
    have htl := text_len ws hw
    have hwd2 := hwd.2.1
    have e1 : v5.length = (spell wd ((n.fdiv 39).fmod 2 == 1)).length := by rw [hv5, len_cl, cl_mk]
    have e2 : (mk (textOf ws)).length = (textOf ws).length := by rw [len_cl, cl_mk]
    ((try dsimp only); repeat' (first | (with_reducible refine wpAny_execs_cons ?_) | (with_reducible refine wpAny_execs_nil ?_) | (with_reducible refine wpAny_If ?_) | ((with_reducible show wpAny _ _ (PySem.truthy (Value.str _ _)) _ _ _); refine SBL.truthy (by omega) ?_) | ( (fail_if_success (with_reducible first | show LCg.CompSrc _ _ _ _ _ _ _ _ _ _ _ _ _ _ | show LCt.CompSrcT _ _ _ _ _ _ _ _ _ _ _ _ _ _ _ | show LCp.SrcLP _ _ _ _ _ _ _ _ _ _ _ _ _ _ _ | show LCg.CompEnd _ _ _ _ _ _ _ _ _ _ _ _ _ _ | show WEnd _ _ _ _ _ _ _ _ _ _ | show After _ _ _ _ _ _ _ _ _ | show TEnd _ _ _ _ _ _ _ _ _ | show TPost _ _ _ _ _ _ _ _ _ _ _ | show wpAny _ _ (eval (Expr.ListComp _ _ _ _) _) _ _ _ | show wpAny _ _ (exec (Stmt.For _ _ _ _ _) _) _ _ _ | show wpAny _ _ (exec (Stmt.While _ _ _ _) _) _ _ _ | show wpAny _ _ (exec (Stmt.Assign _ (Expr.ListComp _ _ _ _) _) _) _ _ _ | show wpAny _ _ (call (Value.builtin "str.join") _) _ _ _ | show wpAny _ _ (compareOp _ (Value.ref _) (Value.ref _)) _ _ _ | show wpAny _ _ (call (Value.ref _) _) _ _ _)); first | walk1 | (dsimp only; walk1))))
    rename Fr _ _ _ _ => F
    rename News _ _ _ _ => N
    rw [List.push_toArray] at N
    exact TEnd.intro [(D₀, _), (L + 1, _)] F N (by intro p hp; exact hp) (by simp [hI1, hI2]) ⟨_, _, _, _, _, ws ++ [(wd, (n.fdiv 39).fmod 2 == 1)], rfl, by assumption, ⟨rfl, rfl, by rw [← text_snoc, ← hv5]; rfl, trivial⟩, (fun p hp => (List.mem_append.mp hp).elim (hw p) fun q => by rw [List.mem_singleton.mp q]; exact hwd), by rw [List.length_append, hwl]; rfl, by rw [List.map_append]; exact strsSnoc hus⟩
  · rintro m3 _ h tk ⟨oc, v, us, k, tt, ws, rfl, d2, hs, hw, hwl, hus⟩ F N
    replace F := frOver _ F hs
    ((try dsimp only); repeat' (first | (with_reducible refine wpAny_execs_cons ?_) | (with_reducible refine wpAny_execs_nil ?_) | (with_reducible refine wpAny_If ?_) | ((with_reducible show wpAny _ _ (PySem.truthy (Value.str _ _)) _ _ _); refine SBL.truthy (by omega) ?_) | ( (fail_if_success (with_reducible first | show LCg.CompSrc _ _ _ _ _ _ _ _ _ _ _ _ _ _ | show LCt.CompSrcT _ _ _ _ _ _ _ _ _ _ _ _ _ _ _ | show LCp.SrcLP _ _ _ _ _ _ _ _ _ _ _ _ _ _ _ | show LCg.CompEnd _ _ _ _ _ _ _ _ _ _ _ _ _ _ | show WEnd _ _ _ _ _ _ _ _ _ _ | show After _ _ _ _ _ _ _ _ _ | show TEnd _ _ _ _ _ _ _ _ _ | show TPost _ _ _ _ _ _ _ _ _ _ _ | show wpAny _ _ (eval (Expr.ListComp _ _ _ _) _) _ _ _ | show wpAny _ _ (exec (Stmt.For _ _ _ _ _) _) _ _ _ | show wpAny _ _ (exec (Stmt.While _ _ _ _) _) _ _ _ | show wpAny _ _ (exec (Stmt.Assign _ (Expr.ListComp _ _ _ _) _) _) _ _ _ | show wpAny _ _ (call (Value.builtin "str.join") _) _ _ _ | show wpAny _ _ (compareOp _ (Value.ref _) (Value.ref _)) _ _ _ | show wpAny _ _ (call (Value.ref _) _) _ _ _)); first | walk1 | (dsimp only; walk1))))
    rename Fr _ _ _ _ => F
    rename News _ _ _ _ => N
    exact hQ _ _ _ _ _ _ _ _ hw hwl F.keep hus (N _ (.head _)).1 (N _ (.tail _ (.head _))).1 (N _ (.head _)).2.2 (N _ (.tail _ (.head _))).2.2 (by omega)
end
section
/-- tuples of two ints in the ledger -/
inductive PairsAt (tups : List (Addr × Obj)) : List Value → List (Nat × Int) → Prop
  | nil : PairsAt tups [] []
  | cons {T : Addr} {p : Nat} {c : Int} {t u : Tok} {vs : List Value} {ps : List (Nat × Int)} : (T, ({ cls := .type "tuple", data := .seq #[.int (p : Int) t, .int c u] 0 } : Obj)) ∈ tups → PairsAt tups vs ps → PairsAt tups (.ref T :: vs) ((p, c) :: ps)
theorem PairsAt.mono {tups tups' : List (Addr × Obj)} (hs : ∀ p ∈ tups, p ∈ tups') : ∀ {vs : List Value} {ps : List (Nat × Int)}, PairsAt tups vs ps → PairsAt tups' vs ps := by
  intro vs ps h
  induction h with
  | nil => exact .nil
  | cons h _ ih => exact .cons (hs _ h) ih
theorem PairsAt.app {tups : List (Addr × Obj)} : ∀ {vs ws : List Value} {ps qs : List (Nat × Int)}, PairsAt tups vs ps → PairsAt tups ws qs → PairsAt tups (vs ++ ws) (ps ++ qs) := by
  intro vs ws ps qs h h'
  induction h with
  | nil => exact h'
  | cons h _ ih => exact .cons h ih
theorem PairsAt.len {tups : List (Addr × Obj)} : ∀ {vs : List Value} {ps : List (Nat × Int)}, PairsAt tups vs ps → vs.length = ps.length := by
  intro vs ps h
  induction h with
  | nil => rfl
  | cons _ _ ih => exact congrArg (· + 1) ih
theorem PairsAt.get {tups : List (Addr × Obj)} : ∀ {vs : List Value} {ps : List (Nat × Int)}, PairsAt tups vs ps → ∀ {i : Nat} {v : Value}, vs[i]? = some v →
    ∃ (T : Addr) (p : Nat) (c : Int) (t u : Tok), v = .ref T ∧ (T, ({ cls := .type "tuple", data := .seq #[.int (p : Int) t, .int c u] 0 } : Obj)) ∈ tups ∧ ps[i]? = some (p, c) := by
  intro vs ps h
  induction h with
  | nil => exact fun e => by rw [List.getElem?_nil] at e; cases e
  | cons h r ih =>
    intro i v e
    cases i with
    | zero => exact ⟨_, _, _, _, _, (Option.some.inj e).symm, h, rfl⟩
    | succ i => exact ih (i := i) e
def gainF (a b : Nat) : Int := if a = b then 2 else 0
def laidF (c : Nat) (y : List Nat) (p : Nat × Int) (n : Nat) : List (Nat × Int) := (List.range n).map fun j => (p.1 + j + 1, p.2 - gainF c (y.getD (p.1 + j) 0))
def leftF (ps : List (Nat × Int)) : List (Nat × Int) := ps.map fun p => (p.1, p.2 + 2)
def stepW (c : Nat) (y : List Nat) (ps : List (Nat × Int)) : List (Nat × Int) := leftF ps ++ ps.flatMap fun p => laidF c y p (y.length - p.1)
def waysF (x y : List Nat) : List (Nat × Int) := x.foldl (fun ps c => stepW c y ps) [(0, 2 * (y.length : Int))]
abbrev Calm (y : Nat) (k : Nat) (ps : List (Nat × Int)) : Prop := ps.length ≤ k ∧ ∀ p ∈ ps, p.1 ≤ y ∧ -1000 ≤ p.2 ∧ p.2 ≤ 1000
theorem sub6 {α : Type} {T I a b c d : α} {l : List α} : ∀ p ∈ I :: a :: b :: c :: d :: T :: l, p ∈ T :: I :: a :: b :: c :: d :: l :=
  fun p hp => (List.perm_middle (a := T) (l₁ := [I, a, b, c, d]) (l₂ := l)).mem_iff.mp hp
theorem sub7 {α : Type} {T I a b c d e : α} {l : List α} : ∀ p ∈ I :: a :: b :: c :: d :: e :: T :: l, p ∈ T :: I :: a :: b :: c :: d :: e :: l :=
  fun p hp => (List.perm_middle (a := T) (l₁ := [I, a, b, c, d, e]) (l₂ := l)).mem_iff.mp hp
theorem sub7' {α : Type} {I a b c : α} {l : List α} : ∀ p ∈ a :: b :: c :: I :: l, p ∈ a :: b :: I :: c :: l :=
  List.forall_mem_cons.mpr ⟨.head _, List.forall_mem_cons.mpr ⟨.tail _ (.head _), List.forall_mem_cons.mpr ⟨.tail _ (.tail _ (.tail _ (.head _))), List.forall_mem_cons.mpr ⟨.tail _ (.tail _ (.head _)), fun p hp => .tail _ (.tail _ (.tail _ (.tail _ hp)))⟩⟩⟩⟩
theorem allLt_ne {d : Addr} : ∀ {l : List (Addr × Obj)}, AllLt d l → ∀ q ∈ l, q.1 ≠ d := by
  intro l
  induction l with
  | nil => exact fun _ _ h => nomatch h
  | cons p r ih =>
    intro h q hq
    rcases List.mem_cons.mp hq with rfl | hq
    · exact Nat.ne_of_lt h.1
    · exact ih h.2 q hq
theorem swap_ne {c d : Nat} (hc : Ab c) (hd : Ab d) (h : c ≠ d) : Txt.swapcase (sg c) ≠ sg d := by
  have e1 : Txt.swapcase (sg 97) = sg 65 := by decide +kernel
  have e2 : Txt.swapcase (sg 98) = sg 66 := by decide +kernel
  have e3 : Txt.swapcase (sg 34) = sg 34 := by decide +kernel
  intro e
  rcases hc with rfl | rfl | rfl
  · rw [e1, sg_inj] at e; rcases hd with rfl | rfl | rfl <;> omega
  · rw [e2, sg_inj] at e; rcases hd with rfl | rfl | rfl <;> omega
  · rw [e3, sg_inj] at e; exact h e
theorem laid_succ (c : Nat) (y : List Nat) (p : Nat × Int) (n : Nat) : laidF c y p (n + 1) = laidF c y p n ++ [(p.1 + n + 1, p.2 - gainF c (y.getD (p.1 + n) 0))] := by
  unfold laidF; rw [List.range_succ, List.map_append]; rfl
theorem frOverXX {h₀ h : Heap} {L : Addr} {m : Str → Option Value} {x y : Str} {v u : Value} (l : List (Str × Value)) (F : Fr h₀ L h (fun z => if z = y then some u else if z = x then some v else m z)) (hs : Has m l) :
    Fr h₀ L h (fun z => if z = y then some u else if z = x then some v else over l m z) := by rw [over_eq hs]; exact F
theorem flat_take {α β : Type} (f : α → List β) {l : List α} {i : Nat} {a : α} (h : l[i]? = some a) : (l.take (i + 1)).flatMap f = (l.take i).flatMap f ++ f a := by
  rw [take_snoc h, List.flatMap_append, List.flatMap_singleton]
theorem laid_len (c : Nat) (y : List Nat) (p : Nat × Int) (n : Nat) : (laidF c y p n).length = n := by rw [laidF, List.length_map, List.length_range]
theorem flat_len (c : Nat) (y : List Nat) (ps : List (Nat × Int)) : (ps.flatMap fun p => laidF c y p (y.length - p.1)).length ≤ y.length * ps.length := by
  induction ps with
  | nil => simp
  | cons p r ih =>
    rw [List.flatMap_cons, List.length_append, laid_len, List.length_cons, Nat.mul_succ]
    omega
def minI : List Int → Int
  | [] => 0
  | a :: l => l.foldl (fun b c => if c < b then c else b) a
theorem min_go : ∀ (l : List Int) (b : Int), (l.foldl (fun b c => if c < b then c else b) b = b ∨ l.foldl (fun b c => if c < b then c else b) b ∈ l) ∧ l.foldl (fun b c => if c < b then c else b) b ≤ b ∧ ∀ a ∈ l, l.foldl (fun b c => if c < b then c else b) b ≤ a := by
  intro l
  induction l with
  | nil => exact fun b => ⟨.inl rfl, Int.le_refl _, fun a h => nomatch h⟩
  | cons c l ih =>
    intro b
    rw [List.foldl_cons]
    by_cases h : c < b
    · rw [if_pos h]
      obtain ⟨h1, h2, h3⟩ := ih c
      refine ⟨.inr ?_, by omega, fun a ha => ?_⟩
      · rcases h1 with h1 | h1
        · rw [h1]; exact .head _
        · exact .tail _ h1
      · rcases List.mem_cons.mp ha with rfl | ha
        · exact h2
        · exact h3 a ha
    · rw [if_neg h]
      obtain ⟨h1, h2, h3⟩ := ih b
      refine ⟨h1.elim .inl fun h1 => .inr (.tail _ h1), h2, fun a ha => ?_⟩
      rcases List.mem_cons.mp ha with rfl | ha
      · omega
      · exact h3 a ha
theorem min_is {l : List Int} {M : Int} (hM : M ∈ l) (h : ∀ a ∈ l, M ≤ a) : M = minI l := by
  cases l with
  | nil => cases hM
  | cons b l =>
    obtain ⟨h1, h2, h3⟩ := min_go l b
    refine Int.le_antisymm (h _ ?_) ?_
    · rcases h1 with h1 | h1
      · show l.foldl _ b ∈ _; rw [h1]; exact .head _
      · exact .tail _ h1
    · rcases List.mem_cons.mp hM with rfl | hM
      · exact h2
      · exact h3 _ hM
def priceF (x y : List Nat) : Int := minI ((waysF x y).map (·.2))
theorem step_len (c : Nat) (y : List Nat) (hy : y.length ≤ 3) (ps : List (Nat × Int)) : (stepW c y ps).length ≤ 4 * ps.length := by
  have := flat_len c y ps
  unfold stepW leftF
  rw [List.length_append, List.length_map]
  have h := Nat.mul_le_mul_right ps.length hy
  omega
theorem step_calm (c : Nat) (y : List Nat) (ps : List (Nat × Int)) (B : Int) (h : ∀ p ∈ ps, p.1 ≤ y.length ∧ -B ≤ p.2 ∧ p.2 ≤ B) : ∀ p ∈ stepW c y ps, p.1 ≤ y.length ∧ -(B + 2) ≤ p.2 ∧ p.2 ≤ B + 2 := by
  intro p hp
  unfold stepW at hp
  rcases List.mem_append.mp hp with hp | hp
  · obtain ⟨q, hq, rfl⟩ := List.mem_map.mp hp
    have := h q hq
    exact ⟨this.1, by dsimp only; omega, by dsimp only; omega⟩
  · obtain ⟨q, hq, hp⟩ := List.mem_flatMap.mp hp
    obtain ⟨j, hj, rfl⟩ := List.mem_map.mp hp
    have := h q hq
    rw [List.mem_range] at hj
    have g : 0 ≤ gainF c (y.getD (q.1 + j) 0) ∧ gainF c (y.getD (q.1 + j) 0) ≤ 2 := by unfold gainF; split <;> decide
    exact ⟨by dsimp only; omega, by dsimp only; omega, by dsimp only; omega⟩
theorem ways_snoc (x y : List Nat) (i c : Nat) (h : x[i]? = some c) : waysF (x.take (i + 1)) y = stepW c y (waysF (x.take i) y) := by
  unfold waysF; rw [take_snoc h, List.foldl_append]; rfl
theorem calm_go (x y : List Nat) (hy : y.length ≤ 3) : ∀ i, i ≤ x.length → (waysF (x.take i) y).length ≤ 4 ^ i ∧ ∀ p ∈ waysF (x.take i) y, p.1 ≤ y.length ∧ -(6 + 2 * (i : Int)) ≤ p.2 ∧ p.2 ≤ 6 + 2 * (i : Int) := by
  intro i
  induction i with
  | zero =>
    intro _
    refine ⟨Nat.le_refl _, fun p hp => ?_⟩
    rw [List.mem_singleton.mp hp]
    exact ⟨Nat.zero_le _, by dsimp only; omega, by dsimp only; omega⟩
  | succ i ih =>
    intro hi
    obtain ⟨h1, h2⟩ := ih (Nat.le_of_succ_le hi)
    rw [ways_snoc x y i _ (List.getElem?_eq_getElem (by omega))]
    refine ⟨?_, fun p hp => ?_⟩
    · have := step_len x[i] y hy (waysF (x.take i) y)
      rw [Nat.pow_succ]; omega
    · have := step_calm _ _ _ _ h2 p hp
      refine ⟨this.1, ?_, ?_⟩ <;> omega
theorem calm_ways (x y : List Nat) (hx : x.length ≤ 3) (hy : y.length ≤ 3) (i : Nat) : Calm y.length 100 (waysF (x.take i) y) := by
  have key : ∀ i, i ≤ x.length → Calm y.length 100 (waysF (x.take i) y) := fun i hi => by
    obtain ⟨h1, h2⟩ := calm_go x y hy i hi
    refine ⟨Nat.le_trans h1 (Nat.le_trans (Nat.pow_le_pow_right (by decide) (Nat.le_trans hi hx)) (by decide)), fun p hp => ?_⟩
    have := h2 p hp
    exact ⟨this.1, by omega, by omega⟩
  by_cases hi : i ≤ x.length
  · exact key i hi
  · have := key x.length (Nat.le_refl _)
    rw [List.take_length] at this
    rw [List.take_of_length_le (by omega)]
    exact this
theorem sub8 {α : Type} {T I a b c : α} {l : List α} : ∀ p ∈ I :: T :: l, p ∈ T :: a :: b :: c :: I :: l :=
  List.forall_mem_cons.mpr ⟨.tail _ (.tail _ (.tail _ (.tail _ (.head _)))), List.forall_mem_cons.mpr ⟨.head _, fun p hp => .tail _ (.tail _ (.tail _ (.tail _ (.tail _ hp))))⟩⟩
theorem ways_pos (x y : List Nat) : 0 < (waysF x y).length := by
  have key : ∀ (x : List Nat) (ps : List (Nat × Int)), 0 < ps.length → 0 < (x.foldl (fun ps c => stepW c y ps) ps).length := by
    intro x
    induction x with
    | nil => intro ps h; exact h
    | cons c r ih =>
      intro ps h
      rw [List.foldl_cons]
      refine ih _ ?_
      unfold stepW leftF
      rw [List.length_append, List.length_map]; omega
  exact key x _ (Nat.succ_pos _)
theorem intsSnoc {n : Int} {t : Tok} : ∀ {vs : List Value} {ns : List Int}, IntsAre vs ns → IntsAre (vs ++ [.int n t]) (ns ++ [n])
  | _, _, .nil => .cons n t .nil
  | _, _, .cons y u h => .cons y u (intsSnoc h)
/-- what has been laid by i turns of the inner loop -/
inductive PiJ (x y : Str) (c p : Nat) (cst : Int) (ta tb tc t1 t2 : Tok) (Ip D2 Lf W I0 : Addr) (op o0 : Obj) (fv wv : List Value) (kf kw : Nat) (tups : List (Addr × Obj)) (qs : List (Nat × Int)) (i : Nat) (m' : Str → Option Value) (news' : List (Addr × Obj)) : Prop
  | mk (lv' : List Value) (kl' : Nat) (tups' : List (Addr × Obj)) (e : news' = (Ip, op) :: (D2, listOf lv'.toArray kl') :: (Lf, listOf fv.toArray kf) :: (W, listOf wv.toArray kw) :: (I0, o0) :: tups') (hsub : ∀ q ∈ tups, q ∈ tups') (n4 : ∀ q ∈ tups', q.1 ≠ D2) (n5 : ∀ q ∈ tups', q.1 ≠ Ip) (n7 : ∀ q ∈ tups', q.1 ≠ I0)
      (pl : PairsAt tups' lv' (qs ++ laidF c (cl y) (p, cst) i)) (hl : lv'.length ≤ 1000 + i)
      (hs : Has m' [("one", .str x ta), ("other", .str y tb), ("sign", .str (sg c) tc), ("ways", .ref W), ("left", .ref Lf), ("laid", .ref D2), ("place", .int (p : Int) t1), ("price", .int cst t2)])
section
set_option maxRecDepth 100000 in
set_option maxHeartbeats 8000000 in
theorem price_inner {w : World} {mg mb : Str → Option Value} {mean : ExcName → Option Value} {h₀ hp : Heap} {gn : Array GenState} {dr : Drawn} {tk₀ : Nat} {os : OsState} (G : Cx w mg mb mean h₀) {L : Addr} {m : Str → Option Value}
    {x y : Str} {c p : Nat} {cst : Int} {ta tb tc t1 t2 : Tok} {Ip D2 Lf W I0 : Addr} {op o0 : Obj} {lv fv wv : List Value} {kl kf kw : Nat} {tups : List (Addr × Obj)} {qs fs ws : List (Nat × Int)}
    (hy : y.length ≤ 3) (ay : Abs y) (hc : Ab c) (hpy : p ≤ y.length) (hq : lv.length ≤ 1000) (hcl : -1000 ≤ cst) (hcu : cst ≤ 1000) (n1 : @Ne Nat D2 Ip) (n2 : @Ne Nat D2 Lf) (n3 : @Ne Nat D2 W) (n4 : ∀ q ∈ tups, q.1 ≠ D2) (n5 : ∀ q ∈ tups, q.1 ≠ Ip) (n6 : @Ne Nat D2 I0) (n7 : ∀ q ∈ tups, q.1 ≠ I0)
    (pl : PairsAt tups lv qs) (pf : PairsAt tups fv fs) (pw : PairsAt tups wv ws)
    (F : Fr h₀ L hp m) (N : News h₀ L hp ((Ip, op) :: (D2, listOf lv.toArray kl) :: (Lf, listOf fv.toArray kf) :: (W, listOf wv.toArray kw) :: (I0, o0) :: tups))
    (hs : Has m [("one", .str x ta), ("other", .str y tb), ("sign", .str (sg c) tc), ("ways", .ref W), ("left", .ref Lf), ("laid", .ref D2), ("place", .int (p : Int) t1), ("price", .int cst t2)]) {Q : Flow → Shared → Prop} :
    wpAny (model PP w) (Lv 321) (exec (stAt (inOf (stAt (inOf (stAt (fnStmts 14) 1)) 2)) 0) (envOf "_law_price" (fnScope 14) L 94 (.ref 93)))
      (After h₀ L gn dr os (PiJ x y c p cst ta tb tc t1 t2 Ip D2 Lf W I0 op o0 fv wv kf kw tups qs (y.length - p)) Q) (fun _ _ => False) ⟨hp, gn, dr, tk₀, os⟩ := by
  obtain ⟨X, T⟩ := G
  (conv => (arg 3; congr; · whnf; · (arg 2; whnf)))
  replace F := frOver _ F hs
  have hyl := len_cl y
  refine for_in ?_
  ((try dsimp only); repeat' (first | (with_reducible refine wpAny_execs_cons ?_) | (with_reducible refine wpAny_execs_nil ?_) | (with_reducible refine wpAny_If ?_) | ((with_reducible show wpAny _ _ (PySem.truthy (Value.str _ _)) _ _ _); refine SBL.truthy (by omega) ?_) | ( (fail_if_success (with_reducible first | show LCg.CompSrc _ _ _ _ _ _ _ _ _ _ _ _ _ _ | show LCt.CompSrcT _ _ _ _ _ _ _ _ _ _ _ _ _ _ _ | show LCp.SrcLP _ _ _ _ _ _ _ _ _ _ _ _ _ _ _ | show LCg.CompEnd _ _ _ _ _ _ _ _ _ _ _ _ _ _ | show WEnd _ _ _ _ _ _ _ _ _ _ | show After _ _ _ _ _ _ _ _ _ | show TEnd _ _ _ _ _ _ _ _ _ | show TPost _ _ _ _ _ _ _ _ _ _ _ | show wpAny _ _ (eval (Expr.ListComp _ _ _ _) _) _ _ _ | show wpAny _ _ (exec (Stmt.For _ _ _ _ _) _) _ _ _ | show wpAny _ _ (exec (Stmt.While _ _ _ _) _) _ _ _ | show wpAny _ _ (exec (Stmt.Assign _ (Expr.ListComp _ _ _ _) _) _) _ _ _ | show wpAny _ _ (call (Value.builtin "str.join") _) _ _ _ | show wpAny _ _ (compareOp _ (Value.ref _) (Value.ref _)) _ _ _ | show wpAny _ _ (call (Value.ref _) _) _ _ _)); first | walk1 | (dsimp only; walk1))))
  rename IsRange _ _ _ _ _ _ _ _ => hR
  rename Fr _ _ _ _ => F
  rename News _ _ _ _ => N
  refine for_range (n := y.length - p) (PiJ x y c p cst ta tb tc t1 t2 Ip D2 Lf W I0 op o0 fv wv kf kw tups qs)
    rfl hR (small_one (by omega) (by omega) (by omega) (by omega)) (by rw [rangeSize_nat]; omega) rfl rfl F N ?_ ?_ ?_ <;> clear F N hR
  · exact ⟨lv, kl, tups, rfl, (fun q h => h), n4, n5, n7, by rw [show laidF c (cl y) (p, cst) 0 = [] from rfl, List.append_nil]; exact pl, by omega, ⟨rfl, rfl, rfl, rfl, rfl, rfl, rfl, rfl, trivial⟩⟩
  · rintro i t m₁ _ I h tk o hi ⟨lv', kl', tups', rfl, hsub, n4', n5', n7', pl', hll, hs'⟩ hne F N
    replace F := frOverX _ F hs'
    have hpi : p + i < y.length := Nat.add_lt_of_lt_sub' hi
    have hli : i < 4 := Nat.lt_of_lt_of_le hi (Nat.le_trans (Nat.sub_le _ _) (Nat.le_trans hy (by decide)))
    have i1 := neN (hne _ (.head _))
    have i2 := neN (hne _ (.tail _ (.head _)))
    have i3 := neN (hne _ (.tail _ (.tail _ (.head _))))
    have i4 := neN (hne _ (.tail _ (.tail _ (.tail _ (.head _)))))
    have i6 : @Ne Nat I0 I := hne _ (.tail _ (.tail _ (.tail _ (.tail _ (.head _)))))
    have i5 : ∀ q ∈ tups', q.1 ≠ I := fun q hq => hne q (.tail _ (.tail _ (.tail _ (.tail _ (.tail _ hq)))))
    have n1 := neN n1
    have n2 := neN n2
    have n3 := neN n3
    have n6 := neN n6
    have hik : ((p : Int) + (i : Int)) = ((p + i : Nat) : Int) := by omega
    rw [hik] at F
    have hit := item_at y (p + i) hpi
    have ls : (sg c).length = 1 := rfl
    have hdy : Ab ((cl y).getD (p + i) 0) := ay _ (getD_mem (hyl ▸ hpi))
    have i1 : @Ne Nat Ip I := i1
    have i2 : @Ne Nat D2 I := i2
    have i3 : @Ne Nat Lf I := i3
    have i4 : @Ne Nat W I := i4
    ((try dsimp only); repeat' (first | (with_reducible refine wpAny_execs_cons ?_) | (with_reducible refine wpAny_execs_nil ?_) | (with_reducible refine wpAny_If ?_) | ((with_reducible show wpAny _ _ (PySem.truthy (Value.str _ _)) _ _ _); refine SBL.truthy (by omega) ?_) | ( (fail_if_success (with_reducible first | show LCg.CompSrc _ _ _ _ _ _ _ _ _ _ _ _ _ _ | show LCt.CompSrcT _ _ _ _ _ _ _ _ _ _ _ _ _ _ _ | show LCp.SrcLP _ _ _ _ _ _ _ _ _ _ _ _ _ _ _ | show LCg.CompEnd _ _ _ _ _ _ _ _ _ _ _ _ _ _ | show WEnd _ _ _ _ _ _ _ _ _ _ | show After _ _ _ _ _ _ _ _ _ | show TEnd _ _ _ _ _ _ _ _ _ | show TPost _ _ _ _ _ _ _ _ _ _ _ | show wpAny _ _ (eval (Expr.ListComp _ _ _ _) _) _ _ _ | show wpAny _ _ (exec (Stmt.For _ _ _ _ _) _) _ _ _ | show wpAny _ _ (exec (Stmt.While _ _ _ _) _) _ _ _ | show wpAny _ _ (exec (Stmt.Assign _ (Expr.ListComp _ _ _ _) _) _) _ _ _ | show wpAny _ _ (call (Value.builtin "str.join") _) _ _ _ | show wpAny _ _ (compareOp _ (Value.ref _) (Value.ref _)) _ _ _ | show wpAny _ _ (call (Value.ref _) _) _ _ _)); first | walk1 | (dsimp only; walk1))))
    · rename (sg c == _) = true => he
      rename Fr _ _ _ _ => F
      rename News _ _ _ _ => N
      rename _ ∧ _ ∧ _ ∧ _ ∧ _ ∧ _ ∧ AllLt _ _ => hD
      rename Addr => T'
      have hcd : c = (cl y).getD (p + i) 0 := by rw [hit] at he; exact sg_inj.mp (eq_of_beq he)
      rw [List.push_toArray] at N
      refine TEnd.intro ((Ip, op) :: (D2, _) :: (Lf, _) :: (W, _) :: (I0, _) :: (T', _) :: tups') F N sub7 ?_ ⟨lv' ++ [.ref T'], kl' + 1, _, rfl, (fun q hq => .tail _ (hsub q hq)), ?_, ?_, ?_, ?_, by simp only [List.length_append, List.length_singleton]; omega, ⟨rfl, rfl, rfl, rfl, rfl, rfl, rfl, rfl, trivial⟩⟩
      · exact List.forall_mem_cons.mpr ⟨i1, List.forall_mem_cons.mpr ⟨i2, List.forall_mem_cons.mpr ⟨i3, List.forall_mem_cons.mpr ⟨i4, List.forall_mem_cons.mpr ⟨i6, List.forall_mem_cons.mpr ⟨neN (Nat.ne_of_gt hD.1), i5⟩⟩⟩⟩⟩⟩
      · exact List.forall_mem_cons.mpr ⟨Nat.ne_of_gt hD.2.2.1, n4'⟩
      · exact List.forall_mem_cons.mpr ⟨Nat.ne_of_gt hD.2.1, n5'⟩
      · exact List.forall_mem_cons.mpr ⟨Nat.ne_of_gt hD.2.2.2.2.2.1, n7'⟩
      · have e : gainF c ((cl y).getD ((p, cst).1 + i) 0) = 2 := if_pos hcd
        rw [laid_succ, ← List.append_assoc, e]
        exact PairsAt.app (PairsAt.mono (fun q hq => .tail _ hq) pl') (.cons (.head _) .nil)
    · exfalso
      rename (sg c == _) = false => he
      rename (Txt.swapcase _ == _) = true => he2
      rw [hit] at he he2
      refine swap_ne hc hdy (fun q => ?_) (eq_of_beq he2)
      rw [← q, beq_self_eq_true] at he
      cases he
    · rename (sg c == _) = false => he
      rename Fr _ _ _ _ => F
      rename News _ _ _ _ => N
      rename _ ∧ _ ∧ _ ∧ _ ∧ _ ∧ _ ∧ AllLt _ _ => hD
      rename Addr => T'
      have hcd : c ≠ (cl y).getD (p + i) 0 := fun q => by rw [hit, ← q, beq_self_eq_true] at he; cases he
      rw [List.push_toArray] at N
      refine TEnd.intro ((Ip, op) :: (D2, _) :: (Lf, _) :: (W, _) :: (I0, _) :: (T', _) :: tups') F N sub7 ?_ ⟨lv' ++ [.ref T'], kl' + 1, _, rfl, (fun q hq => .tail _ (hsub q hq)), ?_, ?_, ?_, ?_, by simp only [List.length_append, List.length_singleton]; omega, ⟨rfl, rfl, rfl, rfl, rfl, rfl, rfl, rfl, trivial⟩⟩
      · exact List.forall_mem_cons.mpr ⟨i1, List.forall_mem_cons.mpr ⟨i2, List.forall_mem_cons.mpr ⟨i3, List.forall_mem_cons.mpr ⟨i4, List.forall_mem_cons.mpr ⟨i6, List.forall_mem_cons.mpr ⟨neN (Nat.ne_of_gt hD.1), i5⟩⟩⟩⟩⟩⟩
      · exact List.forall_mem_cons.mpr ⟨Nat.ne_of_gt hD.2.2.1, n4'⟩
      · exact List.forall_mem_cons.mpr ⟨Nat.ne_of_gt hD.2.1, n5'⟩
      · exact List.forall_mem_cons.mpr ⟨Nat.ne_of_gt hD.2.2.2.2.2.1, n7'⟩
      · have e : gainF c ((cl y).getD ((p, cst).1 + i) 0) = 0 := if_neg hcd
        rw [laid_succ, ← List.append_assoc, e]
        exact PairsAt.app (PairsAt.mono (fun q hq => .tail _ hq) pl') (.cons (.head _) .nil)
  · exact fun m₁ _ h tk hJ F N => After.next F N hJ
end
end
section
inductive PrJ (x y : Str) (c : Nat) (ta tb tc : Tok) (D2 Lf W I0 : Addr) (o0 : Obj) (fv wv : List Value) (kf kw : Nat) (tups : List (Addr × Obj)) (ws : List (Nat × Int)) (i : Nat) (m' : Str → Option Value) (news' : List (Addr × Obj)) : Prop
  | mk (lv' : List Value) (kl' : Nat) (tups' : List (Addr × Obj)) (e : news' = (D2, listOf lv'.toArray kl') :: (Lf, listOf fv.toArray kf) :: (W, listOf wv.toArray kw) :: (I0, o0) :: tups') (hsub : ∀ q ∈ tups, q ∈ tups') (n4 : ∀ q ∈ tups', q.1 ≠ D2) (n7 : ∀ q ∈ tups', q.1 ≠ I0)
      (pl : PairsAt tups' lv' ((ws.take i).flatMap fun p => laidF c (cl y) p ((cl y).length - p.1)))
      (hs : Has m' [("one", .str x ta), ("other", .str y tb), ("sign", .str (sg c) tc), ("ways", .ref W), ("left", .ref Lf), ("laid", .ref D2)])
inductive PsJ (x y : Str) (ta tb : Tok) (i : Nat) (m' : Str → Option Value) (news' : List (Addr × Obj)) : Prop
  | mk (W : Addr) (wv : List Value) (kw : Nat) (tups : List (Addr × Obj)) (e : news' = (W, listOf wv.toArray kw) :: tups) (pw : PairsAt tups wv (waysF ((cl x).take i) (cl y))) (hs : Has m' [("one", .str x ta), ("other", .str y tb), ("ways", .ref W)])
inductive PlJ (I W : Addr) (o : Obj) (wv : List Value) (kw : Nat) (tups : List (Addr × Obj)) (ws : List (Nat × Int)) (j : Nat) (ys : List Value) (news' : List (Addr × Obj)) : Prop
  | mk (tups' : List (Addr × Obj)) (e : news' = (I, o) :: (W, listOf wv.toArray kw) :: tups') (hsub : ∀ q ∈ tups, q ∈ tups') (hn : ∀ q ∈ tups', q.1 ≠ I) (hy : PairsAt tups' ys (leftF (ws.take j)))
section
set_option maxRecDepth 100000 in
set_option maxHeartbeats 8000000 in
theorem price_row {w : World} {mg mb : Str → Option Value} {mean : ExcName → Option Value} {h₀ hp : Heap} {gn : Array GenState} {dr : Drawn} {tk₀ : Nat} {os : OsState} (G : Cx w mg mb mean h₀) {L : Addr} {m : Str → Option Value}
    {x y : Str} {c : Nat} {ta tb tc : Tok} {D2 Lf W I0 : Addr} {o0 : Obj} {fv wv : List Value} {kl kf kw : Nat} {tups : List (Addr × Obj)} {fs ws : List (Nat × Int)}
    (hy : y.length ≤ 3) (ay : Abs y) (hc : Ab c) (hw : Calm y.length 100 ws) (n2 : @Ne Nat D2 Lf) (n3 : @Ne Nat D2 W) (n4 : ∀ q ∈ tups, q.1 ≠ D2) (n6 : @Ne Nat D2 I0) (n7 : ∀ q ∈ tups, q.1 ≠ I0)
    (pf : PairsAt tups fv fs) (pw : PairsAt tups wv ws)
    (F : Fr h₀ L hp m) (N : News h₀ L hp ((D2, listOf #[] kl) :: (Lf, listOf fv.toArray kf) :: (W, listOf wv.toArray kw) :: (I0, o0) :: tups))
    (hs : Has m [("one", .str x ta), ("other", .str y tb), ("sign", .str (sg c) tc), ("ways", .ref W), ("left", .ref Lf), ("laid", .ref D2)]) {Q : Flow → Shared → Prop} :
    wpAny (model PP w) (Lv 321) (exec (stAt (inOf (stAt (fnStmts 14) 1)) 2) (envOf "_law_price" (fnScope 14) L 94 (.ref 93)))
      (After h₀ L gn dr os (PrJ x y c ta tb tc D2 Lf W I0 o0 fv wv kf kw tups ws ws.length) Q) (fun _ _ => False) ⟨hp, gn, dr, tk₀, os⟩ := by
  have G' := G
  obtain ⟨X, T⟩ := G
  (conv => (arg 3; congr; · whnf; · (arg 2; whnf)))
  replace F := frOver _ F hs
  have hyl := len_cl y
  refine for_in ?_
  ((try dsimp only); repeat' (first | (with_reducible refine wpAny_execs_cons ?_) | (with_reducible refine wpAny_execs_nil ?_) | (with_reducible refine wpAny_If ?_) | ((with_reducible show wpAny _ _ (PySem.truthy (Value.str _ _)) _ _ _); refine SBL.truthy (by omega) ?_) | ( (fail_if_success (with_reducible first | show LCg.CompSrc _ _ _ _ _ _ _ _ _ _ _ _ _ _ | show LCt.CompSrcT _ _ _ _ _ _ _ _ _ _ _ _ _ _ _ | show LCp.SrcLP _ _ _ _ _ _ _ _ _ _ _ _ _ _ _ | show LCg.CompEnd _ _ _ _ _ _ _ _ _ _ _ _ _ _ | show WEnd _ _ _ _ _ _ _ _ _ _ | show After _ _ _ _ _ _ _ _ _ | show TEnd _ _ _ _ _ _ _ _ _ | show TPost _ _ _ _ _ _ _ _ _ _ _ | show wpAny _ _ (eval (Expr.ListComp _ _ _ _) _) _ _ _ | show wpAny _ _ (exec (Stmt.For _ _ _ _ _) _) _ _ _ | show wpAny _ _ (exec (Stmt.While _ _ _ _) _) _ _ _ | show wpAny _ _ (exec (Stmt.Assign _ (Expr.ListComp _ _ _ _) _) _) _ _ _ | show wpAny _ _ (call (Value.builtin "str.join") _) _ _ _ | show wpAny _ _ (compareOp _ (Value.ref _) (Value.ref _)) _ _ _ | show wpAny _ _ (call (Value.ref _) _) _ _ _)); first | walk1 | (dsimp only; walk1))))
  refine for_pairs (vs := wv) (kk := kw) (PrJ x y c ta tb tc D2 Lf W I0 o0 fv wv kf kw tups ws)
    rfl ?_ ?_ rfl rfl rfl F N ?_ ?_ ?_ <;> clear F N
  · rintro i m₁ _ ⟨lv', kl', tups', rfl, _⟩
    k_mem
  · rintro i m₁ _ v ⟨lv', kl', tups', rfl, hsub, _⟩ hv
    obtain ⟨T', p, c', t, u, rfl, hm, e⟩ := pw.get hv
    exact ⟨T', _, _, 0, rfl, .tail _ (.tail _ (.tail _ (.tail _ (hsub _ hm))))⟩
  · exact ⟨[], kl, tups, rfl, (fun q h => h), n4, n7, .nil, ⟨rfl, rfl, rfl, rfl, rfl, rfl, trivial⟩⟩
  · rintro i T' v1 v2 nt m₁ _ I h tk o hv hmT ⟨lv', kl', tups', rfl, hsub, n4', n7', pl', hs'⟩ hne F N
    obtain ⟨T2, p, c', t, u, e0, hm, e⟩ := pw.get hv
    cases e0
    obtain ⟨e1, e2⟩ : v1 = .int (p : Int) t ∧ v2 = .int c' u := by
      have q1 := (N _ (.tail _ hmT)).1
      have q2 := (N _ (.tail _ (.tail _ (.tail _ (.tail _ (.tail _ (hsub _ hm))))))).1
      rw [q1] at q2
      simp only [Option.some.injEq, Obj.mk.injEq, true_and, and_true, Data.seq.injEq] at q2
      have q3 := congrArg Array.toList q2.1
      simp only [List.cons.injEq, and_true] at q3
      exact q3
    subst e1 e2
    replace F := frOverXX _ F hs'
    have hcalm := hw.2 _ (List.mem_of_getElem? e)
    have i2 : @Ne Nat D2 I := hne _ (.head _)
    have i3 : @Ne Nat Lf I := hne _ (.tail _ (.head _))
    have i4 : @Ne Nat W I := hne _ (.tail _ (.tail _ (.head _)))
    have i5 : ∀ q ∈ tups', q.1 ≠ I := fun q hq => hne q (.tail _ (.tail _ (.tail _ (.tail _ hq))))
    have i6 : @Ne Nat I0 I := hne _ (.tail _ (.tail _ (.tail _ (.head _))))
    have hll : lv'.length ≤ 1000 := by
      rw [pl'.len]
      refine Nat.le_trans (flat_len c (cl y) (ws.take i)) ?_
      have h1 : (cl y).length ≤ 3 := by omega
      have h2 : (ws.take i).length ≤ 100 := by rw [List.length_take]; exact Nat.le_trans (Nat.min_le_right _ _) hw.1
      exact Nat.le_trans (Nat.mul_le_mul h1 h2) (by decide)
    refine wpAny_execs_cons ?_
    refine cut F _ (price_inner G' (p := p) (cst := c') hy ay hc hcalm.1 hll hcalm.2.1 hcalm.2.2 i2 n2 n3 n4' i5 n6 n7' pl' (pf.mono hsub) (pw.mono hsub) F N ⟨rfl, rfl, rfl, rfl, rfl, rfl, rfl, rfl, trivial⟩) ?_
    clear F N
    rintro h2 tk2 m2 _ F N ⟨lv2, kl2, tups2, rfl, hsub2, n42, n52, n72, pl2, -, hs2⟩
    replace hs2 : Has m2 [("one", .str x ta), ("other", .str y tb), ("sign", .str (sg c) tc), ("ways", .ref W), ("left", .ref Lf), ("laid", .ref D2)] := ⟨hs2.1, hs2.2.1, hs2.2.2.1, hs2.2.2.2.1, hs2.2.2.2.2.1, hs2.2.2.2.2.2.1, trivial⟩
    ((try dsimp only); repeat' (first | (with_reducible refine wpAny_execs_cons ?_) | (with_reducible refine wpAny_execs_nil ?_) | (with_reducible refine wpAny_If ?_) | ((with_reducible show wpAny _ _ (PySem.truthy (Value.str _ _)) _ _ _); refine SBL.truthy (by omega) ?_) | ( (fail_if_success (with_reducible first | show LCg.CompSrc _ _ _ _ _ _ _ _ _ _ _ _ _ _ | show LCt.CompSrcT _ _ _ _ _ _ _ _ _ _ _ _ _ _ _ | show LCp.SrcLP _ _ _ _ _ _ _ _ _ _ _ _ _ _ _ | show LCg.CompEnd _ _ _ _ _ _ _ _ _ _ _ _ _ _ | show WEnd _ _ _ _ _ _ _ _ _ _ | show After _ _ _ _ _ _ _ _ _ | show TEnd _ _ _ _ _ _ _ _ _ | show TPost _ _ _ _ _ _ _ _ _ _ _ | show wpAny _ _ (eval (Expr.ListComp _ _ _ _) _) _ _ _ | show wpAny _ _ (exec (Stmt.For _ _ _ _ _) _) _ _ _ | show wpAny _ _ (exec (Stmt.While _ _ _ _) _) _ _ _ | show wpAny _ _ (exec (Stmt.Assign _ (Expr.ListComp _ _ _ _) _) _) _ _ _ | show wpAny _ _ (call (Value.builtin "str.join") _) _ _ _ | show wpAny _ _ (compareOp _ (Value.ref _) (Value.ref _)) _ _ _ | show wpAny _ _ (call (Value.ref _) _) _ _ _)); first | walk1 | (dsimp only; walk1))))
    exact TEnd.intro ((D2, _) :: (Lf, _) :: (W, _) :: (I0, _) :: tups2) F N (by intro p hp; exact hp) (List.forall_mem_cons.mpr ⟨i2, List.forall_mem_cons.mpr ⟨i3, List.forall_mem_cons.mpr ⟨i4, List.forall_mem_cons.mpr ⟨i6, n52⟩⟩⟩⟩) ⟨lv2, kl2, tups2, rfl, (fun q hq => hsub2 q (hsub q hq)), n42, n72, by rw [flat_take _ e, ← hyl]; exact pl2, hs2⟩
  · exact fun m₁ _ h tk hJ F N => After.next F N (pw.len ▸ hJ)
set_option maxRecDepth 100000 in
set_option maxHeartbeats 8000000 in
theorem price_spec {w : World} {mg mb : Str → Option Value} {mean : ExcName → Option Value} {s : Shared} (G : Cx w mg mb mean s.heap) {x y : Str} {ta tb : Tok} {Q : Value → Shared → Prop} {E : Value → Shared → Prop}
    (hx : x.length ≤ 3) (hy : y.length ≤ 3) (ax : Abs x) (ay : Abs y)
    (hQ : ∀ v t h' tk, v = priceF (cl x) (cl y) → Kept s.heap h' → Q (.int v t) { s with heap := h', toks := tk }) :
    wpAny (model PP w) (Lv 320) (call (.ref 94) [.str x ta, .str y tb]) Q E s := by
  have G' := G
  obtain ⟨X, T⟩ := G
  (refine' call_own (by assumption) (Top.nolimit (by assumption)) ?ho ?hcd ?hb ?hl ?hc ?_ ?hr ?h1 ?h2 ?h3; (case ho => k_is); (case hcd => k_is); (case hb => exact BindsTo.of_eq rfl); (case hl => exact locs rfl); (case hc => decide); (case hr => decide); (case h1 => exact rfl); (case h2 => exact rfl); (case h3 => exact rfl))
  intro L h₁ tk F N
  have hxl := len_cl x
  have hyl := len_cl y
  replace F := frOver [("one", .str x ta), ("other", .str y tb)] F ⟨rfl, rfl, trivial⟩
  generalize (fun y => _ : Str → Option Value) = m₁ at F
  ((try dsimp only); repeat' (first | (with_reducible refine wpAny_execs_cons ?_) | (with_reducible refine wpAny_execs_nil ?_) | (with_reducible refine wpAny_If ?_) | ((with_reducible show wpAny _ _ (PySem.truthy (Value.str _ _)) _ _ _); refine SBL.truthy (by omega) ?_) | ( (fail_if_success (with_reducible first | show LCg.CompSrc _ _ _ _ _ _ _ _ _ _ _ _ _ _ | show LCt.CompSrcT _ _ _ _ _ _ _ _ _ _ _ _ _ _ _ | show LCp.SrcLP _ _ _ _ _ _ _ _ _ _ _ _ _ _ _ | show LCg.CompEnd _ _ _ _ _ _ _ _ _ _ _ _ _ _ | show WEnd _ _ _ _ _ _ _ _ _ _ | show After _ _ _ _ _ _ _ _ _ | show TEnd _ _ _ _ _ _ _ _ _ | show TPost _ _ _ _ _ _ _ _ _ _ _ | show wpAny _ _ (eval (Expr.ListComp _ _ _ _) _) _ _ _ | show wpAny _ _ (exec (Stmt.For _ _ _ _ _) _) _ _ _ | show wpAny _ _ (exec (Stmt.While _ _ _ _) _) _ _ _ | show wpAny _ _ (exec (Stmt.Assign _ (Expr.ListComp _ _ _ _) _) _) _ _ _ | show wpAny _ _ (call (Value.builtin "str.join") _) _ _ _ | show wpAny _ _ (compareOp _ (Value.ref _) (Value.ref _)) _ _ _ | show wpAny _ _ (call (Value.ref _) _) _ _ _)); first | walk1 | (dsimp only; walk1))))
  rename Fr _ _ _ _ => F
  rename News _ _ _ _ => N
  refine for_in ?_
  ((try dsimp only); repeat' (first | (with_reducible refine wpAny_execs_cons ?_) | (with_reducible refine wpAny_execs_nil ?_) | (with_reducible refine wpAny_If ?_) | ((with_reducible show wpAny _ _ (PySem.truthy (Value.str _ _)) _ _ _); refine SBL.truthy (by omega) ?_) | ( (fail_if_success (with_reducible first | show LCg.CompSrc _ _ _ _ _ _ _ _ _ _ _ _ _ _ | show LCt.CompSrcT _ _ _ _ _ _ _ _ _ _ _ _ _ _ _ | show LCp.SrcLP _ _ _ _ _ _ _ _ _ _ _ _ _ _ _ | show LCg.CompEnd _ _ _ _ _ _ _ _ _ _ _ _ _ _ | show WEnd _ _ _ _ _ _ _ _ _ _ | show After _ _ _ _ _ _ _ _ _ | show TEnd _ _ _ _ _ _ _ _ _ | show TPost _ _ _ _ _ _ _ _ _ _ _ | show wpAny _ _ (eval (Expr.ListComp _ _ _ _) _) _ _ _ | show wpAny _ _ (exec (Stmt.For _ _ _ _ _) _) _ _ _ | show wpAny _ _ (exec (Stmt.While _ _ _ _) _) _ _ _ | show wpAny _ _ (exec (Stmt.Assign _ (Expr.ListComp _ _ _ _) _) _) _ _ _ | show wpAny _ _ (call (Value.builtin "str.join") _) _ _ _ | show wpAny _ _ (compareOp _ (Value.ref _) (Value.ref _)) _ _ _ | show wpAny _ _ (call (Value.ref _) _) _ _ _)); first | walk1 | (dsimp only; walk1))))
  refine for_str (PsJ x y ta tb)
    rfl (abs_ascii ax) rfl rfl F N ?_ ?_ ?_ <;> clear F N
  · exact ⟨_, [_], _, _, rfl, .cons (.head _) .nil, ⟨rfl, rfl, rfl, trivial⟩⟩
  · rintro i t m₂ _ I h tk o hi ⟨W, wv, kw, tups, rfl, pw, hs⟩ hne F N
    replace F := frOverX _ F hs
    have hc : Ab ((cl x).getD i 0) := ax _ (getD_mem (by omega))
    have hcg : (cl x)[i]? = some ((cl x).getD i 0) := by rw [List.getD_eq_getElem?_getD, List.getElem?_eq_getElem (by omega)]; rfl
    generalize (cl x).getD i 0 = c at *
    have i1 : @Ne Nat W I := hne _ (.head _)
    have i2 : ∀ q ∈ tups, q.1 ≠ I := fun q hq => hne q (.tail _ hq)
    have hcalm := calm_ways (cl x) (cl y) (by omega) (by omega) i
    generalize hws : waysF ((cl x).take i) (cl y) = ws at *
    ((try dsimp only); repeat' (first | (with_reducible refine wpAny_execs_cons ?_) | (with_reducible refine wpAny_execs_nil ?_) | (with_reducible refine wpAny_If ?_) | ((with_reducible show wpAny _ _ (PySem.truthy (Value.str _ _)) _ _ _); refine SBL.truthy (by omega) ?_) | ( (fail_if_success (with_reducible first | show LCg.CompSrc _ _ _ _ _ _ _ _ _ _ _ _ _ _ | show LCt.CompSrcT _ _ _ _ _ _ _ _ _ _ _ _ _ _ _ | show LCp.SrcLP _ _ _ _ _ _ _ _ _ _ _ _ _ _ _ | show LCg.CompEnd _ _ _ _ _ _ _ _ _ _ _ _ _ _ | show WEnd _ _ _ _ _ _ _ _ _ _ | show After _ _ _ _ _ _ _ _ _ | show TEnd _ _ _ _ _ _ _ _ _ | show TPost _ _ _ _ _ _ _ _ _ _ _ | show wpAny _ _ (eval (Expr.ListComp _ _ _ _) _) _ _ _ | show wpAny _ _ (exec (Stmt.For _ _ _ _ _) _) _ _ _ | show wpAny _ _ (exec (Stmt.While _ _ _ _) _) _ _ _ | show wpAny _ _ (exec (Stmt.Assign _ (Expr.ListComp _ _ _ _) _) _) _ _ _ | show wpAny _ _ (call (Value.builtin "str.join") _) _ _ _ | show wpAny _ _ (compareOp _ (Value.ref _) (Value.ref _)) _ _ _ | show wpAny _ _ (call (Value.ref _) _) _ _ _)); first | walk1 | (dsimp only; walk1))))
    (k_dflt (refine LCp.Assign_ListComp_P (F₀ := by k_asm) (by rfl) (by with_unfolding_all rfl) (by with_unfolding_all rfl) (by decide) (by rfl) (by decide) (by rfl) (by rfl) (by decide) (by rfl) (by rfl) ?_))
    walk1
    try dsimp only
    refine LCp.SrcLP.ledger rfl F N (.tail _ (.head _)) (by rw [List.size_toArray, pw.len]; exact Nat.le_trans hcalm.1 (by decide)) ?_
    intro g'
    rw [List.size_toArray, pw.len]
    refine compRestP_inv (PlJ I W o wv kw tups ws) ?_ ?_ ?_
    · exact ⟨tups, rfl, fun q hq => hq, i2, .nil⟩
    · rintro j ys _ hj ⟨tups', rfl, hsub, hnI, hys⟩ v hv
      have hv' : wv[j]? = some v := by simpa using hv
      obtain ⟨T', p, c', t', u', rfl, hm, e⟩ := pw.get hv'
      refine ⟨T', _, _, _, 0, rfl, .tail _ (.tail _ (hsub _ hm)), rfl, rfl, ?_⟩
      clear F N
      intro J2 oJ C oC D mc h2 tk2 E' hC hm1 hm2 F N off hne2
      have hb := hcalm.2 _ (List.mem_of_getElem? e)
      ((try dsimp only); repeat' (first | (with_reducible refine wpAny_execs_cons ?_) | (with_reducible refine wpAny_execs_nil ?_) | (with_reducible refine wpAny_If ?_) | ((with_reducible show wpAny _ _ (PySem.truthy (Value.str _ _)) _ _ _); refine SBL.truthy (by omega) ?_) | ( (fail_if_success (with_reducible first | show LCg.CompSrc _ _ _ _ _ _ _ _ _ _ _ _ _ _ | show LCt.CompSrcT _ _ _ _ _ _ _ _ _ _ _ _ _ _ _ | show LCp.SrcLP _ _ _ _ _ _ _ _ _ _ _ _ _ _ _ | show LCg.CompEnd _ _ _ _ _ _ _ _ _ _ _ _ _ _ | show WEnd _ _ _ _ _ _ _ _ _ _ | show After _ _ _ _ _ _ _ _ _ | show TEnd _ _ _ _ _ _ _ _ _ | show TPost _ _ _ _ _ _ _ _ _ _ _ | show wpAny _ _ (eval (Expr.ListComp _ _ _ _) _) _ _ _ | show wpAny _ _ (exec (Stmt.For _ _ _ _ _) _) _ _ _ | show wpAny _ _ (exec (Stmt.While _ _ _ _) _) _ _ _ | show wpAny _ _ (exec (Stmt.Assign _ (Expr.ListComp _ _ _ _) _) _) _ _ _ | show wpAny _ _ (call (Value.builtin "str.join") _) _ _ _ | show wpAny _ _ (compareOp _ (Value.ref _) (Value.ref _)) _ _ _ | show wpAny _ _ (call (Value.ref _) _) _ _ _)); first | walk1 | (dsimp only; walk1))))
      rename Fr _ _ _ _ => F
      rename News _ _ _ _ => N
      rename _ ∧ _ ∧ _ ∧ _ ∧ _ ∧ AllLt _ _ => hD
      rename Addr => T3
      refine LCg.CompEnd.intro F N ((I, o) :: (W, listOf wv.toArray kw) :: (T3, _) :: tups') sub6 ⟨off.1, off.2.1, ⟨neN ?_, neN ?_, neN ?_⟩, off.2.2⟩ (.inr ⟨_, .tail _ (.head _), rfl, _, rfl⟩) ⟨_, rfl, (fun q hq => .tail _ (hsub q hq)), List.forall_mem_cons.mpr ⟨neN ?_, hnI⟩, ?_⟩
      · dsimp only; omega
      · dsimp only; omega
      · dsimp only; omega
      · dsimp only; omega
      · rw [leftF, take_snoc e, List.map_append]
        exact PairsAt.app (PairsAt.mono (fun q hq => .tail _ hq) hys) (.cons (.head _) .nil)
    · rintro ys _ ⟨tups', rfl, hsub, hnI, hys⟩
      rw [List.take_length] at hys
      clear F N
      intro D h2 tk2 F N off
      try dsimp only
      ((try dsimp only); repeat' (first | (with_reducible refine wpAny_execs_cons ?_) | (with_reducible refine wpAny_execs_nil ?_) | (with_reducible refine wpAny_If ?_) | ((with_reducible show wpAny _ _ (PySem.truthy (Value.str _ _)) _ _ _); refine SBL.truthy (by omega) ?_) | ( (fail_if_success (with_reducible first | show LCg.CompSrc _ _ _ _ _ _ _ _ _ _ _ _ _ _ | show LCt.CompSrcT _ _ _ _ _ _ _ _ _ _ _ _ _ _ _ | show LCp.SrcLP _ _ _ _ _ _ _ _ _ _ _ _ _ _ _ | show LCg.CompEnd _ _ _ _ _ _ _ _ _ _ _ _ _ _ | show WEnd _ _ _ _ _ _ _ _ _ _ | show After _ _ _ _ _ _ _ _ _ | show TEnd _ _ _ _ _ _ _ _ _ | show TPost _ _ _ _ _ _ _ _ _ _ _ | show wpAny _ _ (eval (Expr.ListComp _ _ _ _) _) _ _ _ | show wpAny _ _ (exec (Stmt.For _ _ _ _ _) _) _ _ _ | show wpAny _ _ (exec (Stmt.While _ _ _ _) _) _ _ _ | show wpAny _ _ (exec (Stmt.Assign _ (Expr.ListComp _ _ _ _) _) _) _ _ _ | show wpAny _ _ (call (Value.builtin "str.join") _) _ _ _ | show wpAny _ _ (compareOp _ (Value.ref _) (Value.ref _)) _ _ _ | show wpAny _ _ (call (Value.ref _) _) _ _ _)); first | walk1 | (dsimp only; walk1))))
      rename Fr _ _ _ _ => F
      rename News _ _ _ _ => N
      rename _ ∧ _ ∧ _ ∧ AllLt _ _ => hD
      rename Addr => D2
      replace F := frOver [("one", .str x ta), ("other", .str y tb), ("sign", .str (sg c) t), ("ways", .ref W), ("left", .ref D), ("laid", .ref D2)] F ⟨rfl, rfl, rfl, rfl, rfl, rfl, trivial⟩
      generalize (fun y => _ : Str → Option Value) = m₃ at F
      refine cut F _ (price_row G' (D2 := D2) (Lf := D) (W := W) (I0 := I) (o0 := o) (tups := tups') hy ay hc (hyl ▸ hcalm) (neN ?_) (neN ?_) ?_ (neN ?_) hnI hys (pw.mono hsub) F (newsSub N sub7') ⟨rfl, rfl, rfl, rfl, rfl, rfl, trivial⟩) ?_
      · omega
      · omega
      · exact allLt_ne hD.2.2.2
      · omega
      clear F N
      rintro h3 tk3 m4 _ F N ⟨lv2, kl2, tups2, rfl, hsub2, n42, n72, pl2, hs2⟩
      rw [List.take_length] at pl2
      replace F := frOver _ F hs2
      try dsimp only
      ((try dsimp only); repeat' (first | (with_reducible refine wpAny_execs_cons ?_) | (with_reducible refine wpAny_execs_nil ?_) | (with_reducible refine wpAny_If ?_) | ((with_reducible show wpAny _ _ (PySem.truthy (Value.str _ _)) _ _ _); refine SBL.truthy (by omega) ?_) | ( (fail_if_success (with_reducible first | show LCg.CompSrc _ _ _ _ _ _ _ _ _ _ _ _ _ _ | show LCt.CompSrcT _ _ _ _ _ _ _ _ _ _ _ _ _ _ _ | show LCp.SrcLP _ _ _ _ _ _ _ _ _ _ _ _ _ _ _ | show LCg.CompEnd _ _ _ _ _ _ _ _ _ _ _ _ _ _ | show WEnd _ _ _ _ _ _ _ _ _ _ | show After _ _ _ _ _ _ _ _ _ | show TEnd _ _ _ _ _ _ _ _ _ | show TPost _ _ _ _ _ _ _ _ _ _ _ | show wpAny _ _ (eval (Expr.ListComp _ _ _ _) _) _ _ _ | show wpAny _ _ (exec (Stmt.For _ _ _ _ _) _) _ _ _ | show wpAny _ _ (exec (Stmt.While _ _ _ _) _) _ _ _ | show wpAny _ _ (exec (Stmt.Assign _ (Expr.ListComp _ _ _ _) _) _) _ _ _ | show wpAny _ _ (call (Value.builtin "str.join") _) _ _ _ | show wpAny _ _ (compareOp _ (Value.ref _) (Value.ref _)) _ _ _ | show wpAny _ _ (call (Value.ref _) _) _ _ _)); first | walk1 | (dsimp only; walk1))))
      have hIs : @LT.lt Nat _ I h3.objs.size := Heap.lt_size (N _ (.tail _ (.tail _ (.tail _ (.head _))))).1
      have hz1 : ys.length ≤ 100 := by rw [hys.len, leftF, List.length_map]; exact hcalm.1
      have hz2 : lv2.length ≤ 300 := by
        rw [pl2.len]
        refine Nat.le_trans (flat_len c (cl y) ws) ?_
        exact Nat.le_trans (Nat.mul_le_mul (show (cl y).length ≤ 3 by omega) hcalm.1) (by decide)
      refine add_arrays F N (N.isList (.tail _ (.head _))) (N.isList (.head _)) ?_ ?_
      · clear F N
        intro h4 F N
        ((try dsimp only); repeat' (first | (with_reducible refine wpAny_execs_cons ?_) | (with_reducible refine wpAny_execs_nil ?_) | (with_reducible refine wpAny_If ?_) | ((with_reducible show wpAny _ _ (PySem.truthy (Value.str _ _)) _ _ _); refine SBL.truthy (by omega) ?_) | ( (fail_if_success (with_reducible first | show LCg.CompSrc _ _ _ _ _ _ _ _ _ _ _ _ _ _ | show LCt.CompSrcT _ _ _ _ _ _ _ _ _ _ _ _ _ _ _ | show LCp.SrcLP _ _ _ _ _ _ _ _ _ _ _ _ _ _ _ | show LCg.CompEnd _ _ _ _ _ _ _ _ _ _ _ _ _ _ | show WEnd _ _ _ _ _ _ _ _ _ _ | show After _ _ _ _ _ _ _ _ _ | show TEnd _ _ _ _ _ _ _ _ _ | show TPost _ _ _ _ _ _ _ _ _ _ _ | show wpAny _ _ (eval (Expr.ListComp _ _ _ _) _) _ _ _ | show wpAny _ _ (exec (Stmt.For _ _ _ _ _) _) _ _ _ | show wpAny _ _ (exec (Stmt.While _ _ _ _) _) _ _ _ | show wpAny _ _ (exec (Stmt.Assign _ (Expr.ListComp _ _ _ _) _) _) _ _ _ | show wpAny _ _ (call (Value.builtin "str.join") _) _ _ _ | show wpAny _ _ (compareOp _ (Value.ref _) (Value.ref _)) _ _ _ | show wpAny _ _ (call (Value.ref _) _) _ _ _)); first | walk1 | (dsimp only; walk1))))
        rename Fr _ _ _ _ => F
        refine TEnd.intro ((h3.objs.size, _) :: tups2) F (by assumption) sub8 (List.forall_mem_cons.mpr ⟨?_, n72⟩) ⟨_, ys ++ lv2, 0, tups2, rfl, ?_, ⟨rfl, rfl, rfl, trivial⟩⟩
        · exact Nat.ne_of_gt hIs
        · rw [ways_snoc _ _ _ _ hcg, hws]
          exact PairsAt.app (hys.mono hsub2) pl2
      · rw [List.size_toArray, List.size_toArray]; exact Nat.le_trans (Nat.add_le_add hz1 hz2) (by decide)
  · rintro m₂ _ h tk ⟨W, wv, kw, tups, rfl, pw, hs⟩ F N
    rw [hxl, List.take_length] at pw
    replace F := frOver _ F hs
    ((try dsimp only); repeat' (first | (with_reducible refine wpAny_execs_cons ?_) | (with_reducible refine wpAny_execs_nil ?_) | (with_reducible refine wpAny_If ?_) | ((with_reducible show wpAny _ _ (PySem.truthy (Value.str _ _)) _ _ _); refine SBL.truthy (by omega) ?_) | ( (fail_if_success (with_reducible first | show LCg.CompSrc _ _ _ _ _ _ _ _ _ _ _ _ _ _ | show LCt.CompSrcT _ _ _ _ _ _ _ _ _ _ _ _ _ _ _ | show LCp.SrcLP _ _ _ _ _ _ _ _ _ _ _ _ _ _ _ | show LCg.CompEnd _ _ _ _ _ _ _ _ _ _ _ _ _ _ | show WEnd _ _ _ _ _ _ _ _ _ _ | show After _ _ _ _ _ _ _ _ _ | show TEnd _ _ _ _ _ _ _ _ _ | show TPost _ _ _ _ _ _ _ _ _ _ _ | show wpAny _ _ (eval (Expr.ListComp _ _ _ _) _) _ _ _ | show wpAny _ _ (exec (Stmt.For _ _ _ _ _) _) _ _ _ | show wpAny _ _ (exec (Stmt.While _ _ _ _) _) _ _ _ | show wpAny _ _ (exec (Stmt.Assign _ (Expr.ListComp _ _ _ _) _) _) _ _ _ | show wpAny _ _ (call (Value.builtin "str.join") _) _ _ _ | show wpAny _ _ (compareOp _ (Value.ref _) (Value.ref _)) _ _ _ | show wpAny _ _ (call (Value.ref _) _) _ _ _)); first | walk1 | (dsimp only; walk1))))
    (k_dflt (refine LCp.ListComp_P (F₀ := by k_asm) (by with_unfolding_all rfl) (by decide) (by rfl) (by decide) (by rfl) (by rfl) (by decide) ?_))
    walk1
    try dsimp only
    have hcalm := calm_ways (cl x) (cl y) (by omega) (by omega) (cl x).length
    rw [List.take_length] at hcalm
    have hlen := ways_pos (cl x) (cl y)
    refine LCp.SrcLP.ledger rfl F N (.head _) (by rw [List.size_toArray, pw.len]; exact Nat.le_trans hcalm.1 (by decide)) ?_
    intro g'
    rw [List.size_toArray, pw.len]
    refine compRestP_inv (fun j ys news' => news' = (W, listOf wv.toArray kw) :: tups ∧ IntsAre ys (((waysF (cl x) (cl y)).take j).map (·.2))) ?_ ?_ ?_
    · exact ⟨rfl, .nil⟩
    · rintro j ys _ hj ⟨rfl, hys⟩ v hv
      have hv' : wv[j]? = some v := by simpa using hv
      obtain ⟨T', p, c', t', u', rfl, hm, e⟩ := pw.get hv'
      refine ⟨T', _, _, _, 0, rfl, .tail _ hm, rfl, rfl, ?_⟩
      clear F N
      intro J2 oJ C oC D mc h2 tk2 E' hC hm1 hm2 F N off hne2
      ((try dsimp only); repeat' (first | (with_reducible refine wpAny_execs_cons ?_) | (with_reducible refine wpAny_execs_nil ?_) | (with_reducible refine wpAny_If ?_) | ((with_reducible show wpAny _ _ (PySem.truthy (Value.str _ _)) _ _ _); refine SBL.truthy (by omega) ?_) | ( (fail_if_success (with_reducible first | show LCg.CompSrc _ _ _ _ _ _ _ _ _ _ _ _ _ _ | show LCt.CompSrcT _ _ _ _ _ _ _ _ _ _ _ _ _ _ _ | show LCp.SrcLP _ _ _ _ _ _ _ _ _ _ _ _ _ _ _ | show LCg.CompEnd _ _ _ _ _ _ _ _ _ _ _ _ _ _ | show WEnd _ _ _ _ _ _ _ _ _ _ | show After _ _ _ _ _ _ _ _ _ | show TEnd _ _ _ _ _ _ _ _ _ | show TPost _ _ _ _ _ _ _ _ _ _ _ | show wpAny _ _ (eval (Expr.ListComp _ _ _ _) _) _ _ _ | show wpAny _ _ (exec (Stmt.For _ _ _ _ _) _) _ _ _ | show wpAny _ _ (exec (Stmt.While _ _ _ _) _) _ _ _ | show wpAny _ _ (exec (Stmt.Assign _ (Expr.ListComp _ _ _ _) _) _) _ _ _ | show wpAny _ _ (call (Value.builtin "str.join") _) _ _ _ | show wpAny _ _ (compareOp _ (Value.ref _) (Value.ref _)) _ _ _ | show wpAny _ _ (call (Value.ref _) _) _ _ _)); first | walk1 | (dsimp only; walk1))))
      refine LCg.CompEnd.intro (by assumption) (by assumption) _ (fun p hp => hp) off (.inr ⟨_, .head _, rfl, _, rfl⟩) ⟨rfl, ?_⟩
      rw [take_snoc e, List.map_append]
      exact intsSnoc hys
    · rintro ys _ ⟨rfl, hys⟩
      rw [List.take_length] at hys
      clear F N
      intro D h2 tk2 F N off
      try dsimp only
      ((try dsimp only); repeat' (first | (with_reducible refine wpAny_execs_cons ?_) | (with_reducible refine wpAny_execs_nil ?_) | (with_reducible refine wpAny_If ?_) | ((with_reducible show wpAny _ _ (PySem.truthy (Value.str _ _)) _ _ _); refine SBL.truthy (by omega) ?_) | ( (fail_if_success (with_reducible first | show LCg.CompSrc _ _ _ _ _ _ _ _ _ _ _ _ _ _ | show LCt.CompSrcT _ _ _ _ _ _ _ _ _ _ _ _ _ _ _ | show LCp.SrcLP _ _ _ _ _ _ _ _ _ _ _ _ _ _ _ | show LCg.CompEnd _ _ _ _ _ _ _ _ _ _ _ _ _ _ | show WEnd _ _ _ _ _ _ _ _ _ _ | show After _ _ _ _ _ _ _ _ _ | show TEnd _ _ _ _ _ _ _ _ _ | show TPost _ _ _ _ _ _ _ _ _ _ _ | show wpAny _ _ (eval (Expr.ListComp _ _ _ _) _) _ _ _ | show wpAny _ _ (exec (Stmt.For _ _ _ _ _) _) _ _ _ | show wpAny _ _ (exec (Stmt.While _ _ _ _) _) _ _ _ | show wpAny _ _ (exec (Stmt.Assign _ (Expr.ListComp _ _ _ _) _) _) _ _ _ | show wpAny _ _ (call (Value.builtin "str.join") _) _ _ _ | show wpAny _ _ (compareOp _ (Value.ref _) (Value.ref _)) _ _ _ | show wpAny _ _ (call (Value.ref _) _) _ _ _)); first | walk1 | (dsimp only; walk1))))
      exact hQ _ _ _ _ (min_is (by assumption) (by assumption)) (Fr.keep (by assumption))
end
end
section
set_option linter.unusedSectionVars false
section
variable {α : Type} [DecidableEq α] (near : α → α → Bool)
/-- the names that a token pushes, one after the other -/
def pushF (t : α) (P names : List α) : List α := names.foldl (fun P n => if n ∉ P ∧ near t n = true then P ++ [n] else P) P
def runP (names : List α) (n0 : α) : Nat → List α
  | 0 => [n0]
  | i + 1 => match (runP names n0 i)[i]? with
    | some t => pushF near t (runP names n0 i) names
    | none => runP names n0 i
/-- the first parent's place -/
def firstK (last : List α) (n : α) : Option Nat := ((List.range last.length).filter fun k => match last[k]? with | some p => near p n | none => false).head?
def rowF (last left : List α) : List α := (List.range last.length).flatMap fun k => left.filter fun n => decide (firstK near last n = some k)
inductive Reach (names : List α) (n0 : α) : List (List α) → List α → List α → Prop
  | start : Reach names n0 [[n0]] [n0] (names.filter fun n => decide (n ≠ n0))
  | step {rs : List (List α)} {last left : List α} : Reach names n0 rs last left → last ≠ [] → Reach names n0 (rs ++ [rowF near last left]) (rowF near last left) (left.filter fun n => decide (n ∉ rowF near last left))

theorem push_snoc (t : α) (P ns : List α) (n : α) : pushF near t P (ns ++ [n]) = if n ∉ pushF near t P ns ∧ near t n = true then pushF near t P ns ++ [n] else pushF near t P ns := by
  unfold pushF; rw [List.foldl_append, List.foldl_cons, List.foldl_nil]
theorem push_eq (t : α) : ∀ (names P : List α), names.Nodup → pushF near t P names = P ++ names.filter fun n => decide (n ∉ P) && near t n := by
  intro names
  induction names with
  | nil => exact fun P _ => (List.append_nil P).symm
  | cons n r ih =>
    intro P h
    have hr := (List.nodup_cons.mp h).2
    have hn := (List.nodup_cons.mp h).1
    unfold pushF at ih ⊢
    rw [List.foldl_cons]
    by_cases hc : n ∉ P ∧ near t n = true
    · rw [if_pos hc, ih _ hr, List.filter_cons]
      have : (decide (n ∉ P) && near t n) = true := by simp [hc]
      rw [if_pos this, List.append_assoc, List.singleton_append]
      congr 1
      congr 1
      apply List.filter_congr
      intro x hx
      have : x ≠ n := fun e => hn (e ▸ hx)
      simp [this]
    · rw [if_neg hc, ih _ hr, List.filter_cons]
      have : ¬ (decide (n ∉ P) && near t n) = true := by simpa using hc
      rw [if_neg this]

theorem mem_row {last left : List α} {n : α} : n ∈ rowF near last left ↔ n ∈ left ∧ ∃ k, k < last.length ∧ firstK near last n = some k := by
  unfold rowF
  simp only [List.mem_flatMap, List.mem_range, List.mem_filter, decide_eq_true_eq]
  constructor
  · rintro ⟨k, hk, h1, h2⟩; exact ⟨h1, k, hk, h2⟩
  · rintro ⟨h1, k, hk, h2⟩; exact ⟨k, hk, h1, h2⟩

theorem firstK_lt {last : List α} {n : α} {k : Nat} (h : firstK near last n = some k) : ∃ p, last[k]? = some p ∧ near p n = true ∧ ∀ j, j < k → ∀ q, last[j]? = some q → near q n = false := by
  unfold firstK at h
  have hs := List.head?_filter (p := fun k => match last[k]? with | some p => near p n | none => false) (l := List.range last.length)
  rw [h] at hs
  have h2 := List.find?_eq_some_iff_append.mp hs.symm
  obtain ⟨hk, as, bs, e, hb⟩ := h2
  have hl : as = List.range k := by
    have hlen : as.length < last.length := by
      have := congrArg List.length e
      rw [List.length_range, List.length_append, List.length_cons] at this; omega
    have e1 : (List.range last.length)[as.length]? = some k := by rw [e]; simp
    rw [List.getElem?_range hlen] at e1
    have e2 : as.length = k := Option.some.inj e1
    have e3 := congrArg (List.take as.length) e
    rw [List.take_left] at e3
    rw [← e3, List.take_range, e2, Nat.min_eq_left (by omega)]
  cases hp : last[k]? with
  | none => rw [hp] at hk; cases hk
  | some p =>
    rw [hp] at hk
    refine ⟨p, rfl, hk, fun j hj q hq => ?_⟩
    have := hb j (by rw [hl, List.mem_range]; exact hj)
    rw [hq] at this
    simpa using this
theorem filter_firstK {last left P0 : List α} {k : Nat} {p : α} (hp : last[k]? = some p) (hP : ∀ n ∈ left, n ∉ P0) (names : List α) (hl : ∀ n, n ∈ names → (n ∉ P0 ↔ n ∈ left)) (hle : left = names.filter fun n => decide (n ∈ left)) :
    names.filter (fun n => decide (n ∉ P0 ++ (List.range k).flatMap fun j => left.filter fun n => decide (firstK near last n = some j)) && near p n) = left.filter fun n => decide (firstK near last n = some k) := by
  conv => rhs; rw [hle]
  rw [List.filter_filter]
  apply List.filter_congr
  intro n hn
  have hnl := hl n hn
  rw [Bool.eq_iff_iff, Bool.and_eq_true, Bool.and_eq_true]
  simp only [decide_eq_true_eq, List.mem_append, List.mem_flatMap, List.mem_range, List.mem_filter, not_or, not_exists, not_and]
  have hlt : k < last.length := (List.getElem?_eq_some_iff.mp hp).1
  constructor
  · rintro ⟨⟨h1, h2⟩, h3⟩
    have h4 := hnl.mp h1
    refine ⟨?_, h4⟩
    cases hf : firstK near last n with
    | none =>
      exfalso
      unfold firstK at hf
      rw [List.head?_eq_none_iff, List.filter_eq_nil_iff] at hf
      have := hf k (List.mem_range.mpr hlt)
      rw [hp] at this
      exact this h3
    | some j =>
      obtain ⟨q, hq, hqn, hmin⟩ := firstK_lt near hf
      rcases Nat.lt_trichotomy j k with hj | hj | hj
      · exact absurd hf (h2 j hj h4)
      · rw [hj]
      · have := hmin k hj p hp
        rw [h3] at this; cases this
  · rintro ⟨h1, h2⟩
    obtain ⟨q, hq, hqn, hmin⟩ := firstK_lt near h1
    rw [hp] at hq
    cases hq
    refine ⟨⟨hnl.mpr h2, fun j hj _ e => ?_⟩, hqn⟩
    rw [h1] at e
    cases e
    exact Nat.lt_irrefl _ hj

/-- the queue while it goes through one round -/
theorem run_row {names : List α} {n0 : α} (hnd : names.Nodup) {P0 last left : List α} {i0 : Nat} (hP : runP near names n0 i0 = P0) (hlast : ∀ k, k < last.length → P0[i0 + k]? = last[k]?)
    (hl : ∀ n, n ∈ names → (n ∉ P0 ↔ n ∈ left)) (hle : left = names.filter fun n => decide (n ∈ left)) (hPn : ∀ n ∈ left, n ∉ P0) :
    ∀ k, k ≤ last.length → runP near names n0 (i0 + k) = P0 ++ (List.range k).flatMap fun j => left.filter fun n => decide (firstK near last n = some j)
  | 0, _ => by simp [hP]
  | k + 1, hk => by
    have ih := run_row hnd hP hlast hl hle hPn k (by omega)
    have hg : last[k]? = some last[k] := List.getElem?_eq_getElem (by omega)
    have hin : i0 + k < P0.length := by
      have := hlast k (by omega)
      rw [hg] at this
      exact (List.getElem?_eq_some_iff.mp this).1
    show (match (runP near names n0 (i0 + k))[i0 + k]? with | some t => pushF near t (runP near names n0 (i0 + k)) names | none => runP near names n0 (i0 + k)) = _
    rw [ih, List.getElem?_append_left hin, hlast k (by omega), hg]
    dsimp only
    rw [push_eq near _ _ _ hnd, filter_firstK near hg hPn names hl hle, List.range_succ, List.flatMap_append, List.flatMap_singleton, List.append_assoc]

theorem reach_run {names : List α} {n0 : α} (hnd : names.Nodup) (h0 : n0 ∈ names) {rs : List (List α)} {last left : List α} (R : Reach near names n0 rs last left) :
    ∃ pre, rs = pre ++ [last] ∧ runP near names n0 pre.flatten.length = rs.flatten ∧ (left = names.filter fun n => decide (n ∉ rs.flatten)) ∧ (∀ n ∈ rs.flatten, n ∈ names) ∧ rs.flatten.Nodup := by
  induction R with
  | start =>
    refine ⟨[], rfl, rfl, ?_, ?_, ?_⟩
    · apply List.filter_congr; intro n _; simp
    · intro n hn; simp at hn; rw [hn]; exact h0
    · simp
  | step R hne ih =>
    rename_i rs last left
    obtain ⟨pre, e1, e2, e3, e4, e5⟩ := ih
    have hfl : rs.flatten = pre.flatten ++ last := by rw [e1]; simp
    have hl : ∀ n, n ∈ names → (n ∉ rs.flatten ↔ n ∈ left) := fun n hn => by rw [e3]; simp [hn]
    have hle : left = names.filter fun n => decide (n ∈ left) := by
      conv => lhs; rw [e3]
      apply List.filter_congr
      intro n hn
      have := hl n hn
      by_cases q : n ∈ left <;> simp_all
    have hPn : ∀ n ∈ left, n ∉ rs.flatten := fun n hn => by rw [e3] at hn; simpa using (List.mem_filter.mp hn).2
    have hsub : ∀ n ∈ left, n ∈ names := fun n hn => by rw [e3] at hn; exact (List.mem_filter.mp hn).1
    have key := run_row near hnd e2 (last := last) (fun k hk => by rw [hfl, List.getElem?_append_right (by omega)]; congr 1; omega) hl hle hPn last.length (Nat.le_refl _)
    have hln : left.Nodup := by rw [e3]; exact hnd.sublist List.filter_sublist
    refine ⟨rs, rfl, ?_, ?_, ?_, ?_⟩
    · rw [hfl, List.length_append, key]; simp [rowF]
    · rw [e3, List.filter_filter]
      apply List.filter_congr
      intro n hn
      rw [Bool.eq_iff_iff]
      simp [and_comm]
    · intro n hn
      rw [List.flatten_append] at hn
      rcases List.mem_append.mp hn with hn | hn
      · exact e4 n hn
      · simp at hn
        exact hsub n ((mem_row near).mp hn).1
    · rw [List.flatten_append, List.nodup_append]
      refine ⟨e5, ?_, ?_⟩
      · simp only [List.flatten_cons, List.flatten_nil, List.append_nil]
        unfold rowF
        rw [List.nodup_iff_pairwise_ne, List.pairwise_flatMap]
        refine ⟨fun k _ => (hln.sublist List.filter_sublist), ?_⟩
        refine List.Pairwise.imp ?_ (List.nodup_range (n := last.length))
        intro a b hab x hx y hy hxy
        subst hxy
        have h1 := (List.mem_filter.mp hx).2
        have h2 := (List.mem_filter.mp hy).2
        simp only [decide_eq_true_eq] at h1 h2
        rw [h1] at h2
        exact hab (Option.some.inj h2)
      · intro a ha b hb hab
        subst hab
        simp at hb
        exact hPn a ((mem_row near).mp hb).1 ha
theorem runP_stable {names : List α} {n0 : α} {i : Nat} (h : (runP near names n0 i).length ≤ i) : ∀ k, runP near names n0 (i + k) = runP near names n0 i := by
  intro k
  induction k with
  | zero => rfl
  | succ k ih =>
    show (match (runP near names n0 (i + k))[i + k]? with | some t => pushF near t (runP near names n0 (i + k)) names | none => runP near names n0 (i + k)) = _
    rw [ih, List.getElem?_eq_none (by omega)]
/-- the queue read to its end is the ladder, round by round -/
theorem run_rounds {names : List α} {n0 : α} (hnd : names.Nodup) (h0 : n0 ∈ names) {rs : List (List α)} {left : List α} (R : Reach near names n0 rs [] left) {i : Nat} (hi : (runP near names n0 i).length = i) :
    runP near names n0 i = rs.flatten := by
  obtain ⟨pre, e1, e2, -, -, -⟩ := reach_run near hnd h0 R
  have e3 : rs.flatten = pre.flatten := by rw [e1]; simp
  rw [← e3] at e2
  have hj : (runP near names n0 rs.flatten.length).length = rs.flatten.length := by rw [e2]
  rcases Nat.le_total i rs.flatten.length with h | h
  · have := runP_stable near (Nat.le_of_eq hi) (rs.flatten.length - i)
    rw [show i + (rs.flatten.length - i) = rs.flatten.length by omega, e2] at this
    exact this.symm
  · have := runP_stable near (Nat.le_of_eq hj) (i - rs.flatten.length)
    rw [show rs.flatten.length + (i - rs.flatten.length) = i by omega, e2] at this
    exact this
theorem run_inv {names : List α} {n0 : α} (hnd : names.Nodup) (h0 : n0 ∈ names) : ∀ i, (runP near names n0 i).Nodup ∧ ∀ n ∈ runP near names n0 i, n ∈ names := by
  intro i
  induction i with
  | zero => exact ⟨List.nodup_cons.mpr ⟨List.not_mem_nil, List.nodup_nil⟩, fun n hn => (List.mem_singleton.mp hn) ▸ h0⟩
  | succ i ih =>
    obtain ⟨h1, h2⟩ := ih
    show (match (runP near names n0 i)[i]? with | some t => pushF near t (runP near names n0 i) names | none => runP near names n0 i).Nodup ∧ ∀ n ∈ (match (runP near names n0 i)[i]? with | some t => pushF near t (runP near names n0 i) names | none => runP near names n0 i), n ∈ names
    cases (runP near names n0 i)[i]? with
    | none => exact ⟨h1, h2⟩
    | some t =>
      dsimp only
      rw [push_eq near t _ _ hnd]
      refine ⟨List.nodup_append.mpr ⟨h1, hnd.sublist List.filter_sublist, ?_⟩, ?_⟩
      · intro a ha b hb hab
        subst hab
        have := (List.mem_filter.mp hb).2
        simp at this
        exact this.1 ha
      · intro n hn
        rcases List.mem_append.mp hn with hn | hn
        · exact h2 n hn
        · exact (List.mem_filter.mp hn).1
/-- what holds of the first name and one fault further on holds with the round -/
theorem reach_far {names : List α} {n0 : α} (far : α → Int) (h0 : far n0 ≤ 0) (hs : ∀ p ∈ names, ∀ n ∈ names, near p n = true → far n ≤ far p + 2) (hn0 : n0 ∈ names) {rs : List (List α)} {last left : List α} (R : Reach near names n0 rs last left) :
    (∀ n ∈ last, n ∈ names) ∧ (∀ n ∈ left, n ∈ names) ∧ ∃ k, rs.length = k + 1 ∧ rs[k]? = some last ∧ ∀ (r : Nat) (row : List α), rs[r]? = some row → ∀ n ∈ row, n ∈ names ∧ far n ≤ 2 * (r : Int) := by
  induction R with
  | start =>
    refine ⟨fun n hn => by simp at hn; rw [hn]; exact hn0, fun n hn => (List.mem_filter.mp hn).1, 0, rfl, rfl, fun r row hr n hn => ?_⟩
    cases r with
    | zero =>
      simp at hr; subst hr
      simp at hn; subst hn
      exact ⟨hn0, by simpa using h0⟩
    | succ r => simp at hr
  | step R hne ih =>
    rename_i rs last left
    obtain ⟨i1, i2, k, e1, e2, e3⟩ := ih
    have hrow : ∀ n ∈ rowF near last left, n ∈ names := fun n hn => i2 n ((mem_row near).mp hn).1
    refine ⟨hrow, fun n hn => i2 n (List.mem_filter.mp hn).1, k + 1, by rw [List.length_append, e1]; rfl, by rw [← e1]; simp, fun r row hr n hn => ?_⟩
    by_cases hlt : r < rs.length
    · rw [List.getElem?_append_left hlt] at hr
      exact e3 r row hr n hn
    · rw [List.getElem?_append_right (by omega)] at hr
      have hr0 : r - rs.length = 0 := by
        cases q : r - rs.length with
        | zero => rfl
        | succ j => rw [q] at hr; simp at hr
      rw [hr0] at hr
      simp at hr
      subst hr
      obtain ⟨h1, j, hj, h2⟩ := (mem_row near).mp hn
      obtain ⟨p, hp, hpn, -⟩ := firstK_lt near h2
      have hpl : p ∈ last := List.mem_of_getElem? hp
      have h3 := (e3 k last e2 p hpl).2
      have h4 := hs p (i1 p hpl) n (i2 n h1) hpn
      refine ⟨i2 n h1, ?_⟩
      have : r = k + 1 := by omega
      rw [this]
      omega
theorem nodup_le : ∀ {a b : List α}, a.Nodup → (∀ x ∈ a, x ∈ b) → a.length ≤ b.length := by
  intro a
  induction a with
  | nil => exact fun _ _ => Nat.zero_le _
  | cons x r ih =>
    intro b h hs
    have hx := hs x (.head _)
    have hr := (List.nodup_cons.mp h)
    have := ih (b := b.erase x) hr.2 fun y hy => by
      have hne : y ≠ x := fun e => hr.1 (e ▸ hy)
      exact (List.mem_erase_of_ne hne).mpr (hs y (.tail _ hy))
    rw [List.length_erase_of_mem hx] at this
    have := List.length_pos_of_mem hx
    rw [List.length_cons]
    omega
theorem runP_succ {names : List α} {n0 t : α} {i : Nat} (h : (runP near names n0 i)[i]? = some t) : runP near names n0 (i + 1) = pushF near t (runP near names n0 i) names := by
  rw [runP, h]
end
end
section
def L3 : List Nat := [97, 98, 34]
def W39 : List (List Nat) := (L3.map fun a => [a]) ++ (L3.flatMap fun a => L3.map fun b => [a, b]) ++ (L3.flatMap fun a => L3.flatMap fun b => L3.map fun c => [a, b, c])
theorem ab_mem {c : Nat} (h : Ab c) : c ∈ L3 := by rcases h with rfl | rfl | rfl <;> decide
theorem word_mem {l : List Nat} (h : IsWord l) : l ∈ W39 := by
  obtain ⟨h1, h2, h3⟩ := h
  unfold W39
  rcases l with _ | ⟨a, _ | ⟨b, _ | ⟨c, _ | ⟨d, r⟩⟩⟩⟩
  · simp at h1
  · exact List.mem_append.mpr (.inl (List.mem_append.mpr (.inl (List.mem_map.mpr ⟨a, ab_mem (h3 a (by simp)), rfl⟩))))
  · exact List.mem_append.mpr (.inl (List.mem_append.mpr (.inr (List.mem_flatMap.mpr ⟨a, ab_mem (h3 a (by simp)), List.mem_map.mpr ⟨b, ab_mem (h3 b (by simp)), rfl⟩⟩))))
  · exact List.mem_append.mpr (.inr (List.mem_flatMap.mpr ⟨a, ab_mem (h3 a (by simp)), List.mem_flatMap.mpr ⟨b, ab_mem (h3 b (by simp)), List.mem_map.mpr ⟨c, ab_mem (h3 c (by simp)), rfl⟩⟩⟩))
  · simp at h2
/-- the 39 words' prices, a row for each second word -/
noncomputable def T39 : List (List Int) := [[0, 2, 2, 2, 2, 2, 2, 4, 4, 2, 4, 4, 4, 4, 4, 4, 4, 4, 4, 4, 4, 4, 4, 4, 4, 6, 6, 4, 6, 6, 4, 4, 4, 4, 6, 6, 4, 6, 6],
  [2, 0, 2, 4, 2, 4, 2, 2, 2, 4, 2, 4, 6, 4, 6, 4, 4, 4, 6, 4, 6, 4, 4, 4, 4, 4, 4, 4, 4, 4, 6, 4, 6, 4, 4, 4, 6, 4, 6],
  [2, 2, 0, 4, 4, 2, 4, 4, 2, 2, 2, 2, 6, 6, 4, 6, 6, 4, 4, 4, 4, 6, 6, 4, 6, 6, 4, 4, 4, 4, 4, 4, 4, 4, 4, 4, 4, 4, 4],
  [2, 4, 4, 0, 2, 2, 2, 4, 4, 2, 4, 4, 2, 2, 2, 2, 4, 4, 2, 4, 4, 2, 4, 4, 4, 6, 6, 4, 6, 6, 2, 4, 4, 4, 6, 6, 4, 6, 6],
  [2, 2, 4, 2, 0, 2, 4, 2, 4, 4, 2, 4, 4, 2, 4, 2, 2, 2, 4, 2, 4, 4, 2, 4, 4, 4, 4, 6, 4, 6, 4, 2, 4, 4, 4, 4, 6, 4, 6],
  [2, 4, 2, 2, 2, 0, 4, 4, 2, 4, 4, 2, 4, 4, 2, 4, 4, 2, 2, 2, 2, 4, 4, 2, 6, 6, 4, 4, 4, 4, 4, 4, 2, 6, 6, 4, 4, 4, 4],
  [2, 2, 4, 2, 4, 4, 0, 2, 2, 2, 4, 4, 4, 4, 4, 2, 4, 4, 4, 6, 6, 2, 2, 2, 2, 4, 4, 2, 4, 4, 4, 4, 4, 2, 4, 4, 4, 6, 6],
  [4, 2, 4, 4, 2, 4, 2, 0, 2, 4, 2, 4, 6, 4, 6, 4, 2, 4, 6, 4, 6, 4, 2, 4, 2, 2, 2, 4, 2, 4, 6, 4, 6, 4, 2, 4, 6, 4, 6],
  [4, 2, 2, 4, 4, 2, 2, 2, 0, 4, 4, 2, 6, 6, 4, 4, 4, 2, 4, 4, 4, 4, 4, 2, 4, 4, 2, 2, 2, 2, 6, 6, 4, 4, 4, 2, 4, 4, 4],
  [2, 4, 2, 2, 4, 4, 2, 4, 4, 0, 2, 2, 4, 4, 4, 4, 6, 6, 2, 4, 4, 4, 4, 4, 4, 6, 6, 2, 4, 4, 2, 2, 2, 2, 4, 4, 2, 4, 4],
  [4, 2, 2, 4, 2, 4, 4, 2, 4, 2, 0, 2, 6, 4, 6, 4, 4, 4, 4, 2, 4, 6, 4, 6, 4, 4, 4, 4, 2, 4, 4, 2, 4, 2, 2, 2, 4, 2, 4],
  [4, 4, 2, 4, 4, 2, 4, 4, 2, 2, 2, 0, 6, 6, 4, 6, 6, 4, 4, 4, 2, 6, 6, 4, 6, 6, 4, 4, 4, 2, 4, 4, 2, 4, 4, 2, 2, 2, 2],
  [4, 6, 6, 2, 4, 4, 4, 6, 6, 4, 6, 6, 0, 2, 2, 2, 4, 4, 2, 4, 4, 2, 4, 4, 4, 6, 6, 4, 6, 6, 2, 4, 4, 4, 6, 6, 4, 6, 6],
  [4, 4, 6, 2, 2, 4, 4, 4, 6, 4, 4, 6, 2, 0, 2, 4, 2, 4, 4, 2, 4, 4, 2, 4, 6, 4, 6, 6, 4, 6, 4, 2, 4, 6, 4, 6, 6, 4, 6],
  [4, 6, 4, 2, 4, 2, 4, 6, 4, 4, 6, 4, 2, 2, 0, 4, 4, 2, 4, 4, 2, 4, 4, 2, 6, 6, 4, 6, 6, 4, 4, 4, 2, 6, 6, 4, 6, 6, 4],
  [4, 4, 6, 2, 2, 4, 2, 4, 4, 4, 4, 6, 2, 4, 4, 0, 2, 2, 2, 4, 4, 4, 4, 4, 2, 4, 4, 4, 6, 6, 4, 4, 6, 2, 4, 4, 4, 6, 6],
  [4, 4, 6, 4, 2, 4, 4, 2, 4, 6, 4, 6, 4, 2, 4, 2, 0, 2, 4, 2, 4, 6, 4, 6, 4, 2, 4, 6, 4, 6, 6, 4, 6, 4, 2, 4, 6, 4, 6],
  [4, 4, 4, 4, 2, 2, 4, 4, 2, 6, 4, 4, 4, 4, 2, 2, 2, 0, 4, 4, 2, 6, 4, 4, 4, 4, 2, 4, 4, 4, 6, 4, 4, 4, 4, 2, 6, 6, 4],
  [4, 6, 4, 2, 4, 2, 4, 6, 4, 2, 4, 4, 2, 4, 4, 2, 4, 4, 0, 2, 2, 4, 6, 4, 4, 6, 6, 2, 4, 4, 4, 4, 4, 4, 6, 6, 2, 4, 4],
  [4, 4, 4, 4, 2, 2, 6, 4, 4, 4, 2, 4, 4, 2, 4, 4, 2, 4, 2, 0, 2, 6, 4, 4, 6, 4, 6, 4, 2, 4, 6, 4, 4, 4, 4, 4, 4, 2, 4],
  [4, 6, 4, 4, 4, 2, 6, 6, 4, 4, 4, 2, 4, 4, 2, 4, 4, 2, 2, 2, 0, 6, 6, 4, 6, 6, 4, 4, 4, 2, 6, 6, 4, 6, 6, 4, 4, 4, 2],
  [4, 4, 6, 2, 4, 4, 2, 4, 4, 4, 6, 6, 2, 4, 4, 4, 6, 6, 4, 6, 6, 0, 2, 2, 2, 4, 4, 2, 4, 4, 2, 4, 4, 4, 6, 6, 4, 6, 6],
  [4, 4, 6, 4, 2, 4, 2, 2, 4, 4, 4, 6, 4, 2, 4, 4, 4, 4, 6, 4, 6, 2, 0, 2, 4, 2, 4, 4, 2, 4, 4, 2, 4, 4, 4, 6, 6, 4, 6],
  [4, 4, 4, 4, 4, 2, 2, 4, 2, 4, 6, 4, 4, 4, 2, 4, 6, 4, 4, 4, 4, 2, 2, 0, 4, 4, 2, 4, 4, 2, 4, 4, 2, 4, 6, 4, 6, 6, 4],
  [4, 4, 6, 4, 4, 6, 2, 2, 4, 4, 4, 6, 4, 6, 6, 2, 4, 4, 4, 6, 6, 2, 4, 4, 0, 2, 2, 2, 4, 4, 4, 6, 6, 2, 4, 4, 4, 6, 6],
  [6, 4, 6, 6, 4, 6, 4, 2, 4, 6, 4, 6, 6, 4, 6, 4, 2, 4, 6, 4, 6, 4, 2, 4, 2, 0, 2, 4, 2, 4, 6, 4, 6, 4, 2, 4, 6, 4, 6],
  [6, 4, 4, 6, 4, 4, 4, 2, 2, 6, 4, 4, 6, 6, 4, 4, 4, 2, 6, 6, 4, 4, 4, 2, 2, 2, 0, 4, 4, 2, 6, 6, 4, 4, 4, 2, 6, 6, 4],
  [4, 4, 4, 4, 6, 4, 2, 4, 2, 2, 4, 4, 4, 6, 6, 4, 6, 4, 2, 4, 4, 2, 4, 4, 2, 4, 4, 0, 2, 2, 4, 4, 4, 4, 6, 4, 2, 4, 4],
  [6, 4, 4, 6, 4, 4, 4, 2, 2, 4, 2, 4, 6, 4, 6, 6, 4, 4, 4, 2, 4, 4, 2, 4, 4, 2, 4, 2, 0, 2, 6, 4, 6, 4, 4, 4, 4, 2, 4],
  [6, 4, 4, 6, 6, 4, 4, 4, 2, 4, 4, 2, 6, 6, 4, 6, 6, 4, 4, 4, 2, 4, 4, 2, 4, 4, 2, 2, 2, 0, 6, 6, 4, 6, 6, 4, 4, 4, 2],
  [4, 6, 4, 2, 4, 4, 4, 6, 6, 2, 4, 4, 2, 4, 4, 4, 6, 6, 4, 6, 6, 2, 4, 4, 4, 6, 6, 4, 6, 6, 0, 2, 2, 2, 4, 4, 2, 4, 4],
  [4, 4, 4, 4, 2, 4, 4, 4, 6, 2, 2, 4, 4, 2, 4, 4, 4, 4, 4, 4, 6, 4, 2, 4, 6, 4, 6, 4, 4, 6, 2, 0, 2, 4, 2, 4, 4, 2, 4],
  [4, 6, 4, 4, 4, 2, 4, 6, 4, 2, 4, 2, 4, 4, 2, 6, 6, 4, 4, 4, 4, 4, 4, 2, 6, 6, 4, 4, 6, 4, 2, 2, 0, 4, 4, 2, 4, 4, 2],
  [4, 4, 4, 4, 4, 6, 2, 4, 4, 2, 2, 4, 4, 6, 6, 2, 4, 4, 4, 4, 6, 4, 4, 4, 2, 4, 4, 4, 4, 6, 2, 4, 4, 0, 2, 2, 2, 4, 4],
  [6, 4, 4, 6, 4, 6, 4, 2, 4, 4, 2, 4, 6, 4, 6, 4, 2, 4, 6, 4, 6, 6, 4, 6, 4, 2, 4, 6, 4, 6, 4, 2, 4, 2, 0, 2, 4, 2, 4],
  [6, 4, 4, 6, 4, 4, 4, 4, 2, 4, 2, 2, 6, 6, 4, 4, 4, 2, 6, 4, 4, 6, 6, 4, 4, 4, 2, 4, 4, 4, 4, 4, 2, 2, 2, 0, 4, 4, 2],
  [4, 6, 4, 4, 6, 4, 4, 6, 4, 2, 4, 2, 4, 6, 6, 4, 6, 6, 2, 4, 4, 4, 6, 6, 4, 6, 6, 2, 4, 4, 2, 4, 4, 2, 4, 4, 0, 2, 2],
  [6, 4, 4, 6, 4, 4, 6, 4, 4, 4, 2, 2, 6, 4, 6, 6, 4, 6, 4, 2, 4, 6, 4, 6, 6, 4, 6, 4, 2, 4, 4, 2, 4, 4, 2, 4, 2, 0, 2],
  [6, 6, 4, 6, 6, 4, 6, 6, 4, 4, 4, 2, 6, 6, 4, 6, 6, 4, 4, 4, 2, 6, 6, 4, 6, 6, 4, 4, 4, 2, 4, 4, 2, 4, 4, 2, 2, 2, 0]]
theorem tab_ok : (W39.map fun z => W39.map fun x => priceF x z) = T39 := by decide +kernel
theorem zip_map {α β : Type} (f : α → β) : ∀ l : List α, l.zip (l.map f) = l.map fun x => (x, f x)
  | [] => rfl
  | a :: l => by rw [List.map_cons, List.zip_cons_cons, zip_map f l, List.map_cons]
theorem zip_map2 {α β γ : Type} (f : α → β) (g : α → γ) : ∀ l : List α, (l.map f).zip (l.map g) = l.map fun x => (f x, g x)
  | [] => rfl
  | a :: l => by rw [List.map_cons, List.map_cons, List.zip_cons_cons, zip_map2 f g l, List.map_cons]
theorem row_mem {z : List Nat} (hz : z ∈ W39) : (z, W39.map fun x => priceF x z) ∈ W39.zip T39 := by
  rw [← tab_ok, zip_map]
  exact List.mem_map.mpr ⟨z, hz, rfl⟩
theorem cell_mem {x z : List Nat} (hx : x ∈ W39) : (x, priceF x z) ∈ W39.zip (W39.map fun x => priceF x z) := by
  rw [zip_map]
  exact List.mem_map.mpr ⟨x, hx, rfl⟩
theorem all_near : (W39.all fun x => W39.all fun y => (dotsF x y == nearF x y) && (decide (levF x y 2 ≤ 2) == nearF x y) && (nearF x y == nearF y x)) = true := by decide +kernel
theorem all_lev : ((W39.zip T39).all fun z => (W39.zip z.2).all fun x => (levF x.1 z.1 x.2 == x.2) && (levF z.1 x.1 x.2 == x.2) && (x.1 != z.1 || x.2 == 0)) = true := by decide +kernel
theorem all_tri : ((W39.zip T39).all fun y => (W39.zip T39).all fun z => !nearF y.1 z.1 || (z.2.zip y.2).all fun p => decide (p.1 ≤ p.2 + 2)) = true := by decide +kernel
theorem lev_pair {x z : List Nat} (hx : x ∈ W39) (hz : z ∈ W39) : levF x z (priceF x z) = priceF x z ∧ levF z x (priceF x z) = priceF x z ∧ (x = z → priceF x z = 0) := by
  have e := List.all_eq_true.mp (List.all_eq_true.mp all_lev _ (row_mem hz)) _ (cell_mem hx)
  simp only [Bool.and_eq_true, beq_iff_eq, Bool.or_eq_true, bne_iff_ne, ne_eq] at e
  exact ⟨e.1.1, e.1.2, fun h => e.2.resolve_left fun q => q h⟩
theorem tri_pair {x y z : List Nat} (hx : x ∈ W39) (hy : y ∈ W39) (hz : z ∈ W39) (h : nearF y z = true) : priceF x z ≤ priceF x y + 2 := by
  have e := List.all_eq_true.mp (List.all_eq_true.mp all_tri _ (row_mem hy)) _ (row_mem hz)
  rw [h] at e
  have e2 := List.all_eq_true.mp (show ((W39.map fun x => priceF x z).zip (W39.map fun x => priceF x y)).all (fun p => decide (p.1 ≤ p.2 + 2)) = true by simpa using e) (priceF x z, priceF x y) (by rw [zip_map2]; exact List.mem_map.mpr ⟨x, hx, rfl⟩)
  exact of_decide_eq_true e2
end
section
theorem tok_q (r : List Nat) : ∀ (l t : List Nat), (∀ c ∈ l, Ab c) → qGo t (esc l ++ 34 :: r) = some (t ++ l, r) := by
  intro l
  induction l with
  | nil => intro t _; simp [esc, qGo]
  | cons c l ih =>
    intro t h
    have ih := ih (t ++ [c]) fun d hd => h d (.tail _ hd)
    show qGo t (esc1 c ++ esc l ++ 34 :: r) = _
    rw [List.append_assoc, show t ++ c :: l = (t ++ [c]) ++ l by simp, ← ih]
    rcases h c (.head _) with rfl | rfl | rfl
    · rw [show esc1 97 = [97] from rfl, List.singleton_append, qGo]; simp; all_goals simp
    · rw [show esc1 98 = [98] from rfl, List.singleton_append, qGo]; simp; all_goals simp
    · rw [show esc1 34 = [92, 34] from rfl]; simp [qGo]
theorem tok_b (r : List Nat) : ∀ (l t : List Nat), (∀ c ∈ l, Ab c) → bGo t (esc l ++ 10 :: r) = some (t ++ l, r) := by
  intro l
  induction l with
  | nil => intro t _; simp [esc, bGo]
  | cons c l ih =>
    intro t h
    have ih := ih (t ++ [c]) fun d hd => h d (.tail _ hd)
    show bGo t (esc1 c ++ esc l ++ 10 :: r) = _
    rw [List.append_assoc, show t ++ c :: l = (t ++ [c]) ++ l by simp, ← ih]
    rcases h c (.head _) with rfl | rfl | rfl
    · rw [show esc1 97 = [97] from rfl, List.singleton_append, bGo]; simp; all_goals simp
    · rw [show esc1 98 = [98] from rfl, List.singleton_append, bGo]; simp; all_goals simp
    · rw [show esc1 34 = [92, 34] from rfl]; simp [bGo]
theorem tok_nl (nl r : List Nat) (h : nl = [] ∨ nl = [10]) {z : List Nat × List Nat × Int} (hr : tGo r = some z) : tGo (nl ++ r) = some (z.1, z.2.1, z.2.2 + (nl.length : Int)) := by
  rcases h with rfl | rfl
  · simp [hr]
  · simp [tGo, hr]
theorem tok_word {l : List Nat} (hl : IsWord l) (q : Bool) (r : List Nat) : ∃ nl, (nl = [] ∨ nl = [10]) ∧ tGo (spell l q ++ 10 :: r) = some (l, nl ++ r, 1 - (nl.length : Int)) := by
  obtain ⟨h1, h2, h3⟩ := hl
  have hne : l ≠ [] := fun e => by rw [e] at h1; simp at h1
  cases q with
  | true =>
    refine ⟨[10], .inr rfl, ?_⟩
    rw [spell, if_pos (.inl rfl)]
    show tGo (34 :: (esc l ++ [34] ++ 10 :: r)) = _
    rw [tGo, List.append_assoc, List.singleton_append, tok_q _ _ _ h3]
    simp
  | false =>
    refine ⟨[], .inl rfl, ?_⟩
    rw [spell, if_neg (by simp [hne])]
    cases l with
    | nil => exact absurd rfl hne
    | cons c l =>
      have hb := tok_b r (c :: l) [] h3
      rw [List.nil_append] at hb
      have he : esc (c :: l) ++ 10 :: r = esc1 c ++ (esc l ++ 10 :: r) := by show (esc1 c ++ esc l) ++ _ = _; rw [List.append_assoc]
      rw [he] at hb ⊢
      rcases h3 c (.head _) with rfl | rfl | rfl
      · rw [show esc1 97 = [97] from rfl, List.singleton_append] at hb ⊢; rw [tGo, hb]; rfl; all_goals simp
      · rw [show esc1 98 = [98] from rfl, List.singleton_append] at hb ⊢; rw [tGo, hb]; rfl; all_goals simp
      · rw [show esc1 34 = [92, 34] from rfl] at hb ⊢
        rw [List.cons_append, tGo]
        · rw [← List.cons_append, hb]; rfl
        all_goals simp
theorem tok_step {l : List Nat} (hl : IsWord l) (q : Bool) (ws : List (List Nat × Bool)) {nl : List Nat} (hn : nl = [] ∨ nl = [10]) :
    ∃ nl', (nl' = [] ∨ nl' = [10]) ∧ tGo (nl ++ textOf ((l, q) :: ws)) = some (l, nl' ++ textOf ws, (nl.length : Int) + 1 - (nl'.length : Int)) := by
  obtain ⟨nl', h1, h2⟩ := tok_word hl q (textOf ws)
  refine ⟨nl', h1, ?_⟩
  have e : textOf ((l, q) :: ws) = spell l q ++ 10 :: textOf ws := by
    show (spell l q ++ [10]) ++ textOf ws = _
    rw [List.append_assoc]; rfl
  rw [e, tok_nl nl _ hn h2]
  simp only [Option.some.injEq, Prod.mk.injEq, true_and]
  omega
theorem tok_end {nl : List Nat} (hn : nl = [] ∨ nl = [10]) : tGo (nl ++ textOf []) = some ([], [], (nl.length : Int)) := by
  rcases hn with rfl | rfl <;> rfl
/-- the words read so far -/
inductive RwJ (w : World) (a : Lx) (L : Addr) (q1 q2 : Obj) (ws : List (List Nat × Bool)) (i : Nat) (ys : List Value) (news' : List (Addr × Obj)) : Prop
  | mk (tn : Tok) (kb : Nat) (sv : List Value) (ks : Nat) (nl : List Nat) (e : news' = (L + 1 + 1, q1) :: (L + 1, q2) :: a.news w (1 + (i : Int) - (List.length nl : Int)) tn [] kb sv ks)
      (hn : nl = [] ∨ nl = [10]) (hv : StrsAre sv ((nl ++ textOf (ws.drop i)).map sg)) (hy : StrsAre ys ((ws.take i).map fun p => mk p.1))
inductive RwE (w : World) (a : Lx) (L : Addr) (q2 : Obj) (ws : List (List Nat × Bool)) (m' : Str → Option Value) (news' : List (Addr × Obj)) : Prop
  | mk (q1 : Obj) (W : Addr) (vw : List Value) (tn : Tok) (kb : Nat) (sv : List Value) (ks : Nat) (nl : List Nat) (e : news' = (W, listOf vw.toArray 7) :: (L + 1 + 1, q1) :: (L + 1, q2) :: a.news w (8 - (List.length nl : Int)) tn [] kb sv ks) (h1 : q1.data = .cell (some (.ref W)))
      (h2 : StrsAre vw (ws.map fun p => mk p.1)) (h3 : nl = [] ∨ nl = [10]) (h4 : StrsAre sv (nl.map sg)) (h5 : LCg.Off1 W ((L + 1 + 1, q1) :: (L + 1, q2) :: a.news w (8 - (List.length nl : Int)) tn [] kb sv ks))
abbrev runEnv (L : Addr) : Env := envOfC "_law_run" (fnScope 18) L 116 (.ref 115)
theorem orN9 {a b c d e f g h i x : Nat} (q : x = a ∨ x = b ∨ x = c ∨ x = d ∨ x = e ∨ x = f ∨ x = g ∨ x = h ∨ x = i) : x = a ∨ x = b ∨ x = c ∨ x = d ∨ x = e ∨ x = f ∨ x = g ∨ x = h ∨ x = i := q
section
set_option maxRecDepth 100000 in
set_option maxHeartbeats 8000000 in
theorem run_words {w : World} {mg mb : Str → Option Value} {mean : ExcName → Option Value} {h₀ hp : Heap} {L : Addr} {m : Str → Option Value} {gn : Array GenState} {dr : Drawn} {tk₀ : Nat} {os : OsState} (G : Cx w mg mb mean h₀) {a : Lx} (ok : a.Ok) {tn : Tok} {sv : List Value} {kb ks : Nat} {ws : List (List Nat × Bool)} {q1 q2 : Obj}
    (hl : @LT.lt Nat _ a.l L) (e1 : q1.data = .cell none) (e2 : q2.data = .cell (some (.ref a.x))) (F : Fr h₀ L hp m) (N : News h₀ L hp ((L + 1 + 1, q1) :: (L + 1, q2) :: a.news w 1 tn [] kb sv ks)) (hv : StrsAre sv ((textOf ws).map sg)) (hw : ∀ p ∈ ws, IsWord p.1) (hwl : ws.length = 7) {Q : Flow → Shared → Prop} :
    wpAny (model PP w) (Lv 316) (exec (stAt (fnStmts 18) 0) (runEnv L)) (After h₀ L gn dr os (RwE w a L q2 ws) Q) (fun _ _ => False) ⟨hp, gn, dr, tk₀, os⟩ := by
  have G' := G
  obtain ⟨X, T⟩ := G
  have ok' := ok
  (conv => (arg 3; congr; · whnf; · (arg 2; whnf)))
  refine wpAny_Assign_Name ?_ (by with_unfolding_all rfl)
  (k_dflt (refine LCg.ListComp_U (F₀ := by k_asm) (by with_unfolding_all rfl) (by decide) (by rfl) (by decide) (by rfl) ?_))
  ((try dsimp only); repeat' (first | (with_reducible refine wpAny_execs_cons ?_) | (with_reducible refine wpAny_execs_nil ?_) | (with_reducible refine wpAny_If ?_) | ((with_reducible show wpAny _ _ (PySem.truthy (Value.str _ _)) _ _ _); refine SBL.truthy (by omega) ?_) | ( (fail_if_success (with_reducible first | show LCg.CompSrc _ _ _ _ _ _ _ _ _ _ _ _ _ _ | show LCt.CompSrcT _ _ _ _ _ _ _ _ _ _ _ _ _ _ _ | show LCp.SrcLP _ _ _ _ _ _ _ _ _ _ _ _ _ _ _ | show LCg.CompEnd _ _ _ _ _ _ _ _ _ _ _ _ _ _ | show WEnd _ _ _ _ _ _ _ _ _ _ | show After _ _ _ _ _ _ _ _ _ | show TEnd _ _ _ _ _ _ _ _ _ | show TPost _ _ _ _ _ _ _ _ _ _ _ | show wpAny _ _ (eval (Expr.ListComp _ _ _ _) _) _ _ _ | show wpAny _ _ (exec (Stmt.For _ _ _ _ _) _) _ _ _ | show wpAny _ _ (exec (Stmt.While _ _ _ _) _) _ _ _ | show wpAny _ _ (exec (Stmt.Assign _ (Expr.ListComp _ _ _ _) _) _) _ _ _ | show wpAny _ _ (call (Value.builtin "str.join") _) _ _ _ | show wpAny _ _ (compareOp _ (Value.ref _) (Value.ref _)) _ _ _ | show wpAny _ _ (call (Value.ref _) _) _ _ _)); first | walk1 | (dsimp only; walk1))))
  rename IsRange _ _ _ _ _ _ _ _ => hR
  rename Fr _ _ _ _ => F
  rename News _ _ _ _ => N
  refine LCg.CompSrc.range (n := 7) rfl F N hR (by decide) (by decide) (by decide) (fun g => compRest_inv (RwJ w a L q1 q2 ws) ?_ ?_ ?_) <;> clear F N hR
  · exact ⟨tn, kb, sv, ks, [], by rfl, .inl rfl, hv, .nil⟩
  · rintro i ys _ hi ⟨tn, kb, sv, ks, nl, rfl, hnl, hv, hys⟩ v I oI C oC D' mc h tk E' ⟨t, rfl⟩ hC hm F N off hne
    obtain ⟨lw, qw, hgi⟩ : ∃ lw qw, ws[i]? = some (lw, qw) := ⟨ws[i].1, ws[i].2, List.getElem?_eq_getElem (by omega)⟩
    have hIs := hw _ (List.mem_of_getElem? hgi)
    have hdr : ws.drop i = (lw, qw) :: ws.drop (i + 1) := by
      obtain ⟨h1, h2⟩ := List.getElem?_eq_some_iff.mp hgi
      rw [List.drop_eq_getElem_cons h1, h2]
    obtain ⟨nl', hnl', ht⟩ := tok_step hIs qw (ws.drop (i + 1)) hnl
    rw [← hdr] at ht
    ((try dsimp only); repeat' (first | (with_reducible refine wpAny_execs_cons ?_) | (with_reducible refine wpAny_execs_nil ?_) | (with_reducible refine wpAny_If ?_) | ((with_reducible show wpAny _ _ (PySem.truthy (Value.str _ _)) _ _ _); refine SBL.truthy (by omega) ?_) | ( (fail_if_success (with_reducible first | show LCg.CompSrc _ _ _ _ _ _ _ _ _ _ _ _ _ _ | show LCt.CompSrcT _ _ _ _ _ _ _ _ _ _ _ _ _ _ _ | show LCp.SrcLP _ _ _ _ _ _ _ _ _ _ _ _ _ _ _ | show LCg.CompEnd _ _ _ _ _ _ _ _ _ _ _ _ _ _ | show WEnd _ _ _ _ _ _ _ _ _ _ | show After _ _ _ _ _ _ _ _ _ | show TEnd _ _ _ _ _ _ _ _ _ | show TPost _ _ _ _ _ _ _ _ _ _ _ | show wpAny _ _ (eval (Expr.ListComp _ _ _ _) _) _ _ _ | show wpAny _ _ (exec (Stmt.For _ _ _ _ _) _) _ _ _ | show wpAny _ _ (exec (Stmt.While _ _ _ _) _) _ _ _ | show wpAny _ _ (exec (Stmt.Assign _ (Expr.ListComp _ _ _ _) _) _) _ _ _ | show wpAny _ _ (call (Value.builtin "str.join") _) _ _ _ | show wpAny _ _ (compareOp _ (Value.ref _) (Value.ref _)) _ _ _ | show wpAny _ _ (call (Value.ref _) _) _ _ _)); first | walk1 | (dsimp only; walk1))))
    have S : LexSt w h₀ h a (1 + (i : Int) - (List.length nl : Int)) [] (nl ++ textOf (ws.drop i)) := ⟨_, _, _, _, _, (Bs.of N F).sub (fun p hp => .tail _ (.tail _ (.tail _ (.tail _ (.tail _ hp))))), .nil, hv⟩
    obtain ⟨g', G2, S3, back⟩ := lex_goA (rest := [(I, oI), (C, oC), (D', LCg.lst ys), (L + 1 + 1, q1), (L + 1, q2)]) G' F (newsSub N (by intro p hp; simp only [List.mem_cons, List.not_mem_nil, or_false] at hp ⊢; rcases hp with h | h | h | h | h <;> simp [h])) ok' S hl (by
      have o3 := fun p hp => LCg.Off3.mem off p (.tail _ (.tail _ hp))
      have u1 : I ∉ a.ads := ads_ne fun p hp => (o3 p hp).1
      have u2 : C ∉ a.ads := ads_ne fun p hp => (o3 p hp).2.1
      have u3 : D' ∉ a.ads := ads_ne fun p hp => (o3 p hp).2.2
      have u4 : L + 1 + 1 ∉ a.ads := ads_of ok' (.inl (Nat.lt_succ_of_lt (Nat.lt_succ_of_lt hl)))
      have u5 : L + 1 ∉ a.ads := ads_of ok' (.inl (Nat.lt_succ_of_lt hl))
      exact List.forall_mem_cons.mpr ⟨u1, List.forall_mem_cons.mpr ⟨u2, List.forall_mem_cons.mpr ⟨u3, List.forall_mem_cons.mpr ⟨u4, List.forall_mem_cons.mpr ⟨u5, fun p hp => nomatch hp⟩⟩⟩⟩⟩)
    refine wpAny_call (weakenC (get_spec0 G2 ok' S3 (by
      rw [List.length_append]
      have := text_len (ws.drop i) (fun p hp => hw p (List.mem_of_mem_drop hp))
      rw [List.length_drop] at this
      rcases hnl with rfl | rfl <;> simp only [List.length_nil, List.length_singleton] <;> omega) ht ?_))
    clear F N S
    intro h' tk' t' S4
    obtain ⟨F, N2, tn5, pb5, kb5, sv5, ks5, B5, hp5, hv5⟩ := back _ _ _ _ S4
    cases hp5
    rw [show (1 + (i : Int) - (List.length nl : Int)) + ((List.length nl : Int) + 1 - (List.length nl' : Int)) = 1 + ((i + 1 : Nat) : Int) - (List.length nl' : Int) by omega] at B5
    have N := newsApp N2 (lex_news ok' B5 hl)
    refine LCg.CompEnd.intro F N _ (fun p hp => hp) off trivial ⟨tn5, kb5, sv5, ks5, nl', rfl, hnl', hv5, ?_⟩
    rw [take_snoc hgi, List.map_append]
    exact strsSnoc hys
  · rintro ys _ ⟨tn, kb, sv, ks, nl, rfl, hnl, hv, hys⟩ D' h tk F N off
    have hyl : ys.length = 7 := by rw [StrsAre.len hys, List.length_map, List.length_take, hwl]; rfl
    rw [← hwl, List.take_length] at hys
    rw [← hwl, List.drop_length] at hv
    have u4 := ads_off (ads_of ok' (.inl (Nat.lt_succ_of_lt (Nat.lt_succ_of_lt hl))) : L + 1 + 1 ∉ a.ads) (w := w) (n := 1 + ((7 : Nat) : Int) - (List.length nl : Int)) (tn := tn) (pb := []) (sv := sv) (kb := kb) (ks := ks)
    have d1 : @Ne Nat (L + 1 + 1) D' := off.1
    ((try dsimp only); repeat' (first | (with_reducible refine wpAny_execs_cons ?_) | (with_reducible refine wpAny_execs_nil ?_) | (with_reducible refine wpAny_If ?_) | ((with_reducible show wpAny _ _ (PySem.truthy (Value.str _ _)) _ _ _); refine SBL.truthy (by omega) ?_) | ( (fail_if_success (with_reducible first | show LCg.CompSrc _ _ _ _ _ _ _ _ _ _ _ _ _ _ | show LCt.CompSrcT _ _ _ _ _ _ _ _ _ _ _ _ _ _ _ | show LCp.SrcLP _ _ _ _ _ _ _ _ _ _ _ _ _ _ _ | show LCg.CompEnd _ _ _ _ _ _ _ _ _ _ _ _ _ _ | show WEnd _ _ _ _ _ _ _ _ _ _ | show After _ _ _ _ _ _ _ _ _ | show TEnd _ _ _ _ _ _ _ _ _ | show TPost _ _ _ _ _ _ _ _ _ _ _ | show wpAny _ _ (eval (Expr.ListComp _ _ _ _) _) _ _ _ | show wpAny _ _ (exec (Stmt.For _ _ _ _ _) _) _ _ _ | show wpAny _ _ (exec (Stmt.While _ _ _ _) _) _ _ _ | show wpAny _ _ (exec (Stmt.Assign _ (Expr.ListComp _ _ _ _) _) _) _ _ _ | show wpAny _ _ (call (Value.builtin "str.join") _) _ _ _ | show wpAny _ _ (compareOp _ (Value.ref _) (Value.ref _)) _ _ _ | show wpAny _ _ (call (Value.ref _) _) _ _ _)); first | walk1 | (dsimp only; walk1))))
    rename Fr _ _ _ _ => F
    rename News _ _ _ _ => N
    rename _ = Data.cell (some (Value.ref D')) => hd'
    have e8 : (1 + ((7 : Nat) : Int) - (List.length nl : Int)) = 8 - (List.length nl : Int) := by omega
    rw [e8] at N off
    rw [show LCg.lst ys = listOf ys.toArray 7 by rw [← hyl]] at N
    exact After.next F N ⟨_, D', ys, tn, kb, sv, ks, nl, rfl, hd', hys, hnl, by simpa [textOf] using hv, off⟩
end
end
section
theorem len_listK {prog : Program} {w : World} {A : Around} {E : Value → Shared → Prop} {s : Shared} {h₀ : Heap} {L D : Addr} {news : List (Addr × Obj)} {vs : List Value} {kk : Nat} {Q : Value → Shared → Prop}
    (N : News h₀ L s.heap news) (hm : (D, PySem.W.listOf vs.toArray kk) ∈ news) (hz : vs.length < 1000000) (h : Q (.int (vs.length : Int) (s.toks + 1)) { s with toks := s.toks + 1 + 1 }) : wpAny (model prog w) A (call (.builtin "len") [.ref D]) Q E s :=
  len_list (N.isList hm) (by rw [List.size_toArray]; omega) (by rw [List.size_toArray]; exact h)
/-- the names: each word once, in order -/
def namesTo (xs : List (List Nat)) : Nat → List (List Nat)
  | 0 => []
  | i + 1 => if xs.getD i [] ∈ xs.take i then namesTo xs i else namesTo xs i ++ [xs.getD i []]
theorem names_mem (xs : List (List Nat)) : ∀ i, i ≤ xs.length → ∀ n, n ∈ namesTo xs i ↔ n ∈ xs.take i := by
  intro i
  induction i with
  | zero => exact fun _ n => .rfl
  | succ i ih =>
    intro hi n
    have ih := ih (Nat.le_of_succ_le hi)
    have hg : xs[i]? = some (xs.getD i []) := by rw [List.getD_eq_getElem?_getD, List.getElem?_eq_getElem (by omega)]; rfl
    unfold namesTo
    rw [take_snoc hg, List.mem_append, List.mem_singleton]
    by_cases h : xs.getD i [] ∈ xs.take i
    · rw [if_pos h, ih]
      constructor
      · exact .inl
      · rintro (q | rfl)
        · exact q
        · exact h
    · rw [if_neg h, List.mem_append, List.mem_singleton, ih]
theorem names_nodup (xs : List (List Nat)) : ∀ i, i ≤ xs.length → (namesTo xs i).Nodup := by
  intro i
  induction i with
  | zero => exact fun _ => List.nodup_nil
  | succ i ih =>
    intro hi
    have ih := ih (Nat.le_of_succ_le hi)
    unfold namesTo
    by_cases h : xs.getD i [] ∈ xs.take i
    · rw [if_pos h]; exact ih
    · rw [if_neg h, List.nodup_append]
      refine ⟨ih, by simp, ?_⟩
      intro a ha b hb hab
      rw [List.mem_singleton] at hb
      subst hab
      rw [hb, names_mem xs i (by omega)] at ha
      exact h ha
theorem names_len (xs : List (List Nat)) : ∀ i, (namesTo xs i).length ≤ i := by
  intro i
  induction i with
  | zero => exact Nat.le_refl _
  | succ i ih =>
    unfold namesTo
    split
    · omega
    · rw [List.length_append, List.length_singleton]; omega
theorem any_mem (l : List (List Nat)) (y : List Nat) : ((l.map mk).any (· == mk y)) = decide (y ∈ l) := by
  rw [Bool.eq_iff_iff, List.any_eq_true, decide_eq_true_eq]
  constructor
  · rintro ⟨x, hx, e⟩
    obtain ⟨z, hz, rfl⟩ := List.mem_map.mp hx
    have := cl_inj.mp (eq_of_beq e)
    rw [cl_mk, cl_mk] at this
    exact this ▸ hz
  · intro h
    exact ⟨mk y, List.mem_map_of_mem h, beq_self_eq_true _⟩
set_option maxRecDepth 100000 in
set_option maxHeartbeats 8000000 in
theorem run_names {w : World} {mg mb : Str → Option Value} {mean : ExcName → Option Value} {h₀ hp : Heap} {L : Addr} {m : Str → Option Value} {gn : Array GenState} {dr : Drawn} {tk₀ : Nat} {os : OsState} (G : Cx w mg mb mean h₀) {xs : List (List Nat)} {W : Addr} {vw : List Value} {kw : Nat} {q1 : Obj} {tl : List (Addr × Obj)}
    (e1 : q1.data = .cell (some (.ref W))) (n1 : @Ne Nat (L + 1 + 1) W) (F : Fr h₀ L hp m) (N : News h₀ L hp ((W, listOf vw.toArray kw) :: (L + 1 + 1, q1) :: tl)) (hv : StrsAre vw (xs.map mk)) (hxl : xs.length = 7) (hx3 : ∀ x ∈ xs, x.length ≤ 3) {Q : Flow → Shared → Prop} :
    wpAny (model PP w) (Lv 316) (exec (stAt (fnStmts 18) 1) (runEnv L)) (After h₀ L gn dr os (fun m' news' => ∃ Nm vn, news' = (Nm, listOf vn.toArray vn.length) :: (W, listOf vw.toArray kw) :: (L + 1 + 1, q1) :: tl ∧ StrsAre vn ((namesTo xs 7).map mk) ∧ LCg.Off1 Nm ((W, listOf vw.toArray kw) :: (L + 1 + 1, q1) :: tl) ∧ Has m' [("names", .ref Nm)]) Q) (fun _ _ => False) ⟨hp, gn, dr, tk₀, os⟩ := by
  have G' := G
  obtain ⟨X, T⟩ := G
  (conv => (arg 3; congr; · whnf; · (arg 2; whnf)))
  (k_dflt (refine LCt.Assign_ListComp_T (F₀ := by k_asm) (by rfl) (by with_unfolding_all rfl) (by with_unfolding_all rfl) (by decide) (by rfl) (by decide) (by rfl) (by rfl) (by rfl) ?_))
  ((try dsimp only); repeat' (first | (with_reducible refine wpAny_execs_cons ?_) | (with_reducible refine wpAny_execs_nil ?_) | (with_reducible refine wpAny_If ?_) | ((with_reducible show wpAny _ _ (PySem.truthy (Value.str _ _)) _ _ _); refine SBL.truthy (by omega) ?_) | ( (fail_if_success (with_reducible first | show LCg.CompSrc _ _ _ _ _ _ _ _ _ _ _ _ _ _ | show LCt.CompSrcT _ _ _ _ _ _ _ _ _ _ _ _ _ _ _ | show LCp.SrcLP _ _ _ _ _ _ _ _ _ _ _ _ _ _ _ | show LCg.CompEnd _ _ _ _ _ _ _ _ _ _ _ _ _ _ | show WEnd _ _ _ _ _ _ _ _ _ _ | show After _ _ _ _ _ _ _ _ _ | show TEnd _ _ _ _ _ _ _ _ _ | show TPost _ _ _ _ _ _ _ _ _ _ _ | show wpAny _ _ (eval (Expr.ListComp _ _ _ _) _) _ _ _ | show wpAny _ _ (exec (Stmt.For _ _ _ _ _) _) _ _ _ | show wpAny _ _ (exec (Stmt.While _ _ _ _) _) _ _ _ | show wpAny _ _ (exec (Stmt.Assign _ (Expr.ListComp _ _ _ _) _) _) _ _ _ | show wpAny _ _ (call (Value.builtin "str.join") _) _ _ _ | show wpAny _ _ (compareOp _ (Value.ref _) (Value.ref _)) _ _ _ | show wpAny _ _ (call (Value.ref _) _) _ _ _)); first | walk1 | (dsimp only; walk1))))
  rename IsRange _ _ _ _ _ _ _ _ => hR
  rename Fr _ _ _ _ => F
  rename News _ _ _ _ => N
  have hvl : vw.length = 7 := by rw [StrsAre.len hv, List.length_map, hxl]
  refine LCt.CompSrcT.range (n := 7) rfl F N hR (by decide) (by decide) (by decide) (fun g => compRestT_inv (fun i ys news' => news' = (W, listOf vw.toArray kw) :: (L + 1 + 1, q1) :: tl ∧ StrsAre ys ((namesTo xs i).map mk)) ?_ ?_ ?_) <;> clear F N hR
  · exact ⟨rfl, .nil⟩
  · rintro i ys _ hi ⟨rfl, hys⟩ v I oI C oC D' mc h tk E' ⟨t, rfl⟩ hC hm F N off hne
    rw [Int.zero_add] at hm
    obtain ⟨t', hat⟩ := StrsAre.at hv (k := i) (by rw [List.length_map]; omega)
    ((try dsimp only); repeat' (first | (with_reducible refine wpAny_execs_cons ?_) | (with_reducible refine wpAny_execs_nil ?_) | (with_reducible refine wpAny_If ?_) | ((with_reducible show wpAny _ _ (PySem.truthy (Value.str _ _)) _ _ _); refine SBL.truthy (by omega) ?_) | ( (fail_if_success (with_reducible first | show LCg.CompSrc _ _ _ _ _ _ _ _ _ _ _ _ _ _ | show LCt.CompSrcT _ _ _ _ _ _ _ _ _ _ _ _ _ _ _ | show LCp.SrcLP _ _ _ _ _ _ _ _ _ _ _ _ _ _ _ | show LCg.CompEnd _ _ _ _ _ _ _ _ _ _ _ _ _ _ | show WEnd _ _ _ _ _ _ _ _ _ _ | show After _ _ _ _ _ _ _ _ _ | show TEnd _ _ _ _ _ _ _ _ _ | show TPost _ _ _ _ _ _ _ _ _ _ _ | show wpAny _ _ (eval (Expr.ListComp _ _ _ _) _) _ _ _ | show wpAny _ _ (exec (Stmt.For _ _ _ _ _) _) _ _ _ | show wpAny _ _ (exec (Stmt.While _ _ _ _) _) _ _ _ | show wpAny _ _ (exec (Stmt.Assign _ (Expr.ListComp _ _ _ _) _) _) _ _ _ | show wpAny _ _ (call (Value.builtin "str.join") _) _ _ _ | show wpAny _ _ (compareOp _ (Value.ref _) (Value.ref _)) _ _ _ | show wpAny _ _ (call (Value.ref _) _) _ _ _)); first | walk1 | (dsimp only; walk1))))
    rename Fr _ _ _ _ => F
    rename News _ _ _ _ => N
    refine notin_list_strs (vs := vw.take i) (ys := (xs.take i).map mk) ?_ ?_ ?_
    · have := N.isList (.head _)
      rw [pick_to] at this
      exact this
    · rw [List.map_take]; exact StrsAre.take hv i
    have hgx : (xs.map mk).getD i Str.empty = mk (xs.getD i []) := by
      rw [List.getD_eq_getElem?_getD, List.getD_eq_getElem?_getD, List.getElem?_map, List.getElem?_eq_getElem (by omega)]; rfl
    rw [Int.toNat_natCast, hgx, any_mem]
    by_cases hmem : xs.getD i [] ∈ xs.take i
    · rw [decide_eq_true hmem]
      ((try dsimp only); repeat' (first | (with_reducible refine wpAny_execs_cons ?_) | (with_reducible refine wpAny_execs_nil ?_) | (with_reducible refine wpAny_If ?_) | ((with_reducible show wpAny _ _ (PySem.truthy (Value.str _ _)) _ _ _); refine SBL.truthy (by omega) ?_) | ( (fail_if_success (with_reducible first | show LCg.CompSrc _ _ _ _ _ _ _ _ _ _ _ _ _ _ | show LCt.CompSrcT _ _ _ _ _ _ _ _ _ _ _ _ _ _ _ | show LCp.SrcLP _ _ _ _ _ _ _ _ _ _ _ _ _ _ _ | show LCg.CompEnd _ _ _ _ _ _ _ _ _ _ _ _ _ _ | show WEnd _ _ _ _ _ _ _ _ _ _ | show After _ _ _ _ _ _ _ _ _ | show TEnd _ _ _ _ _ _ _ _ _ | show TPost _ _ _ _ _ _ _ _ _ _ _ | show wpAny _ _ (eval (Expr.ListComp _ _ _ _) _) _ _ _ | show wpAny _ _ (exec (Stmt.For _ _ _ _ _) _) _ _ _ | show wpAny _ _ (exec (Stmt.While _ _ _ _) _) _ _ _ | show wpAny _ _ (exec (Stmt.Assign _ (Expr.ListComp _ _ _ _) _) _) _ _ _ | show wpAny _ _ (call (Value.builtin "str.join") _) _ _ _ | show wpAny _ _ (compareOp _ (Value.ref _) (Value.ref _)) _ _ _ | show wpAny _ _ (call (Value.ref _) _) _ _ _)); first | walk1 | (dsimp only; walk1))))
      refine LCg.CompEnd.intro (by assumption) (by assumption) _ (fun p hp => .tail _ hp) off trivial ⟨rfl, ?_⟩
      unfold namesTo
      rw [if_pos hmem]
      exact hys
    · rw [decide_eq_false hmem]
      ((try dsimp only); repeat' (first | (with_reducible refine wpAny_execs_cons ?_) | (with_reducible refine wpAny_execs_nil ?_) | (with_reducible refine wpAny_If ?_) | ((with_reducible show wpAny _ _ (PySem.truthy (Value.str _ _)) _ _ _); refine SBL.truthy (by omega) ?_) | ( (fail_if_success (with_reducible first | show LCg.CompSrc _ _ _ _ _ _ _ _ _ _ _ _ _ _ | show LCt.CompSrcT _ _ _ _ _ _ _ _ _ _ _ _ _ _ _ | show LCp.SrcLP _ _ _ _ _ _ _ _ _ _ _ _ _ _ _ | show LCg.CompEnd _ _ _ _ _ _ _ _ _ _ _ _ _ _ | show WEnd _ _ _ _ _ _ _ _ _ _ | show After _ _ _ _ _ _ _ _ _ | show TEnd _ _ _ _ _ _ _ _ _ | show TPost _ _ _ _ _ _ _ _ _ _ _ | show wpAny _ _ (eval (Expr.ListComp _ _ _ _) _) _ _ _ | show wpAny _ _ (exec (Stmt.For _ _ _ _ _) _) _ _ _ | show wpAny _ _ (exec (Stmt.While _ _ _ _) _) _ _ _ | show wpAny _ _ (exec (Stmt.Assign _ (Expr.ListComp _ _ _ _) _) _) _ _ _ | show wpAny _ _ (call (Value.builtin "str.join") _) _ _ _ | show wpAny _ _ (compareOp _ (Value.ref _) (Value.ref _)) _ _ _ | show wpAny _ _ (call (Value.ref _) _) _ _ _)); first | walk1 | (dsimp only; walk1))))
      rw [Int.toNat_natCast, hgx]
      refine LCg.CompEnd.intro (by assumption) (by assumption) _ (fun p hp => .tail _ hp) off trivial ⟨rfl, ?_⟩
      unfold namesTo
      rw [if_neg hmem, List.map_append]
      exact strsSnoc hys
  · rintro ys _ ⟨rfl, hys⟩ D' h tk F N off
    ((try dsimp only); repeat' (first | (with_reducible refine wpAny_execs_cons ?_) | (with_reducible refine wpAny_execs_nil ?_) | (with_reducible refine wpAny_If ?_) | ((with_reducible show wpAny _ _ (PySem.truthy (Value.str _ _)) _ _ _); refine SBL.truthy (by omega) ?_) | ( (fail_if_success (with_reducible first | show LCg.CompSrc _ _ _ _ _ _ _ _ _ _ _ _ _ _ | show LCt.CompSrcT _ _ _ _ _ _ _ _ _ _ _ _ _ _ _ | show LCp.SrcLP _ _ _ _ _ _ _ _ _ _ _ _ _ _ _ | show LCg.CompEnd _ _ _ _ _ _ _ _ _ _ _ _ _ _ | show WEnd _ _ _ _ _ _ _ _ _ _ | show After _ _ _ _ _ _ _ _ _ | show TEnd _ _ _ _ _ _ _ _ _ | show TPost _ _ _ _ _ _ _ _ _ _ _ | show wpAny _ _ (eval (Expr.ListComp _ _ _ _) _) _ _ _ | show wpAny _ _ (exec (Stmt.For _ _ _ _ _) _) _ _ _ | show wpAny _ _ (exec (Stmt.While _ _ _ _) _) _ _ _ | show wpAny _ _ (exec (Stmt.Assign _ (Expr.ListComp _ _ _ _) _) _) _ _ _ | show wpAny _ _ (call (Value.builtin "str.join") _) _ _ _ | show wpAny _ _ (compareOp _ (Value.ref _) (Value.ref _)) _ _ _ | show wpAny _ _ (call (Value.ref _) _) _ _ _)); first | walk1 | (dsimp only; walk1))))
    have hyl : ys.length = ys.length := rfl
    exact After.next F N ⟨D', ys, rfl, hys, off, ⟨rfl, trivial⟩⟩
end
section
theorem sub7x {α : Type} {a b c d e f g : α} {l : List α} : ∀ p ∈ [a, b, c, d, e, f, g], p ∈ a :: b :: c :: d :: e :: f :: g :: l := fun p hp => List.mem_append_left l hp
theorem ne_map {I : Addr} {a b : List (Addr × Obj)} (h : ∀ p ∈ a, p.1 ≠ I) (e : a.map (·.1) = b.map (·.1)) : ∀ p ∈ b, p.1 ≠ I := fun p hp q => by
  have : I ∈ a.map (·.1) := by rw [e, ← q]; exact List.mem_map_of_mem hp
  obtain ⟨r, hr, er⟩ := List.mem_map.mp this
  exact h r hr er
theorem word_abs {x : List Nat} (h : IsWord x) : Abs (mk x) := h.2.2
theorem word_len {x : List Nat} (h : IsWord x) : (mk x).length ≤ 3 := by rw [len_cl, cl_mk]; exact h.2.1
/-- the word of the for over the names: what has been pushed -/
inductive RfJ (w : World) (a : Lx) (n : Int) (L Rd Pd Nm W : Addr) (ro wo q1 q2 : Obj) (vn : List Value) (kn : Nat) (P Qs ns : List (List Nat)) (t left : List Nat) (tt : Tok) (j : Nat) (m' : Str → Option Value) (news' : List (Addr × Obj)) : Prop
  | mk (X : List (List Nat)) (pv : List Value) (kp : Nat) (pb : List Value) (kb : Nat) (sv : List Value) (ks : Nat) (tn : Tok)
      (e : news' = (Rd, ro) :: (Pd, listOf pv.toArray kp) :: (Nm, listOf vn.toArray kn) :: (W, wo) :: (L + 1 + 1, q1) :: (L + 1, q2) :: a.news w n tn pb kb sv ks)
      (hpv : StrsAre pv ((P ++ X).map mk)) (hpb : StrsAre pb ((Qs ++ X).map mk)) (hv : StrsAre sv (left.map sg)) (hX : pushF dotsF t P (ns.take j) = P ++ X) (hl : X.length ≤ j)
      (hs : Has m' [("names", .ref Nm), ("pushed", .ref Pd), ("read", .ref Rd), ("token", .str (mk t) tt)])
def runFor : Stmt := stAt (inOf (stAt (fnStmts 18) 6)) 1
section
set_option maxRecDepth 100000 in
set_option maxHeartbeats 8000000 in
theorem run_for {w : World} {mg mb : Str → Option Value} {mean : ExcName → Option Value} {h₀ hp : Heap} {L : Addr} {m : Str → Option Value} {gn : Array GenState} {dr : Drawn} {tk₀ : Nat} {os : OsState} (G : Cx w mg mb mean h₀) {a : Lx} (ok : a.Ok) {n : Int} {tn tt : Tok} {pv vn pb sv : List Value} {kp kn kb ks : Nat}
    {P Qs ns : List (List Nat)} {t : List Nat} {left : List Nat} {Rd Pd Nm W : Addr} {ro wo q1 q2 : Obj}
    (hl : @LT.lt Nat _ a.l L) (e2 : q2.data = .cell (some (.ref a.x))) (z1 : @Ne Nat Pd Rd) (z2 : @Ne Nat Pd Nm) (z3 : @Ne Nat Pd W) (z4 : @Ne Nat Pd (L + 1 + 1)) (z5 : @Ne Nat Pd (L + 1)) (aP : Pd ∉ a.ads) (aR : Rd ∉ a.ads) (aN : Nm ∉ a.ads) (aW : W ∉ a.ads) (a1 : L + 1 ∉ a.ads) (a2 : L + 1 + 1 ∉ a.ads)
    (F : Fr h₀ L hp m) (N : News h₀ L hp ((Rd, ro) :: (Pd, listOf pv.toArray kp) :: (Nm, listOf vn.toArray kn) :: (W, wo) :: (L + 1 + 1, q1) :: (L + 1, q2) :: a.news w n tn pb kb sv ks))
    (hpv : StrsAre pv (P.map mk)) (hvn : StrsAre vn (ns.map mk)) (hpb : StrsAre pb (Qs.map mk)) (hv : StrsAre sv (left.map sg)) (hns : ∀ x ∈ ns, IsWord x) (ht : IsWord t) (hnl : ns.length ≤ 7) (hPl : P.length ≤ 10) (hQl : Qs.length ≤ 10)
    (hs : Has m [("names", .ref Nm), ("pushed", .ref Pd), ("read", .ref Rd), ("token", .str (mk t) tt)]) {Q : Flow → Shared → Prop} :
    wpAny (model PP w) (Lv 316) (exec runFor (runEnv L)) (After h₀ L gn dr os (RfJ w a n L Rd Pd Nm W ro wo q1 q2 vn kn P Qs ns t left tt vn.length) Q) (fun _ _ => False) ⟨hp, gn, dr, tk₀, os⟩ := by
  have G' := G
  obtain ⟨X, T⟩ := G
  have ok' := ok
  (conv => (arg 3; congr; · whnf; · (arg 2; whnf)))
  replace F := frOver _ F hs
  refine for_in ?_
  ((try dsimp only); repeat' (first | (with_reducible refine wpAny_execs_cons ?_) | (with_reducible refine wpAny_execs_nil ?_) | (with_reducible refine wpAny_If ?_) | ((with_reducible show wpAny _ _ (PySem.truthy (Value.str _ _)) _ _ _); refine SBL.truthy (by omega) ?_) | ( (fail_if_success (with_reducible first | show LCg.CompSrc _ _ _ _ _ _ _ _ _ _ _ _ _ _ | show LCt.CompSrcT _ _ _ _ _ _ _ _ _ _ _ _ _ _ _ | show LCp.SrcLP _ _ _ _ _ _ _ _ _ _ _ _ _ _ _ | show LCg.CompEnd _ _ _ _ _ _ _ _ _ _ _ _ _ _ | show WEnd _ _ _ _ _ _ _ _ _ _ | show After _ _ _ _ _ _ _ _ _ | show TEnd _ _ _ _ _ _ _ _ _ | show TPost _ _ _ _ _ _ _ _ _ _ _ | show wpAny _ _ (eval (Expr.ListComp _ _ _ _) _) _ _ _ | show wpAny _ _ (exec (Stmt.For _ _ _ _ _) _) _ _ _ | show wpAny _ _ (exec (Stmt.While _ _ _ _) _) _ _ _ | show wpAny _ _ (exec (Stmt.Assign _ (Expr.ListComp _ _ _ _) _) _) _ _ _ | show wpAny _ _ (call (Value.builtin "str.join") _) _ _ _ | show wpAny _ _ (compareOp _ (Value.ref _) (Value.ref _)) _ _ _ | show wpAny _ _ (call (Value.ref _) _) _ _ _)); first | walk1 | (dsimp only; walk1))))
  refine for_list (vs := vn) (RfJ w a n L Rd Pd Nm W ro wo q1 q2 vn kn P Qs ns t left tt)
    rfl (.inr ⟨listOf vn.toArray kn, rfl, ⟨kn, rfl⟩, by rintro i m₁ _ ⟨X, pv, kp, pb, kb, sv, ks, tn, rfl, _⟩; k_mem⟩) rfl rfl F N ?_ ?_ ?_ <;> clear F N
  · exact ⟨[], pv, kp, pb, kb, sv, ks, tn, rfl, by rw [List.append_nil]; exact hpv, by rw [List.append_nil]; exact hpb, hv, by rw [List.append_nil]; rfl, Nat.zero_le _, ⟨rfl, rfl, rfl, rfl, trivial⟩⟩
  · rintro j v m₁ _ I h tk o hvj ⟨X, pv, kp, pb, kb, sv, ks, tn, rfl, hpv, hpb, hv, hX, hXl, hs'⟩ hne F N
    obtain ⟨z, tz, rfl, hz⟩ := StrsAre.mem hvn hvj
    rw [List.getElem?_map] at hz
    obtain ⟨nm, hnm, rfl⟩ := Option.map_eq_some_iff.mp hz
    have hjl : j < ns.length := (List.getElem?_eq_some_iff.mp hnm).1
    have hIs := hns nm (List.mem_of_getElem? hnm)
    replace F := frOverX _ F hs'
    have i1 : @Ne Nat Pd I := hne _ (.tail _ (.head _))
    have hne2 := hne
    have hP9 := ads_off aP (w := w) (n := n) (tn := tn) (pb := pb) (sv := sv) (kb := kb) (ks := ks)
    have hst := push_snoc dotsF t P (ns.take j) nm
    rw [← take_snoc hnm, hX] at hst
    ((try dsimp only); repeat' (first | (with_reducible refine wpAny_execs_cons ?_) | (with_reducible refine wpAny_execs_nil ?_) | (with_reducible refine wpAny_If ?_) | ((with_reducible show wpAny _ _ (PySem.truthy (Value.str _ _)) _ _ _); refine SBL.truthy (by omega) ?_) | ( (fail_if_success (with_reducible first | show LCg.CompSrc _ _ _ _ _ _ _ _ _ _ _ _ _ _ | show LCt.CompSrcT _ _ _ _ _ _ _ _ _ _ _ _ _ _ _ | show LCp.SrcLP _ _ _ _ _ _ _ _ _ _ _ _ _ _ _ | show LCg.CompEnd _ _ _ _ _ _ _ _ _ _ _ _ _ _ | show WEnd _ _ _ _ _ _ _ _ _ _ | show After _ _ _ _ _ _ _ _ _ | show TEnd _ _ _ _ _ _ _ _ _ | show TPost _ _ _ _ _ _ _ _ _ _ _ | show wpAny _ _ (eval (Expr.ListComp _ _ _ _) _) _ _ _ | show wpAny _ _ (exec (Stmt.For _ _ _ _ _) _) _ _ _ | show wpAny _ _ (exec (Stmt.While _ _ _ _) _) _ _ _ | show wpAny _ _ (exec (Stmt.Assign _ (Expr.ListComp _ _ _ _) _) _) _ _ _ | show wpAny _ _ (call (Value.builtin "str.join") _) _ _ _ | show wpAny _ _ (compareOp _ (Value.ref _) (Value.ref _)) _ _ _ | show wpAny _ _ (call (Value.ref _) _) _ _ _)); first | walk1 | (dsimp only; walk1))))
    · rename ((List.map mk (P ++ X)).any _) = true => hin
      rw [any_mem, decide_eq_true_eq] at hin
      rw [if_neg (fun q => q.1 hin)] at hst
      exact TEnd.intro _ F N (fun p hp => hp) hne2 ⟨X, pv, kp, pb, kb, sv, ks, tn, rfl, hpv, hpb, hv, hst, by omega, ⟨rfl, rfl, rfl, rfl, trivial⟩⟩
    · rename ((List.map mk (P ++ X)).any _) = false => hin
      rw [any_mem, decide_eq_false_iff_not] at hin
      rename Fr _ _ _ _ => F
      rename News _ _ _ _ => N
      refine weaken (dots_spec (Cx.keeps G' F.keep) (word_len ht) (word_len hIs) (word_abs ht) (word_abs hIs) ?_)
      intro v h5 tk5 hv5 hk
      rw [cl_mk, cl_mk] at hv5
      replace F := frKept F hk
      replace N := newsKept N hk
      clear hk
      cases v with
      | false =>
        rw [if_neg (fun q => by rw [← hv5] at q; cases q.2)] at hst
        ((try dsimp only); repeat' (first | (with_reducible refine wpAny_execs_cons ?_) | (with_reducible refine wpAny_execs_nil ?_) | (with_reducible refine wpAny_If ?_) | ((with_reducible show wpAny _ _ (PySem.truthy (Value.str _ _)) _ _ _); refine SBL.truthy (by omega) ?_) | ( (fail_if_success (with_reducible first | show LCg.CompSrc _ _ _ _ _ _ _ _ _ _ _ _ _ _ | show LCt.CompSrcT _ _ _ _ _ _ _ _ _ _ _ _ _ _ _ | show LCp.SrcLP _ _ _ _ _ _ _ _ _ _ _ _ _ _ _ | show LCg.CompEnd _ _ _ _ _ _ _ _ _ _ _ _ _ _ | show WEnd _ _ _ _ _ _ _ _ _ _ | show After _ _ _ _ _ _ _ _ _ | show TEnd _ _ _ _ _ _ _ _ _ | show TPost _ _ _ _ _ _ _ _ _ _ _ | show wpAny _ _ (eval (Expr.ListComp _ _ _ _) _) _ _ _ | show wpAny _ _ (exec (Stmt.For _ _ _ _ _) _) _ _ _ | show wpAny _ _ (exec (Stmt.While _ _ _ _) _) _ _ _ | show wpAny _ _ (exec (Stmt.Assign _ (Expr.ListComp _ _ _ _) _) _) _ _ _ | show wpAny _ _ (call (Value.builtin "str.join") _) _ _ _ | show wpAny _ _ (compareOp _ (Value.ref _) (Value.ref _)) _ _ _ | show wpAny _ _ (call (Value.ref _) _) _ _ _)); first | walk1 | (dsimp only; walk1))))
        exact TEnd.intro _ F N (fun p hp => hp) hne2 ⟨X, pv, kp, pb, kb, sv, ks, tn, rfl, hpv, hpb, hv, hst, by omega, ⟨rfl, rfl, rfl, rfl, trivial⟩⟩
      | true =>
        rw [if_pos ⟨hin, hv5.symm⟩] at hst
        have hpl : pv.length ≤ 1000 := by rw [StrsAre.len hpv, List.length_map, List.length_append]; omega
        ((try dsimp only); repeat' (first | (with_reducible refine wpAny_execs_cons ?_) | (with_reducible refine wpAny_execs_nil ?_) | (with_reducible refine wpAny_If ?_) | ((with_reducible show wpAny _ _ (PySem.truthy (Value.str _ _)) _ _ _); refine SBL.truthy (by omega) ?_) | ( (fail_if_success (with_reducible first | show LCg.CompSrc _ _ _ _ _ _ _ _ _ _ _ _ _ _ | show LCt.CompSrcT _ _ _ _ _ _ _ _ _ _ _ _ _ _ _ | show LCp.SrcLP _ _ _ _ _ _ _ _ _ _ _ _ _ _ _ | show LCg.CompEnd _ _ _ _ _ _ _ _ _ _ _ _ _ _ | show WEnd _ _ _ _ _ _ _ _ _ _ | show After _ _ _ _ _ _ _ _ _ | show TEnd _ _ _ _ _ _ _ _ _ | show TPost _ _ _ _ _ _ _ _ _ _ _ | show wpAny _ _ (eval (Expr.ListComp _ _ _ _) _) _ _ _ | show wpAny _ _ (exec (Stmt.For _ _ _ _ _) _) _ _ _ | show wpAny _ _ (exec (Stmt.While _ _ _ _) _) _ _ _ | show wpAny _ _ (exec (Stmt.Assign _ (Expr.ListComp _ _ _ _) _) _) _ _ _ | show wpAny _ _ (call (Value.builtin "str.join") _) _ _ _ | show wpAny _ _ (compareOp _ (Value.ref _) (Value.ref _)) _ _ _ | show wpAny _ _ (call (Value.ref _) _) _ _ _)); first | walk1 | (dsimp only; walk1))))
        rename Fr _ _ _ _ => F
        rename News _ _ _ _ => N
        rw [List.push_toArray] at N
        have S : LexSt w h₀ _ a n ((Qs ++ X).map mk) left := ⟨_, _, _, _, _, (Bs.of N F).sub (fun p hp => .tail _ (.tail _ (.tail _ (.tail _ (.tail _ (.tail _ (.tail _ hp))))))), hpb, hv⟩
        have aI : I ∉ a.ads := ads_ne (w := w) (n := n) (tn := tn) (pb := pb) (sv := sv) (kb := kb) (ks := ks) (fun p hp => hne p (.tail _ (.tail _ (.tail _ (.tail _ (.tail _ (.tail _ hp)))))))
        obtain ⟨g', G2, S3, back⟩ := lex_goA (rest := [(I, o), (Rd, ro), (Pd, _), (Nm, listOf vn.toArray kn), (W, wo), (L + 1 + 1, q1), (L + 1, q2)]) G' F (newsSub N sub7x) ok' S hl (by
          intro p hp
          simp only [List.mem_cons, List.not_mem_nil, or_false] at hp
          rcases hp with rfl | rfl | rfl | rfl | rfl | rfl | rfl <;> assumption)
        refine wpAny_call (weakenC (push_spec G2 ok' S3 (by rw [List.length_map, List.length_append]; omega) ?_))
        clear F N S
        intro h' tk' S4
        obtain ⟨F, N2, tn5, pb5, kb5, sv5, ks5, B5, hp5, hv5⟩ := back _ _ _ _ S4
        have N := newsApp N2 (lex_news ok' B5 hl)
        dsimp only [List.cons_append, List.nil_append] at N
        ((try dsimp only); repeat' (first | (with_reducible refine wpAny_execs_cons ?_) | (with_reducible refine wpAny_execs_nil ?_) | (with_reducible refine wpAny_If ?_) | ((with_reducible show wpAny _ _ (PySem.truthy (Value.str _ _)) _ _ _); refine SBL.truthy (by omega) ?_) | ( (fail_if_success (with_reducible first | show LCg.CompSrc _ _ _ _ _ _ _ _ _ _ _ _ _ _ | show LCt.CompSrcT _ _ _ _ _ _ _ _ _ _ _ _ _ _ _ | show LCp.SrcLP _ _ _ _ _ _ _ _ _ _ _ _ _ _ _ | show LCg.CompEnd _ _ _ _ _ _ _ _ _ _ _ _ _ _ | show WEnd _ _ _ _ _ _ _ _ _ _ | show After _ _ _ _ _ _ _ _ _ | show TEnd _ _ _ _ _ _ _ _ _ | show TPost _ _ _ _ _ _ _ _ _ _ _ | show wpAny _ _ (eval (Expr.ListComp _ _ _ _) _) _ _ _ | show wpAny _ _ (exec (Stmt.For _ _ _ _ _) _) _ _ _ | show wpAny _ _ (exec (Stmt.While _ _ _ _) _) _ _ _ | show wpAny _ _ (exec (Stmt.Assign _ (Expr.ListComp _ _ _ _) _) _) _ _ _ | show wpAny _ _ (call (Value.builtin "str.join") _) _ _ _ | show wpAny _ _ (compareOp _ (Value.ref _) (Value.ref _)) _ _ _ | show wpAny _ _ (call (Value.ref _) _) _ _ _)); first | walk1 | (dsimp only; walk1))))
        rw [List.append_assoc] at hst
        refine TEnd.intro _ F N (fun p hp => hp) (ne_map hne2 rfl) ⟨X ++ [nm], _, _, pb5, kb5, sv5, ks5, tn5, rfl, ?_, ?_, hv5, hst, by rw [List.length_append]; exact Nat.succ_le_succ hXl, ⟨rfl, rfl, rfl, rfl, trivial⟩⟩
        · rw [← List.append_assoc, List.map_append]
          exact strsSnoc hpv
        · rw [← List.append_assoc, List.map_append]
          exact hp5
  · exact fun m₁ _ h tk hJ F N => After.next F N hJ
end
end
section
theorem sub6x {α : Type} {a b c d e f : α} {l : List α} : ∀ p ∈ [a, b, c, d, e, f], p ∈ a :: b :: c :: d :: e :: f :: l := fun p hp => List.mem_append_left l hp
inductive RnJ (w : World) (a : Lx) (L Rd Pd Nm W : Addr) (wo q1 q2 : Obj) (vn : List Value) (kn : Nat) (ns : List (List Nat)) (n0 nl : List Nat) (k : Nat) (m' : Str → Option Value) (news' : List (Addr × Obj)) : Prop
  | mk (i : Nat) (rv : List Value) (kr : Nat) (pv : List Value) (kp : Nat) (pb : List Value) (kb : Nat) (sv : List Value) (ks : Nat) (tn tt : Tok) (tok : List Nat) (n : Int) (left : List Nat)
      (e : news' = (Rd, listOf rv.toArray kr) :: (Pd, listOf pv.toArray kp) :: (Nm, listOf vn.toArray kn) :: (W, wo) :: (L + 1 + 1, q1) :: (L + 1, q2) :: a.news w n tn pb kb sv ks)
      (hrv : StrsAre rv (((runP dotsF ns n0 i).take i).map mk)) (hpv : StrsAre pv ((runP dotsF ns n0 i).map mk)) (hpb : StrsAre pb (((runP dotsF ns n0 i).drop (i + 1)).map mk)) (hv : StrsAre sv (left.map sg)) (hk : k = 20 - i) (hi : i ≤ (runP dotsF ns n0 i).length)
      (hs : Has m' [("names", .ref Nm), ("pushed", .ref Pd), ("read", .ref Rd), ("token", .str (mk tok) tt)])
      (hc : (∃ t, (runP dotsF ns n0 i)[i]? = some t ∧ tok = t ∧ left = nl ∧ n = 8 - (List.length nl : Int)) ∨ ((runP dotsF ns n0 i).length = i ∧ tok = [] ∧ left = [] ∧ n = 8))
inductive RnE (w : World) (a : Lx) (L Rd Pd Nm W : Addr) (wo q1 q2 : Obj) (vn : List Value) (kn : Nat) (ns : List (List Nat)) (n0 : List Nat) (m' : Str → Option Value) (news' : List (Addr × Obj)) : Prop
  | mk (i : Nat) (rv : List Value) (kr : Nat) (po : Obj) (kb : Nat) (sv : List Value) (ks : Nat) (tn : Tok) (e : news' = (Rd, listOf rv.toArray kr) :: (Pd, po) :: (Nm, listOf vn.toArray kn) :: (W, wo) :: (L + 1 + 1, q1) :: (L + 1, q2) :: a.news w 8 tn [] kb sv ks)
      (h1 : (runP dotsF ns n0 i).length = i) (h2 : StrsAre rv ((runP dotsF ns n0 i).map mk)) (h3 : StrsAre sv []) (hs : Has m' [("names", .ref Nm), ("read", .ref Rd)])
section
set_option maxRecDepth 100000 in
set_option maxHeartbeats 8000000 in
theorem run_while {w : World} {mg mb : Str → Option Value} {mean : ExcName → Option Value} {h₀ hp : Heap} {L : Addr} {m : Str → Option Value} {gn : Array GenState} {dr : Drawn} {tk₀ : Nat} {os : OsState} (G : Cx w mg mb mean h₀) {a : Lx} (ok : a.Ok) {tn tt : Tok} {vn pb sv pv rv : List Value} {kn kb ks kp kr : Nat}
    {ns : List (List Nat)} {n0 nl : List Nat} {Rd Pd Nm W : Addr} {wo q1 q2 : Obj}
    (hl : @LT.lt Nat _ a.l L) (e2 : q2.data = .cell (some (.ref a.x))) (z1 : @Ne Nat Pd Rd) (z2 : @Ne Nat Pd Nm) (z3 : @Ne Nat Pd W) (z4 : @Ne Nat Pd (L + 1 + 1)) (z5 : @Ne Nat Pd (L + 1)) (y2 : @Ne Nat Rd Nm) (y3 : @Ne Nat Rd W) (y4 : @Ne Nat Rd (L + 1 + 1)) (y5 : @Ne Nat Rd (L + 1))
    (aP : Pd ∉ a.ads) (aR : Rd ∉ a.ads) (aN : Nm ∉ a.ads) (aW : W ∉ a.ads) (a1 : L + 1 ∉ a.ads) (a2 : L + 1 + 1 ∉ a.ads)
    (F : Fr h₀ L hp m) (N : News h₀ L hp ((Rd, listOf rv.toArray kr) :: (Pd, listOf pv.toArray kp) :: (Nm, listOf vn.toArray kn) :: (W, wo) :: (L + 1 + 1, q1) :: (L + 1, q2) :: a.news w (8 - (List.length nl : Int)) tn pb kb sv ks))
    (hrv : StrsAre rv []) (hpv : StrsAre pv [mk n0]) (hvn : StrsAre vn (ns.map mk)) (hpb : StrsAre pb []) (hv : StrsAre sv (nl.map sg)) (hns : ∀ x ∈ ns, IsWord x) (hnd : ns.Nodup) (h0 : n0 ∈ ns) (hnl : ns.length ≤ 7) (hnn : nl = [] ∨ nl = [10])
    (hs : Has m [("names", .ref Nm), ("pushed", .ref Pd), ("read", .ref Rd), ("token", .str (mk n0) tt)]) {Q : Flow → Shared → Prop} :
    wpAny (model PP w) (Lv 316) (exec (stAt (fnStmts 18) 6) (runEnv L)) (After h₀ L gn dr os (RnE w a L Rd Pd Nm W wo q1 q2 vn kn ns n0) Q) (fun _ _ => False) ⟨hp, gn, dr, tk₀, os⟩ := by
  have G' := G
  obtain ⟨X, T⟩ := G
  have ok' := ok
  (conv => (arg 3; congr; · whnf; · (arg 2; whnf)))
  refine while_inv (RnJ w a L Rd Pd Nm W wo q1 q2 vn kn ns n0 nl) 20 F N ?_ ?_ <;> clear F N
  · exact ⟨0, rv, kr, pv, kp, pb, kb, sv, ks, tn, tt, n0, _, nl, rfl, hrv, hpv, hpb, hv, rfl, Nat.zero_le _, hs, .inl ⟨n0, rfl, rfl, rfl, rfl⟩⟩
  · rintro k m₁ _ h₁ tk₁ F N ⟨i, rv, kr, pv, kp, pb, kb, sv, ks, tn, tt, tok, n, left, rfl, hrv, hpv, hpb, hvJ, rfl, hi, hs, hcase⟩
    replace F := frOver _ F hs
    obtain ⟨hPn, hPs⟩ := run_inv dotsF hnd h0 i
    have hPl : (runP dotsF ns n0 i).length ≤ 7 := Nat.le_trans (nodup_le hPn hPs) hnl
    have hrl : rv.length = i := by rw [StrsAre.len hrv, List.length_map, List.length_take]; omega
    have hR9 := ads_off aR (w := w) (n := n) (tn := tn) (pb := pb) (sv := sv) (kb := kb) (ks := ks)
    have hrl7 : rv.length ≤ 7 := by omega
    rcases hcase with ⟨t, hgt, rfl, rfl, rfl⟩ | ⟨hend, rfl, rfl, rfl⟩
    · have hIs := hns _ (hPs _ (List.mem_of_getElem? hgt))
      have hne0 : (mk tok == Str.ofString "") = false := by
        rw [beq_eq_false_iff_ne]
        obtain ⟨h1, -, -⟩ := hIs
        cases tok with
        | nil => simp at h1
        | cons c r => exact mk_ne_empty
      have hil : i < (runP dotsF ns n0 i).length := (List.getElem?_eq_some_iff.mp hgt).1
      ((try dsimp only); repeat' (first | (with_reducible refine wpAny_execs_cons ?_) | (with_reducible refine wpAny_execs_nil ?_) | (with_reducible refine wpAny_If ?_) | ((with_reducible show wpAny _ _ (PySem.truthy (Value.str _ _)) _ _ _); refine SBL.truthy (by omega) ?_) | ( (fail_if_success (with_reducible first | show LCg.CompSrc _ _ _ _ _ _ _ _ _ _ _ _ _ _ | show LCt.CompSrcT _ _ _ _ _ _ _ _ _ _ _ _ _ _ _ | show LCp.SrcLP _ _ _ _ _ _ _ _ _ _ _ _ _ _ _ | show LCg.CompEnd _ _ _ _ _ _ _ _ _ _ _ _ _ _ | show WEnd _ _ _ _ _ _ _ _ _ _ | show After _ _ _ _ _ _ _ _ _ | show TEnd _ _ _ _ _ _ _ _ _ | show TPost _ _ _ _ _ _ _ _ _ _ _ | show wpAny _ _ (eval (Expr.ListComp _ _ _ _) _) _ _ _ | show wpAny _ _ (exec (Stmt.For _ _ _ _ _) _) _ _ _ | show wpAny _ _ (exec (Stmt.While _ _ _ _) _) _ _ _ | show wpAny _ _ (exec (Stmt.Assign _ (Expr.ListComp _ _ _ _) _) _) _ _ _ | show wpAny _ _ (call (Value.builtin "str.join") _) _ _ _ | show wpAny _ _ (compareOp _ (Value.ref _) (Value.ref _)) _ _ _ | show wpAny _ _ (call (Value.ref _) _) _ _ _)); first | (with_reducible ((with_reducible show wpAny _ _ (call (Value.builtin "len") [Value.ref _]) _ _ _); k_dflt (refine len_listK (by k_asm) (by k_mem) (by omega) ?_))) | walk1 | (dsimp only; walk1))))
      · rename Fr _ _ _ _ => F
        rename News _ _ _ _ => N
        rw [List.push_toArray] at N
        have hQl : ((runP dotsF ns n0 i).drop (i + 1)).length ≤ 10 := by rw [List.length_drop]; omega
        refine cut F _ (run_for (n := 8 - (List.length left : Int)) (left := left) G' ok' hl e2 z1 z2 z3 z4 z5 aP aR aN aW a1 a2 F N hpv hvn hpb hvJ hns hIs hnl (by omega) hQl ⟨rfl, rfl, rfl, rfl, trivial⟩) ?_
        clear F N hpv hpb hvJ
        rintro h2 tk2 m2 _ F N ⟨X2, pv2, kp2, pb2, kb2, sv2, ks2, tn2, rfl, hpv2, hpb2, hv2, hX2, -, hs2⟩
        rw [show vn.length = ns.length by rw [StrsAre.len hvn, List.length_map], List.take_length] at hX2
        have hP1 : runP dotsF ns n0 (i + 1) = runP dotsF ns n0 i ++ X2 := by
          rw [runP_succ dotsF hgt]; exact hX2
        have hdr : (runP dotsF ns n0 (i + 1)).drop (i + 1) = (runP dotsF ns n0 i).drop (i + 1) ++ X2 := by rw [hP1, List.drop_append_of_le_length (by omega)]
        rw [← hdr] at hpb2
        rw [← hP1] at hpv2
        have htk : (runP dotsF ns n0 (i + 1)).take (i + 1) = (runP dotsF ns n0 i).take i ++ [tok] := by
          rw [hP1, List.take_append_of_le_length (by omega), take_snoc hgt]
        have hrv2 : StrsAre (rv ++ [.str (mk tok) tt]) (((runP dotsF ns n0 (i + 1)).take (i + 1)).map mk) := by
          rw [htk, List.map_append]; exact strsSnoc hrv
        have hl1 : i + 1 ≤ (runP dotsF ns n0 (i + 1)).length := by rw [hP1, List.length_append]; omega
        obtain ⟨hPn1, hPs1⟩ := run_inv dotsF hnd h0 (i + 1)
        have hPl1 : (runP dotsF ns n0 (i + 1)).length ≤ 7 := Nat.le_trans (nodup_le hPn1 hPs1) hnl
        replace F := frOver _ F hs2
        ((try dsimp only); repeat' (first | (with_reducible refine wpAny_execs_cons ?_) | (with_reducible refine wpAny_execs_nil ?_) | (with_reducible refine wpAny_If ?_) | ((with_reducible show wpAny _ _ (PySem.truthy (Value.str _ _)) _ _ _); refine SBL.truthy (by omega) ?_) | ( (fail_if_success (with_reducible first | show LCg.CompSrc _ _ _ _ _ _ _ _ _ _ _ _ _ _ | show LCt.CompSrcT _ _ _ _ _ _ _ _ _ _ _ _ _ _ _ | show LCp.SrcLP _ _ _ _ _ _ _ _ _ _ _ _ _ _ _ | show LCg.CompEnd _ _ _ _ _ _ _ _ _ _ _ _ _ _ | show WEnd _ _ _ _ _ _ _ _ _ _ | show After _ _ _ _ _ _ _ _ _ | show TEnd _ _ _ _ _ _ _ _ _ | show TPost _ _ _ _ _ _ _ _ _ _ _ | show wpAny _ _ (eval (Expr.ListComp _ _ _ _) _) _ _ _ | show wpAny _ _ (exec (Stmt.For _ _ _ _ _) _) _ _ _ | show wpAny _ _ (exec (Stmt.While _ _ _ _) _) _ _ _ | show wpAny _ _ (exec (Stmt.Assign _ (Expr.ListComp _ _ _ _) _) _) _ _ _ | show wpAny _ _ (call (Value.builtin "str.join") _) _ _ _ | show wpAny _ _ (compareOp _ (Value.ref _) (Value.ref _)) _ _ _ | show wpAny _ _ (call (Value.ref _) _) _ _ _)); first | (with_reducible ((with_reducible show wpAny _ _ (call (Value.builtin "len") [Value.ref _]) _ _ _); k_dflt (refine len_listK (by k_asm) (by k_mem) (by omega) ?_))) | walk1 | (dsimp only; walk1))))
        have S : LexSt w h₀ _ a (8 - (List.length left : Int)) (((runP dotsF ns n0 (i + 1)).drop (i + 1)).map mk) left := ⟨_, _, _, _, _, (Bs.of N F).sub (fun p hp => .tail _ (.tail _ (.tail _ (.tail _ (.tail _ (.tail _ hp)))))), hpb2, hv2⟩
        obtain ⟨g', G2, S3, back⟩ := lex_goA (rest := [(Rd, _), (Pd, _), (Nm, listOf vn.toArray kn), (W, wo), (L + 1 + 1, q1), (L + 1, q2)]) G' F (newsSub N sub6x) ok' S hl (by
          intro p hp
          simp only [List.mem_cons, List.not_mem_nil, or_false] at hp
          rcases hp with rfl | rfl | rfl | rfl | rfl | rfl <;> assumption)
        clear F N S
        cases hq : (runP dotsF ns n0 (i + 1)).drop (i + 1) with
        | nil =>
          rw [hq] at S3
          have hte := tok_end hnn
          rw [show left ++ textOf [] = left from List.append_nil _] at hte
          refine wpAny_call (weakenC (get_spec0 G2 ok' S3 (by rcases hnn with rfl | rfl <;> decide) hte ?_))
          intro h' tk' t' S4
          obtain ⟨F, N2, tn5, pb5, kb5, sv5, ks5, B5, hp5, hv5⟩ := back _ _ _ _ S4
          have N := newsApp N2 (lex_news ok' B5 hl)
          dsimp only [List.cons_append, List.nil_append] at N
          ((try dsimp only); repeat' (first | (with_reducible refine wpAny_execs_cons ?_) | (with_reducible refine wpAny_execs_nil ?_) | (with_reducible refine wpAny_If ?_) | ((with_reducible show wpAny _ _ (PySem.truthy (Value.str _ _)) _ _ _); refine SBL.truthy (by omega) ?_) | ( (fail_if_success (with_reducible first | show LCg.CompSrc _ _ _ _ _ _ _ _ _ _ _ _ _ _ | show LCt.CompSrcT _ _ _ _ _ _ _ _ _ _ _ _ _ _ _ | show LCp.SrcLP _ _ _ _ _ _ _ _ _ _ _ _ _ _ _ | show LCg.CompEnd _ _ _ _ _ _ _ _ _ _ _ _ _ _ | show WEnd _ _ _ _ _ _ _ _ _ _ | show After _ _ _ _ _ _ _ _ _ | show TEnd _ _ _ _ _ _ _ _ _ | show TPost _ _ _ _ _ _ _ _ _ _ _ | show wpAny _ _ (eval (Expr.ListComp _ _ _ _) _) _ _ _ | show wpAny _ _ (exec (Stmt.For _ _ _ _ _) _) _ _ _ | show wpAny _ _ (exec (Stmt.While _ _ _ _) _) _ _ _ | show wpAny _ _ (exec (Stmt.Assign _ (Expr.ListComp _ _ _ _) _) _) _ _ _ | show wpAny _ _ (call (Value.builtin "str.join") _) _ _ _ | show wpAny _ _ (compareOp _ (Value.ref _) (Value.ref _)) _ _ _ | show wpAny _ _ (call (Value.ref _) _) _ _ _)); first | (with_reducible ((with_reducible show wpAny _ _ (call (Value.builtin "len") [Value.ref _]) _ _ _); k_dflt (refine len_listK (by k_asm) (by k_mem) (by omega) ?_))) | walk1 | (dsimp only; walk1))))
          rename Fr _ _ _ _ => F
          refine WEnd.next (20 - (i + 1)) F (by assumption) (by omega) ⟨i + 1, _, _, _, _, pb5, kb5, sv5, ks5, tn5, _, [], _, [], rfl, hrv2, hpv2, ?_, hv5, rfl, hl1, ⟨rfl, rfl, rfl, rfl, trivial⟩, .inr ⟨?_, rfl, rfl, by omega⟩⟩
          · rw [show i + 1 + 1 = (i + 1) + 1 from rfl, ← List.drop_drop, hq]; exact hp5
          · have := congrArg List.length hq
            rw [List.length_drop, List.length_nil] at this
            omega
        | cons t1 q1' =>
          rw [hq, List.map_cons] at S3
          have hg1 : (runP dotsF ns n0 (i + 1))[i + 1]? = some t1 := by
            have := congrArg (·[0]?) hq
            simpa using this
          have hlq := congrArg List.length hq
          rw [List.length_drop, List.length_cons] at hlq
          refine wpAny_call (weakenC (get_spec1 G2 ok' S3 (by rw [List.length_map]; omega) ?_))
          intro h' tk' t' S4
          obtain ⟨F, N2, tn5, pb5, kb5, sv5, ks5, B5, hp5, hv5⟩ := back _ _ _ _ S4
          have N := newsApp N2 (lex_news ok' B5 hl)
          dsimp only [List.cons_append, List.nil_append] at N
          ((try dsimp only); repeat' (first | (with_reducible refine wpAny_execs_cons ?_) | (with_reducible refine wpAny_execs_nil ?_) | (with_reducible refine wpAny_If ?_) | ((with_reducible show wpAny _ _ (PySem.truthy (Value.str _ _)) _ _ _); refine SBL.truthy (by omega) ?_) | ( (fail_if_success (with_reducible first | show LCg.CompSrc _ _ _ _ _ _ _ _ _ _ _ _ _ _ | show LCt.CompSrcT _ _ _ _ _ _ _ _ _ _ _ _ _ _ _ | show LCp.SrcLP _ _ _ _ _ _ _ _ _ _ _ _ _ _ _ | show LCg.CompEnd _ _ _ _ _ _ _ _ _ _ _ _ _ _ | show WEnd _ _ _ _ _ _ _ _ _ _ | show After _ _ _ _ _ _ _ _ _ | show TEnd _ _ _ _ _ _ _ _ _ | show TPost _ _ _ _ _ _ _ _ _ _ _ | show wpAny _ _ (eval (Expr.ListComp _ _ _ _) _) _ _ _ | show wpAny _ _ (exec (Stmt.For _ _ _ _ _) _) _ _ _ | show wpAny _ _ (exec (Stmt.While _ _ _ _) _) _ _ _ | show wpAny _ _ (exec (Stmt.Assign _ (Expr.ListComp _ _ _ _) _) _) _ _ _ | show wpAny _ _ (call (Value.builtin "str.join") _) _ _ _ | show wpAny _ _ (compareOp _ (Value.ref _) (Value.ref _)) _ _ _ | show wpAny _ _ (call (Value.ref _) _) _ _ _)); first | (with_reducible ((with_reducible show wpAny _ _ (call (Value.builtin "len") [Value.ref _]) _ _ _); k_dflt (refine len_listK (by k_asm) (by k_mem) (by omega) ?_))) | walk1 | (dsimp only; walk1))))
          rename Fr _ _ _ _ => F
          refine WEnd.next (20 - (i + 1)) F (by assumption) (by omega) ⟨i + 1, _, _, _, _, pb5, kb5, sv5, ks5, tn5, _, t1, _, left, rfl, hrv2, hpv2, ?_, hv5, rfl, hl1, ⟨rfl, rfl, rfl, rfl, trivial⟩, .inl ⟨t1, hg1, rfl, rfl, rfl⟩⟩
          rw [← List.drop_drop, hq]; exact hp5
      · exfalso
        rename (mk tok != _) = false => hq
        rw [bne, hne0] at hq
        cases hq
    · ((try dsimp only); repeat' (first | (with_reducible refine wpAny_execs_cons ?_) | (with_reducible refine wpAny_execs_nil ?_) | (with_reducible refine wpAny_If ?_) | ((with_reducible show wpAny _ _ (PySem.truthy (Value.str _ _)) _ _ _); refine SBL.truthy (by omega) ?_) | ( (fail_if_success (with_reducible first | show LCg.CompSrc _ _ _ _ _ _ _ _ _ _ _ _ _ _ | show LCt.CompSrcT _ _ _ _ _ _ _ _ _ _ _ _ _ _ _ | show LCp.SrcLP _ _ _ _ _ _ _ _ _ _ _ _ _ _ _ | show LCg.CompEnd _ _ _ _ _ _ _ _ _ _ _ _ _ _ | show WEnd _ _ _ _ _ _ _ _ _ _ | show After _ _ _ _ _ _ _ _ _ | show TEnd _ _ _ _ _ _ _ _ _ | show TPost _ _ _ _ _ _ _ _ _ _ _ | show wpAny _ _ (eval (Expr.ListComp _ _ _ _) _) _ _ _ | show wpAny _ _ (exec (Stmt.For _ _ _ _ _) _) _ _ _ | show wpAny _ _ (exec (Stmt.While _ _ _ _) _) _ _ _ | show wpAny _ _ (exec (Stmt.Assign _ (Expr.ListComp _ _ _ _) _) _) _ _ _ | show wpAny _ _ (call (Value.builtin "str.join") _) _ _ _ | show wpAny _ _ (compareOp _ (Value.ref _) (Value.ref _)) _ _ _ | show wpAny _ _ (call (Value.ref _) _) _ _ _)); first | (with_reducible ((with_reducible show wpAny _ _ (call (Value.builtin "len") [Value.ref _]) _ _ _); k_dflt (refine len_listK (by k_asm) (by k_mem) (by omega) ?_))) | walk1 | (dsimp only; walk1))))
      rename Fr _ _ _ _ => F
      rename News _ _ _ _ => N
      rw [List.take_of_length_le (Nat.le_of_eq hend)] at hrv
      have hpe : (runP dotsF ns n0 i).drop (i + 1) = [] := List.drop_eq_nil_of_le (by omega)
      rw [hpe] at hpb
      cases hpb
      exact After.next F N ⟨i, rv, kr, _, kb, sv, ks, tn, rfl, hend, hrv, hvJ, ⟨rfl, rfl, trivial⟩⟩
end
end
section
theorem LCg.off1_mem {D : Addr} : ∀ {l : List (Addr × Obj)}, LCg.Off1 D l → ∀ p ∈ l, p.1 ≠ D
  | [], _, _, h => nomatch h
  | _ :: _, x, p, h => by
    rcases List.mem_cons.mp h with rfl | h
    · exact x.1
    · exact LCg.off1_mem x.2 p h
theorem names_head (xs : List (List Nat)) : ∀ i, ∃ nr, namesTo xs (i + 1) = xs.getD 0 [] :: nr := by
  intro i
  induction i with
  | zero => exact ⟨[], by simp [namesTo]⟩
  | succ i ih =>
    obtain ⟨nr, e⟩ := ih
    rw [namesTo]
    split
    · exact ⟨nr, e⟩
    · exact ⟨nr ++ [xs.getD (i + 1) []], by rw [e]; rfl⟩
theorem sub5x {α : Type} {a b c d e : α} {l : List α} : ∀ p ∈ [a, b, c, d, e], p ∈ a :: b :: c :: d :: e :: l := fun p hp => List.mem_append_left l hp
theorem subFin {α : Type} {t r p n w a b : α} {l : List α} : ∀ x ∈ t :: w :: n :: r :: l, x ∈ t :: r :: p :: n :: w :: a :: b :: l :=
  List.forall_mem_cons.mpr ⟨.head _, List.forall_mem_cons.mpr ⟨.tail _ (.tail _ (.tail _ (.tail _ (.head _)))), List.forall_mem_cons.mpr ⟨.tail _ (.tail _ (.tail _ (.head _))), List.forall_mem_cons.mpr ⟨.tail _ (.head _), fun x hx => .tail _ (.tail _ (.tail _ (.tail _ (.tail _ (.tail _ (.tail _ hx))))))⟩⟩⟩⟩
theorem lex_goB {w : World} {mg mb : Str → Option Value} {mean : ExcName → Option Value} {h₀ h : Heap} {L : Addr} {m : Str → Option Value} {rest : List (Addr × Obj)} {a : Lx} {n : Int} {pb : List Str} {left : List Nat}
    (G : Cx w mg mb mean h₀) (F : Fr h₀ L h m) (N : News h₀ L h rest) (ok : a.Ok) (S : LexSt w h₀ h a n pb left) (hl : @LT.lt Nat _ a.l L) (ap : ∀ p ∈ rest, p.1 ∉ a.ads) :
    ∃ g, Cx w mg mb mean g ∧ LexSt w g h a n pb left ∧ ∀ h' news', Bs g h' news' → Fr h₀ L h' m ∧ News h₀ L h' rest ∧ News h₀ L h' news' := by
  obtain ⟨tn, pb1, kb, sv, ks, B, hp, hv⟩ := S
  have N1 := lex_news ok B hl
  refine ⟨hid h (a.news w n tn pb1 kb sv ks), G.keeps (hid_kept F N1), ⟨tn, pb1, kb, sv, ks, hid_bs N1, hp, hv⟩, ?_⟩
  intro h' news' B'
  have F' := back_fr F N1 B'.keep
  exact ⟨F', back_rest (news := a.news w n tn pb1 kb sv ks) N ap B'.keep, back_news F N1 B'⟩
theorem off_ads {W : Addr} {a : Lx} {w : World} {n : Int} {tn : Tok} {pb sv : List Value} {kb ks : Nat} (h : LCg.Off1 W (a.news w n tn pb kb sv ks)) : W ∉ a.ads := ads_ne (w := w) (n := n) (tn := tn) (pb := pb) (sv := sv) (kb := kb) (ks := ks) (LCg.off1_mem h)
set_option maxRecDepth 100000 in
set_option maxHeartbeats 8000000 in
theorem run_spec {w : World} {mg mb : Str → Option Value} {mean : ExcName → Option Value} {s : Shared} {g : Heap} (G : Cx w mg mb mean g) {a : Lx} (ok : a.Ok) {ws : List (List Nat × Bool)} (S : LexSt w g s.heap a 1 [] (textOf ws)) (hw : ∀ p ∈ ws, IsWord p.1) (hwl : ws.length = 7) {R : Result → Shared → Prop}
    (hQ : ∀ i h' tk T' W Nm Rd vw kw vn kn rv kr tn kb sv ks, Bs g h' ((T', { cls := .type "tuple", data := .seq #[.ref W, .ref Nm, .ref Rd] }) :: (W, listOf vw.toArray kw) :: (Nm, listOf vn.toArray kn) :: (Rd, listOf rv.toArray kr) :: a.news w 8 tn [] kb sv ks) → StrsAre sv [] →
      T' ∉ a.ads → W ∉ a.ads → Nm ∉ a.ads → Rd ∉ a.ads → StrsAre vw (ws.map fun p => mk p.1) → StrsAre vn ((namesTo (ws.map (·.1)) 7).map mk) → (runP dotsF (namesTo (ws.map (·.1)) 7) ((ws.map (·.1)).getD 0 []) i).length = i →
      StrsAre rv ((runP dotsF (namesTo (ws.map (·.1)) 7) ((ws.map (·.1)).getD 0 []) i).map mk) → R (.ok (.ret (.ref T'))) { s with heap := h', toks := tk }) :
    codeAny (model PP w) (Lv 315) (.call (.ref 116) ⟨[.ref a.x], []⟩) R s := by
  have G' := G
  obtain ⟨X, T⟩ := G
  have ok' := ok
  have hxl : (ws.map (·.1)).length = 7 := by rw [List.length_map, hwl]
  obtain ⟨nr, hns⟩ := names_head (ws.map (·.1)) 6
  have hnd := names_nodup (ws.map (·.1)) 7 (by omega)
  have hnw : ∀ x ∈ namesTo (ws.map (·.1)) 7, IsWord x := fun x hx => by
    rw [names_mem _ 7 (by omega)] at hx
    obtain ⟨p, hp, rfl⟩ := List.mem_map.mp (List.mem_of_mem_take hx)
    exact hw p hp
  have hnl := names_len (ws.map (·.1)) 7
  generalize hxs : ws.map (·.1) = xs at *
  generalize hn0 : xs.getD 0 [] = n0 at *
  have hwx : (ws.map fun p => mk p.1) = xs.map mk := by rw [← hxs, List.map_map]; rfl
  obtain ⟨tn, pb', kb, sv, ks, B, hp, hv⟩ := S
  cases hp
  (refine' code_ownCM (by assumption) (Top.nolimit (by assumption)) (by assumption) ?ho ?hcd ?hb ?hl ?hc ?_ ?hr ?h1 ?h2 ?h3; (case ho => k_is); (case hcd => k_is); (case hb => exact BindsTo.of_eq rfl); (case hl => exact rfl); (case hc => decide +kernel); (case hr => decide); (case h1 => exact rfl); (case h2 => exact rfl); (case h3 => exact rfl))
  intro L h₁ tk cells F N Y hlt
  have hl : @LT.lt Nat _ a.l L := hlt _ (.head _)
  obtain ⟨q1, q2, rfl, e1, e2⟩ := CellsAre.two Y
  clear Y
  replace e1 : q1.data = .cell none := e1
  replace e2 : q2.data = .cell (some (.ref a.x)) := e2
  k_lt hlt
  generalize bindL _ _ _ = m₁ at F
  refine wpAny_execs_cons ?_
  refine cut F _ (run_words G' ok' hl e1 e2 F N hv hw hwl) ?_
  clear F N e1
  rintro h2 tk2 m2 _ F N ⟨q1, W, vw, tn, kb, sv, ks, nl, rfl, e1, hvw, hnn, hv, offW⟩
  have aW : W ∉ a.ads := off_ads offW.2.2
  have hW1 : @Ne Nat (L + 1 + 1) W := offW.1
  have hW2 : @Ne Nat (L + 1) W := offW.2.1
  rw [hwx] at hvw
  dsimp only
  refine wpAny_execs_cons ?_
  refine cut F _ (run_names G' e1 hW1 F N hvw hxl (fun x hx => by rw [← hxs] at hx; obtain ⟨p, hp, rfl⟩ := List.mem_map.mp hx; exact (hw p hp).2.1)) ?_
  clear F N
  rintro h3 tk3 m3 _ F N ⟨Nm, vn, rfl, hvn, offN, hs3⟩
  have aN : Nm ∉ a.ads := off_ads offN.2.2.2
  have hN0 : @Ne Nat W Nm := offN.1
  have hN1 : @Ne Nat (L + 1 + 1) Nm := offN.2.1
  have hN2 : @Ne Nat (L + 1) Nm := offN.2.2.1
  have hvn0 := hvn
  rw [hns, List.map_cons] at hvn0
  obtain ⟨t0, vr, rfl⟩ : ∃ t0 vr, vn = .str (mk n0) t0 :: vr := by cases hvn0; exact ⟨_, _, rfl⟩
  generalize hkn : (Value.str (mk n0) t0 :: vr).length = kn at N
  replace F := frOver _ F hs3
  dsimp only
  ((try dsimp only); repeat' (first | (with_reducible refine wpAny_execs_cons ?_) | (with_reducible refine wpAny_execs_nil ?_) | (with_reducible refine wpAny_If ?_) | ((with_reducible show wpAny _ _ (PySem.truthy (Value.str _ _)) _ _ _); refine SBL.truthy (by omega) ?_) | ( (fail_if_success (with_reducible first | show LCg.CompSrc _ _ _ _ _ _ _ _ _ _ _ _ _ _ | show LCt.CompSrcT _ _ _ _ _ _ _ _ _ _ _ _ _ _ _ | show LCp.SrcLP _ _ _ _ _ _ _ _ _ _ _ _ _ _ _ | show LCg.CompEnd _ _ _ _ _ _ _ _ _ _ _ _ _ _ | show WEnd _ _ _ _ _ _ _ _ _ _ | show After _ _ _ _ _ _ _ _ _ | show TEnd _ _ _ _ _ _ _ _ _ | show TPost _ _ _ _ _ _ _ _ _ _ _ | show wpAny _ _ (eval (Expr.ListComp _ _ _ _) _) _ _ _ | show wpAny _ _ (exec (Stmt.For _ _ _ _ _) _) _ _ _ | show wpAny _ _ (exec (Stmt.While _ _ _ _) _) _ _ _ | show wpAny _ _ (exec (Stmt.Assign _ (Expr.ListComp _ _ _ _) _) _) _ _ _ | show wpAny _ _ (call (Value.builtin "str.join") _) _ _ _ | show wpAny _ _ (compareOp _ (Value.ref _) (Value.ref _)) _ _ _ | show wpAny _ _ (call (Value.ref _) _) _ _ _)); first | walk1 | (dsimp only; walk1))))
  rename Fr _ _ _ _ => F
  rename News _ _ _ _ => N
  rename _ ∧ _ ∧ _ ∧ _ ∧ _ ∧ _ ∧ _ ∧ _ ∧ _ ∧ _ ∧ _ ∧ _ ∧ _ => hPd
  rename Addr => Pd
  have aP : Pd ∉ a.ads := ads_of ok' (.inl hPd.2.2.2.2.1)
  have a1 : L + 1 ∉ a.ads := ads_of ok' (.inl (Nat.lt_succ_of_lt hl))
  have a2 : L + 1 + 1 ∉ a.ads := ads_of ok' (.inl (Nat.lt_succ_of_lt (Nat.lt_succ_of_lt hl)))
  have S : LexSt w g _ a (8 - (List.length nl : Int)) [] nl := ⟨_, _, _, _, _, (Bs.of N F).sub (fun p hp => .tail _ (.tail _ (.tail _ (.tail _ (.tail _ hp))))), .nil, hv⟩
  obtain ⟨g', G2, S3, back⟩ := lex_goA (rest := [(Pd, _), (Nm, _), (W, _), (L + 1 + 1, q1), (L + 1, q2)]) G' F (newsSub N sub5x) ok' S hl (by
    intro p hp
    simp only [List.mem_cons, List.not_mem_nil, or_false] at hp
    rcases hp with rfl | rfl | rfl | rfl | rfl <;> assumption)
  refine wpAny_call (weakenC (push_spec G2 ok' S3 (Nat.zero_le _) ?_))
  clear F N S
  intro h5 tk5 S4
  obtain ⟨F, N2, tn5, pb5, kb5, sv5, ks5, B5, hp5, hv5⟩ := back _ _ _ _ S4
  have N := newsApp N2 (lex_news ok' B5 hl)
  dsimp only [List.cons_append, List.nil_append] at N
  clear N2 B5 S4 S3 G2 back
  ((try dsimp only); repeat' (first | (with_reducible refine wpAny_execs_cons ?_) | (with_reducible refine wpAny_execs_nil ?_) | (with_reducible refine wpAny_If ?_) | ((with_reducible show wpAny _ _ (PySem.truthy (Value.str _ _)) _ _ _); refine SBL.truthy (by omega) ?_) | ( (fail_if_success (with_reducible first | show LCg.CompSrc _ _ _ _ _ _ _ _ _ _ _ _ _ _ | show LCt.CompSrcT _ _ _ _ _ _ _ _ _ _ _ _ _ _ _ | show LCp.SrcLP _ _ _ _ _ _ _ _ _ _ _ _ _ _ _ | show LCg.CompEnd _ _ _ _ _ _ _ _ _ _ _ _ _ _ | show WEnd _ _ _ _ _ _ _ _ _ _ | show After _ _ _ _ _ _ _ _ _ | show TEnd _ _ _ _ _ _ _ _ _ | show TPost _ _ _ _ _ _ _ _ _ _ _ | show wpAny _ _ (eval (Expr.ListComp _ _ _ _) _) _ _ _ | show wpAny _ _ (exec (Stmt.For _ _ _ _ _) _) _ _ _ | show wpAny _ _ (exec (Stmt.While _ _ _ _) _) _ _ _ | show wpAny _ _ (exec (Stmt.Assign _ (Expr.ListComp _ _ _ _) _) _) _ _ _ | show wpAny _ _ (call (Value.builtin "str.join") _) _ _ _ | show wpAny _ _ (compareOp _ (Value.ref _) (Value.ref _)) _ _ _ | show wpAny _ _ (call (Value.ref _) _) _ _ _)); first | walk1 | (dsimp only; walk1))))
  rename Fr _ _ _ _ => F
  rename News _ _ _ _ => N
  rename _ ∧ _ ∧ _ ∧ _ ∧ _ ∧ _ ∧ _ ∧ _ ∧ _ ∧ _ ∧ _ ∧ _ ∧ _ ∧ _ => hRd
  rename Addr => Rd
  have aR : Rd ∉ a.ads := ads_of ok' (.inl hRd.2.2.2.2.2.1)
  have S : LexSt w g _ a (8 - (List.length nl : Int)) [mk n0] nl := ⟨_, _, _, _, _, (Bs.of N F).sub (fun p hp => .tail _ (.tail _ (.tail _ (.tail _ (.tail _ (.tail _ hp)))))), hp5, hv5⟩
  obtain ⟨g', G2, S3, back⟩ := lex_goA (rest := [(Rd, _), (Pd, _), (Nm, _), (W, _), (L + 1 + 1, q1), (L + 1, q2)]) G' F (newsSub N sub6x) ok' S hl (by
    intro p hp
    simp only [List.mem_cons, List.not_mem_nil, or_false] at hp
    rcases hp with rfl | rfl | rfl | rfl | rfl | rfl <;> assumption)
  refine wpAny_call (weakenC (get_spec1 G2 ok' S3 (Nat.zero_le _) ?_))
  clear F N S hp5 hv5
  intro h6 tk6 t6 S4
  obtain ⟨F, N2, tn6, pb6, kb6, sv6, ks6, B6, hp6, hv6⟩ := back _ _ _ _ S4
  have N := newsApp N2 (lex_news ok' B6 hl)
  dsimp only [List.cons_append, List.nil_append] at N
  clear N2 B6 S4 S3 G2 back
  ((try dsimp only); repeat' (first | (with_reducible refine wpAny_execs_cons ?_) | (with_reducible refine wpAny_execs_nil ?_) | (with_reducible refine wpAny_If ?_) | ((with_reducible show wpAny _ _ (PySem.truthy (Value.str _ _)) _ _ _); refine SBL.truthy (by omega) ?_) | ( (fail_if_success (with_reducible first | show LCg.CompSrc _ _ _ _ _ _ _ _ _ _ _ _ _ _ | show LCt.CompSrcT _ _ _ _ _ _ _ _ _ _ _ _ _ _ _ | show LCp.SrcLP _ _ _ _ _ _ _ _ _ _ _ _ _ _ _ | show LCg.CompEnd _ _ _ _ _ _ _ _ _ _ _ _ _ _ | show WEnd _ _ _ _ _ _ _ _ _ _ | show After _ _ _ _ _ _ _ _ _ | show TEnd _ _ _ _ _ _ _ _ _ | show TPost _ _ _ _ _ _ _ _ _ _ _ | show wpAny _ _ (eval (Expr.ListComp _ _ _ _) _) _ _ _ | show wpAny _ _ (exec (Stmt.For _ _ _ _ _) _) _ _ _ | show wpAny _ _ (exec (Stmt.While _ _ _ _) _) _ _ _ | show wpAny _ _ (exec (Stmt.Assign _ (Expr.ListComp _ _ _ _) _) _) _ _ _ | show wpAny _ _ (call (Value.builtin "str.join") _) _ _ _ | show wpAny _ _ (compareOp _ (Value.ref _) (Value.ref _)) _ _ _ | show wpAny _ _ (call (Value.ref _) _) _ _ _)); first | walk1 | (dsimp only; walk1))))
  rename Fr _ _ _ _ => F
  rename News _ _ _ _ => N
  refine cut F _ (run_while G' ok' hl e2 (nl := nl) (rv := []) (pv := [.str (mk n0) t0]) (neN ?_) (neN ?_) (neN ?_) (neN ?_) (neN ?_) (neN ?_) (neN ?_) (neN ?_) (neN ?_) aP aR aN aW a1 a2 F N .nil (.cons _ _ .nil) hvn hp6 hv6 hnw hnd (by rw [hns]; exact .head _) hnl hnn ⟨rfl, rfl, rfl, rfl, trivial⟩) ?_
  all_goals try omega
  clear F N
  rintro h7 tk7 m7 _ F N ⟨i, rv, kr, po, kb7, sv7, ks7, tn7, rfl, hlen, hrv, hv7, hs7⟩
  replace F := frOver _ F hs7
  ((try dsimp only); repeat' (first | (with_reducible refine wpAny_execs_cons ?_) | (with_reducible refine wpAny_execs_nil ?_) | (with_reducible refine wpAny_If ?_) | ((with_reducible show wpAny _ _ (PySem.truthy (Value.str _ _)) _ _ _); refine SBL.truthy (by omega) ?_) | ( (fail_if_success (with_reducible first | show LCg.CompSrc _ _ _ _ _ _ _ _ _ _ _ _ _ _ | show LCt.CompSrcT _ _ _ _ _ _ _ _ _ _ _ _ _ _ _ | show LCp.SrcLP _ _ _ _ _ _ _ _ _ _ _ _ _ _ _ | show LCg.CompEnd _ _ _ _ _ _ _ _ _ _ _ _ _ _ | show WEnd _ _ _ _ _ _ _ _ _ _ | show After _ _ _ _ _ _ _ _ _ | show TEnd _ _ _ _ _ _ _ _ _ | show TPost _ _ _ _ _ _ _ _ _ _ _ | show wpAny _ _ (eval (Expr.ListComp _ _ _ _) _) _ _ _ | show wpAny _ _ (exec (Stmt.For _ _ _ _ _) _) _ _ _ | show wpAny _ _ (exec (Stmt.While _ _ _ _) _) _ _ _ | show wpAny _ _ (exec (Stmt.Assign _ (Expr.ListComp _ _ _ _) _) _) _ _ _ | show wpAny _ _ (call (Value.builtin "str.join") _) _ _ _ | show wpAny _ _ (compareOp _ (Value.ref _) (Value.ref _)) _ _ _ | show wpAny _ _ (call (Value.ref _) _) _ _ _)); first | walk1 | (dsimp only; walk1))))
  rename Fr _ _ _ _ => F
  rename News _ _ _ _ => N
  rename _ ∧ _ ∧ _ ∧ _ ∧ _ ∧ _ ∧ _ ∧ _ ∧ _ ∧ _ ∧ _ ∧ _ ∧ _ ∧ _ ∧ _ => hT
  rename Addr => T'
  have aT : T' ∉ a.ads := ads_of ok' (.inl hT.2.2.2.2.2.2.1)
  refine hQ i _ _ T' W Nm Rd vw 7 (.str (mk n0) t0 :: vr) kn rv kr tn7 kb7 sv7 ks7 ((Bs.of N F).sub ?_) hv7 aT aW aN aR (by rw [hwx]; exact hvw) hvn hlen hrv
  exact subFin
end
section
theorem outer_mono (al bl : List Nat) (mx mx' : Int) (hm : mx ≤ mx') : ∀ (n j : Nat) (row : List Int) (res : Int), outerGo al bl mx n j row res ≠ mx + 1 → outerGo al bl mx' n j row res = outerGo al bl mx n j row res := by
  intro n
  induction n with
  | zero => exact fun _ _ _ _ => rfl
  | succ n ih =>
    intro j row res h
    unfold outerGo at h ⊢
    dsimp only at h ⊢
    generalize (List.range al.length).foldl (innerF (bl.getD j 0) al) (row, (j : Int) * 2, (j : Int) * 2, 9223372036854775807) = st at *
    by_cases hc : st.2.2.2 > mx
    · rw [if_pos hc] at h; exact absurd rfl h
    · rw [if_neg hc] at h ⊢
      rw [if_neg (by omega)]
      exact ih (j + 1) _ _ h
theorem core_mono (x y : List Nat) (mx mx' : Int) (hm : mx ≤ mx') (h : coreF x y mx ≠ mx + 1) : coreF x y mx' = coreF x y mx := by
  unfold coreF at h ⊢
  by_cases hc : ((y.length : Int) - x.length) * 2 > mx
  · rw [if_pos hc] at h; exact absurd rfl h
  · rw [if_neg hc] at h ⊢
    rw [if_neg (by omega)]
    exact outer_mono x y mx mx' hm _ _ _ _ h
theorem lev_mono (a b : List Nat) (mx mx' : Int) (hm : mx ≤ mx') (h : levF a b mx ≠ mx + 1) : levF a b mx' = levF a b mx := by
  unfold levF at h ⊢
  by_cases h1 : a = b
  · rw [if_pos h1, if_pos h1]
  · rw [if_neg h1] at h ⊢
    rw [if_neg h1]
    dsimp only at h ⊢
    split
    · rfl
    · rename_i h2
      rw [if_neg h2] at h
      split
      · rename_i h3
        rw [if_pos h3] at h
        exact core_mono _ _ _ _ hm h
      · rename_i h3
        rw [if_neg h3] at h
        exact core_mono _ _ _ _ hm h
theorem near_facts {x y : List Nat} (hx : IsWord x) (hy : IsWord y) : dotsF x y = nearF x y ∧ decide (levF x y 2 ≤ 2) = nearF x y ∧ nearF x y = nearF y x := by
  have h := List.all_eq_true.mp (List.all_eq_true.mp all_near x (word_mem hx)) y (word_mem hy)
  simp only [Bool.and_eq_true, beq_iff_eq] at h
  exact ⟨h.1.1, h.1.2, h.2⟩
theorem price_self {x : List Nat} (hx : IsWord x) : priceF x x = 0 := (lev_pair (word_mem hx) (word_mem hx)).2.2 rfl
theorem lev_far {x y : List Nat} (hx : IsWord x) (hy : IsWord y) {mx : Int} (h : priceF x y ≤ mx) : levF x y mx = priceF x y ∧ levF y x mx = priceF x y := by
  obtain ⟨e1, e2, -⟩ := lev_pair (word_mem hx) (word_mem hy)
  constructor
  · rw [lev_mono x y _ _ h (by rw [e1]; omega), e1]
  · rw [lev_mono y x _ _ h (by rw [e2]; omega), e2]
theorem price_tri {x y z : List Nat} (hx : IsWord x) (hy : IsWord y) (hz : IsWord z) (h : nearF y z = true) : priceF x z ≤ priceF x y + 2 := tri_pair (word_mem hx) (word_mem hy) (word_mem hz) h
theorem word_abs2 {x : List Nat} (h : IsWord x) : Abs (mk x) := h.2.2
theorem word_len2 {x : List Nat} (h : IsWord x) : (mk x).length ≤ 3 := by rw [len_cl, cl_mk]; exact h.2.1
end
section
section
variable {prog : Program} {w : World} {A : Around} {hp₀ : Heap} {gn : Array GenState} {dr : Drawn} {tk₀ : Nat} {os : OsState} {env : Env} {h₀ : Heap}
/-- `for x in T: body` over a made tuple -/
theorem for_tup {L : Addr} {Q : Flow → Shared → Prop} {x : Str} {px : Pos} {body : List Stmt} {l : Addr} {vs : List Value} {m : Str → Option Value} {news : List (Addr × Obj)}
    (J : Nat → (Str → Option Value) → List (Addr × Obj) → Prop)
    (hh : A.handled = none)
    (hl : ∀ i m₁ news₁, J i m₁ news₁ → (l, ({ cls := .type "tuple", data := .seq vs.toArray } : Obj)) ∈ news₁)
    (hx : env.kindOf x = some .local)
    (hp : (env.scope.kind == .class || (env.scope.kind == .module && env.locals != env.globals)) = false)
    (F : Fr h₀ L hp₀ m) (N : News h₀ L hp₀ news) (h0 : J 0 m news)
    (turn : ∀ i v m₁ news₁ I h tk o, vs[i]? = some v → J i m₁ news₁ → (∀ p ∈ news₁, p.1 ≠ I) → Fr h₀ L h (fun y => if y = x then some v else m₁ y) → News h₀ L h ((I, o) :: news₁) →
      wpAny (model prog w) A (execs body env) (TPost h₀ L I o (J (i + 1)) gn dr os Q) (fun _ _ => False) ⟨h, gn, dr, tk, os⟩)
    (done : ∀ m₁ news₁ h tk, J vs.length m₁ news₁ → Fr h₀ L h m₁ → News h₀ L h news₁ → Q .next ⟨h, gn, dr, tk, os⟩) (hL : env.locals = L := by rfl) :
    wpAny (model prog w) A (pyIter (.ref l)) (fun it s₂ => codeAny (model prog w) A (.forLoop (.Name x px) it body [] env) (fun r s' => match r with | .ok f => Q f s' | .error _ => False) s₂) (fun _ _ => False) ⟨hp₀, gn, dr, tk₀, os⟩ := by
  subst hL
  have hls : hp₀.IsTuple l vs.toArray := ⟨_, (N _ (hl _ _ _ h0)).1, rfl, 0, rfl⟩
  obtain ⟨ol, hol, _⟩ := id hls
  have hlt : l < hp₀.objs.size := Heap.lt_size hol
  have hne : l ≠ hp₀.objs.size := Nat.ne_of_lt hlt
  refine wpAny_pyIter_tuple hls ?_
  have W := Walks.tuple (prog := prog) (w := w) hh hp₀.objs.size l hne vs.toArray
  refine loop_gen (hp₀ := hp₀.push _) (h₀ := h₀) (m := m) (news := news) (Q := Q) J W (fun i h st => ?_) ?_ hx hp ?_ ?_ ?_ ⟨⟨_, Heap.get?_push_size _ rfl, rfl, rfl⟩, hls.at fun o e => Heap.get?_push_of_some _ e⟩ (F.push _)
    (fun p hp => ⟨Heap.get?_push_of_some _ (N p hp).1, (N p hp).2⟩) h0 ?_ ?_ (fun f s' q => q)
  · obtain ⟨⟨o, e, _⟩, _⟩ := st
    exact ⟨o, e⟩
  · intro b hb hbI
    have hbl : b = l := by simpa [hbI] using hb
    subst hbl
    exact .inr ⟨(N _ (hl _ _ _ h0)).2.1, _, hl⟩
  · cases e : h₀.get? hp₀.objs.size with
    | none => rfl
    | some o => exact absurd (Heap.lt_size (F.keep _ _ e)) (Nat.lt_irrefl _)
  · exact Ne.symm (Nat.ne_of_lt F.ns.lt)
  · intro p hp
    exact Nat.ne_of_lt (Heap.lt_size (N p hp).1)
  · intro i v m₁ news₁ h tk o hi hP hJ hn F₁ N₁
    exact turn i v m₁ news₁ _ h tk o (by simpa using hP) hJ hn F₁ N₁
  · intro m₁ news₁ h tk hJ F₁ N₁
    exact done m₁ news₁ h tk (by simpa using hJ) F₁ N₁

end
inductive RowsIn (h : Heap) : List Value → List (List (List Nat)) → Prop
  | nil : RowsIn h [] []
  | cons {A : Addr} {vs : List Value} {row : List (List Nat)} {refs : List Value} {rs : List (List (List Nat))} : h.IsList A vs.toArray → StrsAre vs (row.map mk) → RowsIn h refs rs → RowsIn h (.ref A :: refs) (row :: rs)
theorem RowsIn.get {h : Heap} : ∀ {refs : List Value} {rs : List (List (List Nat))}, RowsIn h refs rs → ∀ {i : Nat}, i < rs.length → ∃ A vs row, refs[i]? = some (.ref A) ∧ rs[i]? = some row ∧ h.IsList A vs.toArray ∧ StrsAre vs (row.map mk) := by
  intro refs rs h
  induction h with
  | nil => exact fun hi => absurd hi (Nat.not_lt_zero _)
  | cons h1 h2 _ ih =>
    intro i hi
    cases i with
    | zero => exact ⟨_, _, _, rfl, rfl, h1, h2⟩
    | succ i => exact ih (i := i) (Nat.lt_of_succ_lt_succ hi)
theorem RowsIn.len {h : Heap} : ∀ {refs : List Value} {rs : List (List (List Nat))}, RowsIn h refs rs → refs.length = rs.length := by
  intro refs rs h
  induction h with
  | nil => rfl
  | cons _ _ _ ih => exact congrArg (· + 1) ih
theorem RowsIn.keep {h h' : Heap} (k : Kept h h') : ∀ {refs : List Value} {rs : List (List (List Nat))}, RowsIn h refs rs → RowsIn h' refs rs := by
  intro refs rs h
  induction h with
  | nil => exact .nil
  | cons h1 h2 _ ih => exact .cons (h1.at fun o e => k _ _ e) h2 ih
inductive ToJ (fst : List Nat) (ta : Tok) (Rs : Addr) (m' : Str → Option Value) (news' : List (Addr × Obj)) : Prop
  | mk (e : news' = []) (hs : Has m' [("first", .str (mk fst) ta), ("rounds", .ref Rs)])
inductive TiJ (fst : List Nat) (ta : Tok) (Rs I : Addr) (o : Obj) (r : Nat) (t : Tok) (m' : Str → Option Value) (news' : List (Addr × Obj)) : Prop
  | mk (e : news' = [(I, o)]) (hs : Has m' [("first", .str (mk fst) ta), ("rounds", .ref Rs), ("r", .int (r : Int) t)])
inductive TtJ (fst : List Nat) (ta : Tok) (Rs I I2 Tp : Addr) (o o2 : Obj) (r : Nat) (t t1 t2 tp : Tok) (n2 : Int) (m' : Str → Option Value) (news' : List (Addr × Obj)) : Prop
  | mk (e : news' = [(Tp, { cls := .type "tuple", data := .seq #[.int n2 t1, .int n2 t2] }), (I2, o2), (I, o)]) (hs : Has m' [("first", .str (mk fst) ta), ("rounds", .ref Rs), ("r", .int (r : Int) t), ("price", .int n2 tp)])
set_option maxRecDepth 100000 in
set_option maxHeartbeats 8000000 in
theorem told_spec {w : World} {mg mb : Str → Option Value} {mean : ExcName → Option Value} {s : Shared} (G : Cx w mg mb mean s.heap) {fst : List Nat} {ta : Tok} {Rs : Addr} {refs : List Value} {rs : List (List (List Nat))} {Q : Value → Shared → Prop} {E : Value → Shared → Prop}
    (hf : IsWord fst) (hl : s.heap.IsList Rs refs.toArray) (hr : RowsIn s.heap refs rs) (hlen : rs.length ≤ 9) (hfar : ∀ (r : Nat) (row : List (List Nat)), rs[r]? = some row → ∀ n ∈ row, IsWord n ∧ priceF fst n ≤ 2 * (r : Int))
    (hQ : ∀ h' tk, Kept s.heap h' → Q (.bool true) { s with heap := h', toks := tk }) :
    wpAny (model PP w) (Lv 315) (call (.ref 135) [.str (mk fst) ta, .ref Rs]) Q E s := by
  have G' := G
  obtain ⟨X, T⟩ := G
  (refine' call_own (by assumption) (Top.nolimit (by assumption)) ?ho ?hcd ?hb ?hl ?hc ?_ ?hr ?h1 ?h2 ?h3; (case ho => k_is); (case hcd => k_is); (case hb => exact BindsTo.of_eq rfl); (case hl => exact locs rfl); (case hc => decide); (case hr => decide); (case h1 => exact rfl); (case h2 => exact rfl); (case h3 => exact rfl))
  intro L h₁ tk F N
  replace F := frOver [("first", .str (mk fst) ta), ("rounds", .ref Rs)] F ⟨rfl, rfl, trivial⟩
  generalize (fun y => _ : Str → Option Value) = m₁ at F
  have hrl := RowsIn.len hr
  ((try dsimp only); repeat' (first | (with_reducible refine wpAny_execs_cons ?_) | (with_reducible refine wpAny_execs_nil ?_) | (with_reducible refine wpAny_If ?_) | ((with_reducible show wpAny _ _ (PySem.truthy (Value.str _ _)) _ _ _); refine SBL.truthy (by omega) ?_) | ( (fail_if_success (with_reducible first | show LCg.CompSrc _ _ _ _ _ _ _ _ _ _ _ _ _ _ | show LCt.CompSrcT _ _ _ _ _ _ _ _ _ _ _ _ _ _ _ | show LCp.SrcLP _ _ _ _ _ _ _ _ _ _ _ _ _ _ _ | show LCg.CompEnd _ _ _ _ _ _ _ _ _ _ _ _ _ _ | show WEnd _ _ _ _ _ _ _ _ _ _ | show After _ _ _ _ _ _ _ _ _ | show TEnd _ _ _ _ _ _ _ _ _ | show TPost _ _ _ _ _ _ _ _ _ _ _ | show wpAny _ _ (eval (Expr.ListComp _ _ _ _) _) _ _ _ | show wpAny _ _ (exec (Stmt.For _ _ _ _ _) _) _ _ _ | show wpAny _ _ (exec (Stmt.While _ _ _ _) _) _ _ _ | show wpAny _ _ (exec (Stmt.Assign _ (Expr.ListComp _ _ _ _) _) _) _ _ _ | show wpAny _ _ (call (Value.builtin "str.join") _) _ _ _ | show wpAny _ _ (compareOp _ (Value.ref _) (Value.ref _)) _ _ _ | show wpAny _ _ (call (Value.ref _) _) _ _ _)); first | walk1 | (dsimp only; walk1))))
  refine for_in ?_
  ((try dsimp only); repeat' (first | (with_reducible refine wpAny_execs_cons ?_) | (with_reducible refine wpAny_execs_nil ?_) | (with_reducible refine wpAny_If ?_) | ((with_reducible show wpAny _ _ (PySem.truthy (Value.str _ _)) _ _ _); refine SBL.truthy (by omega) ?_) | ( (fail_if_success (with_reducible first | show LCg.CompSrc _ _ _ _ _ _ _ _ _ _ _ _ _ _ | show LCt.CompSrcT _ _ _ _ _ _ _ _ _ _ _ _ _ _ _ | show LCp.SrcLP _ _ _ _ _ _ _ _ _ _ _ _ _ _ _ | show LCg.CompEnd _ _ _ _ _ _ _ _ _ _ _ _ _ _ | show WEnd _ _ _ _ _ _ _ _ _ _ | show After _ _ _ _ _ _ _ _ _ | show TEnd _ _ _ _ _ _ _ _ _ | show TPost _ _ _ _ _ _ _ _ _ _ _ | show wpAny _ _ (eval (Expr.ListComp _ _ _ _) _) _ _ _ | show wpAny _ _ (exec (Stmt.For _ _ _ _ _) _) _ _ _ | show wpAny _ _ (exec (Stmt.While _ _ _ _) _) _ _ _ | show wpAny _ _ (exec (Stmt.Assign _ (Expr.ListComp _ _ _ _) _) _) _ _ _ | show wpAny _ _ (call (Value.builtin "str.join") _) _ _ _ | show wpAny _ _ (compareOp _ (Value.ref _) (Value.ref _)) _ _ _ | show wpAny _ _ (call (Value.ref _) _) _ _ _)); first | walk1 | (dsimp only; walk1))))
  refine len_list (hl.at fun o e => F.keep _ _ e) (by rw [List.size_toArray]; omega) ?_
  rw [List.size_toArray]
  ((try dsimp only); repeat' (first | (with_reducible refine wpAny_execs_cons ?_) | (with_reducible refine wpAny_execs_nil ?_) | (with_reducible refine wpAny_If ?_) | ((with_reducible show wpAny _ _ (PySem.truthy (Value.str _ _)) _ _ _); refine SBL.truthy (by omega) ?_) | ( (fail_if_success (with_reducible first | show LCg.CompSrc _ _ _ _ _ _ _ _ _ _ _ _ _ _ | show LCt.CompSrcT _ _ _ _ _ _ _ _ _ _ _ _ _ _ _ | show LCp.SrcLP _ _ _ _ _ _ _ _ _ _ _ _ _ _ _ | show LCg.CompEnd _ _ _ _ _ _ _ _ _ _ _ _ _ _ | show WEnd _ _ _ _ _ _ _ _ _ _ | show After _ _ _ _ _ _ _ _ _ | show TEnd _ _ _ _ _ _ _ _ _ | show TPost _ _ _ _ _ _ _ _ _ _ _ | show wpAny _ _ (eval (Expr.ListComp _ _ _ _) _) _ _ _ | show wpAny _ _ (exec (Stmt.For _ _ _ _ _) _) _ _ _ | show wpAny _ _ (exec (Stmt.While _ _ _ _) _) _ _ _ | show wpAny _ _ (exec (Stmt.Assign _ (Expr.ListComp _ _ _ _) _) _) _ _ _ | show wpAny _ _ (call (Value.builtin "str.join") _) _ _ _ | show wpAny _ _ (compareOp _ (Value.ref _) (Value.ref _)) _ _ _ | show wpAny _ _ (call (Value.ref _) _) _ _ _)); first | walk1 | (dsimp only; walk1))))
  rename IsRange _ _ _ _ _ _ _ _ => hR
  rename Fr _ _ _ _ => F
  rename News _ _ _ _ => N
  refine for_range (n := rs.length) (fun _ => ToJ fst ta Rs)
    rfl hR (small_one (by omega) (by omega) (by omega) (by omega)) (by rw [rangeSize_nat]; omega) rfl rfl F N ?_ ?_ ?_ <;> clear F N hR
  · exact ⟨rfl, ⟨rfl, rfl, trivial⟩⟩
  · rintro r t m₁ _ I h tk o hr' ⟨rfl, hs⟩ hne F N
    replace F := frOverX _ F hs
    rw [Int.zero_add] at F
    obtain ⟨A, vs, row, hA, hrow, hlA, hvA⟩ := hr.get hr'
    have hfr := hfar r row hrow
    ((try dsimp only); repeat' (first | (with_reducible refine wpAny_execs_cons ?_) | (with_reducible refine wpAny_execs_nil ?_) | (with_reducible refine wpAny_If ?_) | ((with_reducible show wpAny _ _ (PySem.truthy (Value.str _ _)) _ _ _); refine SBL.truthy (by omega) ?_) | ( (fail_if_success (with_reducible first | show LCg.CompSrc _ _ _ _ _ _ _ _ _ _ _ _ _ _ | show LCt.CompSrcT _ _ _ _ _ _ _ _ _ _ _ _ _ _ _ | show LCp.SrcLP _ _ _ _ _ _ _ _ _ _ _ _ _ _ _ | show LCg.CompEnd _ _ _ _ _ _ _ _ _ _ _ _ _ _ | show WEnd _ _ _ _ _ _ _ _ _ _ | show After _ _ _ _ _ _ _ _ _ | show TEnd _ _ _ _ _ _ _ _ _ | show TPost _ _ _ _ _ _ _ _ _ _ _ | show wpAny _ _ (eval (Expr.ListComp _ _ _ _) _) _ _ _ | show wpAny _ _ (exec (Stmt.For _ _ _ _ _) _) _ _ _ | show wpAny _ _ (exec (Stmt.While _ _ _ _) _) _ _ _ | show wpAny _ _ (exec (Stmt.Assign _ (Expr.ListComp _ _ _ _) _) _) _ _ _ | show wpAny _ _ (call (Value.builtin "str.join") _) _ _ _ | show wpAny _ _ (compareOp _ (Value.ref _) (Value.ref _)) _ _ _ | show wpAny _ _ (call (Value.ref _) _) _ _ _)); first | walk1 | (dsimp only; walk1))))
    refine for_in ?_
    ((try dsimp only); repeat' (first | (with_reducible refine wpAny_execs_cons ?_) | (with_reducible refine wpAny_execs_nil ?_) | (with_reducible refine wpAny_If ?_) | ((with_reducible show wpAny _ _ (PySem.truthy (Value.str _ _)) _ _ _); refine SBL.truthy (by omega) ?_) | ( (fail_if_success (with_reducible first | show LCg.CompSrc _ _ _ _ _ _ _ _ _ _ _ _ _ _ | show LCt.CompSrcT _ _ _ _ _ _ _ _ _ _ _ _ _ _ _ | show LCp.SrcLP _ _ _ _ _ _ _ _ _ _ _ _ _ _ _ | show LCg.CompEnd _ _ _ _ _ _ _ _ _ _ _ _ _ _ | show WEnd _ _ _ _ _ _ _ _ _ _ | show After _ _ _ _ _ _ _ _ _ | show TEnd _ _ _ _ _ _ _ _ _ | show TPost _ _ _ _ _ _ _ _ _ _ _ | show wpAny _ _ (eval (Expr.ListComp _ _ _ _) _) _ _ _ | show wpAny _ _ (exec (Stmt.For _ _ _ _ _) _) _ _ _ | show wpAny _ _ (exec (Stmt.While _ _ _ _) _) _ _ _ | show wpAny _ _ (exec (Stmt.Assign _ (Expr.ListComp _ _ _ _) _) _) _ _ _ | show wpAny _ _ (call (Value.builtin "str.join") _) _ _ _ | show wpAny _ _ (compareOp _ (Value.ref _) (Value.ref _)) _ _ _ | show wpAny _ _ (call (Value.ref _) _) _ _ _)); first | walk1 | (dsimp only; walk1))))
    refine item_list (hl.at fun o e => Fr.keep (by assumption) _ _ e) (by omega) (by omega) (x := .ref A) (by rw [Int.toNat_natCast]; simpa using hA) ?_
    refine for_list (h₀ := s.heap) (vs := vs) (fun _ => TiJ fst ta Rs I o r t) rfl (.inl hlA) rfl rfl F N ?_ ?_ ?_ <;> clear F N
    · exact ⟨rfl, ⟨rfl, rfl, rfl, trivial⟩⟩
    · rintro j v m₂ _ I2 h2 tk2 o2 hv ⟨rfl, hs2⟩ hne2 F N
      replace F := frOverX _ F hs2
      obtain ⟨z, tz, rfl, hz⟩ := StrsAre.mem hvA hv
      rw [List.getElem?_map] at hz
      obtain ⟨nm, hnm, rfl⟩ := Option.map_eq_some_iff.mp hz
      obtain ⟨hIs, hpr⟩ := hfr nm (List.mem_of_getElem? hnm)
      have i1 : @Ne Nat I I2 := hne2 _ (.head _)
      ((try dsimp only); repeat' (first | (with_reducible refine wpAny_execs_cons ?_) | (with_reducible refine wpAny_execs_nil ?_) | (with_reducible refine wpAny_If ?_) | ((with_reducible show wpAny _ _ (PySem.truthy (Value.str _ _)) _ _ _); refine SBL.truthy (by omega) ?_) | ( (fail_if_success (with_reducible first | show LCg.CompSrc _ _ _ _ _ _ _ _ _ _ _ _ _ _ | show LCt.CompSrcT _ _ _ _ _ _ _ _ _ _ _ _ _ _ _ | show LCp.SrcLP _ _ _ _ _ _ _ _ _ _ _ _ _ _ _ | show LCg.CompEnd _ _ _ _ _ _ _ _ _ _ _ _ _ _ | show WEnd _ _ _ _ _ _ _ _ _ _ | show After _ _ _ _ _ _ _ _ _ | show TEnd _ _ _ _ _ _ _ _ _ | show TPost _ _ _ _ _ _ _ _ _ _ _ | show wpAny _ _ (eval (Expr.ListComp _ _ _ _) _) _ _ _ | show wpAny _ _ (exec (Stmt.For _ _ _ _ _) _) _ _ _ | show wpAny _ _ (exec (Stmt.While _ _ _ _) _) _ _ _ | show wpAny _ _ (exec (Stmt.Assign _ (Expr.ListComp _ _ _ _) _) _) _ _ _ | show wpAny _ _ (call (Value.builtin "str.join") _) _ _ _ | show wpAny _ _ (compareOp _ (Value.ref _) (Value.ref _)) _ _ _ | show wpAny _ _ (call (Value.ref _) _) _ _ _)); first | walk1 | (dsimp only; walk1))))
      refine weaken (price_spec (Cx.keeps G' F.keep) (word_len2 hf) (word_len2 hIs) (word_abs2 hf) (word_abs2 hIs) ?_)
      intro pv tp h3 tk3 hpv hk
      rw [cl_mk, cl_mk] at hpv
      obtain ⟨hl1, hl2⟩ := lev_far hf hIs hpr
      rw [← hpv] at hl1 hl2 hpr
      replace F := frKept F hk
      replace N := newsKept N hk
      clear hk
      ((try dsimp only); repeat' (first | (with_reducible refine wpAny_execs_cons ?_) | (with_reducible refine wpAny_execs_nil ?_) | (with_reducible refine wpAny_If ?_) | ((with_reducible show wpAny _ _ (PySem.truthy (Value.str _ _)) _ _ _); refine SBL.truthy (by omega) ?_) | ( (fail_if_success (with_reducible first | show LCg.CompSrc _ _ _ _ _ _ _ _ _ _ _ _ _ _ | show LCt.CompSrcT _ _ _ _ _ _ _ _ _ _ _ _ _ _ _ | show LCp.SrcLP _ _ _ _ _ _ _ _ _ _ _ _ _ _ _ | show LCg.CompEnd _ _ _ _ _ _ _ _ _ _ _ _ _ _ | show WEnd _ _ _ _ _ _ _ _ _ _ | show After _ _ _ _ _ _ _ _ _ | show TEnd _ _ _ _ _ _ _ _ _ | show TPost _ _ _ _ _ _ _ _ _ _ _ | show wpAny _ _ (eval (Expr.ListComp _ _ _ _) _) _ _ _ | show wpAny _ _ (exec (Stmt.For _ _ _ _ _) _) _ _ _ | show wpAny _ _ (exec (Stmt.While _ _ _ _) _) _ _ _ | show wpAny _ _ (exec (Stmt.Assign _ (Expr.ListComp _ _ _ _) _) _) _ _ _ | show wpAny _ _ (call (Value.builtin "str.join") _) _ _ _ | show wpAny _ _ (compareOp _ (Value.ref _) (Value.ref _)) _ _ _ | show wpAny _ _ (call (Value.ref _) _) _ _ _)); first | walk1 | (dsimp only; walk1))))
      rename Fr _ _ _ _ => F
      rename News _ _ _ _ => N
      refine for_in ?_
      ((try dsimp only); repeat' (first | (with_reducible refine wpAny_execs_cons ?_) | (with_reducible refine wpAny_execs_nil ?_) | (with_reducible refine wpAny_If ?_) | ((with_reducible show wpAny _ _ (PySem.truthy (Value.str _ _)) _ _ _); refine SBL.truthy (by omega) ?_) | ( (fail_if_success (with_reducible first | show LCg.CompSrc _ _ _ _ _ _ _ _ _ _ _ _ _ _ | show LCt.CompSrcT _ _ _ _ _ _ _ _ _ _ _ _ _ _ _ | show LCp.SrcLP _ _ _ _ _ _ _ _ _ _ _ _ _ _ _ | show LCg.CompEnd _ _ _ _ _ _ _ _ _ _ _ _ _ _ | show WEnd _ _ _ _ _ _ _ _ _ _ | show After _ _ _ _ _ _ _ _ _ | show TEnd _ _ _ _ _ _ _ _ _ | show TPost _ _ _ _ _ _ _ _ _ _ _ | show wpAny _ _ (eval (Expr.ListComp _ _ _ _) _) _ _ _ | show wpAny _ _ (exec (Stmt.For _ _ _ _ _) _) _ _ _ | show wpAny _ _ (exec (Stmt.While _ _ _ _) _) _ _ _ | show wpAny _ _ (exec (Stmt.Assign _ (Expr.ListComp _ _ _ _) _) _) _ _ _ | show wpAny _ _ (call (Value.builtin "str.join") _) _ _ _ | show wpAny _ _ (compareOp _ (Value.ref _) (Value.ref _)) _ _ _ | show wpAny _ _ (call (Value.ref _) _) _ _ _)); first | walk1 | (dsimp only; walk1))))
      refine weaken (lev_spec (Cx.keeps G' F.keep) (word_len2 hf) (word_len2 hIs) (word_abs2 hf) (word_abs2 hIs) (by omega) (by omega) ?_)
      intro n1 t1 h4 tk4 hn1 hk
      rw [cl_mk, cl_mk, hl1] at hn1
      subst hn1
      replace F := frKept F hk
      replace N := newsKept N hk
      clear hk
      ((try dsimp only); repeat' (first | (with_reducible refine wpAny_execs_cons ?_) | (with_reducible refine wpAny_execs_nil ?_) | (with_reducible refine wpAny_If ?_) | ((with_reducible show wpAny _ _ (PySem.truthy (Value.str _ _)) _ _ _); refine SBL.truthy (by omega) ?_) | ( (fail_if_success (with_reducible first | show LCg.CompSrc _ _ _ _ _ _ _ _ _ _ _ _ _ _ | show LCt.CompSrcT _ _ _ _ _ _ _ _ _ _ _ _ _ _ _ | show LCp.SrcLP _ _ _ _ _ _ _ _ _ _ _ _ _ _ _ | show LCg.CompEnd _ _ _ _ _ _ _ _ _ _ _ _ _ _ | show WEnd _ _ _ _ _ _ _ _ _ _ | show After _ _ _ _ _ _ _ _ _ | show TEnd _ _ _ _ _ _ _ _ _ | show TPost _ _ _ _ _ _ _ _ _ _ _ | show wpAny _ _ (eval (Expr.ListComp _ _ _ _) _) _ _ _ | show wpAny _ _ (exec (Stmt.For _ _ _ _ _) _) _ _ _ | show wpAny _ _ (exec (Stmt.While _ _ _ _) _) _ _ _ | show wpAny _ _ (exec (Stmt.Assign _ (Expr.ListComp _ _ _ _) _) _) _ _ _ | show wpAny _ _ (call (Value.builtin "str.join") _) _ _ _ | show wpAny _ _ (compareOp _ (Value.ref _) (Value.ref _)) _ _ _ | show wpAny _ _ (call (Value.ref _) _) _ _ _)); first | walk1 | (dsimp only; walk1))))
      refine weaken (lev_spec (Cx.keeps G' (Fr.keep (by assumption))) (word_len2 hIs) (word_len2 hf) (word_abs2 hIs) (word_abs2 hf) (by omega) (by omega) ?_)
      intro n2 t2 h5 tk5 hn2 hk
      rw [cl_mk, cl_mk, hl2] at hn2
      subst hn2
      replace F := frKept F hk
      replace N := newsKept N hk
      clear hk
      ((try dsimp only); repeat' (first | (with_reducible refine wpAny_execs_cons ?_) | (with_reducible refine wpAny_execs_nil ?_) | (with_reducible refine wpAny_If ?_) | ((with_reducible show wpAny _ _ (PySem.truthy (Value.str _ _)) _ _ _); refine SBL.truthy (by omega) ?_) | ( (fail_if_success (with_reducible first | show LCg.CompSrc _ _ _ _ _ _ _ _ _ _ _ _ _ _ | show LCt.CompSrcT _ _ _ _ _ _ _ _ _ _ _ _ _ _ _ | show LCp.SrcLP _ _ _ _ _ _ _ _ _ _ _ _ _ _ _ | show LCg.CompEnd _ _ _ _ _ _ _ _ _ _ _ _ _ _ | show WEnd _ _ _ _ _ _ _ _ _ _ | show After _ _ _ _ _ _ _ _ _ | show TEnd _ _ _ _ _ _ _ _ _ | show TPost _ _ _ _ _ _ _ _ _ _ _ | show wpAny _ _ (eval (Expr.ListComp _ _ _ _) _) _ _ _ | show wpAny _ _ (exec (Stmt.For _ _ _ _ _) _) _ _ _ | show wpAny _ _ (exec (Stmt.While _ _ _ _) _) _ _ _ | show wpAny _ _ (exec (Stmt.Assign _ (Expr.ListComp _ _ _ _) _) _) _ _ _ | show wpAny _ _ (call (Value.builtin "str.join") _) _ _ _ | show wpAny _ _ (compareOp _ (Value.ref _) (Value.ref _)) _ _ _ | show wpAny _ _ (call (Value.ref _) _) _ _ _)); first | walk1 | (dsimp only; walk1))))
      rename Fr _ _ _ _ => F
      rename News _ _ _ _ => N
      rename Addr => Tp
      refine for_tup (h₀ := s.heap) (vs := [.int n2 t1, .int n2 t2]) (fun _ => TtJ fst ta Rs I I2 Tp o o2 r t t1 t2 tp n2) rfl (by rintro i m₁ _ ⟨rfl, _⟩; k_mem) rfl rfl F N ?_ ?_ ?_ <;> clear F N
      · exact ⟨rfl, ⟨rfl, rfl, rfl, rfl, trivial⟩⟩
      · rintro i v m₃ _ I3 h6 tk6 o3 hv3 ⟨rfl, hs3⟩ hne3 F N
        obtain ⟨t6, rfl⟩ : ∃ t6, v = .int n2 t6 := by
          rcases i with _ | _ | i
          · exact ⟨t1, by simpa using hv3.symm⟩
          · exact ⟨t2, by simpa using hv3.symm⟩
          · simp at hv3
        replace F := frOverX _ F hs3
        ((try dsimp only); repeat' (first | (with_reducible refine wpAny_execs_cons ?_) | (with_reducible refine wpAny_execs_nil ?_) | (with_reducible refine wpAny_If ?_) | ((with_reducible show wpAny _ _ (PySem.truthy (Value.str _ _)) _ _ _); refine SBL.truthy (by omega) ?_) | ( (fail_if_success (with_reducible first | show LCg.CompSrc _ _ _ _ _ _ _ _ _ _ _ _ _ _ | show LCt.CompSrcT _ _ _ _ _ _ _ _ _ _ _ _ _ _ _ | show LCp.SrcLP _ _ _ _ _ _ _ _ _ _ _ _ _ _ _ | show LCg.CompEnd _ _ _ _ _ _ _ _ _ _ _ _ _ _ | show WEnd _ _ _ _ _ _ _ _ _ _ | show After _ _ _ _ _ _ _ _ _ | show TEnd _ _ _ _ _ _ _ _ _ | show TPost _ _ _ _ _ _ _ _ _ _ _ | show wpAny _ _ (eval (Expr.ListComp _ _ _ _) _) _ _ _ | show wpAny _ _ (exec (Stmt.For _ _ _ _ _) _) _ _ _ | show wpAny _ _ (exec (Stmt.While _ _ _ _) _) _ _ _ | show wpAny _ _ (exec (Stmt.Assign _ (Expr.ListComp _ _ _ _) _) _) _ _ _ | show wpAny _ _ (call (Value.builtin "str.join") _) _ _ _ | show wpAny _ _ (compareOp _ (Value.ref _) (Value.ref _)) _ _ _ | show wpAny _ _ (call (Value.ref _) _) _ _ _)); first | walk1 | (dsimp only; walk1))))
        · exact absurd rfl ‹n2 ≠ n2›
        · exact TEnd.intro [(Tp, _), (I2, o2), (I, o)] F N (by intro p hp; exact hp) (fun p hp => hne3 p hp) ⟨rfl, ⟨rfl, rfl, rfl, rfl, trivial⟩⟩
      · rintro m₃ _ h6 tk6 ⟨rfl, hs3⟩ F N
        ((try dsimp only); repeat' (first | (with_reducible refine wpAny_execs_cons ?_) | (with_reducible refine wpAny_execs_nil ?_) | (with_reducible refine wpAny_If ?_) | ((with_reducible show wpAny _ _ (PySem.truthy (Value.str _ _)) _ _ _); refine SBL.truthy (by omega) ?_) | ( (fail_if_success (with_reducible first | show LCg.CompSrc _ _ _ _ _ _ _ _ _ _ _ _ _ _ | show LCt.CompSrcT _ _ _ _ _ _ _ _ _ _ _ _ _ _ _ | show LCp.SrcLP _ _ _ _ _ _ _ _ _ _ _ _ _ _ _ | show LCg.CompEnd _ _ _ _ _ _ _ _ _ _ _ _ _ _ | show WEnd _ _ _ _ _ _ _ _ _ _ | show After _ _ _ _ _ _ _ _ _ | show TEnd _ _ _ _ _ _ _ _ _ | show TPost _ _ _ _ _ _ _ _ _ _ _ | show wpAny _ _ (eval (Expr.ListComp _ _ _ _) _) _ _ _ | show wpAny _ _ (exec (Stmt.For _ _ _ _ _) _) _ _ _ | show wpAny _ _ (exec (Stmt.While _ _ _ _) _) _ _ _ | show wpAny _ _ (exec (Stmt.Assign _ (Expr.ListComp _ _ _ _) _) _) _ _ _ | show wpAny _ _ (call (Value.builtin "str.join") _) _ _ _ | show wpAny _ _ (compareOp _ (Value.ref _) (Value.ref _)) _ _ _ | show wpAny _ _ (call (Value.ref _) _) _ _ _)); first | walk1 | (dsimp only; walk1))))
        exact TEnd.intro [(I, o)] F N (by intro p hp; exact .tail _ hp) (by intro p hp; rw [List.mem_singleton.mp hp]; exact i1) ⟨rfl, ⟨hs3.1, hs3.2.1, hs3.2.2.1, trivial⟩⟩
    · rintro m₂ _ h2 tk2 ⟨rfl, hs2⟩ F N
      replace F := frOver _ F hs2
      ((try dsimp only); repeat' (first | (with_reducible refine wpAny_execs_cons ?_) | (with_reducible refine wpAny_execs_nil ?_) | (with_reducible refine wpAny_If ?_) | ((with_reducible show wpAny _ _ (PySem.truthy (Value.str _ _)) _ _ _); refine SBL.truthy (by omega) ?_) | ( (fail_if_success (with_reducible first | show LCg.CompSrc _ _ _ _ _ _ _ _ _ _ _ _ _ _ | show LCt.CompSrcT _ _ _ _ _ _ _ _ _ _ _ _ _ _ _ | show LCp.SrcLP _ _ _ _ _ _ _ _ _ _ _ _ _ _ _ | show LCg.CompEnd _ _ _ _ _ _ _ _ _ _ _ _ _ _ | show WEnd _ _ _ _ _ _ _ _ _ _ | show After _ _ _ _ _ _ _ _ _ | show TEnd _ _ _ _ _ _ _ _ _ | show TPost _ _ _ _ _ _ _ _ _ _ _ | show wpAny _ _ (eval (Expr.ListComp _ _ _ _) _) _ _ _ | show wpAny _ _ (exec (Stmt.For _ _ _ _ _) _) _ _ _ | show wpAny _ _ (exec (Stmt.While _ _ _ _) _) _ _ _ | show wpAny _ _ (exec (Stmt.Assign _ (Expr.ListComp _ _ _ _) _) _) _ _ _ | show wpAny _ _ (call (Value.builtin "str.join") _) _ _ _ | show wpAny _ _ (compareOp _ (Value.ref _) (Value.ref _)) _ _ _ | show wpAny _ _ (call (Value.ref _) _) _ _ _)); first | walk1 | (dsimp only; walk1))))
      exact TEnd.intro [] F N (by intro p hp; exact hp) (fun p hp => nomatch hp) ⟨rfl, ⟨rfl, rfl, trivial⟩⟩
  · rintro m₁ _ h tk ⟨rfl, hs⟩ F N
    replace F := frOver _ F hs
    ((try dsimp only); repeat' (first | (with_reducible refine wpAny_execs_cons ?_) | (with_reducible refine wpAny_execs_nil ?_) | (with_reducible refine wpAny_If ?_) | ((with_reducible show wpAny _ _ (PySem.truthy (Value.str _ _)) _ _ _); refine SBL.truthy (by omega) ?_) | ( (fail_if_success (with_reducible first | show LCg.CompSrc _ _ _ _ _ _ _ _ _ _ _ _ _ _ | show LCt.CompSrcT _ _ _ _ _ _ _ _ _ _ _ _ _ _ _ | show LCp.SrcLP _ _ _ _ _ _ _ _ _ _ _ _ _ _ _ | show LCg.CompEnd _ _ _ _ _ _ _ _ _ _ _ _ _ _ | show WEnd _ _ _ _ _ _ _ _ _ _ | show After _ _ _ _ _ _ _ _ _ | show TEnd _ _ _ _ _ _ _ _ _ | show TPost _ _ _ _ _ _ _ _ _ _ _ | show wpAny _ _ (eval (Expr.ListComp _ _ _ _) _) _ _ _ | show wpAny _ _ (exec (Stmt.For _ _ _ _ _) _) _ _ _ | show wpAny _ _ (exec (Stmt.While _ _ _ _) _) _ _ _ | show wpAny _ _ (exec (Stmt.Assign _ (Expr.ListComp _ _ _ _) _) _) _ _ _ | show wpAny _ _ (call (Value.builtin "str.join") _) _ _ _ | show wpAny _ _ (compareOp _ (Value.ref _) (Value.ref _)) _ _ _ | show wpAny _ _ (call (Value.ref _) _) _ _ _)); first | walk1 | (dsimp only; walk1))))
    exact hQ _ _ F.keep
end
section
theorem bne_no {b : Bool} {P : Prop} (h : (b != b) = true) : P := by cases b <;> cases h
theorem bne_ne {a b : Bool} {P : Prop} (e : a = b) (h : (a != b) = true) : P := by subst e; cases a <;> cases h
inductive JoJ (Nm : Addr) (m' : Str → Option Value) (news' : List (Addr × Obj)) : Prop
  | mk (e : news' = []) (hs : Has m' [("names", .ref Nm)])
inductive JiJ (Nm Sl I : Addr) (o : Obj) (vn : List Value) (k : Nat) (t : Tok) (m' : Str → Option Value) (news' : List (Addr × Obj)) : Prop
  | mk (e : news' = [(Sl, listOf (vn.take k).toArray 0), (I, o)]) (hs : Has m' [("names", .ref Nm), ("k", .int (k : Int) t)])
set_option maxRecDepth 100000 in
set_option maxHeartbeats 8000000 in
theorem judged_spec {w : World} {mg mb : Str → Option Value} {mean : ExcName → Option Value} {s : Shared} (G : Cx w mg mb mean s.heap) {Nm : Addr} {vn : List Value} {ns : List (List Nat)} {Q : Value → Shared → Prop} {E : Value → Shared → Prop}
    (hl : s.heap.IsList Nm vn.toArray) (hv : StrsAre vn (ns.map mk)) (hw : ∀ x ∈ ns, IsWord x) (hlen : ns.length ≤ 9)
    (hQ : ∀ h' tk, Kept s.heap h' → Q (.bool true) { s with heap := h', toks := tk }) :
    wpAny (model PP w) (Lv 315) (call (.ref 128) [.ref Nm]) Q E s := by
  have G' := G
  obtain ⟨X, T⟩ := G
  (refine' call_own (by assumption) (Top.nolimit (by assumption)) ?ho ?hcd ?hb ?hl ?hc ?_ ?hr ?h1 ?h2 ?h3; (case ho => k_is); (case hcd => k_is); (case hb => exact BindsTo.of_eq rfl); (case hl => exact locs rfl); (case hc => decide); (case hr => decide); (case h1 => exact rfl); (case h2 => exact rfl); (case h3 => exact rfl))
  intro L h₁ tk F N
  replace F := frOver [("names", .ref Nm)] F ⟨rfl, trivial⟩
  generalize (fun y => _ : Str → Option Value) = m₁ at F
  have hvl : vn.length = ns.length := by rw [StrsAre.len hv, List.length_map]
  ((try dsimp only); repeat' (first | (with_reducible refine wpAny_execs_cons ?_) | (with_reducible refine wpAny_execs_nil ?_) | (with_reducible refine wpAny_If ?_) | ((with_reducible show wpAny _ _ (PySem.truthy (Value.str _ _)) _ _ _); refine SBL.truthy (by omega) ?_) | ( (fail_if_success (with_reducible first | show LCg.CompSrc _ _ _ _ _ _ _ _ _ _ _ _ _ _ | show LCt.CompSrcT _ _ _ _ _ _ _ _ _ _ _ _ _ _ _ | show LCp.SrcLP _ _ _ _ _ _ _ _ _ _ _ _ _ _ _ | show LCg.CompEnd _ _ _ _ _ _ _ _ _ _ _ _ _ _ | show WEnd _ _ _ _ _ _ _ _ _ _ | show After _ _ _ _ _ _ _ _ _ | show TEnd _ _ _ _ _ _ _ _ _ | show TPost _ _ _ _ _ _ _ _ _ _ _ | show wpAny _ _ (eval (Expr.ListComp _ _ _ _) _) _ _ _ | show wpAny _ _ (exec (Stmt.For _ _ _ _ _) _) _ _ _ | show wpAny _ _ (exec (Stmt.While _ _ _ _) _) _ _ _ | show wpAny _ _ (exec (Stmt.Assign _ (Expr.ListComp _ _ _ _) _) _) _ _ _ | show wpAny _ _ (call (Value.builtin "str.join") _) _ _ _ | show wpAny _ _ (compareOp _ (Value.ref _) (Value.ref _)) _ _ _ | show wpAny _ _ (call (Value.ref _) _) _ _ _)); first | walk1 | (dsimp only; walk1))))
  refine for_in ?_
  ((try dsimp only); repeat' (first | (with_reducible refine wpAny_execs_cons ?_) | (with_reducible refine wpAny_execs_nil ?_) | (with_reducible refine wpAny_If ?_) | ((with_reducible show wpAny _ _ (PySem.truthy (Value.str _ _)) _ _ _); refine SBL.truthy (by omega) ?_) | ( (fail_if_success (with_reducible first | show LCg.CompSrc _ _ _ _ _ _ _ _ _ _ _ _ _ _ | show LCt.CompSrcT _ _ _ _ _ _ _ _ _ _ _ _ _ _ _ | show LCp.SrcLP _ _ _ _ _ _ _ _ _ _ _ _ _ _ _ | show LCg.CompEnd _ _ _ _ _ _ _ _ _ _ _ _ _ _ | show WEnd _ _ _ _ _ _ _ _ _ _ | show After _ _ _ _ _ _ _ _ _ | show TEnd _ _ _ _ _ _ _ _ _ | show TPost _ _ _ _ _ _ _ _ _ _ _ | show wpAny _ _ (eval (Expr.ListComp _ _ _ _) _) _ _ _ | show wpAny _ _ (exec (Stmt.For _ _ _ _ _) _) _ _ _ | show wpAny _ _ (exec (Stmt.While _ _ _ _) _) _ _ _ | show wpAny _ _ (exec (Stmt.Assign _ (Expr.ListComp _ _ _ _) _) _) _ _ _ | show wpAny _ _ (call (Value.builtin "str.join") _) _ _ _ | show wpAny _ _ (compareOp _ (Value.ref _) (Value.ref _)) _ _ _ | show wpAny _ _ (call (Value.ref _) _) _ _ _)); first | walk1 | (dsimp only; walk1))))
  refine len_list (hl.at fun o e => F.keep _ _ e) (by rw [List.size_toArray]; omega) ?_
  rw [List.size_toArray]
  ((try dsimp only); repeat' (first | (with_reducible refine wpAny_execs_cons ?_) | (with_reducible refine wpAny_execs_nil ?_) | (with_reducible refine wpAny_If ?_) | ((with_reducible show wpAny _ _ (PySem.truthy (Value.str _ _)) _ _ _); refine SBL.truthy (by omega) ?_) | ( (fail_if_success (with_reducible first | show LCg.CompSrc _ _ _ _ _ _ _ _ _ _ _ _ _ _ | show LCt.CompSrcT _ _ _ _ _ _ _ _ _ _ _ _ _ _ _ | show LCp.SrcLP _ _ _ _ _ _ _ _ _ _ _ _ _ _ _ | show LCg.CompEnd _ _ _ _ _ _ _ _ _ _ _ _ _ _ | show WEnd _ _ _ _ _ _ _ _ _ _ | show After _ _ _ _ _ _ _ _ _ | show TEnd _ _ _ _ _ _ _ _ _ | show TPost _ _ _ _ _ _ _ _ _ _ _ | show wpAny _ _ (eval (Expr.ListComp _ _ _ _) _) _ _ _ | show wpAny _ _ (exec (Stmt.For _ _ _ _ _) _) _ _ _ | show wpAny _ _ (exec (Stmt.While _ _ _ _) _) _ _ _ | show wpAny _ _ (exec (Stmt.Assign _ (Expr.ListComp _ _ _ _) _) _) _ _ _ | show wpAny _ _ (call (Value.builtin "str.join") _) _ _ _ | show wpAny _ _ (compareOp _ (Value.ref _) (Value.ref _)) _ _ _ | show wpAny _ _ (call (Value.ref _) _) _ _ _)); first | walk1 | (dsimp only; walk1))))
  rename IsRange _ _ _ _ _ _ _ _ => hR
  rename Fr _ _ _ _ => F
  rename News _ _ _ _ => N
  refine for_range (n := ns.length) (fun _ => JoJ Nm)
    rfl hR (small_one (by omega) (by omega) (by omega) (by omega)) (by rw [rangeSize_nat]; omega) rfl rfl F N ?_ ?_ ?_ <;> clear F N hR
  · exact ⟨rfl, ⟨rfl, trivial⟩⟩
  · rintro k t m₁ _ I h tk o hk ⟨rfl, hs⟩ hne F N
    replace F := frOverX _ F hs
    rw [Int.zero_add] at F
    have hgk : ns[k]? = some ns[k] := List.getElem?_eq_getElem hk
    have hIk := hw _ (List.mem_of_getElem? hgk)
    obtain ⟨tk', hatk⟩ := StrsAre.at hv (k := k) (by rw [List.length_map]; omega)
    have hgx : (ns.map mk).getD k default = mk ns[k] := by
      rw [List.getD_eq_getElem?_getD, List.getElem?_map, hgk]; rfl
    rw [hgx] at hatk
    generalize ns[k] = nk at *
    refine opq fun R hR => ?_
    ((try dsimp only); repeat' (first | (with_reducible refine wpAny_execs_cons ?_) | (with_reducible refine wpAny_execs_nil ?_) | (with_reducible refine wpAny_If ?_) | ((with_reducible show wpAny _ _ (PySem.truthy (Value.str _ _)) _ _ _); refine SBL.truthy (by omega) ?_) | ( (fail_if_success (with_reducible first | show LCg.CompSrc _ _ _ _ _ _ _ _ _ _ _ _ _ _ | show LCt.CompSrcT _ _ _ _ _ _ _ _ _ _ _ _ _ _ _ | show LCp.SrcLP _ _ _ _ _ _ _ _ _ _ _ _ _ _ _ | show LCg.CompEnd _ _ _ _ _ _ _ _ _ _ _ _ _ _ | show WEnd _ _ _ _ _ _ _ _ _ _ | show After _ _ _ _ _ _ _ _ _ | show TEnd _ _ _ _ _ _ _ _ _ | show TPost _ _ _ _ _ _ _ _ _ _ _ | show wpAny _ _ (eval (Expr.ListComp _ _ _ _) _) _ _ _ | show wpAny _ _ (exec (Stmt.For _ _ _ _ _) _) _ _ _ | show wpAny _ _ (exec (Stmt.While _ _ _ _) _) _ _ _ | show wpAny _ _ (exec (Stmt.Assign _ (Expr.ListComp _ _ _ _) _) _) _ _ _ | show wpAny _ _ (call (Value.builtin "str.join") _) _ _ _ | show wpAny _ _ (compareOp _ (Value.ref _) (Value.ref _)) _ _ _ | show wpAny _ _ (call (Value.ref _) _) _ _ _)); first | walk1 | (dsimp only; walk1))))
    refine for_in ?_
    ((try dsimp only); repeat' (first | (with_reducible refine wpAny_execs_cons ?_) | (with_reducible refine wpAny_execs_nil ?_) | (with_reducible refine wpAny_If ?_) | ((with_reducible show wpAny _ _ (PySem.truthy (Value.str _ _)) _ _ _); refine SBL.truthy (by omega) ?_) | ( (fail_if_success (with_reducible first | show LCg.CompSrc _ _ _ _ _ _ _ _ _ _ _ _ _ _ | show LCt.CompSrcT _ _ _ _ _ _ _ _ _ _ _ _ _ _ _ | show LCp.SrcLP _ _ _ _ _ _ _ _ _ _ _ _ _ _ _ | show LCg.CompEnd _ _ _ _ _ _ _ _ _ _ _ _ _ _ | show WEnd _ _ _ _ _ _ _ _ _ _ | show After _ _ _ _ _ _ _ _ _ | show TEnd _ _ _ _ _ _ _ _ _ | show TPost _ _ _ _ _ _ _ _ _ _ _ | show wpAny _ _ (eval (Expr.ListComp _ _ _ _) _) _ _ _ | show wpAny _ _ (exec (Stmt.For _ _ _ _ _) _) _ _ _ | show wpAny _ _ (exec (Stmt.While _ _ _ _) _) _ _ _ | show wpAny _ _ (exec (Stmt.Assign _ (Expr.ListComp _ _ _ _) _) _) _ _ _ | show wpAny _ _ (call (Value.builtin "str.join") _) _ _ _ | show wpAny _ _ (compareOp _ (Value.ref _) (Value.ref _)) _ _ _ | show wpAny _ _ (call (Value.ref _) _) _ _ _)); first | walk1 | (dsimp only; walk1))))
    rename Fr _ _ _ _ => F
    rename News _ _ _ _ => N
    rw [pick_to] at N
    dsimp only at N
    generalize h.objs.size + 1 = Sl at *
    refine for_list (h₀ := s.heap) (vs := vn.take k) (fun _ => JiJ Nm Sl I o vn k t) rfl (.inr ⟨listOf (vn.take k).toArray 0, rfl, ⟨0, rfl⟩, by rintro i m₁ _ ⟨rfl, _⟩; exact .head _⟩) rfl rfl F N ?_ ?_ ?_ <;> clear F N
    · exact ⟨rfl, ⟨rfl, rfl, trivial⟩⟩
    · rintro j v m₂ _ I2 h2 tk2 o2 hvj ⟨rfl, hs2⟩ hne2 F N
      replace F := frOverX _ F hs2
      have hvj' : vn[j]? = some v := by
        rw [List.getElem?_take] at hvj
        split at hvj
        · exact hvj
        · cases hvj
      obtain ⟨z, tz, rfl, hz⟩ := StrsAre.mem hv hvj'
      rw [List.getElem?_map] at hz
      obtain ⟨nm, hnm, rfl⟩ := Option.map_eq_some_iff.mp hz
      have hIs := hw nm (List.mem_of_getElem? hnm)
      obtain ⟨f1, f2, f3⟩ := near_facts hIk hIs
      obtain ⟨g1, g2, g3⟩ := near_facts hIs hIk
      have hgx2 : (ns.map mk).getD (k : Int).toNat Str.empty = mk nk := by
        rw [Int.toNat_natCast, List.getD_eq_getElem?_getD, List.getElem?_map, hgk]; rfl
      rw [← f3] at g1 g2
      refine opq fun R2 hR2 => ?_
      ((try dsimp only); repeat' (first | (with_reducible refine wpAny_execs_cons ?_) | (with_reducible refine wpAny_execs_nil ?_) | (with_reducible refine wpAny_If ?_) | ((with_reducible show wpAny _ _ (PySem.truthy (Value.str _ _)) _ _ _); refine SBL.truthy (by omega) ?_) | ( (fail_if_success (with_reducible first | show LCg.CompSrc _ _ _ _ _ _ _ _ _ _ _ _ _ _ | show LCt.CompSrcT _ _ _ _ _ _ _ _ _ _ _ _ _ _ _ | show LCp.SrcLP _ _ _ _ _ _ _ _ _ _ _ _ _ _ _ | show LCg.CompEnd _ _ _ _ _ _ _ _ _ _ _ _ _ _ | show WEnd _ _ _ _ _ _ _ _ _ _ | show After _ _ _ _ _ _ _ _ _ | show TEnd _ _ _ _ _ _ _ _ _ | show TPost _ _ _ _ _ _ _ _ _ _ _ | show wpAny _ _ (eval (Expr.ListComp _ _ _ _) _) _ _ _ | show wpAny _ _ (exec (Stmt.For _ _ _ _ _) _) _ _ _ | show wpAny _ _ (exec (Stmt.While _ _ _ _) _) _ _ _ | show wpAny _ _ (exec (Stmt.Assign _ (Expr.ListComp _ _ _ _) _) _) _ _ _ | show wpAny _ _ (call (Value.builtin "str.join") _) _ _ _ | show wpAny _ _ (compareOp _ (Value.ref _) (Value.ref _)) _ _ _ | show wpAny _ _ (call (Value.ref _) _) _ _ _)); first | walk1 | (dsimp only; walk1))))
      rw [hgx2]
      refine weaken (near_spec (Cx.keeps G' F.keep) (word_len2 hIk) (word_len2 hIs) ?_)
      intro v1 h3 tk3 hv1 hk
      rw [cl_mk, cl_mk] at hv1
      replace F := frKept F hk
      replace N := newsKept N hk
      clear hk
      ((try dsimp only); repeat' (first | (with_reducible refine wpAny_execs_cons ?_) | (with_reducible refine wpAny_execs_nil ?_) | (with_reducible refine wpAny_If ?_) | ((with_reducible show wpAny _ _ (PySem.truthy (Value.str _ _)) _ _ _); refine SBL.truthy (by omega) ?_) | ( (fail_if_success (with_reducible first | show LCg.CompSrc _ _ _ _ _ _ _ _ _ _ _ _ _ _ | show LCt.CompSrcT _ _ _ _ _ _ _ _ _ _ _ _ _ _ _ | show LCp.SrcLP _ _ _ _ _ _ _ _ _ _ _ _ _ _ _ | show LCg.CompEnd _ _ _ _ _ _ _ _ _ _ _ _ _ _ | show WEnd _ _ _ _ _ _ _ _ _ _ | show After _ _ _ _ _ _ _ _ _ | show TEnd _ _ _ _ _ _ _ _ _ | show TPost _ _ _ _ _ _ _ _ _ _ _ | show wpAny _ _ (eval (Expr.ListComp _ _ _ _) _) _ _ _ | show wpAny _ _ (exec (Stmt.For _ _ _ _ _) _) _ _ _ | show wpAny _ _ (exec (Stmt.While _ _ _ _) _) _ _ _ | show wpAny _ _ (exec (Stmt.Assign _ (Expr.ListComp _ _ _ _) _) _) _ _ _ | show wpAny _ _ (call (Value.builtin "str.join") _) _ _ _ | show wpAny _ _ (compareOp _ (Value.ref _) (Value.ref _)) _ _ _ | show wpAny _ _ (call (Value.ref _) _) _ _ _)); first | walk1 | (dsimp only; walk1))))
      rw [hgx2]
      refine weaken (dots_spec (Cx.keeps G' (Fr.keep (by assumption))) (word_len2 hIk) (word_len2 hIs) (word_abs2 hIk) (word_abs2 hIs) ?_)
      rename Fr _ _ _ _ => F
      rename News _ _ _ _ => N
      intro v2 h4 tk4 hv2 hk
      rw [cl_mk, cl_mk] at hv2
      replace F := frKept F hk
      replace N := newsKept N hk
      clear hk
      have e12 : v2 = v1 := by rw [hv1, hv2, f1]
      subst e12
      ((try dsimp only); repeat' (first | (with_reducible refine wpAny_execs_cons ?_) | (with_reducible refine wpAny_execs_nil ?_) | (with_reducible refine wpAny_If ?_) | ((with_reducible show wpAny _ _ (PySem.truthy (Value.str _ _)) _ _ _); refine SBL.truthy (by omega) ?_) | ( (fail_if_success (with_reducible first | show LCg.CompSrc _ _ _ _ _ _ _ _ _ _ _ _ _ _ | show LCt.CompSrcT _ _ _ _ _ _ _ _ _ _ _ _ _ _ _ | show LCp.SrcLP _ _ _ _ _ _ _ _ _ _ _ _ _ _ _ | show LCg.CompEnd _ _ _ _ _ _ _ _ _ _ _ _ _ _ | show WEnd _ _ _ _ _ _ _ _ _ _ | show After _ _ _ _ _ _ _ _ _ | show TEnd _ _ _ _ _ _ _ _ _ | show TPost _ _ _ _ _ _ _ _ _ _ _ | show wpAny _ _ (eval (Expr.ListComp _ _ _ _) _) _ _ _ | show wpAny _ _ (exec (Stmt.For _ _ _ _ _) _) _ _ _ | show wpAny _ _ (exec (Stmt.While _ _ _ _) _) _ _ _ | show wpAny _ _ (exec (Stmt.Assign _ (Expr.ListComp _ _ _ _) _) _) _ _ _ | show wpAny _ _ (call (Value.builtin "str.join") _) _ _ _ | show wpAny _ _ (compareOp _ (Value.ref _) (Value.ref _)) _ _ _ | show wpAny _ _ (call (Value.ref _) _) _ _ _)); first | walk1 | (dsimp only; walk1))))
      all_goals try exact bne_no (by assumption)
      rw [hgx2]
      refine weaken (dots_spec (Cx.keeps G' (Fr.keep (by assumption))) (word_len2 hIs) (word_len2 hIk) (word_abs2 hIs) (word_abs2 hIk) ?_)
      rename Fr _ _ _ _ => F
      rename News _ _ _ _ => N
      intro v3 h5 tk5 hv3 hk
      rw [cl_mk, cl_mk] at hv3
      replace F := frKept F hk
      replace N := newsKept N hk
      clear hk
      have e13 : v3 = v2 := by rw [hv1, hv3, g1]
      subst e13
      ((try dsimp only); repeat' (first | (with_reducible refine wpAny_execs_cons ?_) | (with_reducible refine wpAny_execs_nil ?_) | (with_reducible refine wpAny_If ?_) | ((with_reducible show wpAny _ _ (PySem.truthy (Value.str _ _)) _ _ _); refine SBL.truthy (by omega) ?_) | ( (fail_if_success (with_reducible first | show LCg.CompSrc _ _ _ _ _ _ _ _ _ _ _ _ _ _ | show LCt.CompSrcT _ _ _ _ _ _ _ _ _ _ _ _ _ _ _ | show LCp.SrcLP _ _ _ _ _ _ _ _ _ _ _ _ _ _ _ | show LCg.CompEnd _ _ _ _ _ _ _ _ _ _ _ _ _ _ | show WEnd _ _ _ _ _ _ _ _ _ _ | show After _ _ _ _ _ _ _ _ _ | show TEnd _ _ _ _ _ _ _ _ _ | show TPost _ _ _ _ _ _ _ _ _ _ _ | show wpAny _ _ (eval (Expr.ListComp _ _ _ _) _) _ _ _ | show wpAny _ _ (exec (Stmt.For _ _ _ _ _) _) _ _ _ | show wpAny _ _ (exec (Stmt.While _ _ _ _) _) _ _ _ | show wpAny _ _ (exec (Stmt.Assign _ (Expr.ListComp _ _ _ _) _) _) _ _ _ | show wpAny _ _ (call (Value.builtin "str.join") _) _ _ _ | show wpAny _ _ (compareOp _ (Value.ref _) (Value.ref _)) _ _ _ | show wpAny _ _ (call (Value.ref _) _) _ _ _)); first | walk1 | (dsimp only; walk1))))
      all_goals try exact bne_no (by assumption)
      rw [hgx2]
      refine weaken (lev_spec (Cx.keeps G' (Fr.keep (by assumption))) (word_len2 hIk) (word_len2 hIs) (word_abs2 hIk) (word_abs2 hIs) (by decide) (by decide) ?_)
      rename Fr _ _ _ _ => F
      rename News _ _ _ _ => N
      intro n1 t1 h6 tk6 hn1 hk
      rw [cl_mk, cl_mk] at hn1
      rw [← hn1, ← hv1] at f2
      replace F := frKept F hk
      replace N := newsKept N hk
      clear hk
      ((try dsimp only); repeat' (first | (with_reducible refine wpAny_execs_cons ?_) | (with_reducible refine wpAny_execs_nil ?_) | (with_reducible refine wpAny_If ?_) | ((with_reducible show wpAny _ _ (PySem.truthy (Value.str _ _)) _ _ _); refine SBL.truthy (by omega) ?_) | ( (fail_if_success (with_reducible first | show LCg.CompSrc _ _ _ _ _ _ _ _ _ _ _ _ _ _ | show LCt.CompSrcT _ _ _ _ _ _ _ _ _ _ _ _ _ _ _ | show LCp.SrcLP _ _ _ _ _ _ _ _ _ _ _ _ _ _ _ | show LCg.CompEnd _ _ _ _ _ _ _ _ _ _ _ _ _ _ | show WEnd _ _ _ _ _ _ _ _ _ _ | show After _ _ _ _ _ _ _ _ _ | show TEnd _ _ _ _ _ _ _ _ _ | show TPost _ _ _ _ _ _ _ _ _ _ _ | show wpAny _ _ (eval (Expr.ListComp _ _ _ _) _) _ _ _ | show wpAny _ _ (exec (Stmt.For _ _ _ _ _) _) _ _ _ | show wpAny _ _ (exec (Stmt.While _ _ _ _) _) _ _ _ | show wpAny _ _ (exec (Stmt.Assign _ (Expr.ListComp _ _ _ _) _) _) _ _ _ | show wpAny _ _ (call (Value.builtin "str.join") _) _ _ _ | show wpAny _ _ (compareOp _ (Value.ref _) (Value.ref _)) _ _ _ | show wpAny _ _ (call (Value.ref _) _) _ _ _)); first | walk1 | (dsimp only; walk1))))
      all_goals try exact bne_ne f2 (by assumption)
      rw [hgx2]
      refine weaken (lev_spec (Cx.keeps G' (Fr.keep (by assumption))) (word_len2 hIs) (word_len2 hIk) (word_abs2 hIs) (word_abs2 hIk) (by decide) (by decide) ?_)
      rename Fr _ _ _ _ => F
      rename News _ _ _ _ => N
      intro n2 t2 h7 tk7 hn2 hk
      rw [cl_mk, cl_mk] at hn2
      rw [← hn2, ← hv1] at g2
      replace F := frKept F hk
      replace N := newsKept N hk
      clear hk
      ((try dsimp only); repeat' (first | (with_reducible refine wpAny_execs_cons ?_) | (with_reducible refine wpAny_execs_nil ?_) | (with_reducible refine wpAny_If ?_) | ((with_reducible show wpAny _ _ (PySem.truthy (Value.str _ _)) _ _ _); refine SBL.truthy (by omega) ?_) | ( (fail_if_success (with_reducible first | show LCg.CompSrc _ _ _ _ _ _ _ _ _ _ _ _ _ _ | show LCt.CompSrcT _ _ _ _ _ _ _ _ _ _ _ _ _ _ _ | show LCp.SrcLP _ _ _ _ _ _ _ _ _ _ _ _ _ _ _ | show LCg.CompEnd _ _ _ _ _ _ _ _ _ _ _ _ _ _ | show WEnd _ _ _ _ _ _ _ _ _ _ | show After _ _ _ _ _ _ _ _ _ | show TEnd _ _ _ _ _ _ _ _ _ | show TPost _ _ _ _ _ _ _ _ _ _ _ | show wpAny _ _ (eval (Expr.ListComp _ _ _ _) _) _ _ _ | show wpAny _ _ (exec (Stmt.For _ _ _ _ _) _) _ _ _ | show wpAny _ _ (exec (Stmt.While _ _ _ _) _) _ _ _ | show wpAny _ _ (exec (Stmt.Assign _ (Expr.ListComp _ _ _ _) _) _) _ _ _ | show wpAny _ _ (call (Value.builtin "str.join") _) _ _ _ | show wpAny _ _ (compareOp _ (Value.ref _) (Value.ref _)) _ _ _ | show wpAny _ _ (call (Value.ref _) _) _ _ _)); first | walk1 | (dsimp only; walk1))))
      all_goals try exact bne_ne g2 (by assumption)
      rename Fr _ _ _ _ => F
      rename News _ _ _ _ => N
      exact hR2 _ _ (TEnd.intro [(Sl, _), (I, o)] F N (fun p hp => hp) (fun p hp => hne2 p hp) ⟨rfl, ⟨rfl, rfl, trivial⟩⟩)
    · rintro m₂ _ h2 tk2 ⟨rfl, hs2⟩ F N
      replace F := frOver _ F hs2
      ((try dsimp only); repeat' (first | (with_reducible refine wpAny_execs_cons ?_) | (with_reducible refine wpAny_execs_nil ?_) | (with_reducible refine wpAny_If ?_) | ((with_reducible show wpAny _ _ (PySem.truthy (Value.str _ _)) _ _ _); refine SBL.truthy (by omega) ?_) | ( (fail_if_success (with_reducible first | show LCg.CompSrc _ _ _ _ _ _ _ _ _ _ _ _ _ _ | show LCt.CompSrcT _ _ _ _ _ _ _ _ _ _ _ _ _ _ _ | show LCp.SrcLP _ _ _ _ _ _ _ _ _ _ _ _ _ _ _ | show LCg.CompEnd _ _ _ _ _ _ _ _ _ _ _ _ _ _ | show WEnd _ _ _ _ _ _ _ _ _ _ | show After _ _ _ _ _ _ _ _ _ | show TEnd _ _ _ _ _ _ _ _ _ | show TPost _ _ _ _ _ _ _ _ _ _ _ | show wpAny _ _ (eval (Expr.ListComp _ _ _ _) _) _ _ _ | show wpAny _ _ (exec (Stmt.For _ _ _ _ _) _) _ _ _ | show wpAny _ _ (exec (Stmt.While _ _ _ _) _) _ _ _ | show wpAny _ _ (exec (Stmt.Assign _ (Expr.ListComp _ _ _ _) _) _) _ _ _ | show wpAny _ _ (call (Value.builtin "str.join") _) _ _ _ | show wpAny _ _ (compareOp _ (Value.ref _) (Value.ref _)) _ _ _ | show wpAny _ _ (call (Value.ref _) _) _ _ _)); first | walk1 | (dsimp only; walk1))))
      exact hR _ _ (TEnd.intro [] F N (by intro p hp; exact .tail _ hp) (fun p hp => nomatch hp) ⟨rfl, ⟨rfl, trivial⟩⟩)
  · rintro m₁ _ h tk ⟨rfl, hs⟩ F N
    replace F := frOver _ F hs
    ((try dsimp only); repeat' (first | (with_reducible refine wpAny_execs_cons ?_) | (with_reducible refine wpAny_execs_nil ?_) | (with_reducible refine wpAny_If ?_) | ((with_reducible show wpAny _ _ (PySem.truthy (Value.str _ _)) _ _ _); refine SBL.truthy (by omega) ?_) | ( (fail_if_success (with_reducible first | show LCg.CompSrc _ _ _ _ _ _ _ _ _ _ _ _ _ _ | show LCt.CompSrcT _ _ _ _ _ _ _ _ _ _ _ _ _ _ _ | show LCp.SrcLP _ _ _ _ _ _ _ _ _ _ _ _ _ _ _ | show LCg.CompEnd _ _ _ _ _ _ _ _ _ _ _ _ _ _ | show WEnd _ _ _ _ _ _ _ _ _ _ | show After _ _ _ _ _ _ _ _ _ | show TEnd _ _ _ _ _ _ _ _ _ | show TPost _ _ _ _ _ _ _ _ _ _ _ | show wpAny _ _ (eval (Expr.ListComp _ _ _ _) _) _ _ _ | show wpAny _ _ (exec (Stmt.For _ _ _ _ _) _) _ _ _ | show wpAny _ _ (exec (Stmt.While _ _ _ _) _) _ _ _ | show wpAny _ _ (exec (Stmt.Assign _ (Expr.ListComp _ _ _ _) _) _) _ _ _ | show wpAny _ _ (call (Value.builtin "str.join") _) _ _ _ | show wpAny _ _ (compareOp _ (Value.ref _) (Value.ref _)) _ _ _ | show wpAny _ _ (call (Value.ref _) _) _ _ _)); first | walk1 | (dsimp only; walk1))))
    exact hQ _ _ F.keep
end
section
abbrev OkS (ns : List Str) : Prop := ∀ x ∈ ns, PyData.strOk x = true
theorem kes_canLayAll0 : ∀ ns : List Str, OkS ns → PyData.canLayAll0 (ns.map PyData.str) = true := by
  intro ns
  induction ns with
  | nil => exact fun _ => rfl
  | cons a r ih =>
    intro h
    have := h a (.head _)
    simp [PyData.canLayAll0, PyData.canLay0, ih (fun x hx => h x (.tail _ hx)), this]
theorem kes_depthAll : ∀ ns : List Str, PyData.depthAll (ns.map PyData.str) = 0
  | [] => rfl
  | _ :: r => by simp [PyData.depthAll, PyData.depth, kes_depthAll r]
theorem kes_shaped (ns : List Str) (h : OkS ns) : SeqAt.shaped (.list (ns.map PyData.str)) = true := by
  simp [SeqAt.shaped, PyData.canLay0, PyData.depth, kes_canLayAll0 ns h, kes_depthAll]
theorem ok_word {x : List Nat} (h : IsWord x) : PyData.strOk (mk x) = true := by
  show (mk x).cps.all (· < 0x110000) = true
  rw [← Array.all_toList, List.all_eq_true]
  intro c hc
  rcases h.2.2 c hc with rfl | rfl | rfl <;> decide
theorem ok_words {xs : List (List Nat)} (h : ∀ x ∈ xs, IsWord x) : OkS (xs.map mk) := fun y hy => by
  obtain ⟨x, hx, rfl⟩ := List.mem_map.mp hy
  exact ok_word (h x hx)
theorem kes_sameAll : ∀ ns ms : List Str, PySem.Spec.sameAll (ns.map PyData.str) (ms.map PyData.str) = decide (ns = ms) := by
  intro ns
  induction ns with
  | nil => intro ms; cases ms <;> simp [PySem.Spec.sameAll]
  | cons a r ih =>
    intro ms
    cases ms with
    | nil => simp [PySem.Spec.sameAll]
    | cons b t =>
      simp only [List.map_cons, PySem.Spec.sameAll, PySem.Spec.same, ih t]
      by_cases h : a = b <;> by_cases h' : r = t <;> simp [h, h']
theorem kes_same (ns ms : List Str) : PySem.Spec.same (.list (ns.map PyData.str)) (.list (ms.map PyData.str)) = decide (ns = ms) := by
  simp only [PySem.Spec.same]; exact kes_sameAll ns ms
theorem kes_carried : ∀ {vs : List Value} {ns : List Str}, StrsAre vs ns → CarriedAll vs (ns.map PyData.str)
  | _, _, .nil => .nil
  | _, _, .cons _ t r => .cons (.str _ t) (kes_carried r)
theorem map_mk_eq {a b : List (List Nat)} : a.map mk = b.map mk ↔ a = b := by
  constructor
  · intro h
    have := congrArg (List.map cl) h
    simpa [List.map_map, Function.comp_def, cl_mk] using this
  · intro h; rw [h]
section
variable {prog : Program} {w : World} {A : Around} {E : Value → Shared → Prop} {s : Shared} {a b : Addr} {xs ys : List Value} {ns ms : List Str} {Q : Value → Shared → Prop}
theorem ne_strs (ha : s.heap.IsList a xs.toArray) (hb : s.heap.IsList b ys.toArray) (hi : StrsAre xs ns) (hj : StrsAre ys ms) (hns : OkS ns) (hms : OkS ms) (hu : A.units + 64 < cLine) (h : Q (.bool (!decide (ns = ms))) s) :
    wpAny (model prog w) A (compareOp .NotEq (.ref a) (.ref b)) Q E s :=
  ne_dataH_same (reads_newData ha (kes_carried hi)) (reads_newData hb (kes_carried hj)) (kes_shaped _ hns) (kes_shaped _ hms) hu (SeqAt.noMix_of_shape (.list .str) rfl _ _ (list_map_has fun _ => rfl) (list_map_has fun _ => rfl)) (by rw [kes_same]; exact h)
theorem eq_strs (ha : s.heap.IsList a xs.toArray) (hb : s.heap.IsList b ys.toArray) (hi : StrsAre xs ns) (hj : StrsAre ys ms) (hns : OkS ns) (hms : OkS ms) (hu : A.units + 64 < cLine) (h : Q (.bool (decide (ns = ms))) s) :
    wpAny (model prog w) A (compareOp .Eq (.ref a) (.ref b)) Q E s :=
  eq_dataH_same (reads_newData ha (kes_carried hi)) (reads_newData hb (kes_carried hj)) (kes_shaped _ hns) (kes_shaped _ hms) hu (SeqAt.noMix_of_shape (.list .str) rfl _ _ (list_map_has fun _ => rfl) (list_map_has fun _ => rfl)) (by rw [kes_same]; exact h)
/-- names.index(name) -/
theorem index_strs {l : Addr} {vs : List Value} {y : Str} {t : Tok} {j : Nat} {ss : List Str} (hl : s.heap.IsList l vs.toArray) (hv : StrsAre vs ss) (hj : ss[j]? = some y) (hno : ∀ i, i < j → ss[i]? ≠ some y) (hsz : ss.length ≤ 1000)
    (h : Q (.int (j : Int) s.toks) { s with toks := s.toks + 1 }) : wpAny (model prog w) A (call (.builtin "list.index") [.ref l, .str y t]) Q E s := by
  obtain ⟨o, ho, hc, n, hd⟩ := hl
  obtain ⟨c, dd, dt, sl⟩ := o
  simp only at hc hd
  subst hc hd
  have hjl : j < ss.length := (List.getElem?_eq_some_iff.mp hj).1
  have hvl := StrsAre.len hv
  have hjs : j < vs.toArray.size := by rw [List.size_toArray]; omega
  have at_ : ∀ i (hi : i < vs.toArray.size), ∃ z u, vs.toArray[i] = .str z u ∧ ss[i]? = some z := fun i hi => by
    rw [List.size_toArray] at hi
    obtain ⟨z, u, e1, e2⟩ := StrsAre.mem hv (k := i) (v := vs[i]) (List.getElem?_eq_getElem hi)
    exact ⟨z, u, by simpa using e1, e2⟩
  refine call_meets F.slot_list_index ⟨_, ho, rfl⟩ F.entry_list_index (F.args_list_index_2 _ _) (SeqAt.list_indexAt l vs.toArray n dd sl (.str y t) (isStrOf y) j hjs (by omega) ?_ ?_) ⟨ho, fun z hz => (eq_isStrOf y t hv z (by simpa using hz)).at _ _, h⟩
  · obtain ⟨z, u, e1, e2⟩ := at_ j hjs
    rw [e1]
    rw [hj] at e2
    cases e2
    simp [isStrOf]
  · intro i hi hij
    obtain ⟨z, u, e1, e2⟩ := at_ i hi
    rw [e1]
    have : z ≠ y := fun q => hno i hij (by rw [e2, q])
    simp [isStrOf, this]
end
/-- the rows of the ladder, in the ledger -/
inductive RowsAt (tups : List (Addr × Obj)) : List Value → List (List (List Nat)) → Prop
  | nil : RowsAt tups [] []
  | cons {D : Addr} {vs : List Value} {k : Nat} {row : List (List Nat)} {refs : List Value} {rs : List (List (List Nat))} : (D, PySem.W.listOf vs.toArray k) ∈ tups → StrsAre vs (row.map mk) → RowsAt tups refs rs → RowsAt tups (.ref D :: refs) (row :: rs)
theorem RowsAt.mono {tups tups' : List (Addr × Obj)} (hs : ∀ p ∈ tups, p ∈ tups') : ∀ {vs : List Value} {ps : List (List (List Nat))}, RowsAt tups vs ps → RowsAt tups' vs ps := by
  intro vs ps h
  induction h with
  | nil => exact .nil
  | cons h h2 _ ih => exact .cons (hs _ h) h2 ih
theorem RowsAt.app {tups : List (Addr × Obj)} : ∀ {vs ws : List Value} {ps qs : List (List (List Nat))}, RowsAt tups vs ps → RowsAt tups ws qs → RowsAt tups (vs ++ ws) (ps ++ qs) := by
  intro vs ws ps qs h h'
  induction h with
  | nil => exact h'
  | cons h h2 _ ih => exact .cons h h2 ih
theorem RowsAt.len {tups : List (Addr × Obj)} : ∀ {vs : List Value} {ps : List (List (List Nat))}, RowsAt tups vs ps → vs.length = ps.length := by
  intro vs ps h
  induction h with
  | nil => rfl
  | cons _ _ _ ih => exact congrArg (· + 1) ih
end
section
/-- the sort's tree of questions, run with a comparer -/
def kRun {α : Type} (n : Nat) (cmp : Nat → Nat → Bool) : PySem.W.KasT α → Option α
  | .ret a => some a
  | .ask i j k => if decide (i < n) && decide (j < n) then kRun n cmp (k (cmp i j)) else none
def lexI (ks : List Nat) (i j : Nat) : Bool := if ks.getD i 0 == ks.getD j 0 then decide (i < j) else decide (ks.getD i 0 < ks.getD j 0)
def allL (m : Nat) : Nat → List (List Nat)
  | 0 => [[]]
  | n + 1 => (allL m n).flatMap fun l => (List.range m).map (· :: l)
theorem mem_allL {m : Nat} : ∀ {ks : List Nat}, (∀ k ∈ ks, k < m) → ks ∈ allL m ks.length := by
  intro ks
  induction ks with
  | nil => exact fun _ => .head _
  | cons k ks ih =>
    intro h
    unfold allL
    exact List.mem_flatMap.mpr ⟨ks, ih fun x hx => h x (.tail _ hx), List.mem_map.mpr ⟨k, List.mem_range.mpr (h k (.head _)), rfl⟩⟩
def placesF (m : Nat) (ks : List Nat) : List Nat := (List.range m).flatMap fun k => (List.range ks.length).filter fun i => ks.getD i 0 == k
def sortOk (m : Nat) (ks : List Nat) : Bool := match kRun ks.length (lexI ks) (PySem.W.kas_sort ks.length) with
  | some p => p.toList == placesF m ks
  | none => false
set_option maxRecDepth 100000 in
theorem all_sort2 : (allL 5 2).all (sortOk 5) = true := by decide +kernel
set_option maxRecDepth 100000 in
theorem all_sort3 : (allL 4 3).all (sortOk 4) = true := by decide +kernel
set_option maxRecDepth 100000 in
theorem all_sort4 : (allL 3 4).all (sortOk 3) = true := by decide +kernel
set_option maxRecDepth 100000 in
theorem all_sort5 : (allL 2 5).all (sortOk 2) = true := by decide +kernel
set_option maxRecDepth 100000 in
theorem all_sort6 : (allL 1 6).all (sortOk 1) = true := by decide +kernel
theorem range_getD {α : Type} (d : α) (l : List α) : (List.range l.length).map (fun i => l.getD i d) = l := by
  apply List.ext_getElem
  · simp
  · intro i h1 h2
    simp [h2]
theorem filter_at {α : Type} (d : α) (q : α → Bool) (l : List α) : ((List.range l.length).filter fun i => q (l.getD i d)).map (fun i => l.getD i d) = l.filter q := by
  conv => rhs; rw [← range_getD d l, List.filter_map]
  rfl
def sortF {β : Type} (m : Nat) (ps : List (Nat × β)) : List (Nat × β) := (List.range m).flatMap fun k => ps.filter fun p => p.1 == k
theorem places_at {β : Type} (d : Nat × β) (m : Nat) (ps : List (Nat × β)) : (placesF m (ps.map (·.1))).map (fun i => ps.getD i d) = sortF m ps := by
  unfold placesF sortF
  rw [List.map_flatMap]
  congr 1
  funext k
  rw [← filter_at d (fun p => p.1 == k) ps, List.length_map]
  congr 1
  apply List.filter_congr
  intro i hi
  have hi := List.mem_range.mp hi
  simp [List.getElem?_map, hi]
theorem places_more {m m' : Nat} {ks : List Nat} (h : ∀ k ∈ ks, k < m) (hm : m ≤ m') : placesF m' ks = placesF m ks := by
  unfold placesF
  obtain ⟨d, rfl⟩ := Nat.exists_eq_add_of_le hm
  rw [List.range_add, List.flatMap_append]
  have : List.flatMap (fun k => (List.range ks.length).filter fun i => ks.getD i 0 == k) ((List.range d).map fun x => m + x) = [] := by
    rw [List.flatMap_eq_nil_iff]
    intro k hk
    obtain ⟨x, -, rfl⟩ := List.mem_map.mp hk
    rw [List.filter_eq_nil_iff]
    intro i hi e
    have hi := List.mem_range.mp hi
    have e1 : ks.getD i 0 = ks[i] := by simp [hi]
    have h1 := h _ (List.getElem_mem hi)
    rw [e1, beq_iff_eq] at e
    omega
  rw [this, List.append_nil]
theorem sort_any {m : Nat} {ks : List Nat} (h : ∀ k ∈ ks, k < m) (h2 : 2 ≤ ks.length) (h7 : m + ks.length ≤ 7) : ∃ p : Array Nat, kRun ks.length (lexI ks) (PySem.W.kas_sort ks.length) = some p ∧ p.toList = placesF m ks := by
  have hm : 0 < m := by
    cases ks with
    | nil => simp at h2
    | cons k r => have := h k (.head _); omega
  have key : sortOk (7 - ks.length) ks = true := by
    have hk := mem_allL (m := 7 - ks.length) (ks := ks) fun k hk => by have := h k hk; omega
    have hn : ks.length = 2 ∨ ks.length = 3 ∨ ks.length = 4 ∨ ks.length = 5 ∨ ks.length = 6 := by omega
    rcases hn with e | e | e | e | e <;> rw [e] at hk ⊢
    · exact List.all_eq_true.mp all_sort2 ks hk
    · exact List.all_eq_true.mp all_sort3 ks hk
    · exact List.all_eq_true.mp all_sort4 ks hk
    · exact List.all_eq_true.mp all_sort5 ks hk
    · exact List.all_eq_true.mp all_sort6 ks hk
  unfold sortOk at key
  split at key
  · rename_i p e
    exact ⟨p, e, by rw [beq_iff_eq.mp key, places_more h (by omega)]⟩
  · cases key
end
section
theorem kRun_wp {α : Type} {n : Nat} {cmp : Nat → Nat → Bool} {ask : Nat → Nat → (Bool → Shared → Prop) → Shared → Prop} {Q : α → Shared → Prop} {s : Shared} {a : α} (hask : ∀ i j C, i < n → j < n → C (cmp i j) s → ask i j C s) (hq : Q a s) :
    ∀ t : PySem.W.KasT α, kRun n cmp t = some a → t.kasWp ask Q s := by
  intro t
  induction t with
  | ret b =>
    intro h
    cases Option.some.inj h
    exact hq
  | ask i j k ih =>
    intro h
    unfold kRun at h
    by_cases hc : (decide (i < n) && decide (j < n)) = true
    · rw [if_pos hc] at h
      simp only [Bool.and_eq_true, decide_eq_true_eq] at hc
      exact hask i j _ hc.1 hc.2 (ih (cmp i j) h)
    · rw [if_neg hc] at h; cases h
theorem pairs_tups {tups : List (Addr × Obj)} {h : Heap} (hk : ∀ q ∈ tups, h.get? q.1 = some q.2) : ∀ {vs : List Value} {ps : List (Nat × Int)}, PairsAt tups vs ps → ∃ fs, PySem.W.KatTups h vs fs ∧ fs.length = ps.length ∧ ∀ v ∈ fs, ∃ k t, v = .int k t := by
  intro vs ps h
  induction h with
  | nil => exact ⟨[], trivial, rfl, fun _ hv => nomatch hv⟩
  | cons hm r ih =>
    obtain ⟨fs, a, b, c⟩ := ih
    refine ⟨.int _ _ :: fs, PySem.W.KatTups.cons (hk _ hm) rfl rfl rfl a, congrArg (· + 1) b, fun v hv => ?_⟩
    rcases List.mem_cons.mp hv with rfl | hv
    · exact ⟨_, _, rfl⟩
    · exact c v hv
theorem PairsAt.pick {tups : List (Addr × Obj)} {vs : List Value} {ps : List (Nat × Int)} (h : PairsAt tups vs ps) : ∀ l : List Nat, (∀ i ∈ l, i < ps.length) → PairsAt tups (l.map fun i => vs.getD i Value.none) (l.map fun i => ps.getD i (0, 0)) := by
  intro l
  induction l with
  | nil => exact fun _ => .nil
  | cons i l ih =>
    intro hl
    have hi := hl i (.head _)
    have hv : i < vs.length := by rw [PairsAt.len h]; exact hi
    obtain ⟨T, p, c, t, u, e, m1, g⟩ := PairsAt.get h (i := i) (List.getElem?_eq_getElem hv)
    have e1 : vs.getD i Value.none = .ref T := by rw [List.getD_eq_getElem?_getD, List.getElem?_eq_getElem hv, e]; rfl
    have e2 : ps.getD i (0, 0) = (p, c) := by rw [List.getD_eq_getElem?_getD, g]; rfl
    rw [List.map_cons, List.map_cons, e1, e2]
    exact .cons m1 (ih fun j hj => hl j (.tail _ hj))
section
variable {prog : Program} {w : World} {A : Around} {E : Value → Shared → Prop} {s : Shared} {h₀ : Heap} {L l : Addr} {m : Str → Option Value} {news : List (Addr × Obj)} {vs : List Value}
theorem pair_lt {x y : Addr} {p p' : Nat} {c c' : Int} {t t' u u' : Tok} {Q : Bool → Shared → Prop} (hx : s.heap.get? x = some { cls := .type "tuple", data := .seq #[.int (p : Int) t, .int c u] 0 }) (hy : s.heap.get? y = some { cls := .type "tuple", data := .seq #[.int (p' : Int) t', .int c' u'] 0 })
    (h : Q (if p == p' then decide (c < c') else decide (p < p')) s) : wpAny (model prog w) A (keyLt' (tuples' true) (.ref x) (.ref y)) Q E s := by
  refine PySem.W.kat_lt hx rfl hy rfl ?_
  refine PySem.W.kat_cons (wpAny_eqBool_int (PySem.W.kat_go (fun h1 => ?_) (fun h1 => ?_)))
  · have e : p = p' := by
      have z : (p : Int) = (p' : Int) := by simpa using h1
      omega
    subst e
    rw [if_pos (by simp)] at h
    refine PySem.W.kat_yes (PySem.W.kat_cons (wpAny_eqBool_int (PySem.W.kat_go (fun h2 => ?_) (fun h2 => ?_))))
    · have e : c = c' := by simpa using h2
      subst e
      exact PySem.W.kat_yes (PySem.W.kat_nil (by simpa using h))
    · exact PySem.W.kat_no (PySem.W.kat_one _ _ (wpAny_lt_int h))
  · have e : ¬ p = p' := fun q => by
      have z : ¬ (p : Int) = (p' : Int) := by simpa using h1
      exact z (by rw [q])
    rw [if_neg (by simpa using e)] at h
    refine PySem.W.kat_no (oneLt_int ?_)
    rw [show decide ((p : Int) < (p' : Int)) = decide (p < p') by simp]
    exact h
theorem sorted_pairs2 {m' : Nat} {ps : List (Nat × Int)} {Q : Value → Shared → Prop} (F : Fr h₀ L s.heap m) (N : News h₀ L s.heap news) (hl : s.heap.IsList l vs.toArray) (hp : PairsAt news vs ps) (h2 : 2 ≤ ps.length) (hm : ∀ p ∈ ps, p.1 < m') (h7 : m' + ps.length ≤ 7) (hinc : (ps.map (·.2)).Pairwise (· < ·))
    (h : ∀ D h' vs' c, Fr h₀ L h' m → News h₀ L h' ((D, listOf vs'.toArray c) :: news) → (∀ q ∈ news, q.1 < D) → PairsAt news vs' (sortF m' ps) → Q (.ref D) { s with heap := h' }) : wpAny (model prog w) A (call (.builtin "sorted") [.ref l]) Q E s := by
  have hlen := PairsAt.len hp
  obtain ⟨p, hr, hpl⟩ := sort_any (m := m') (ks := ps.map (·.1)) (by intro k hk; obtain ⟨q, hq, rfl⟩ := List.mem_map.mp hk; exact hm q hq) (by rw [List.length_map]; exact h2) (by rw [List.length_map]; exact h7)
  rw [List.length_map, ← hlen] at hr
  refine PySem.W.kat_sorted F N hl (by omega) (by omega) fun D e1 h' F' N' hD => ?_
  obtain ⟨fs, ht, hfl, hfi⟩ := pairs_tups (h := h') (fun q hq => (N' q (.tail _ hq)).1) hp
  refine PySem.W.kat_kind (T := .type "int") ht (by omega) (fun v hv => by obtain ⟨k, t, rfl⟩ := hfi v hv; exact Looks.of_pure rfl) rfl ?_
  refine kRun_wp (n := vs.length) (cmp := lexI (ps.map (·.1))) (a := p) (fun i j C hi hj hc => ?_) ?_ _ hr
  · obtain ⟨T1, p1, c1, t1, u1, e1, m1, g1⟩ := PairsAt.get hp (i := i) (List.getElem?_eq_getElem hi)
    obtain ⟨T2, p2, c2, t2, u2, e2, m2, g2⟩ := PairsAt.get hp (i := j) (List.getElem?_eq_getElem hj)
    show wpAny _ _ (keyLt' _ (vs.getD i Value.none) (vs.getD j Value.none)) _ _ _
    rw [show vs.getD i Value.none = .ref T1 by rw [List.getD_eq_getElem?_getD, List.getElem?_eq_getElem hi, e1]; rfl, show vs.getD j Value.none = .ref T2 by rw [List.getD_eq_getElem?_getD, List.getElem?_eq_getElem hj, e2]; rfl]
    refine pair_lt (N' _ (.tail _ m1)).1 (N' _ (.tail _ m2)).1 ?_
    have k1 : (ps.map (·.1)).getD i 0 = p1 := by rw [List.getD_eq_getElem?_getD, List.getElem?_map, g1]; rfl
    have k2 : (ps.map (·.1)).getD j 0 = p2 := by rw [List.getD_eq_getElem?_getD, List.getElem?_map, g2]; rfl
    have k3 : decide (c1 < c2) = decide (i < j) := by
      rw [List.pairwise_iff_getElem] at hinc
      have z1 : (ps.map (·.2))[i]? = some c1 := by rw [List.getElem?_map, g1]; rfl
      have z2 : (ps.map (·.2))[j]? = some c2 := by rw [List.getElem?_map, g2]; rfl
      obtain ⟨y1, x1⟩ := List.getElem?_eq_some_iff.mp z1
      obtain ⟨y2, x2⟩ := List.getElem?_eq_some_iff.mp z2
      rcases Nat.lt_trichotomy i j with q | q | q
      · have := hinc i j y1 y2 q
        rw [x1, x2] at this
        simp [this, q]
      · subst q
        rw [z1] at z2
        cases z2
        simp
      · have := hinc j i y2 y1 q
        rw [x1, x2] at this
        rw [decide_eq_false (by omega), decide_eq_false (by omega)]
    rw [k3]
    unfold lexI at hc
    rw [k1, k2] at hc
    exact hc
  · refine PySem.W.KasFin.intro F' N' (PySem.W.UpdF.head fun q hq => Nat.ne_of_lt (hD q hq)) fun h'' c F'' N'' => h D h'' _ c F'' N'' hD ?_
    rw [hpl, ← places_at (0, 0) m' ps]
    refine PairsAt.pick hp _ fun i hi => ?_
    obtain ⟨k, -, hk⟩ := List.mem_flatMap.mp hi
    have := List.mem_range.mp (List.mem_filter.mp hk).1
    rwa [List.length_map] at this
theorem sorted_one {v : Value} {Q : Value → Shared → Prop} (F : Fr h₀ L s.heap m) (N : News h₀ L s.heap news) (hl : s.heap.IsList l [v].toArray)
    (h : ∀ D h' c, Fr h₀ L h' m → News h₀ L h' ((D, listOf [v].toArray c) :: news) → (∀ q ∈ news, q.1 < D) → Q (.ref D) { s with heap := h' }) : wpAny (model prog w) A (call (.builtin "sorted") [.ref l]) Q E s := by
  have one : [v].length ≤ sizeLine := by rw [sizeLine_eq]; exact Nat.le_of_ble_eq_true rfl
  refine Calls.call_function_entry kind_sorted plain_sorted entry_sorted (args_sorted1 _) ?_
  unfold Builtin.«sorted»
  refine wpAny_bind (m := checkCount "sorted" 1 1 _) (wpAny_pure ?_)
  refine wpAny_bind (collect_list hl ?_ one)
  refine wpAny_bind (wpAny_newList ?_ one)
  have z1 : ((s.heap.push (seqObj "list" #[] 0)).update s.heap.objs.size (Obj.mapSeq (· ++ [v].toArray))).objs.size = s.heap.objs.size + 1 := by rw [Heap.size_update, size_push']
  have z2 : ∀ b o, s.heap.get? b = some o → ((s.heap.push (seqObj "list" #[] 0)).update s.heap.objs.size (Obj.mapSeq (· ++ [v].toArray))).get? b = some o := fun b o q => by
    have hlt := Heap.lt_size q
    rw [Heap.get?_update_ne _ _ _ _ (Nat.ne_of_lt hlt)]
    exact Heap.get?_push_of_some _ q
  have hL : L < s.heap.objs.size := F.ns.lt
  generalize (s.heap.push (seqObj "list" #[] 0)).update s.heap.objs.size (Obj.mapSeq (· ++ [v].toArray)) = hA at z1 z2
  have F1 := F.kept z2
  have N1 := N.grown z2
  generalize hh : hA.push (seqObj "list" [v].toArray 0) = hB
  have hoB : hB.get? hA.objs.size = some (seqObj "list" [v].toArray 0) := by rw [← hh]; exact Heap.get?_push_size _ rfl
  have F2 : Fr h₀ L hB m := hh ▸ F1.push _
  have N2 : News h₀ L hB news := N1.grown fun b x e => by rw [← hh]; exact Heap.get?_push_of_some _ e
  have hlt : ∀ q ∈ news, q.1 < hA.objs.size := fun q hq => Heap.lt_size (N1 q hq).1
  have b1 : hA.objs.size ≠ L := by rw [z1]; exact Nat.ne_of_gt (Nat.lt_succ_of_lt hL)
  have b2 : h₀.get? hA.objs.size = none := Heap.get?_none_of_le (by rw [z1]; exact Nat.le_trans F.above (Nat.le_succ_of_le (Nat.le_of_lt hL)))
  dsimp only
  clear hh F N hl
  refine wpAny_bind (wpAny_holding (wpAny_call_entry slot_list_sort ⟨_, hoB, rfl⟩ entry_list_sort ?body (args_list_sort _)))
  case body =>
    rw [list_sort_plain]
    refine wpAny_bind (listItems_at hoB rfl ?_)
    refine wpAny_bind (listUpdate_at hoB rfl ?_ one (Nat.zero_le _))
    have s1 := Heap.SameBut.update hB hA.objs.size (Obj.mapSeq fun _ => (#[] : Array Value))
    obtain ⟨e1, ho1⟩ : ∃ e1, (hB.update hA.objs.size (Obj.mapSeq fun _ => (#[] : Array Value))).get? hA.objs.size = some (seqObj "list" #[] e1) := ⟨_, get?_update_seq hoB fun _ => #[]⟩
    dsimp only
    generalize hB.update hA.objs.size (Obj.mapSeq fun _ => (#[] : Array Value)) = hC at *
    have F3 := PySem.W.kas_fr F2 s1 b1 b2
    have N3 := PySem.W.kas_news N2 s1 fun q hq => Nat.ne_of_lt (hlt q hq)
    refine wpAny_bind (seqEpoch_at ho1 rfl ?_)
    refine wpAny_bind (wpAny_newTuple ?_ one)
    refine wpAny_bind (wpAny_newList ?_ (Nat.zero_le _))
    refine wpAny_holding ?_
    have ho2 : ((hC.push (seqObj "tuple" [v].toArray 0)).push (seqObj "list" #[] 0)).get? hA.objs.size = some (seqObj "list" #[] e1) := Heap.get?_push_of_some _ (Heap.get?_push_of_some _ ho1)
    have F4 := (F3.push (seqObj "tuple" [v].toArray 0)).push (seqObj "list" #[] 0)
    have N4 : News h₀ L ((hC.push (seqObj "tuple" [v].toArray 0)).push (seqObj "list" #[] 0)) news := N3.grown fun b x e => Heap.get?_push_of_some _ (Heap.get?_push_of_some _ e)
    show wpAny (model prog w) _ _ _ _ { s with heap := (hC.push (seqObj "tuple" [v].toArray 0)).push (seqObj "list" #[] 0) }
    generalize (hC.push (seqObj "tuple" [v].toArray 0)).push (seqObj "list" #[] 0) = hD at *
    rw [if_pos (by simp), if_pos (by simp)]
    refine wpAny_bind (wpAny_pure ?_)
    rw [StateT.run_pure]
    refine wpAny_bind (wpAny_pure ?_)
    dsimp only
    refine wpAny_bind (seqEpoch_at ho2 rfl ?_)
    rw [show Array.map (fun x => x.snd) (arrOf (SortSt.mk' general' (#[v].zip #[v]) #[] 7 none)) = [v].toArray by show Array.map (fun x => x.snd) (#[v].zip #[v]) = _; simp]
    refine wpAny_bind (listUpdate_at ho2 rfl ?_ (Nat.zero_le _) (Nat.le_succ_of_le one))
    simp only [bne_self_eq_false, Bool.false_eq_true, if_false]
    refine wpAny_pure ⟨_, rfl, wpAny_pure ⟨_, rfl, ?_⟩⟩
    have s2 := Heap.SameBut.update hD hA.objs.size (Obj.mapSeq fun _ => [v].toArray)
    have F5 := PySem.W.kas_fr F4 s2 b1 b2
    have N5 := PySem.W.kas_news N4 s2 fun q hq => Nat.ne_of_lt (hlt q hq)
    obtain ⟨c2, o5⟩ : ∃ c2, (hD.update hA.objs.size (Obj.mapSeq fun _ => [v].toArray)).get? hA.objs.size = some (seqObj "list" [v].toArray c2) := ⟨_, get?_update_seq ho2 fun _ => [v].toArray⟩
    refine h hA.objs.size _ c2 F5 (fun q hq => ?_) hlt
    rcases List.mem_cons.mp hq with e | hq
    · exact e ▸ ⟨o5, b1, b2⟩
    · exact N5 q hq
theorem sortF_one {β : Type} {m : Nat} {q : Nat × β} (hlt : q.1 < m) : sortF m [q] = [q] := by
  unfold sortF
  obtain ⟨d, rfl⟩ := Nat.exists_eq_add_of_lt hlt
  rw [show q.1 + d + 1 = q.1 + (1 + d) by omega, List.range_add, List.flatMap_append, Nat.add_comm 1 d, List.range_succ_eq_map]
  have z1 : List.flatMap (fun k => [q].filter fun p => p.1 == k) (List.range q.1) = [] := by
    rw [List.flatMap_eq_nil_iff]
    intro k hk
    have := List.mem_range.mp hk
    rw [List.filter_cons, if_neg (by rw [beq_iff_eq]; omega)]
    rfl
  rw [z1, List.nil_append, List.map_cons, List.flatMap_cons]
  have z2 : List.flatMap (fun k => [q].filter fun p => p.1 == k) (List.map (fun x => q.1 + x) (List.map Nat.succ (List.range d))) = [] := by
    rw [List.flatMap_eq_nil_iff]
    intro k hk
    obtain ⟨x, hx, rfl⟩ := List.mem_map.mp hk
    obtain ⟨y, -, rfl⟩ := List.mem_map.mp hx
    rw [List.filter_cons, if_neg (by rw [beq_iff_eq]; omega)]
    rfl
  rw [z2, List.append_nil, List.filter_cons, if_pos (by simp)]
  rfl
theorem sorted_pairs {m' : Nat} {ps : List (Nat × Int)} {Q : Value → Shared → Prop} (F : Fr h₀ L s.heap m) (N : News h₀ L s.heap news) (hl : s.heap.IsList l vs.toArray) (hp : PairsAt news vs ps) (hm : ∀ p ∈ ps, p.1 < m') (h7 : m' + ps.length ≤ 7) (hinc : (ps.map (·.2)).Pairwise (· < ·))
    (h : ∀ D h' vs' c, Fr h₀ L h' m → News h₀ L h' ((D, listOf vs'.toArray c) :: news) → (∀ q ∈ news, q.1 < D) → PairsAt news vs' (sortF m' ps) → Q (.ref D) { s with heap := h' }) : wpAny (model prog w) A (call (.builtin "sorted") [.ref l]) Q E s := by
  by_cases h2 : 2 ≤ ps.length
  · exact sorted_pairs2 F N hl hp h2 hm h7 hinc h
  · clear hinc h7
    cases hp with
    | nil =>
      refine kso_sorted F N hl .nil (by decide) fun D vs' ns' c h' F' N' hD hi' hl' _ _ _ => ?_
      have e : ns' = [] := List.length_eq_zero_iff.mp hl'
      subst e
      cases hi'
      refine h D h' [] c F' N' hD ?_
      rw [show sortF m' ([] : List (Nat × Int)) = [] from List.flatMap_eq_nil_iff.mpr fun _ _ => rfl]
      exact .nil
    | cons hm1 r =>
      cases r with
      | nil =>
        refine sorted_one F N hl fun D h' c F' N' hD => h D h' _ c F' N' hD ?_
        rw [sortF_one (hm _ (.head _))]
        exact .cons hm1 .nil
      | cons => exact absurd (Nat.le_add_left 2 _) h2
end
end
section
def posF : List (List Nat) → List Nat → Nat
  | [], _ => 0
  | a :: r, n => if a = n then 0 else posF r n + 1
theorem pos_at : ∀ {ns : List (List Nat)} {n : List Nat}, n ∈ ns → ns[posF ns n]? = some n ∧ ∀ i, i < posF ns n → ns[i]? ≠ some n := by
  intro ns
  induction ns with
  | nil => exact fun h => nomatch h
  | cons a r ih =>
    intro n h
    unfold posF
    by_cases e : a = n
    · rw [if_pos e]; exact ⟨by simp [e], fun i hi => absurd hi (Nat.not_lt_zero _)⟩
    · rw [if_neg e]
      have hr : n ∈ r := by
        rcases List.mem_cons.mp h with q | q
        · exact absurd q.symm e
        · exact q
      obtain ⟨h1, h2⟩ := ih hr
      refine ⟨h1, fun i hi => ?_⟩
      cases i with
      | zero => exact fun q => e (Option.some.inj q)
      | succ i => exact h2 i (Nat.lt_of_succ_lt_succ hi)
def pairF (last ns : List (List Nat)) (n : List Nat) : Option (Nat × Int) := (firstK nearF last n).map fun k => (k, (posF ns n : Int))
def parF (last : List (List Nat)) (n : List Nat) (i : Nat) : List Nat := (List.range i).filter fun k => match last[k]? with | some p => nearF p n | none => false
theorem par_succ (last : List (List Nat)) (n : List Nat) (i : Nat) {p : List Nat} (h : last[i]? = some p) : parF last n (i + 1) = if nearF p n = true then parF last n i ++ [i] else parF last n i := by
  unfold parF
  rw [List.range_succ, List.filter_append, List.filter_cons, List.filter_nil, h]
  by_cases q : nearF p n = true <;> simp [q]
abbrev rEnv (L : Addr) : Env := envOfC "_law_rounds" (fnScope 19) L 121 (.ref 120)
def roundsFor : Stmt := stAt (inOf (stAt (fnStmts 19) 2)) 2
section
set_option maxRecDepth 100000 in
set_option maxHeartbeats 8000000 in
theorem rounds_par {w : World} {mg mb : Str → Option Value} {mean : ExcName → Option Value} {h₀ hp : Heap} {L : Addr} {m : Str → Option Value} {gn : Array GenState} {dr : Drawn} {tk₀ : Nat} {os : OsState} (G : Cx w mg mb mean h₀) {A Nw : Addr} {av : List Value} {ka : Nat} {last : List (List Nat)} {nm : List Nat} {tz : Tok} {qn ql nwo : Obj} {I Lf : Addr} {o lfo : Obj} {tl : List (Addr × Obj)}
    (e1 : ql.data = .cell (some (.ref A))) (e2 : qn.data = .cell (some (.str (mk nm) tz))) (hA : (A, listOf av.toArray ka) ∈ tl) (hav : StrsAre av (last.map mk)) (hlw : ∀ x ∈ last, IsWord x) (hnm : IsWord nm) (hll : last.length ≤ 20)
    (F : Fr h₀ L hp m) (N : News h₀ L hp ((I, o) :: (Nw, nwo) :: (Lf, lfo) :: (L + 1 + 1 + 1 + 1, qn) :: (L + 1 + 1 + 1, ql) :: tl)) (hs : Has m [("left", .ref Lf), ("new", .ref Nw)]) {Q : Flow → Shared → Prop} :
    wpAny (model PP w) (Lv 316) (exec (stAt (inOf roundsFor) 0) (rEnv L)) (After h₀ L gn dr os (fun m' news' => ∃ D ks, news' = (D, listOf ks.toArray ks.length) :: (I, o) :: (Nw, nwo) :: (Lf, lfo) :: (L + 1 + 1 + 1 + 1, qn) :: (L + 1 + 1 + 1, ql) :: tl ∧
      IntsAre ks ((parF last nm last.length).map fun (k : Nat) => (k : Int)) ∧ LCg.Off1 D ((I, o) :: (Nw, nwo) :: (Lf, lfo) :: (L + 1 + 1 + 1 + 1, qn) :: (L + 1 + 1 + 1, ql) :: tl) ∧ Has m' [("left", .ref Lf), ("new", .ref Nw), ("parents", .ref D)]) Q) (fun _ _ => False) ⟨hp, gn, dr, tk₀, os⟩ := by
  have G' := G
  obtain ⟨X, T⟩ := G
  have hal : av.length = last.length := by rw [StrsAre.len hav, List.length_map]
  (conv => (arg 3; congr; · whnf; · (arg 2; whnf)))
  replace F := frOver _ F hs
  (k_dflt (refine LCt.Assign_ListComp_T (F₀ := by k_asm) (by rfl) (by with_unfolding_all rfl) (by with_unfolding_all rfl) (by decide) (by rfl) (by decide) (by rfl) (by rfl) (by rfl) ?_))
  ((try dsimp only); repeat' (first | (with_reducible refine wpAny_execs_cons ?_) | (with_reducible refine wpAny_execs_nil ?_) | (with_reducible refine wpAny_If ?_) | ((with_reducible show wpAny _ _ (PySem.truthy (Value.str _ _)) _ _ _); refine SBL.truthy (by omega) ?_) | ( (fail_if_success (with_reducible first | show LCg.CompSrc _ _ _ _ _ _ _ _ _ _ _ _ _ _ | show LCt.CompSrcT _ _ _ _ _ _ _ _ _ _ _ _ _ _ _ | show LCp.SrcLP _ _ _ _ _ _ _ _ _ _ _ _ _ _ _ | show LCg.CompEnd _ _ _ _ _ _ _ _ _ _ _ _ _ _ | show WEnd _ _ _ _ _ _ _ _ _ _ | show After _ _ _ _ _ _ _ _ _ | show TEnd _ _ _ _ _ _ _ _ _ | show TPost _ _ _ _ _ _ _ _ _ _ _ | show wpAny _ _ (eval (Expr.ListComp _ _ _ _) _) _ _ _ | show wpAny _ _ (exec (Stmt.For _ _ _ _ _) _) _ _ _ | show wpAny _ _ (exec (Stmt.While _ _ _ _) _) _ _ _ | show wpAny _ _ (exec (Stmt.Assign _ (Expr.ListComp _ _ _ _) _) _) _ _ _ | show wpAny _ _ (call (Value.builtin "str.join") _) _ _ _ | show wpAny _ _ (compareOp _ (Value.ref _) (Value.ref _)) _ _ _ | show wpAny _ _ (call (Value.ref _) _) _ _ _)); first | (with_reducible ((with_reducible show wpAny _ _ (call (Value.builtin "len") [Value.ref _]) _ _ _); k_dflt (refine len_listK (by k_asm) (by assumption) (by omega) ?_))) | walk1 | (dsimp only; walk1))))
  refine len_listK N (.tail _ (.tail _ (.tail _ (.tail _ (.tail _ hA))))) (by omega) ?_
  rw [hal]
  ((try dsimp only); repeat' (first | (with_reducible refine wpAny_execs_cons ?_) | (with_reducible refine wpAny_execs_nil ?_) | (with_reducible refine wpAny_If ?_) | ((with_reducible show wpAny _ _ (PySem.truthy (Value.str _ _)) _ _ _); refine SBL.truthy (by omega) ?_) | ( (fail_if_success (with_reducible first | show LCg.CompSrc _ _ _ _ _ _ _ _ _ _ _ _ _ _ | show LCt.CompSrcT _ _ _ _ _ _ _ _ _ _ _ _ _ _ _ | show LCp.SrcLP _ _ _ _ _ _ _ _ _ _ _ _ _ _ _ | show LCg.CompEnd _ _ _ _ _ _ _ _ _ _ _ _ _ _ | show WEnd _ _ _ _ _ _ _ _ _ _ | show After _ _ _ _ _ _ _ _ _ | show TEnd _ _ _ _ _ _ _ _ _ | show TPost _ _ _ _ _ _ _ _ _ _ _ | show wpAny _ _ (eval (Expr.ListComp _ _ _ _) _) _ _ _ | show wpAny _ _ (exec (Stmt.For _ _ _ _ _) _) _ _ _ | show wpAny _ _ (exec (Stmt.While _ _ _ _) _) _ _ _ | show wpAny _ _ (exec (Stmt.Assign _ (Expr.ListComp _ _ _ _) _) _) _ _ _ | show wpAny _ _ (call (Value.builtin "str.join") _) _ _ _ | show wpAny _ _ (compareOp _ (Value.ref _) (Value.ref _)) _ _ _ | show wpAny _ _ (call (Value.ref _) _) _ _ _)); first | (with_reducible ((with_reducible show wpAny _ _ (call (Value.builtin "len") [Value.ref _]) _ _ _); k_dflt (refine len_listK (by k_asm) (by assumption) (by omega) ?_))) | walk1 | (dsimp only; walk1))))
  rename IsRange _ _ _ _ _ _ _ _ => hR
  rename Fr _ _ _ _ => F
  rename News _ _ _ _ => N
  refine LCt.CompSrcT.range (n := last.length) rfl F N hR (small_one (by omega) (by omega) (by omega) (by omega)) (by rw [rangeSize_nat]; omega) (Nat.le_trans hll (by decide)) (fun g => compRestT_inv (fun i ys news' => news' = (I, o) :: (Nw, nwo) :: (Lf, lfo) :: (L + 1 + 1 + 1 + 1, qn) :: (L + 1 + 1 + 1, ql) :: tl ∧ IntsAre ys ((parF last nm i).map fun (k : Nat) => (k : Int))) ?_ ?_ ?_) <;> clear F N hR
  · exact ⟨rfl, .nil⟩
  · rintro i ys _ hi ⟨rfl, hys⟩ v I2 oI C oC D' mc h tk E' ⟨t, rfl⟩ hC hm F N off hne
    rw [Int.zero_add] at hm
    have hgi : last[i]? = some last[i] := List.getElem?_eq_getElem hi
    have hIp := hlw _ (List.mem_of_getElem? hgi)
    obtain ⟨t', hat⟩ := StrsAre.at hav (k := i) (by rw [List.length_map]; omega)
    have hgx : (last.map mk).getD i default = mk last[i] := by
      rw [List.getD_eq_getElem?_getD, List.getElem?_map, hgi]; rfl
    rw [hgx] at hat
    have hps := par_succ last nm i hgi
    generalize last[i] = pn at *
    ((try dsimp only); repeat' (first | (with_reducible refine wpAny_execs_cons ?_) | (with_reducible refine wpAny_execs_nil ?_) | (with_reducible refine wpAny_If ?_) | ((with_reducible show wpAny _ _ (PySem.truthy (Value.str _ _)) _ _ _); refine SBL.truthy (by omega) ?_) | ( (fail_if_success (with_reducible first | show LCg.CompSrc _ _ _ _ _ _ _ _ _ _ _ _ _ _ | show LCt.CompSrcT _ _ _ _ _ _ _ _ _ _ _ _ _ _ _ | show LCp.SrcLP _ _ _ _ _ _ _ _ _ _ _ _ _ _ _ | show LCg.CompEnd _ _ _ _ _ _ _ _ _ _ _ _ _ _ | show WEnd _ _ _ _ _ _ _ _ _ _ | show After _ _ _ _ _ _ _ _ _ | show TEnd _ _ _ _ _ _ _ _ _ | show TPost _ _ _ _ _ _ _ _ _ _ _ | show wpAny _ _ (eval (Expr.ListComp _ _ _ _) _) _ _ _ | show wpAny _ _ (exec (Stmt.For _ _ _ _ _) _) _ _ _ | show wpAny _ _ (exec (Stmt.While _ _ _ _) _) _ _ _ | show wpAny _ _ (exec (Stmt.Assign _ (Expr.ListComp _ _ _ _) _) _) _ _ _ | show wpAny _ _ (call (Value.builtin "str.join") _) _ _ _ | show wpAny _ _ (compareOp _ (Value.ref _) (Value.ref _)) _ _ _ | show wpAny _ _ (call (Value.ref _) _) _ _ _)); first | (with_reducible ((with_reducible show wpAny _ _ (call (Value.builtin "len") [Value.ref _]) _ _ _); k_dflt (refine len_listK (by k_asm) (by assumption) (by omega) ?_))) | walk1 | (dsimp only; walk1))))
    refine item_list (N.isList (.tail _ (.tail _ (.tail _ (.tail _ (.tail _ (.tail _ (.tail _ (.tail _ hA))))))))) (by omega) (by omega) (x := .str (mk pn) t') (by rw [Int.toNat_natCast]; simpa using hat) ?_
    ((try dsimp only); repeat' (first | (with_reducible refine wpAny_execs_cons ?_) | (with_reducible refine wpAny_execs_nil ?_) | (with_reducible refine wpAny_If ?_) | ((with_reducible show wpAny _ _ (PySem.truthy (Value.str _ _)) _ _ _); refine SBL.truthy (by omega) ?_) | ( (fail_if_success (with_reducible first | show LCg.CompSrc _ _ _ _ _ _ _ _ _ _ _ _ _ _ | show LCt.CompSrcT _ _ _ _ _ _ _ _ _ _ _ _ _ _ _ | show LCp.SrcLP _ _ _ _ _ _ _ _ _ _ _ _ _ _ _ | show LCg.CompEnd _ _ _ _ _ _ _ _ _ _ _ _ _ _ | show WEnd _ _ _ _ _ _ _ _ _ _ | show After _ _ _ _ _ _ _ _ _ | show TEnd _ _ _ _ _ _ _ _ _ | show TPost _ _ _ _ _ _ _ _ _ _ _ | show wpAny _ _ (eval (Expr.ListComp _ _ _ _) _) _ _ _ | show wpAny _ _ (exec (Stmt.For _ _ _ _ _) _) _ _ _ | show wpAny _ _ (exec (Stmt.While _ _ _ _) _) _ _ _ | show wpAny _ _ (exec (Stmt.Assign _ (Expr.ListComp _ _ _ _) _) _) _ _ _ | show wpAny _ _ (call (Value.builtin "str.join") _) _ _ _ | show wpAny _ _ (compareOp _ (Value.ref _) (Value.ref _)) _ _ _ | show wpAny _ _ (call (Value.ref _) _) _ _ _)); first | (with_reducible ((with_reducible show wpAny _ _ (call (Value.builtin "len") [Value.ref _]) _ _ _); k_dflt (refine len_listK (by k_asm) (by assumption) (by omega) ?_))) | walk1 | (dsimp only; walk1))))
    refine weaken (near_spec (Cx.keeps G' F.keep) (word_len2 hIp) (word_len2 hnm) ?_)
    intro v1 h3 tk3 hv1 hk
    rw [cl_mk, cl_mk] at hv1
    replace F := frKept F hk
    replace N := newsKept N hk
    clear hk
    cases v1 with
    | true =>
      rw [if_pos hv1.symm] at hps
      ((try dsimp only); repeat' (first | (with_reducible refine wpAny_execs_cons ?_) | (with_reducible refine wpAny_execs_nil ?_) | (with_reducible refine wpAny_If ?_) | ((with_reducible show wpAny _ _ (PySem.truthy (Value.str _ _)) _ _ _); refine SBL.truthy (by omega) ?_) | ( (fail_if_success (with_reducible first | show LCg.CompSrc _ _ _ _ _ _ _ _ _ _ _ _ _ _ | show LCt.CompSrcT _ _ _ _ _ _ _ _ _ _ _ _ _ _ _ | show LCp.SrcLP _ _ _ _ _ _ _ _ _ _ _ _ _ _ _ | show LCg.CompEnd _ _ _ _ _ _ _ _ _ _ _ _ _ _ | show WEnd _ _ _ _ _ _ _ _ _ _ | show After _ _ _ _ _ _ _ _ _ | show TEnd _ _ _ _ _ _ _ _ _ | show TPost _ _ _ _ _ _ _ _ _ _ _ | show wpAny _ _ (eval (Expr.ListComp _ _ _ _) _) _ _ _ | show wpAny _ _ (exec (Stmt.For _ _ _ _ _) _) _ _ _ | show wpAny _ _ (exec (Stmt.While _ _ _ _) _) _ _ _ | show wpAny _ _ (exec (Stmt.Assign _ (Expr.ListComp _ _ _ _) _) _) _ _ _ | show wpAny _ _ (call (Value.builtin "str.join") _) _ _ _ | show wpAny _ _ (compareOp _ (Value.ref _) (Value.ref _)) _ _ _ | show wpAny _ _ (call (Value.ref _) _) _ _ _)); first | (with_reducible ((with_reducible show wpAny _ _ (call (Value.builtin "len") [Value.ref _]) _ _ _); k_dflt (refine len_listK (by k_asm) (by assumption) (by omega) ?_))) | walk1 | (dsimp only; walk1))))
      refine LCg.CompEnd.intro F N _ (fun p hp => hp) off trivial ⟨rfl, ?_⟩
      rw [hps, List.map_append]
      exact intsSnoc hys
    | false =>
      rw [if_neg (by rw [← hv1]; decide)] at hps
      ((try dsimp only); repeat' (first | (with_reducible refine wpAny_execs_cons ?_) | (with_reducible refine wpAny_execs_nil ?_) | (with_reducible refine wpAny_If ?_) | ((with_reducible show wpAny _ _ (PySem.truthy (Value.str _ _)) _ _ _); refine SBL.truthy (by omega) ?_) | ( (fail_if_success (with_reducible first | show LCg.CompSrc _ _ _ _ _ _ _ _ _ _ _ _ _ _ | show LCt.CompSrcT _ _ _ _ _ _ _ _ _ _ _ _ _ _ _ | show LCp.SrcLP _ _ _ _ _ _ _ _ _ _ _ _ _ _ _ | show LCg.CompEnd _ _ _ _ _ _ _ _ _ _ _ _ _ _ | show WEnd _ _ _ _ _ _ _ _ _ _ | show After _ _ _ _ _ _ _ _ _ | show TEnd _ _ _ _ _ _ _ _ _ | show TPost _ _ _ _ _ _ _ _ _ _ _ | show wpAny _ _ (eval (Expr.ListComp _ _ _ _) _) _ _ _ | show wpAny _ _ (exec (Stmt.For _ _ _ _ _) _) _ _ _ | show wpAny _ _ (exec (Stmt.While _ _ _ _) _) _ _ _ | show wpAny _ _ (exec (Stmt.Assign _ (Expr.ListComp _ _ _ _) _) _) _ _ _ | show wpAny _ _ (call (Value.builtin "str.join") _) _ _ _ | show wpAny _ _ (compareOp _ (Value.ref _) (Value.ref _)) _ _ _ | show wpAny _ _ (call (Value.ref _) _) _ _ _)); first | (with_reducible ((with_reducible show wpAny _ _ (call (Value.builtin "len") [Value.ref _]) _ _ _); k_dflt (refine len_listK (by k_asm) (by assumption) (by omega) ?_))) | walk1 | (dsimp only; walk1))))
      refine LCg.CompEnd.intro F N _ (fun p hp => hp) off trivial ⟨rfl, ?_⟩
      rw [hps]
      exact hys
  · rintro ys _ ⟨rfl, hys⟩ D' h tk F N off
    ((try dsimp only); repeat' (first | (with_reducible refine wpAny_execs_cons ?_) | (with_reducible refine wpAny_execs_nil ?_) | (with_reducible refine wpAny_If ?_) | ((with_reducible show wpAny _ _ (PySem.truthy (Value.str _ _)) _ _ _); refine SBL.truthy (by omega) ?_) | ( (fail_if_success (with_reducible first | show LCg.CompSrc _ _ _ _ _ _ _ _ _ _ _ _ _ _ | show LCt.CompSrcT _ _ _ _ _ _ _ _ _ _ _ _ _ _ _ | show LCp.SrcLP _ _ _ _ _ _ _ _ _ _ _ _ _ _ _ | show LCg.CompEnd _ _ _ _ _ _ _ _ _ _ _ _ _ _ | show WEnd _ _ _ _ _ _ _ _ _ _ | show After _ _ _ _ _ _ _ _ _ | show TEnd _ _ _ _ _ _ _ _ _ | show TPost _ _ _ _ _ _ _ _ _ _ _ | show wpAny _ _ (eval (Expr.ListComp _ _ _ _) _) _ _ _ | show wpAny _ _ (exec (Stmt.For _ _ _ _ _) _) _ _ _ | show wpAny _ _ (exec (Stmt.While _ _ _ _) _) _ _ _ | show wpAny _ _ (exec (Stmt.Assign _ (Expr.ListComp _ _ _ _) _) _) _ _ _ | show wpAny _ _ (call (Value.builtin "str.join") _) _ _ _ | show wpAny _ _ (compareOp _ (Value.ref _) (Value.ref _)) _ _ _ | show wpAny _ _ (call (Value.ref _) _) _ _ _)); first | (with_reducible ((with_reducible show wpAny _ _ (call (Value.builtin "len") [Value.ref _]) _ _ _); k_dflt (refine len_listK (by k_asm) (by assumption) (by omega) ?_))) | walk1 | (dsimp only; walk1))))
    exact After.next F N ⟨D', ys, rfl, hys, off, ⟨rfl, rfl, rfl, trivial⟩⟩
end
end
section
theorem pos_inj {ns : List (List Nat)} (hnd : ns.Nodup) {i : Nat} (hi : i < ns.length) : posF ns ns[i] = i := by
  obtain ⟨h1, -⟩ := pos_at (ns := ns) (n := ns[i]) (List.getElem_mem hi)
  obtain ⟨hj, e⟩ := List.getElem?_eq_some_iff.mp h1
  exact (List.getElem_inj hnd).mp e
theorem pos_inc {ns : List (List Nat)} (hnd : ns.Nodup) : (ns.map fun n => (posF ns n : Int)).Pairwise (· < ·) := by
  rw [List.pairwise_iff_getElem]
  intro i j hi hj hij
  rw [List.length_map] at hi hj
  rw [List.getElem_map, List.getElem_map, pos_inj hnd hi, pos_inj hnd hj]
  omega
theorem pairs_snd (last ns : List (List Nat)) : ∀ left : List (List Nat), (left.filterMap (pairF last ns)).map (·.2) = (left.filter fun n => (firstK nearF last n).isSome).map fun n => (posF ns n : Int) := by
  intro left
  induction left with
  | nil => rfl
  | cons n r ih =>
    rw [List.filterMap_cons, List.filter_cons]
    unfold pairF at ih ⊢
    cases h : firstK nearF last n with
    | none => simpa [h] using ih
    | some k => simpa [h] using ih
theorem pairs_inc {last ns left : List (List Nat)} (hnd : ns.Nodup) (hs : left.Sublist ns) : ((left.filterMap (pairF last ns)).map (·.2)).Pairwise (· < ·) := by
  rw [pairs_snd]
  exact (pos_inc hnd).sublist ((List.filter_sublist.trans hs).map _)
theorem pairs_lt {last ns left : List (List Nat)} : ∀ p ∈ left.filterMap (pairF last ns), p.1 < last.length := by
  intro p hp
  obtain ⟨n, -, e⟩ := List.mem_filterMap.mp hp
  unfold pairF at e
  obtain ⟨k, hk, rfl⟩ := Option.map_eq_some_iff.mp e
  obtain ⟨q, hq, -, -⟩ := firstK_lt nearF hk
  exact (List.getElem?_eq_some_iff.mp hq).1
theorem pairs_k (last ns : List (List Nat)) (k : Nat) : ∀ left : List (List Nat), (left.filterMap (pairF last ns)).filter (fun p => p.1 == k) = (left.filter fun n => decide (firstK nearF last n = some k)).map fun n => (k, (posF ns n : Int)) := by
  intro left
  induction left with
  | nil => rfl
  | cons n r ih =>
    rw [List.filterMap_cons, List.filter_cons]
    unfold pairF at ih ⊢
    cases h : firstK nearF last n with
    | none => simpa [h] using ih
    | some j =>
      by_cases e : j = k
      · subst e; simpa [h] using ih
      · simpa [h, e] using ih
theorem pairs_row (last ns left : List (List Nat)) : (sortF last.length (left.filterMap (pairF last ns))).map (·.2) = (rowF nearF last left).map fun n => (posF ns n : Int) := by
  unfold sortF rowF
  rw [List.map_flatMap, List.map_flatMap]
  congr 1
  funext k
  rw [pairs_k, List.map_map]
  rfl
theorem reach_all {ns : List (List Nat)} {n0 : List Nat} (hnd : ns.Nodup) (h0 : n0 ∈ ns) {rs : List (List (List Nat))} {last left : List (List Nat)} (R : Reach nearF ns n0 rs last left) :
    left.Sublist ns ∧ (∀ x ∈ last, x ∈ ns) ∧ (∀ x ∈ left, x ∈ ns) ∧ last.length + left.length ≤ ns.length ∧ rs.getLast? = some last ∧ rs.flatten.length ≤ ns.length := by
  obtain ⟨pre, e1, e2, e3, e4, e5⟩ := reach_run nearF hnd h0 R
  have hs : left.Sublist ns := by rw [e3]; exact List.filter_sublist
  have hfl : rs.flatten = pre.flatten ++ last := by rw [e1]; simp
  have hla : ∀ x ∈ last, x ∈ rs.flatten := fun x hx => by rw [hfl]; exact List.mem_append_right _ hx
  refine ⟨hs, fun x hx => e4 x (hla x hx), fun x hx => hs.subset hx, ?_, by rw [e1]; simp, ?_⟩
  · have hn : (last ++ left).Nodup := by
      rw [List.nodup_append]
      rw [hfl] at e5
      refine ⟨(List.nodup_append.mp e5).2.1, hnd.sublist hs, ?_⟩
      intro a ha b hb e
      subst e
      rw [e3] at hb
      have := (List.mem_filter.mp hb).2
      simp only [decide_eq_true_eq] at this
      exact this (hla _ ha)
    have := nodup_le hn (b := ns) fun x hx => by
      rcases List.mem_append.mp hx with h | h
      · exact e4 x (hla x h)
      · exact hs.subset h
    rwa [List.length_append] at this
  · exact nodup_le e5 e4
end
section
theorem gt_ne {B c : Nat} {tl : List (Addr × Obj)} (h : ∀ q ∈ tl, @LT.lt Nat _ B q.1) (hc : c ≤ B) : ∀ q ∈ tl, q.1 ≠ c := fun q hq e => by
  have h1 := h q hq
  have e' : @Eq Nat q.1 c := e
  omega
theorem par_head (last : List (List Nat)) (nm : List Nat) : (parF last nm last.length).head? = firstK nearF last nm := by
  unfold parF firstK
  congr 1
  apply List.filter_congr
  intro k _
  cases last[k]? <;> rfl
theorem subNF {α : Type} {d l D i a b c e f g j : α} {t : List α} : ∀ p ∈ i :: a :: b :: c :: e :: f :: g :: j :: d :: t, p ∈ d :: l :: D :: i :: a :: b :: c :: e :: f :: g :: j :: t := fun p hp => by
  rcases List.mem_cons.mp ((List.perm_middle (a := d) (l₁ := [i, a, b, c, e, f, g, j]) (l₂ := t)).mem_iff.mp hp) with rfl | h
  · exact .head _
  · exact .tail _ (.tail _ (.tail _ h))
theorem ne_of7 {I a b c e f g j : Addr} {oa ob oc oe of og oj : Obj} {t : List (Addr × Obj)} (h1 : @Ne Nat a I) (h2 : @Ne Nat b I) (h3 : @Ne Nat c I) (h4 : @Ne Nat e I) (h5 : @Ne Nat f I) (h6 : @Ne Nat g I) (h8 : @Ne Nat j I) (h7 : ∀ q ∈ t, q.1 ≠ I) :
    ∀ p ∈ (a, oa) :: (b, ob) :: (c, oc) :: (e, oe) :: (f, of) :: (g, og) :: (j, oj) :: t, p.1 ≠ I :=
  List.forall_mem_cons.mpr ⟨h1, List.forall_mem_cons.mpr ⟨h2, List.forall_mem_cons.mpr ⟨h3, List.forall_mem_cons.mpr ⟨h4, List.forall_mem_cons.mpr ⟨h5, List.forall_mem_cons.mpr ⟨h6, List.forall_mem_cons.mpr ⟨h8, h7⟩⟩⟩⟩⟩⟩⟩
/-- what new holds behind i names of left -/
inductive RoJ (L Nw Lf Rs : Addr) (lv : List Value) (kl : Nat) (ql q0 q2 ro : Obj) (tl : List (Addr × Obj)) (last left ns : List (List Nat)) (i : Nat) (m' : Str → Option Value) (news' : List (Addr × Obj)) : Prop
  | mk (nv : List Value) (kn : Nat) (qn : Obj) (tl' : List (Addr × Obj)) (e : news' = (Nw, listOf nv.toArray kn) :: (Lf, listOf lv.toArray kl) :: (L + 1 + 1 + 1 + 1, qn) :: (L + 1 + 1 + 1, ql) :: (L + 1, q0) :: (L + 1 + 1, q2) :: (Rs, ro) :: tl') (hq : ∃ v, qn.data = .cell v) (hsub : ∀ q ∈ tl, q ∈ tl')
      (t1 : ∀ q ∈ tl', q.1 ≠ L + 1 + 1 + 1 + 1 ∧ q.1 ≠ L + 1 + 1 + 1) (t2 : ∀ q ∈ tl', q.1 ≠ Nw) (t3 : ∀ q ∈ tl', q.1 ≠ Rs) (hp : PairsAt tl' nv ((left.take i).filterMap (pairF last ns))) (hl : nv.length ≤ i) (hs : Has m' [("left", .ref Lf), ("new", .ref Nw)])
section
set_option maxRecDepth 100000 in
set_option maxHeartbeats 8000000 in
theorem rounds_for {w : World} {mg mb : Str → Option Value} {mean : ExcName → Option Value} {h₀ hp : Heap} {L : Addr} {m : Str → Option Value} {gn : Array GenState} {dr : Drawn} {tk₀ : Nat} {os : OsState} (G : Cx w mg mb mean h₀) {A Nw Nm Lf Rs : Addr} {av lv vn : List Value} {ka kl kn : Nat} {last left ns : List (List Nat)} {qn ql q0 q2 ro : Obj} {tl : List (Addr × Obj)}
    (e1 : ql.data = .cell (some (.ref A))) (e0 : q0.data = .cell (some (.ref Nm))) (e2 : ∃ v, qn.data = .cell v) (hA : (A, listOf av.toArray ka) ∈ tl) (hav : StrsAre av (last.map mk)) (hlv : StrsAre lv (left.map mk)) (hl : h₀.IsList Nm vn.toArray) (hnd : h₀.NoDictAt (.ref Nm)) (hvn : StrsAre vn (ns.map mk)) (hnw : ∀ x ∈ ns, IsWord x) (hlast : ∀ x ∈ last, x ∈ ns) (hleft : ∀ x ∈ left, x ∈ ns) (hnl : ns.length ≤ 7) (hll : last.length ≤ 7) (hlf : left.length ≤ 7)
    (z1 : @Ne Nat Nw Lf) (z2 : @LT.lt Nat _ (L + 1 + 1 + 1 + 1) Nw) (z3 : @Ne Nat Nw Rs) (z4 : @Ne Nat Lf (L + 1 + 1 + 1 + 1)) (z5 : @LT.lt Nat _ (L + 1 + 1 + 1 + 1) Rs) (t1 : ∀ q ∈ tl, q.1 ≠ L + 1 + 1 + 1 + 1 ∧ q.1 ≠ L + 1 + 1 + 1) (t2 : ∀ q ∈ tl, q.1 ≠ Nw) (t3 : ∀ q ∈ tl, q.1 ≠ Rs)
    (F : Fr h₀ L hp m) (N : News h₀ L hp ((Nw, listOf #[] kn) :: (Lf, listOf lv.toArray kl) :: (L + 1 + 1 + 1 + 1, qn) :: (L + 1 + 1 + 1, ql) :: (L + 1, q0) :: (L + 1 + 1, q2) :: (Rs, ro) :: tl)) (hs : Has m [("left", .ref Lf), ("new", .ref Nw)]) {Q : Flow → Shared → Prop} :
    wpAny (model PP w) (Lv 316) (exec roundsFor (rEnv L)) (After h₀ L gn dr os (RoJ L Nw Lf Rs lv kl ql q0 q2 ro tl last left ns lv.length) Q) (fun _ _ => False) ⟨hp, gn, dr, tk₀, os⟩ := by
  have G' := G
  obtain ⟨X, T⟩ := G
  (conv => (arg 3; congr; · whnf; · (arg 2; whnf)))
  replace F := frOver _ F hs
  refine for_in ?_
  ((try dsimp only); repeat' (first | (with_reducible refine wpAny_execs_cons ?_) | (with_reducible refine wpAny_execs_nil ?_) | (with_reducible refine wpAny_If ?_) | ((with_reducible show wpAny _ _ (PySem.truthy (Value.str _ _)) _ _ _); refine SBL.truthy (by omega) ?_) | ( (fail_if_success (with_reducible first | show LCg.CompSrc _ _ _ _ _ _ _ _ _ _ _ _ _ _ | show LCt.CompSrcT _ _ _ _ _ _ _ _ _ _ _ _ _ _ _ | show LCp.SrcLP _ _ _ _ _ _ _ _ _ _ _ _ _ _ _ | show LCg.CompEnd _ _ _ _ _ _ _ _ _ _ _ _ _ _ | show WEnd _ _ _ _ _ _ _ _ _ _ | show After _ _ _ _ _ _ _ _ _ | show TEnd _ _ _ _ _ _ _ _ _ | show TPost _ _ _ _ _ _ _ _ _ _ _ | show wpAny _ _ (eval (Expr.ListComp _ _ _ _) _) _ _ _ | show wpAny _ _ (exec (Stmt.For _ _ _ _ _) _) _ _ _ | show wpAny _ _ (exec (Stmt.While _ _ _ _) _) _ _ _ | show wpAny _ _ (exec (Stmt.Assign _ (Expr.ListComp _ _ _ _) _) _) _ _ _ | show wpAny _ _ (call (Value.builtin "str.join") _) _ _ _ | show wpAny _ _ (compareOp _ (Value.ref _) (Value.ref _)) _ _ _ | show wpAny _ _ (call (Value.ref _) _) _ _ _)); first | walk1 | (dsimp only; walk1))))
  refine for_listG (vs := lv) (kk := kl) (RoJ L Nw Lf Rs lv kl ql q0 q2 ro tl last left ns) rfl
    (by rintro i m₁ _ ⟨nv, kn, qn, tl', rfl, _⟩; k_mem) F N ?_ ?_ ?_ <;> clear F N
  · exact ⟨[], kn, qn, tl, rfl, e2, (fun q h => h), t1, t2, t3, .nil, Nat.zero_le _, ⟨rfl, rfl, trivial⟩⟩
  · rintro i v m₁ _ I h tk o hvi ⟨nv, kn, qn, tl', rfl, ⟨v0, e2⟩, hsub, t1', t2', t3', hpr, hnvl, hs'⟩ hne F N
    obtain ⟨z, tz, rfl, hz⟩ := StrsAre.mem hlv hvi
    rw [List.getElem?_map] at hz
    obtain ⟨nm, hnm, rfl⟩ := Option.map_eq_some_iff.mp hz
    have hin := hleft nm (List.mem_of_getElem? hnm)
    have hIs := hnw nm hin
    replace F := frOver _ F hs'
    have i1 : @Ne Nat Nw I := hne _ (.head _)
    have i2 : @Ne Nat Lf I := hne _ (.tail _ (.head _))
    have i3 : @Ne Nat (L + 1 + 1 + 1 + 1) I := hne _ (.tail _ (.tail _ (.head _)))
    have i4 : @Ne Nat (L + 1 + 1 + 1) I := hne _ (.tail _ (.tail _ (.tail _ (.head _))))
    have i5 : @Ne Nat (L + 1) I := hne _ (.tail _ (.tail _ (.tail _ (.tail _ (.head _)))))
    have i6 : @Ne Nat (L + 1 + 1) I := hne _ (.tail _ (.tail _ (.tail _ (.tail _ (.tail _ (.head _))))))
    have i8 : @Ne Nat Rs I := hne _ (.tail _ (.tail _ (.tail _ (.tail _ (.tail _ (.tail _ (.head _)))))))
    have i7 : ∀ q ∈ tl', q.1 ≠ I := fun q hq => hne q (.tail _ (.tail _ (.tail _ (.tail _ (.tail _ (.tail _ (.tail _ hq)))))))
    have c4 : ∀ q ∈ tl', q.1 ≠ L + 1 + 1 + 1 + 1 := fun q hq => (t1' q hq).1
    ((try dsimp only); repeat' (first | (with_reducible refine wpAny_execs_cons ?_) | (with_reducible refine wpAny_execs_nil ?_) | (with_reducible refine wpAny_If ?_) | ((with_reducible show wpAny _ _ (PySem.truthy (Value.str _ _)) _ _ _); refine SBL.truthy (by omega) ?_) | ( (fail_if_success (with_reducible first | show LCg.CompSrc _ _ _ _ _ _ _ _ _ _ _ _ _ _ | show LCt.CompSrcT _ _ _ _ _ _ _ _ _ _ _ _ _ _ _ | show LCp.SrcLP _ _ _ _ _ _ _ _ _ _ _ _ _ _ _ | show LCg.CompEnd _ _ _ _ _ _ _ _ _ _ _ _ _ _ | show WEnd _ _ _ _ _ _ _ _ _ _ | show After _ _ _ _ _ _ _ _ _ | show TEnd _ _ _ _ _ _ _ _ _ | show TPost _ _ _ _ _ _ _ _ _ _ _ | show wpAny _ _ (eval (Expr.ListComp _ _ _ _) _) _ _ _ | show wpAny _ _ (exec (Stmt.For _ _ _ _ _) _) _ _ _ | show wpAny _ _ (exec (Stmt.While _ _ _ _) _) _ _ _ | show wpAny _ _ (exec (Stmt.Assign _ (Expr.ListComp _ _ _ _) _) _) _ _ _ | show wpAny _ _ (call (Value.builtin "str.join") _) _ _ _ | show wpAny _ _ (compareOp _ (Value.ref _) (Value.ref _)) _ _ _ | show wpAny _ _ (call (Value.ref _) _) _ _ _)); first | walk1 | (dsimp only; walk1))))
    have hlw : ∀ x ∈ last, IsWord x := fun x hx => hnw x (hlast x hx)
    rename Fr _ _ _ _ => F
    rename News _ _ _ _ => N
    refine cut F _ (rounds_par G' (tl := (L + 1, q0) :: (L + 1 + 1, q2) :: (Rs, ro) :: tl') e1 ‹_› (.tail _ (.tail _ (.tail _ (hsub _ hA)))) hav hlw hIs (by omega) F N ⟨rfl, rfl, trivial⟩) ?_
    clear F N
    rintro h₂ tk₂ m₂ _ F N ⟨D, ks, rfl, hks, off, hs₂⟩
    replace F := frOver _ F hs₂
    have hph := par_head last nm
    have htk : (left.take (i + 1)).filterMap (pairF last ns) = (left.take i).filterMap (pairF last ns) ++ (pairF last ns nm).toList := by
      rw [List.take_add_one, hnm, List.filterMap_append]
      show _ ++ List.filterMap _ [nm] = _
      rw [List.filterMap_cons, List.filterMap_nil]
      cases pairF last ns nm <;> rfl
    generalize parF last nm last.length = pl at *
    cases pl with
    | nil =>
      have hp0 : pairF last ns nm = none := by
        unfold pairF; rw [← hph]; rfl
      ((try dsimp only); repeat' (first | (with_reducible refine wpAny_execs_cons ?_) | (with_reducible refine wpAny_execs_nil ?_) | (with_reducible refine wpAny_If ?_) | ((with_reducible show wpAny _ _ (PySem.truthy (Value.str _ _)) _ _ _); refine SBL.truthy (by omega) ?_) | ( (fail_if_success (with_reducible first | show LCg.CompSrc _ _ _ _ _ _ _ _ _ _ _ _ _ _ | show LCt.CompSrcT _ _ _ _ _ _ _ _ _ _ _ _ _ _ _ | show LCp.SrcLP _ _ _ _ _ _ _ _ _ _ _ _ _ _ _ | show LCg.CompEnd _ _ _ _ _ _ _ _ _ _ _ _ _ _ | show WEnd _ _ _ _ _ _ _ _ _ _ | show After _ _ _ _ _ _ _ _ _ | show TEnd _ _ _ _ _ _ _ _ _ | show TPost _ _ _ _ _ _ _ _ _ _ _ | show wpAny _ _ (eval (Expr.ListComp _ _ _ _) _) _ _ _ | show wpAny _ _ (exec (Stmt.For _ _ _ _ _) _) _ _ _ | show wpAny _ _ (exec (Stmt.While _ _ _ _) _) _ _ _ | show wpAny _ _ (exec (Stmt.Assign _ (Expr.ListComp _ _ _ _) _) _) _ _ _ | show wpAny _ _ (call (Value.builtin "str.join") _) _ _ _ | show wpAny _ _ (compareOp _ (Value.ref _) (Value.ref _)) _ _ _ | show wpAny _ _ (call (Value.ref _) _) _ _ _)); first | walk1 | (dsimp only; walk1))))
      walk1
      ((try dsimp only); repeat' (first | (with_reducible refine wpAny_execs_cons ?_) | (with_reducible refine wpAny_execs_nil ?_) | (with_reducible refine wpAny_If ?_) | ((with_reducible show wpAny _ _ (PySem.truthy (Value.str _ _)) _ _ _); refine SBL.truthy (by omega) ?_) | ( (fail_if_success (with_reducible first | show LCg.CompSrc _ _ _ _ _ _ _ _ _ _ _ _ _ _ | show LCt.CompSrcT _ _ _ _ _ _ _ _ _ _ _ _ _ _ _ | show LCp.SrcLP _ _ _ _ _ _ _ _ _ _ _ _ _ _ _ | show LCg.CompEnd _ _ _ _ _ _ _ _ _ _ _ _ _ _ | show WEnd _ _ _ _ _ _ _ _ _ _ | show After _ _ _ _ _ _ _ _ _ | show TEnd _ _ _ _ _ _ _ _ _ | show TPost _ _ _ _ _ _ _ _ _ _ _ | show wpAny _ _ (eval (Expr.ListComp _ _ _ _) _) _ _ _ | show wpAny _ _ (exec (Stmt.For _ _ _ _ _) _) _ _ _ | show wpAny _ _ (exec (Stmt.While _ _ _ _) _) _ _ _ | show wpAny _ _ (exec (Stmt.Assign _ (Expr.ListComp _ _ _ _) _) _) _ _ _ | show wpAny _ _ (call (Value.builtin "str.join") _) _ _ _ | show wpAny _ _ (compareOp _ (Value.ref _) (Value.ref _)) _ _ _ | show wpAny _ _ (call (Value.ref _) _) _ _ _)); first | walk1 | (dsimp only; walk1))))
      rename Fr _ _ _ _ => F
      rename News _ _ _ _ => N
      rw [hp0, Option.toList_none, List.append_nil] at htk
      refine TEnd.intro _ F N (by intro p hp; exact .tail _ (.tail _ hp)) (ne_of7 i1 i2 i3 i4 i5 i6 i8 i7) ⟨nv, kn, _, tl', rfl, ⟨_, ‹_›⟩, hsub, t1', t2', t3', htk ▸ hpr, Nat.le_succ_of_le hnvl, ⟨rfl, rfl, trivial⟩⟩
    | cons k pl =>
      have hp1 : pairF last ns nm = some (k, (posF ns nm : Int)) := by
        unfold pairF; rw [← hph]; rfl
      rw [List.map_cons] at hks
      cases hks with | cons _ kt hks =>
      ((try dsimp only); repeat' (first | (with_reducible refine wpAny_execs_cons ?_) | (with_reducible refine wpAny_execs_nil ?_) | (with_reducible refine wpAny_If ?_) | ((with_reducible show wpAny _ _ (PySem.truthy (Value.str _ _)) _ _ _); refine SBL.truthy (by omega) ?_) | ( (fail_if_success (with_reducible first | show LCg.CompSrc _ _ _ _ _ _ _ _ _ _ _ _ _ _ | show LCt.CompSrcT _ _ _ _ _ _ _ _ _ _ _ _ _ _ _ | show LCp.SrcLP _ _ _ _ _ _ _ _ _ _ _ _ _ _ _ | show LCg.CompEnd _ _ _ _ _ _ _ _ _ _ _ _ _ _ | show WEnd _ _ _ _ _ _ _ _ _ _ | show After _ _ _ _ _ _ _ _ _ | show TEnd _ _ _ _ _ _ _ _ _ | show TPost _ _ _ _ _ _ _ _ _ _ _ | show wpAny _ _ (eval (Expr.ListComp _ _ _ _) _) _ _ _ | show wpAny _ _ (exec (Stmt.For _ _ _ _ _) _) _ _ _ | show wpAny _ _ (exec (Stmt.While _ _ _ _) _) _ _ _ | show wpAny _ _ (exec (Stmt.Assign _ (Expr.ListComp _ _ _ _) _) _) _ _ _ | show wpAny _ _ (call (Value.builtin "str.join") _) _ _ _ | show wpAny _ _ (compareOp _ (Value.ref _) (Value.ref _)) _ _ _ | show wpAny _ _ (call (Value.ref _) _) _ _ _)); first | walk1 | (dsimp only; walk1))))
      walk1
      ((try dsimp only); repeat' (first | (with_reducible refine wpAny_execs_cons ?_) | (with_reducible refine wpAny_execs_nil ?_) | (with_reducible refine wpAny_If ?_) | ((with_reducible show wpAny _ _ (PySem.truthy (Value.str _ _)) _ _ _); refine SBL.truthy (by omega) ?_) | ( (fail_if_success (with_reducible first | show LCg.CompSrc _ _ _ _ _ _ _ _ _ _ _ _ _ _ | show LCt.CompSrcT _ _ _ _ _ _ _ _ _ _ _ _ _ _ _ | show LCp.SrcLP _ _ _ _ _ _ _ _ _ _ _ _ _ _ _ | show LCg.CompEnd _ _ _ _ _ _ _ _ _ _ _ _ _ _ | show WEnd _ _ _ _ _ _ _ _ _ _ | show After _ _ _ _ _ _ _ _ _ | show TEnd _ _ _ _ _ _ _ _ _ | show TPost _ _ _ _ _ _ _ _ _ _ _ | show wpAny _ _ (eval (Expr.ListComp _ _ _ _) _) _ _ _ | show wpAny _ _ (exec (Stmt.For _ _ _ _ _) _) _ _ _ | show wpAny _ _ (exec (Stmt.While _ _ _ _) _) _ _ _ | show wpAny _ _ (exec (Stmt.Assign _ (Expr.ListComp _ _ _ _) _) _) _ _ _ | show wpAny _ _ (call (Value.builtin "str.join") _) _ _ _ | show wpAny _ _ (compareOp _ (Value.ref _) (Value.ref _)) _ _ _ | show wpAny _ _ (call (Value.ref _) _) _ _ _)); first | walk1 | (dsimp only; walk1))))
      · exact absurd ‹decide _ = true› (by simp)
      rename Fr _ _ _ _ => F
      rename News _ _ _ _ => N
      refine getMethod_list_of PySem.F.slot_list_index PySem.F.type_list_index (hl.at fun o e => F.keep _ _ e) (hnd.keeps F.keep) ?_
      ((try dsimp only); repeat' (first | (with_reducible refine wpAny_execs_cons ?_) | (with_reducible refine wpAny_execs_nil ?_) | (with_reducible refine wpAny_If ?_) | ((with_reducible show wpAny _ _ (PySem.truthy (Value.str _ _)) _ _ _); refine SBL.truthy (by omega) ?_) | ( (fail_if_success (with_reducible first | show LCg.CompSrc _ _ _ _ _ _ _ _ _ _ _ _ _ _ | show LCt.CompSrcT _ _ _ _ _ _ _ _ _ _ _ _ _ _ _ | show LCp.SrcLP _ _ _ _ _ _ _ _ _ _ _ _ _ _ _ | show LCg.CompEnd _ _ _ _ _ _ _ _ _ _ _ _ _ _ | show WEnd _ _ _ _ _ _ _ _ _ _ | show After _ _ _ _ _ _ _ _ _ | show TEnd _ _ _ _ _ _ _ _ _ | show TPost _ _ _ _ _ _ _ _ _ _ _ | show wpAny _ _ (eval (Expr.ListComp _ _ _ _) _) _ _ _ | show wpAny _ _ (exec (Stmt.For _ _ _ _ _) _) _ _ _ | show wpAny _ _ (exec (Stmt.While _ _ _ _) _) _ _ _ | show wpAny _ _ (exec (Stmt.Assign _ (Expr.ListComp _ _ _ _) _) _) _ _ _ | show wpAny _ _ (call (Value.builtin "str.join") _) _ _ _ | show wpAny _ _ (compareOp _ (Value.ref _) (Value.ref _)) _ _ _ | show wpAny _ _ (call (Value.ref _) _) _ _ _)); first | walk1 | (dsimp only; walk1))))
      obtain ⟨x1, x2⟩ := pos_at hin
      refine index_strs (ss := ns.map mk) (j := posF ns nm) (hl.at fun o e => F.keep _ _ e) hvn (by rw [List.getElem?_map, x1]; rfl) (fun i hi e => ?_) (by rw [List.length_map]; omega) ?_
      · rw [List.getElem?_map] at e
        obtain ⟨y, e1, e2⟩ := Option.map_eq_some_iff.mp e
        have : y = nm := by rw [← cl_mk y, e2, cl_mk]
        exact x2 i hi (this ▸ e1)
      obtain ⟨o1, o2, o3, o4, o5, o6, o7, o8, o9⟩ := off
      have hnvx : nv.length ≤ 1000 := by
        have := (List.getElem?_eq_some_iff.mp hnm).1
        omega
      ((try dsimp only); repeat' (first | (with_reducible refine wpAny_execs_cons ?_) | (with_reducible refine wpAny_execs_nil ?_) | (with_reducible refine wpAny_If ?_) | ((with_reducible show wpAny _ _ (PySem.truthy (Value.str _ _)) _ _ _); refine SBL.truthy (by omega) ?_) | ( (fail_if_success (with_reducible first | show LCg.CompSrc _ _ _ _ _ _ _ _ _ _ _ _ _ _ | show LCt.CompSrcT _ _ _ _ _ _ _ _ _ _ _ _ _ _ _ | show LCp.SrcLP _ _ _ _ _ _ _ _ _ _ _ _ _ _ _ | show LCg.CompEnd _ _ _ _ _ _ _ _ _ _ _ _ _ _ | show WEnd _ _ _ _ _ _ _ _ _ _ | show After _ _ _ _ _ _ _ _ _ | show TEnd _ _ _ _ _ _ _ _ _ | show TPost _ _ _ _ _ _ _ _ _ _ _ | show wpAny _ _ (eval (Expr.ListComp _ _ _ _) _) _ _ _ | show wpAny _ _ (exec (Stmt.For _ _ _ _ _) _) _ _ _ | show wpAny _ _ (exec (Stmt.While _ _ _ _) _) _ _ _ | show wpAny _ _ (exec (Stmt.Assign _ (Expr.ListComp _ _ _ _) _) _) _ _ _ | show wpAny _ _ (call (Value.builtin "str.join") _) _ _ _ | show wpAny _ _ (compareOp _ (Value.ref _) (Value.ref _)) _ _ _ | show wpAny _ _ (call (Value.ref _) _) _ _ _)); first | walk1 | (dsimp only; walk1))))
      rename Fr _ _ _ _ => F
      rename News _ _ _ _ => N
      rename _ ∧ _ ∧ _ ∧ _ ∧ _ ∧ _ ∧ _ ∧ _ ∧ _ ∧ _ ∧ AllLt _ _ => hD
      rename Addr => T'
      rw [List.push_toArray] at N
      refine TEnd.intro _ F N subNF (ne_of7 i1 i2 i3 i4 i5 i6 i8 (List.forall_mem_cons.mpr ⟨Nat.ne_of_gt hD.2.2.1, i7⟩)) ⟨nv ++ [.ref T'], _, _, _, rfl, ⟨_, ‹_›⟩, (fun q hq => .tail _ (hsub q hq)), List.forall_mem_cons.mpr ⟨⟨Nat.ne_of_gt hD.2.2.2.2.2.1, Nat.ne_of_gt hD.2.2.2.2.2.2.1⟩, t1'⟩, List.forall_mem_cons.mpr ⟨Nat.ne_of_gt hD.2.2.2.1, t2'⟩, List.forall_mem_cons.mpr ⟨Nat.ne_of_gt hD.2.2.2.2.2.2.2.2.2.1, t3'⟩, ?_, by rw [List.length_append, List.length_singleton]; exact Nat.succ_le_succ hnvl, ⟨rfl, rfl, trivial⟩⟩
      · rw [htk, hp1]
        exact PairsAt.app (PairsAt.mono (fun q hq => .tail _ hq) hpr) (.cons (.head _) .nil)
  · exact fun m₁ _ h tk hJ F N => After.next F N hJ
end
end
section
theorem left_snoc {row left : List (List Nat)} {i : Nat} {nm : List Nat} (h : left[i]? = some nm) : (left.take (i + 1)).filter (fun n => decide (n ∉ row)) = (left.take i).filter (fun n => decide (n ∉ row)) ++ if nm ∈ row then [] else [nm] := by
  rw [take_snoc h, List.filter_append]
  congr 1
  by_cases e : nm ∈ row <;> simp [e]
theorem any_row (row : List (List Nat)) (nm : List Nat) : ((row.map mk).any fun x => x == mk nm) = decide (nm ∈ row) := by
  rw [Bool.eq_iff_iff, List.any_eq_true, decide_eq_true_eq]
  constructor
  · rintro ⟨x, hx, e⟩
    obtain ⟨y, hy, rfl⟩ := List.mem_map.mp hx
    have : y = nm := by rw [← cl_mk y, eq_of_beq e, cl_mk]
    exact this ▸ hy
  · intro h
    exact ⟨mk nm, List.mem_map.mpr ⟨nm, h, rfl⟩, by simp⟩
section
set_option maxRecDepth 100000 in
set_option maxHeartbeats 8000000 in
theorem rounds_left {w : World} {mg mb : Str → Option Value} {mean : ExcName → Option Value} {h₀ hp : Heap} {L : Addr} {m : Str → Option Value} {gn : Array GenState} {dr : Drawn} {tk₀ : Nat} {os : OsState} (G : Cx w mg mb mean h₀) {D Lf Rs Nw : Addr} {dv lv rv : List Value} {kd kl kr : Nat} {row left : List (List Nat)} {qn ql q0 q2 : Obj} {tl : List (Addr × Obj)}
    (e2 : q2.data = .cell (some (.ref Rs))) (hgl : rv[((-1 : Int) + (rv.length : Int)).toNat]? = some (.ref D)) (h1 : 1 ≤ rv.length) (h2 : rv.length ≤ 100) (hdv : StrsAre dv (row.map mk)) (hlv : StrsAre lv (left.map mk)) (hll : left.length ≤ 7)
    (F : Fr h₀ L hp m) (N : News h₀ L hp ((D, listOf dv.toArray kd) :: (Lf, listOf lv.toArray kl) :: (L + 1 + 1 + 1 + 1, qn) :: (L + 1 + 1 + 1, ql) :: (L + 1, q0) :: (L + 1 + 1, q2) :: (Rs, listOf rv.toArray kr) :: tl)) (hs : Has m [("left", .ref Lf), ("new", .ref Nw)]) {Q : Flow → Shared → Prop} :
    wpAny (model PP w) (Lv 316) (exec (stAt (inOf (stAt (fnStmts 19) 2)) 4) (rEnv L)) (After h₀ L gn dr os (fun m' news' => ∃ Le ev, news' = (Le, listOf ev.toArray ev.length) :: (D, listOf dv.toArray kd) :: (Lf, listOf lv.toArray kl) :: (L + 1 + 1 + 1 + 1, qn) :: (L + 1 + 1 + 1, ql) :: (L + 1, q0) :: (L + 1 + 1, q2) :: (Rs, listOf rv.toArray kr) :: tl ∧
      StrsAre ev ((left.filter fun n => decide (n ∉ row)).map mk) ∧ LCg.Off1 Le ((D, listOf dv.toArray kd) :: (Lf, listOf lv.toArray kl) :: (L + 1 + 1 + 1 + 1, qn) :: (L + 1 + 1 + 1, ql) :: (L + 1, q0) :: (L + 1 + 1, q2) :: (Rs, listOf rv.toArray kr) :: tl) ∧ Has m' [("left", .ref Le)]) Q) (fun _ _ => False) ⟨hp, gn, dr, tk₀, os⟩ := by
  have G' := G
  obtain ⟨X, T⟩ := G
  (conv => (arg 3; congr; · whnf; · (arg 2; whnf)))
  replace F := frOver _ F hs
  have hvl : lv.length = left.length := by rw [StrsAre.len hlv, List.length_map]
  (k_dflt (refine LCt.Assign_ListComp_T (F₀ := by k_asm) (by rfl) (by with_unfolding_all rfl) (by with_unfolding_all rfl) (by decide) (by rfl) (by decide) (by rfl) (by rfl) (by rfl) ?_))
  ((try dsimp only); repeat' (first | (with_reducible refine wpAny_execs_cons ?_) | (with_reducible refine wpAny_execs_nil ?_) | (with_reducible refine wpAny_If ?_) | ((with_reducible show wpAny _ _ (PySem.truthy (Value.str _ _)) _ _ _); refine SBL.truthy (by omega) ?_) | ( (fail_if_success (with_reducible first | show LCg.CompSrc _ _ _ _ _ _ _ _ _ _ _ _ _ _ | show LCt.CompSrcT _ _ _ _ _ _ _ _ _ _ _ _ _ _ _ | show LCp.SrcLP _ _ _ _ _ _ _ _ _ _ _ _ _ _ _ | show LCg.CompEnd _ _ _ _ _ _ _ _ _ _ _ _ _ _ | show WEnd _ _ _ _ _ _ _ _ _ _ | show After _ _ _ _ _ _ _ _ _ | show TEnd _ _ _ _ _ _ _ _ _ | show TPost _ _ _ _ _ _ _ _ _ _ _ | show wpAny _ _ (eval (Expr.ListComp _ _ _ _) _) _ _ _ | show wpAny _ _ (exec (Stmt.For _ _ _ _ _) _) _ _ _ | show wpAny _ _ (exec (Stmt.While _ _ _ _) _) _ _ _ | show wpAny _ _ (exec (Stmt.Assign _ (Expr.ListComp _ _ _ _) _) _) _ _ _ | show wpAny _ _ (call (Value.builtin "str.join") _) _ _ _ | show wpAny _ _ (compareOp _ (Value.ref _) (Value.ref _)) _ _ _ | show wpAny _ _ (call (Value.ref _) _) _ _ _)); first | walk1 | (dsimp only; walk1))))
  refine LCt.CompSrcT.ledger rfl F N (.tail _ (.head _)) (by rw [List.size_toArray]; exact Nat.le_trans (show lv.length ≤ 7 by omega) (by decide)) (fun g => ?_)
  rw [List.size_toArray]
  refine compRestT_inv (fun i ys news' => news' = (D, listOf dv.toArray kd) :: (Lf, listOf lv.toArray kl) :: (L + 1 + 1 + 1 + 1, qn) :: (L + 1 + 1 + 1, ql) :: (L + 1, q0) :: (L + 1 + 1, q2) :: (Rs, listOf rv.toArray kr) :: tl ∧ StrsAre ys (((left.take i).filter fun n => decide (n ∉ row)).map mk)) ?_ ?_ ?_ <;> clear F N
  · exact ⟨rfl, .nil⟩
  · rintro i ys _ hi ⟨rfl, hys⟩ v I2 oI C oC D' mc h tk E' hv hC hm F N off hne
    have hv' : lv[i]? = some v := by simpa using hv
    obtain ⟨z, tz, rfl, hz⟩ := StrsAre.mem hlv hv'
    rw [List.getElem?_map] at hz
    obtain ⟨nm, hnm, rfl⟩ := Option.map_eq_some_iff.mp hz
    have hsn := left_snoc (row := row) hnm
    ((try dsimp only); repeat' (first | (with_reducible refine wpAny_execs_cons ?_) | (with_reducible refine wpAny_execs_nil ?_) | (with_reducible refine wpAny_If ?_) | ((with_reducible show wpAny _ _ (PySem.truthy (Value.str _ _)) _ _ _); refine SBL.truthy (by omega) ?_) | ( (fail_if_success (with_reducible first | show LCg.CompSrc _ _ _ _ _ _ _ _ _ _ _ _ _ _ | show LCt.CompSrcT _ _ _ _ _ _ _ _ _ _ _ _ _ _ _ | show LCp.SrcLP _ _ _ _ _ _ _ _ _ _ _ _ _ _ _ | show LCg.CompEnd _ _ _ _ _ _ _ _ _ _ _ _ _ _ | show WEnd _ _ _ _ _ _ _ _ _ _ | show After _ _ _ _ _ _ _ _ _ | show TEnd _ _ _ _ _ _ _ _ _ | show TPost _ _ _ _ _ _ _ _ _ _ _ | show wpAny _ _ (eval (Expr.ListComp _ _ _ _) _) _ _ _ | show wpAny _ _ (exec (Stmt.For _ _ _ _ _) _) _ _ _ | show wpAny _ _ (exec (Stmt.While _ _ _ _) _) _ _ _ | show wpAny _ _ (exec (Stmt.Assign _ (Expr.ListComp _ _ _ _) _) _) _ _ _ | show wpAny _ _ (call (Value.builtin "str.join") _) _ _ _ | show wpAny _ _ (compareOp _ (Value.ref _) (Value.ref _)) _ _ _ | show wpAny _ _ (call (Value.ref _) _) _ _ _)); first | walk1 | (dsimp only; walk1))))
    refine kim_back (by assumption) (.tail _ (.tail _ (.tail _ (.tail _ (.tail _ (.tail _ (.tail _ (.tail _ (.tail _ (.head _)))))))))) rfl rfl (by decide) (by omega) (by decide) hgl ?_
    ((try dsimp only); repeat' (first | (with_reducible refine wpAny_execs_cons ?_) | (with_reducible refine wpAny_execs_nil ?_) | (with_reducible refine wpAny_If ?_) | ((with_reducible show wpAny _ _ (PySem.truthy (Value.str _ _)) _ _ _); refine SBL.truthy (by omega) ?_) | ( (fail_if_success (with_reducible first | show LCg.CompSrc _ _ _ _ _ _ _ _ _ _ _ _ _ _ | show LCt.CompSrcT _ _ _ _ _ _ _ _ _ _ _ _ _ _ _ | show LCp.SrcLP _ _ _ _ _ _ _ _ _ _ _ _ _ _ _ | show LCg.CompEnd _ _ _ _ _ _ _ _ _ _ _ _ _ _ | show WEnd _ _ _ _ _ _ _ _ _ _ | show After _ _ _ _ _ _ _ _ _ | show TEnd _ _ _ _ _ _ _ _ _ | show TPost _ _ _ _ _ _ _ _ _ _ _ | show wpAny _ _ (eval (Expr.ListComp _ _ _ _) _) _ _ _ | show wpAny _ _ (exec (Stmt.For _ _ _ _ _) _) _ _ _ | show wpAny _ _ (exec (Stmt.While _ _ _ _) _) _ _ _ | show wpAny _ _ (exec (Stmt.Assign _ (Expr.ListComp _ _ _ _) _) _) _ _ _ | show wpAny _ _ (call (Value.builtin "str.join") _) _ _ _ | show wpAny _ _ (compareOp _ (Value.ref _) (Value.ref _)) _ _ _ | show wpAny _ _ (call (Value.ref _) _) _ _ _)); first | walk1 | (dsimp only; walk1))))
    · rename _ = true => hin
      rw [any_row, decide_eq_true_eq] at hin
      rw [if_pos hin, List.append_nil] at hsn
      refine LCg.CompEnd.intro F N _ (fun p hp => hp) off (.inr ⟨_, .tail _ (.head _), rfl, _, rfl⟩) ⟨rfl, ?_⟩
      rw [hsn]
      exact hys
    · rename _ = false => hin
      rw [any_row, decide_eq_false_iff_not] at hin
      rw [if_neg hin] at hsn
      refine LCg.CompEnd.intro F N _ (fun p hp => hp) off (.inr ⟨_, .tail _ (.head _), rfl, _, rfl⟩) ⟨rfl, ?_⟩
      rw [hsn, List.map_append]
      exact strsSnoc hys
  · rintro ys _ ⟨rfl, hys⟩ D' h tk F N off
    rw [hvl, List.take_length] at hys
    ((try dsimp only); repeat' (first | (with_reducible refine wpAny_execs_cons ?_) | (with_reducible refine wpAny_execs_nil ?_) | (with_reducible refine wpAny_If ?_) | ((with_reducible show wpAny _ _ (PySem.truthy (Value.str _ _)) _ _ _); refine SBL.truthy (by omega) ?_) | ( (fail_if_success (with_reducible first | show LCg.CompSrc _ _ _ _ _ _ _ _ _ _ _ _ _ _ | show LCt.CompSrcT _ _ _ _ _ _ _ _ _ _ _ _ _ _ _ | show LCp.SrcLP _ _ _ _ _ _ _ _ _ _ _ _ _ _ _ | show LCg.CompEnd _ _ _ _ _ _ _ _ _ _ _ _ _ _ | show WEnd _ _ _ _ _ _ _ _ _ _ | show After _ _ _ _ _ _ _ _ _ | show TEnd _ _ _ _ _ _ _ _ _ | show TPost _ _ _ _ _ _ _ _ _ _ _ | show wpAny _ _ (eval (Expr.ListComp _ _ _ _) _) _ _ _ | show wpAny _ _ (exec (Stmt.For _ _ _ _ _) _) _ _ _ | show wpAny _ _ (exec (Stmt.While _ _ _ _) _) _ _ _ | show wpAny _ _ (exec (Stmt.Assign _ (Expr.ListComp _ _ _ _) _) _) _ _ _ | show wpAny _ _ (call (Value.builtin "str.join") _) _ _ _ | show wpAny _ _ (compareOp _ (Value.ref _) (Value.ref _)) _ _ _ | show wpAny _ _ (call (Value.ref _) _) _ _ _)); first | walk1 | (dsimp only; walk1))))
    exact After.next F N ⟨D', ys, rfl, hys, off, ⟨rfl, trivial⟩⟩
end
end
section
theorem reach_len {ns : List (List Nat)} {n0 : List Nat} {rs : List (List (List Nat))} {last left : List (List Nat)} (R : Reach nearF ns n0 rs last left) : rs.length ≤ rs.flatten.length + 1 ∧ (last ≠ [] → rs.length ≤ rs.flatten.length) := by
  induction R with
  | start => exact ⟨by simp, fun _ => by simp⟩
  | step R hne ih =>
    rename_i rs last left
    have := ih.2 hne
    rw [List.length_append, List.flatten_append, List.length_append]
    simp only [List.length_singleton, List.flatten_cons, List.flatten_nil, List.append_nil]
    refine ⟨by omega, fun h => ?_⟩
    have := List.length_pos_iff.mpr h
    omega
theorem subL {α : Type} {d s n a b c e f g : α} {t : List α} : ∀ p ∈ d :: a :: b :: c :: e :: f :: g :: t, p ∈ d :: s :: n :: a :: b :: c :: e :: f :: g :: t :=
  List.forall_mem_cons.mpr ⟨.head _, fun p hp => .tail _ (.tail _ (.tail _ hp))⟩
theorem subM {α : Type} {l d a b c e f g : α} {t : List α} : ∀ p ∈ l :: b :: c :: e :: f :: g :: d :: t, p ∈ l :: d :: a :: b :: c :: e :: f :: g :: t :=
  List.forall_mem_cons.mpr ⟨.head _, fun p hp => .tail _ (by
    rcases List.mem_cons.mp ((List.perm_middle (a := d) (l₁ := [b, c, e, f, g]) (l₂ := t)).mem_iff.mp hp) with rfl | h
    · exact .head _
    · exact .tail _ (.tail _ h))⟩
theorem rows_last {tups : List (Addr × Obj)} : ∀ {pre : List (List (List Nat))} {last : List (List Nat)} {rv : List Value}, RowsAt tups rv (pre ++ [last]) → ∃ rv' A av ka, rv = rv' ++ [.ref A] ∧ rv'.length = pre.length ∧ (A, PySem.W.listOf av.toArray ka) ∈ tups ∧ StrsAre av (last.map mk) := by
  intro pre
  induction pre with
  | nil =>
    intro last rv h
    cases h with
    | cons hm hv r => cases r; exact ⟨[], _, _, _, rfl, rfl, hm, hv⟩
  | cons _ pre ih =>
    intro last rv h
    cases h with
    | cons _ _ r =>
      obtain ⟨rv', A, av, ka, e, hl, hm, hv⟩ := ih r
      exact ⟨_ :: rv', A, av, ka, by rw [e]; rfl, congrArg (· + 1) hl, hm, hv⟩
theorem slice_fromB {prog : Program} {w : World} {A : Around} {E : Value → Shared → Prop} {s : Shared} {h₀ : Heap} {L l : Addr} {m : Str → Option Value} {news : List (Addr × Obj)} {value slice : PySem.Expr} {vs : List Value} {k : Nat} {t : Tok} {Q : Value → Shared → Prop}
    (F : Fr h₀ L s.heap m) (N : News h₀ L s.heap news) (hl : h₀.IsList l vs.toArray)
    (h : ∀ D h', Fr h₀ L h' m → News h₀ L h' ((D, listOf (vs.drop k).toArray 0) :: news) → (∀ p ∈ news, p.1 < D) → Q (.ref D) { s with heap := h' })
    (hs : subscripted slice false (.ref l) (.ref s.heap.objs.size) = operate [.ref s.heap.objs.size, .ref l] (getItem (.ref l) (.ref s.heap.objs.size))) (ht : ∀ r, letTemporaryGo value (.ref l) r = pure ()) (hz : vs.length ≤ sizeLine) :
    wpAny (model prog w) A (subscriptTail value slice (.ref l) (.ref s.heap.objs.size)) Q E { s with heap := s.heap.push { cls := .type "slice", data := .fields #[.int (k : Int) t, .none, .none] } } := by
  refine kmk_slice (its := vs.toArray) (lo := some (k : Int)) (hi := none) F N (hl.at fun o e => F.keep _ _ e) (.int _ _) .none (fun D h' F' N' l1 => h D h' F' ?_ l1) hs ht (by simpa using hz)
  rw [pick_from] at N'
  exact N'
/-- the rounds told so far -/
inductive RvJ (L Nm : Addr) (q0 q2 : Obj) (Rs : Addr) (ns : List (List Nat)) (n0 : List Nat) (k : Nat) (m' : Str → Option Value) (news' : List (Addr × Obj)) : Prop
  | mk (lv : List Value) (kl : Nat) (Lf : Addr) (qn ql : Obj) (rv : List Value) (kr : Nat) (tl : List (Addr × Obj)) (rs : List (List (List Nat))) (last left : List (List Nat)) (e : news' = (Lf, listOf lv.toArray kl) :: (L + 1 + 1 + 1 + 1, qn) :: (L + 1 + 1 + 1, ql) :: (L + 1, q0) :: (L + 1 + 1, q2) :: (Rs, listOf rv.toArray kr) :: tl)
      (e3 : ∃ v, qn.data = .cell v) (e4 : ∃ v, ql.data = .cell v) (z4 : @Ne Nat Lf (L + 1 + 1 + 1 + 1)) (z7 : @Ne Nat Lf (L + 1 + 1 + 1)) (z6 : @Ne Nat Lf Rs) (t1 : ∀ q ∈ tl, q.1 ≠ L + 1 + 1 + 1 + 1 ∧ q.1 ≠ L + 1 + 1 + 1) (t3 : ∀ q ∈ tl, q.1 ≠ Rs)
      (hr : RowsAt tl rv rs) (hl : StrsAre lv (left.map mk)) (hR : Reach nearF ns n0 rs last left) (hk : k = 20 - rs.length) (hs : Has m' [("left", .ref Lf)])
inductive RvE (L : Addr) (q2 : Obj) (Rs : Addr) (ns : List (List Nat)) (n0 : List Nat) (m' : Str → Option Value) (news' : List (Addr × Obj)) : Prop
  | mk (rv : List Value) (kr : Nat) (tl : List (Addr × Obj)) (rs : List (List (List Nat))) (left : List (List Nat)) (e : news' = (L + 1 + 1, q2) :: (Rs, listOf rv.toArray kr) :: tl) (hr : RowsAt tl rv rs) (hR : Reach nearF ns n0 rs [] left)
inductive RsrJ (Sd Nw Lf Rs L : Addr) (so no lo ro qn qs q0 q2 : Obj) (tl : List (Addr × Obj)) (row : List (List Nat)) (j : Nat) (ys : List Value) (news' : List (Addr × Obj)) : Prop
  | mk (e : news' = (Sd, so) :: (Nw, no) :: (Lf, lo) :: (L + 1 + 1 + 1 + 1, qn) :: (L + 1 + 1 + 1, qs) :: (L + 1, q0) :: (L + 1 + 1, q2) :: (Rs, ro) :: tl) (hy : StrsAre ys ((row.take j).map mk))
section
set_option maxRecDepth 100000 in
set_option maxHeartbeats 8000000 in
theorem rounds_while {w : World} {mg mb : Str → Option Value} {mean : ExcName → Option Value} {h₀ hp : Heap} {L : Addr} {m : Str → Option Value} {gn : Array GenState} {dr : Drawn} {tk₀ : Nat} {os : OsState} (G : Cx w mg mb mean h₀) {Nm Lf Rs : Addr} {lv vn rv : List Value} {kl kr : Nat} {left ns : List (List Nat)} {n0 : List Nat} {qn ql q0 q2 : Obj} {tl : List (Addr × Obj)}
    (e0 : q0.data = .cell (some (.ref Nm))) (e2 : q2.data = .cell (some (.ref Rs))) (e3 : ∃ v, qn.data = .cell v) (e4 : ∃ v, ql.data = .cell v) (hl : h₀.IsList Nm vn.toArray) (hdn : h₀.NoDictAt (.ref Nm)) (hvn : StrsAre vn (ns.map mk)) (hnw : ∀ x ∈ ns, IsWord x) (hnd : ns.Nodup) (hm0 : n0 ∈ ns) (hnl : ns.length ≤ 7)
    (z4 : @Ne Nat Lf (L + 1 + 1 + 1 + 1)) (z7 : @Ne Nat Lf (L + 1 + 1 + 1)) (z5 : @LT.lt Nat _ (L + 1 + 1 + 1 + 1) Rs) (z6 : @Ne Nat Lf Rs) (t1 : ∀ q ∈ tl, q.1 ≠ L + 1 + 1 + 1 + 1 ∧ q.1 ≠ L + 1 + 1 + 1) (t3 : ∀ q ∈ tl, q.1 ≠ Rs)
    (hrv : RowsAt tl rv [[n0]]) (hlv : StrsAre lv ((ns.filter fun n => decide (n ≠ n0)).map mk))
    (F : Fr h₀ L hp m) (N : News h₀ L hp ((Lf, listOf lv.toArray kl) :: (L + 1 + 1 + 1 + 1, qn) :: (L + 1 + 1 + 1, ql) :: (L + 1, q0) :: (L + 1 + 1, q2) :: (Rs, listOf rv.toArray kr) :: tl)) (hs : Has m [("left", .ref Lf)]) {Q : Flow → Shared → Prop} :
    wpAny (model PP w) (Lv 316) (exec (stAt (fnStmts 19) 2) (rEnv L)) (After h₀ L gn dr os (RvE L q2 Rs ns n0) Q) (fun _ _ => False) ⟨hp, gn, dr, tk₀, os⟩ := by
  have G' := G
  obtain ⟨X, T⟩ := G
  (conv => (arg 3; congr; · whnf; · (arg 2; whnf)))
  refine while_inv (RvJ L Nm q0 q2 Rs ns n0) 19 F N ?_ ?_ <;> clear F N
  · exact ⟨lv, kl, Lf, qn, ql, rv, kr, tl, [[n0]], [n0], _, rfl, e3, e4, z4, z7, z6, t1, t3, hrv, hlv, .start, rfl, hs⟩
  · clear e3 e4 z4 z7 z6 t1 t3 hrv hlv hs
    rintro k m₁ _ h₁ tk₁ F N ⟨lv, kl, Lf, qn, ql, rv, kr, tl, rs, last, left, rfl, ⟨vqn, e3⟩, ⟨vql, e4⟩, z4, z7, z6, t1, t3, hrv, hlv, hR, rfl, hs⟩
    replace F := frOver _ F hs
    obtain ⟨hsub, hla, hle, hll, -, hfl⟩ := reach_all hnd hm0 hR
    have hrl := (reach_len hR).1
    obtain ⟨pre, hpre, -, -, -, -⟩ := reach_run nearF hnd hm0 hR
    rw [hpre] at hrv
    obtain ⟨rv', A, av, ka, rfl, hrv', hA, hav⟩ := rows_last hrv
    rw [← hpre] at hrv
    have hpl : rs.length = pre.length + 1 := by rw [hpre, List.length_append]; rfl
    have hgl : (rv' ++ [Value.ref A])[((-1 : Int) + ((rv' ++ [Value.ref A]).length : Int)).toNat]? = some (.ref A) := by
      rw [List.length_append, List.length_singleton, show ((-1 : Int) + ((rv'.length + 1 : Nat) : Int)).toNat = rv'.length by omega]
      simp
    have hrvl : (rv' ++ [Value.ref A]).length = pre.length + 1 := by rw [List.length_append, hrv']; rfl
    have c1 : ∀ q ∈ tl, q.1 ≠ L + 1 + 1 + 1 + 1 := fun q hq => (t1 q hq).1
    have c2 : ∀ q ∈ tl, q.1 ≠ L + 1 + 1 + 1 := fun q hq => (t1 q hq).2
    ((try dsimp only); repeat' (first | (with_reducible refine wpAny_execs_cons ?_) | (with_reducible refine wpAny_execs_nil ?_) | (with_reducible refine wpAny_If ?_) | ((with_reducible show wpAny _ _ (PySem.truthy (Value.str _ _)) _ _ _); refine SBL.truthy (by omega) ?_) | ( (fail_if_success (with_reducible first | show LCg.CompSrc _ _ _ _ _ _ _ _ _ _ _ _ _ _ | show LCt.CompSrcT _ _ _ _ _ _ _ _ _ _ _ _ _ _ _ | show LCp.SrcLP _ _ _ _ _ _ _ _ _ _ _ _ _ _ _ | show LCg.CompEnd _ _ _ _ _ _ _ _ _ _ _ _ _ _ | show WEnd _ _ _ _ _ _ _ _ _ _ | show After _ _ _ _ _ _ _ _ _ | show TEnd _ _ _ _ _ _ _ _ _ | show TPost _ _ _ _ _ _ _ _ _ _ _ | show wpAny _ _ (eval (Expr.ListComp _ _ _ _) _) _ _ _ | show wpAny _ _ (exec (Stmt.For _ _ _ _ _) _) _ _ _ | show wpAny _ _ (exec (Stmt.While _ _ _ _) _) _ _ _ | show wpAny _ _ (exec (Stmt.Assign _ (Expr.ListComp _ _ _ _) _) _) _ _ _ | show wpAny _ _ (call (Value.builtin "str.join") _) _ _ _ | show wpAny _ _ (compareOp _ (Value.ref _) (Value.ref _)) _ _ _ | show wpAny _ _ (call (Value.ref _) _) _ _ _)); first | (with_reducible ((with_reducible show wpAny _ _ (subscriptTail _ (Expr.Slice _ _ _ _) (Value.ref _) (Value.ref _)) _ _ _); k_dflt (refine' slice_fromB (k := 1) ?_ ?_ ?_ ?_ ?_ ?_ ?_; k_asm; k_asm; assumption; rotate_left 1; (with_unfolding_all rfl); (intro _; with_unfolding_all rfl); (rw [sizeLine_eq]; omega)); intro D' h' F' N' l1; (try k_lt l1))) | walk1 | (dsimp only; walk1))))
    refine kim_back (by assumption) (.tail _ (.tail _ (.tail _ (.tail _ (.tail _ (.head _)))))) rfl rfl (by decide) (by omega) (by decide) hgl ?_
    ((try dsimp only); repeat' (first | (with_reducible refine wpAny_execs_cons ?_) | (with_reducible refine wpAny_execs_nil ?_) | (with_reducible refine wpAny_If ?_) | ((with_reducible show wpAny _ _ (PySem.truthy (Value.str _ _)) _ _ _); refine SBL.truthy (by omega) ?_) | ( (fail_if_success (with_reducible first | show LCg.CompSrc _ _ _ _ _ _ _ _ _ _ _ _ _ _ | show LCt.CompSrcT _ _ _ _ _ _ _ _ _ _ _ _ _ _ _ | show LCp.SrcLP _ _ _ _ _ _ _ _ _ _ _ _ _ _ _ | show LCg.CompEnd _ _ _ _ _ _ _ _ _ _ _ _ _ _ | show WEnd _ _ _ _ _ _ _ _ _ _ | show After _ _ _ _ _ _ _ _ _ | show TEnd _ _ _ _ _ _ _ _ _ | show TPost _ _ _ _ _ _ _ _ _ _ _ | show wpAny _ _ (eval (Expr.ListComp _ _ _ _) _) _ _ _ | show wpAny _ _ (exec (Stmt.For _ _ _ _ _) _) _ _ _ | show wpAny _ _ (exec (Stmt.While _ _ _ _) _) _ _ _ | show wpAny _ _ (exec (Stmt.Assign _ (Expr.ListComp _ _ _ _) _) _) _ _ _ | show wpAny _ _ (call (Value.builtin "str.join") _) _ _ _ | show wpAny _ _ (compareOp _ (Value.ref _) (Value.ref _)) _ _ _ | show wpAny _ _ (call (Value.ref _) _) _ _ _)); first | (with_reducible ((with_reducible show wpAny _ _ (subscriptTail _ (Expr.Slice _ _ _ _) (Value.ref _) (Value.ref _)) _ _ _); k_dflt (refine' slice_fromB (k := 1) ?_ ?_ ?_ ?_ ?_ ?_ ?_; k_asm; k_asm; assumption; rotate_left 1; (with_unfolding_all rfl); (intro _; with_unfolding_all rfl); (rw [sizeLine_eq]; omega)); intro D' h' F' N' l1; (try k_lt l1))) | walk1 | (dsimp only; walk1))))
    rename Fr _ _ _ _ => F
    rename News _ _ _ _ => N
    refine ne_strs (N.isList (.tail _ (.tail _ (.tail _ (.tail _ (.tail _ (.tail _ (.tail _ hA)))))))) (N.isList (.head _)) hav .nil (ok_words fun x hx => hnw x (hla x hx)) (fun x hx => nomatch hx) (by decide) ?_
    replace N := newsSub N fun p hp => .tail _ hp
    rename _ ∧ _ ∧ _ ∧ _ ∧ _ ∧ _ ∧ AllLt _ _ => hD
    clear hD
    by_cases hc : last.map mk = []
    · rw [decide_eq_true hc]
      have hc' : last = [] := List.map_eq_nil_iff.mp hc
      subst hc'
      ((try dsimp only); repeat' (first | (with_reducible refine wpAny_execs_cons ?_) | (with_reducible refine wpAny_execs_nil ?_) | (with_reducible refine wpAny_If ?_) | ((with_reducible show wpAny _ _ (PySem.truthy (Value.str _ _)) _ _ _); refine SBL.truthy (by omega) ?_) | ( (fail_if_success (with_reducible first | show LCg.CompSrc _ _ _ _ _ _ _ _ _ _ _ _ _ _ | show LCt.CompSrcT _ _ _ _ _ _ _ _ _ _ _ _ _ _ _ | show LCp.SrcLP _ _ _ _ _ _ _ _ _ _ _ _ _ _ _ | show LCg.CompEnd _ _ _ _ _ _ _ _ _ _ _ _ _ _ | show WEnd _ _ _ _ _ _ _ _ _ _ | show After _ _ _ _ _ _ _ _ _ | show TEnd _ _ _ _ _ _ _ _ _ | show TPost _ _ _ _ _ _ _ _ _ _ _ | show wpAny _ _ (eval (Expr.ListComp _ _ _ _) _) _ _ _ | show wpAny _ _ (exec (Stmt.For _ _ _ _ _) _) _ _ _ | show wpAny _ _ (exec (Stmt.While _ _ _ _) _) _ _ _ | show wpAny _ _ (exec (Stmt.Assign _ (Expr.ListComp _ _ _ _) _) _) _ _ _ | show wpAny _ _ (call (Value.builtin "str.join") _) _ _ _ | show wpAny _ _ (compareOp _ (Value.ref _) (Value.ref _)) _ _ _ | show wpAny _ _ (call (Value.ref _) _) _ _ _)); first | (with_reducible ((with_reducible show wpAny _ _ (subscriptTail _ (Expr.Slice _ _ _ _) (Value.ref _) (Value.ref _)) _ _ _); k_dflt (refine' slice_fromB (k := 1) ?_ ?_ ?_ ?_ ?_ ?_ ?_; k_asm; k_asm; assumption; rotate_left 1; (with_unfolding_all rfl); (intro _; with_unfolding_all rfl); (rw [sizeLine_eq]; omega)); intro D' h' F' N' l1; (try k_lt l1))) | walk1 | (dsimp only; walk1))))
      exact After.next F (newsSub N fun p hp => .tail _ (.tail _ (.tail _ (.tail _ hp)))) ⟨_, _, tl, rs, left, rfl, hrv, hR⟩
    · rw [decide_eq_false hc]
      have hc' : last ≠ [] := fun e => hc (by rw [e]; rfl)
      ((try dsimp only); repeat' (first | (with_reducible refine wpAny_execs_cons ?_) | (with_reducible refine wpAny_execs_nil ?_) | (with_reducible refine wpAny_If ?_) | ((with_reducible show wpAny _ _ (PySem.truthy (Value.str _ _)) _ _ _); refine SBL.truthy (by omega) ?_) | ( (fail_if_success (with_reducible first | show LCg.CompSrc _ _ _ _ _ _ _ _ _ _ _ _ _ _ | show LCt.CompSrcT _ _ _ _ _ _ _ _ _ _ _ _ _ _ _ | show LCp.SrcLP _ _ _ _ _ _ _ _ _ _ _ _ _ _ _ | show LCg.CompEnd _ _ _ _ _ _ _ _ _ _ _ _ _ _ | show WEnd _ _ _ _ _ _ _ _ _ _ | show After _ _ _ _ _ _ _ _ _ | show TEnd _ _ _ _ _ _ _ _ _ | show TPost _ _ _ _ _ _ _ _ _ _ _ | show wpAny _ _ (eval (Expr.ListComp _ _ _ _) _) _ _ _ | show wpAny _ _ (exec (Stmt.For _ _ _ _ _) _) _ _ _ | show wpAny _ _ (exec (Stmt.While _ _ _ _) _) _ _ _ | show wpAny _ _ (exec (Stmt.Assign _ (Expr.ListComp _ _ _ _) _) _) _ _ _ | show wpAny _ _ (call (Value.builtin "str.join") _) _ _ _ | show wpAny _ _ (compareOp _ (Value.ref _) (Value.ref _)) _ _ _ | show wpAny _ _ (call (Value.ref _) _) _ _ _)); first | (with_reducible ((with_reducible show wpAny _ _ (subscriptTail _ (Expr.Slice _ _ _ _) (Value.ref _) (Value.ref _)) _ _ _); k_dflt (refine' slice_fromB (k := 1) ?_ ?_ ?_ ?_ ?_ ?_ ?_; k_asm; k_asm; assumption; rotate_left 1; (with_unfolding_all rfl); (intro _; with_unfolding_all rfl); (rw [sizeLine_eq]; omega)); intro D' h' F' N' l1; (try k_lt l1))) | walk1 | (dsimp only; walk1))))
      refine kim_back (by assumption) (.tail _ (.tail _ (.tail _ (.tail _ (.tail _ (.head _)))))) rfl rfl (by decide) (by omega) (by decide) hgl ?_
      ((try dsimp only); repeat' (first | (with_reducible refine wpAny_execs_cons ?_) | (with_reducible refine wpAny_execs_nil ?_) | (with_reducible refine wpAny_If ?_) | ((with_reducible show wpAny _ _ (PySem.truthy (Value.str _ _)) _ _ _); refine SBL.truthy (by omega) ?_) | ( (fail_if_success (with_reducible first | show LCg.CompSrc _ _ _ _ _ _ _ _ _ _ _ _ _ _ | show LCt.CompSrcT _ _ _ _ _ _ _ _ _ _ _ _ _ _ _ | show LCp.SrcLP _ _ _ _ _ _ _ _ _ _ _ _ _ _ _ | show LCg.CompEnd _ _ _ _ _ _ _ _ _ _ _ _ _ _ | show WEnd _ _ _ _ _ _ _ _ _ _ | show After _ _ _ _ _ _ _ _ _ | show TEnd _ _ _ _ _ _ _ _ _ | show TPost _ _ _ _ _ _ _ _ _ _ _ | show wpAny _ _ (eval (Expr.ListComp _ _ _ _) _) _ _ _ | show wpAny _ _ (exec (Stmt.For _ _ _ _ _) _) _ _ _ | show wpAny _ _ (exec (Stmt.While _ _ _ _) _) _ _ _ | show wpAny _ _ (exec (Stmt.Assign _ (Expr.ListComp _ _ _ _) _) _) _ _ _ | show wpAny _ _ (call (Value.builtin "str.join") _) _ _ _ | show wpAny _ _ (compareOp _ (Value.ref _) (Value.ref _)) _ _ _ | show wpAny _ _ (call (Value.ref _) _) _ _ _)); first | (with_reducible ((with_reducible show wpAny _ _ (subscriptTail _ (Expr.Slice _ _ _ _) (Value.ref _) (Value.ref _)) _ _ _); k_dflt (refine' slice_fromB (k := 1) ?_ ?_ ?_ ?_ ?_ ?_ ?_; k_asm; k_asm; assumption; rotate_left 1; (with_unfolding_all rfl); (intro _; with_unfolding_all rfl); (rw [sizeLine_eq]; omega)); intro D' h' F' N' l1; (try k_lt l1))) | walk1 | (dsimp only; walk1))))
      rename Fr _ _ _ _ => F
      rename News _ _ _ _ => N
      rename _ ∧ _ ∧ _ ∧ _ ∧ _ ∧ _ ∧ AllLt _ _ => hD
      rename Addr => Nw
      rename Obj => qs
      rename qs.data = _ => ds
      refine cut F _ (rounds_for G' (tl := tl) ds e0 ⟨_, e3⟩ hA hav hlv hl hdn hvn hnw hla hle hnl (by omega) (by omega) (by omega) hD.2.1 (by omega) z4 z5 t1 (allLt_ne hD.2.2.2.2.2.2) t3 F N ⟨rfl, rfl, trivial⟩) ?_
      have hNR : @Ne Nat Nw Rs := by omega
      have hNL : @Ne Nat Nw Lf := by omega
      clear F N hD e3
      rintro h₂ tk₂ m₂ _ F N ⟨nv, kn, qn, tl', rfl, ⟨vqn, e3⟩, hsub', t1', t2', t3', hpr, -, hs₂⟩
      rw [show lv.length = left.length by rw [StrsAre.len hlv, List.length_map], List.take_length] at hpr
      replace F := frOver _ F hs₂
      replace hrv := RowsAt.mono hsub' hrv
      replace hA := hsub' _ hA
      ((try dsimp only); repeat' (first | (with_reducible refine wpAny_execs_cons ?_) | (with_reducible refine wpAny_execs_nil ?_) | (with_reducible refine wpAny_If ?_) | ((with_reducible show wpAny _ _ (PySem.truthy (Value.str _ _)) _ _ _); refine SBL.truthy (by omega) ?_) | ( (fail_if_success (with_reducible first | show LCg.CompSrc _ _ _ _ _ _ _ _ _ _ _ _ _ _ | show LCt.CompSrcT _ _ _ _ _ _ _ _ _ _ _ _ _ _ _ | show LCp.SrcLP _ _ _ _ _ _ _ _ _ _ _ _ _ _ _ | show LCg.CompEnd _ _ _ _ _ _ _ _ _ _ _ _ _ _ | show WEnd _ _ _ _ _ _ _ _ _ _ | show After _ _ _ _ _ _ _ _ _ | show TEnd _ _ _ _ _ _ _ _ _ | show TPost _ _ _ _ _ _ _ _ _ _ _ | show wpAny _ _ (eval (Expr.ListComp _ _ _ _) _) _ _ _ | show wpAny _ _ (exec (Stmt.For _ _ _ _ _) _) _ _ _ | show wpAny _ _ (exec (Stmt.While _ _ _ _) _) _ _ _ | show wpAny _ _ (exec (Stmt.Assign _ (Expr.ListComp _ _ _ _) _) _) _ _ _ | show wpAny _ _ (call (Value.builtin "str.join") _) _ _ _ | show wpAny _ _ (compareOp _ (Value.ref _) (Value.ref _)) _ _ _ | show wpAny _ _ (call (Value.ref _) _) _ _ _)); first | (with_reducible ((with_reducible show wpAny _ _ (subscriptTail _ (Expr.Slice _ _ _ _) (Value.ref _) (Value.ref _)) _ _ _); k_dflt (refine' slice_fromB (k := 1) ?_ ?_ ?_ ?_ ?_ ?_ ?_; k_asm; k_asm; assumption; rotate_left 1; (with_unfolding_all rfl); (intro _; with_unfolding_all rfl); (rw [sizeLine_eq]; omega)); intro D' h' F' N' l1; (try k_lt l1))) | walk1 | (dsimp only; walk1))))
      (k_dflt (refine LCp.ListComp_P (F₀ := by k_asm) (by with_unfolding_all rfl) (by decide) (by rfl) (by decide) (by rfl) (by rfl) (by decide) ?_))
      ((try dsimp only); repeat' (first | (with_reducible refine wpAny_execs_cons ?_) | (with_reducible refine wpAny_execs_nil ?_) | (with_reducible refine wpAny_If ?_) | ((with_reducible show wpAny _ _ (PySem.truthy (Value.str _ _)) _ _ _); refine SBL.truthy (by omega) ?_) | ( (fail_if_success (with_reducible first | show LCg.CompSrc _ _ _ _ _ _ _ _ _ _ _ _ _ _ | show LCt.CompSrcT _ _ _ _ _ _ _ _ _ _ _ _ _ _ _ | show LCp.SrcLP _ _ _ _ _ _ _ _ _ _ _ _ _ _ _ | show LCg.CompEnd _ _ _ _ _ _ _ _ _ _ _ _ _ _ | show WEnd _ _ _ _ _ _ _ _ _ _ | show After _ _ _ _ _ _ _ _ _ | show TEnd _ _ _ _ _ _ _ _ _ | show TPost _ _ _ _ _ _ _ _ _ _ _ | show wpAny _ _ (eval (Expr.ListComp _ _ _ _) _) _ _ _ | show wpAny _ _ (exec (Stmt.For _ _ _ _ _) _) _ _ _ | show wpAny _ _ (exec (Stmt.While _ _ _ _) _) _ _ _ | show wpAny _ _ (exec (Stmt.Assign _ (Expr.ListComp _ _ _ _) _) _) _ _ _ | show wpAny _ _ (call (Value.builtin "str.join") _) _ _ _ | show wpAny _ _ (compareOp _ (Value.ref _) (Value.ref _)) _ _ _ | show wpAny _ _ (call (Value.ref _) _) _ _ _)); first | (with_reducible ((with_reducible show wpAny _ _ (subscriptTail _ (Expr.Slice _ _ _ _) (Value.ref _) (Value.ref _)) _ _ _); k_dflt (refine' slice_fromB (k := 1) ?_ ?_ ?_ ?_ ?_ ?_ ?_; k_asm; k_asm; assumption; rotate_left 1; (with_unfolding_all rfl); (intro _; with_unfolding_all rfl); (rw [sizeLine_eq]; omega)); intro D' h' F' N' l1; (try k_lt l1))) | walk1 | (dsimp only; walk1))))
      refine sorted_pairs (ps := left.filterMap (pairF last ns)) F N (N.isList (.head _)) (PairsAt.mono (fun q hq => .tail _ (.tail _ (.tail _ (.tail _ (.tail _ (.tail _ (.tail _ hq))))))) hpr) pairs_lt (Nat.le_trans (Nat.add_le_add_left (List.length_filterMap_le ..) _) (by omega)) (pairs_inc hnd hsub) ?_
      intro Sd h₃ sv cs F3 N3 hSd hsp
      clear F N
      ((try dsimp only); repeat' (first | (with_reducible refine wpAny_execs_cons ?_) | (with_reducible refine wpAny_execs_nil ?_) | (with_reducible refine wpAny_If ?_) | ((with_reducible show wpAny _ _ (PySem.truthy (Value.str _ _)) _ _ _); refine SBL.truthy (by omega) ?_) | ( (fail_if_success (with_reducible first | show LCg.CompSrc _ _ _ _ _ _ _ _ _ _ _ _ _ _ | show LCt.CompSrcT _ _ _ _ _ _ _ _ _ _ _ _ _ _ _ | show LCp.SrcLP _ _ _ _ _ _ _ _ _ _ _ _ _ _ _ | show LCg.CompEnd _ _ _ _ _ _ _ _ _ _ _ _ _ _ | show WEnd _ _ _ _ _ _ _ _ _ _ | show After _ _ _ _ _ _ _ _ _ | show TEnd _ _ _ _ _ _ _ _ _ | show TPost _ _ _ _ _ _ _ _ _ _ _ | show wpAny _ _ (eval (Expr.ListComp _ _ _ _) _) _ _ _ | show wpAny _ _ (exec (Stmt.For _ _ _ _ _) _) _ _ _ | show wpAny _ _ (exec (Stmt.While _ _ _ _) _) _ _ _ | show wpAny _ _ (exec (Stmt.Assign _ (Expr.ListComp _ _ _ _) _) _) _ _ _ | show wpAny _ _ (call (Value.builtin "str.join") _) _ _ _ | show wpAny _ _ (compareOp _ (Value.ref _) (Value.ref _)) _ _ _ | show wpAny _ _ (call (Value.ref _) _) _ _ _)); first | (with_reducible ((with_reducible show wpAny _ _ (subscriptTail _ (Expr.Slice _ _ _ _) (Value.ref _) (Value.ref _)) _ _ _); k_dflt (refine' slice_fromB (k := 1) ?_ ?_ ?_ ?_ ?_ ?_ ?_; k_asm; k_asm; assumption; rotate_left 1; (with_unfolding_all rfl); (intro _; with_unfolding_all rfl); (rw [sizeLine_eq]; omega)); intro D' h' F' N' l1; (try k_lt l1))) | walk1 | (dsimp only; walk1))))
      have hR2 := Reach.step hR hc'
      obtain ⟨-, hla2, hle2, hll2, -, -⟩ := reach_all hnd hm0 hR2
      have hrow := pairs_row last ns left
      generalize hsq : sortF last.length (left.filterMap (pairF last ns)) = sq at hsp hrow
      have hql : sv.length = sq.length := PairsAt.len hsp
      have hqr : sq.length = (rowF nearF last left).length := by
        have := congrArg List.length hrow
        rwa [List.length_map, List.length_map] at this
      refine LCp.SrcLP.ledger rfl F3 N3 (.head _) (by rw [List.size_toArray]; exact Nat.le_trans (show sv.length ≤ 7 by omega) (by decide)) ?_
      intro g'
      rw [List.size_toArray]
      refine compRestP_inv (RsrJ Sd Nw Lf Rs L (listOf sv.toArray cs) (listOf nv.toArray kn) (listOf lv.toArray kl) (listOf (rv' ++ [Value.ref A]).toArray kr) qn qs q0 q2 tl' (rowF nearF last left)) ?_ ?_ ?_
      · exact ⟨rfl, .nil⟩
      · rintro j ys _ hj ⟨rfl, hys⟩ v hv
        have hv' : sv[j]? = some v := by simpa using hv
        obtain ⟨T', p, c', t', u', rfl, hm, e⟩ := PairsAt.get hsp hv'
        refine ⟨T', _, _, _, 0, rfl, .tail _ hm, rfl, rfl, ?_⟩
        have e5 : (sq.map (·.2))[j]? = some c' := by rw [List.getElem?_map, e]; rfl
        rw [hrow, List.getElem?_map] at e5
        obtain ⟨nm, hnm, rfl⟩ := Option.map_eq_some_iff.mp e5
        have hin := hla2 nm (List.mem_of_getElem? hnm)
        obtain ⟨x1, -⟩ := pos_at hin
        have hpos := (List.getElem?_eq_some_iff.mp x1).1
        obtain ⟨tx, hatx⟩ := StrsAre.at hvn (k := posF ns nm) (by rw [List.length_map]; exact hpos)
        rw [show (ns.map mk).getD (posF ns nm) default = mk nm by rw [List.getD_eq_getElem?_getD, List.getElem?_map, x1]; rfl] at hatx
        have hvl : vn.length = ns.length := by rw [StrsAre.len hvn, List.length_map]
        intro J2 oJ C oC D mc h2 tk2 E' hC hm1 hm2 F N off hne2
        have hge : (ns.map mk).getD ((posF ns nm : Int)).toNat Str.empty = mk nm := by
          rw [Int.toNat_natCast, List.getD_eq_getElem?_getD, List.getElem?_map, x1]; rfl
        ((try dsimp only); repeat' (first | (with_reducible refine wpAny_execs_cons ?_) | (with_reducible refine wpAny_execs_nil ?_) | (with_reducible refine wpAny_If ?_) | ((with_reducible show wpAny _ _ (PySem.truthy (Value.str _ _)) _ _ _); refine SBL.truthy (by omega) ?_) | ( (fail_if_success (with_reducible first | show LCg.CompSrc _ _ _ _ _ _ _ _ _ _ _ _ _ _ | show LCt.CompSrcT _ _ _ _ _ _ _ _ _ _ _ _ _ _ _ | show LCp.SrcLP _ _ _ _ _ _ _ _ _ _ _ _ _ _ _ | show LCg.CompEnd _ _ _ _ _ _ _ _ _ _ _ _ _ _ | show WEnd _ _ _ _ _ _ _ _ _ _ | show After _ _ _ _ _ _ _ _ _ | show TEnd _ _ _ _ _ _ _ _ _ | show TPost _ _ _ _ _ _ _ _ _ _ _ | show wpAny _ _ (eval (Expr.ListComp _ _ _ _) _) _ _ _ | show wpAny _ _ (exec (Stmt.For _ _ _ _ _) _) _ _ _ | show wpAny _ _ (exec (Stmt.While _ _ _ _) _) _ _ _ | show wpAny _ _ (exec (Stmt.Assign _ (Expr.ListComp _ _ _ _) _) _) _ _ _ | show wpAny _ _ (call (Value.builtin "str.join") _) _ _ _ | show wpAny _ _ (compareOp _ (Value.ref _) (Value.ref _)) _ _ _ | show wpAny _ _ (call (Value.ref _) _) _ _ _)); first | (with_reducible ((with_reducible show wpAny _ _ (subscriptTail _ (Expr.Slice _ _ _ _) (Value.ref _) (Value.ref _)) _ _ _); k_dflt (refine' slice_fromB (k := 1) ?_ ?_ ?_ ?_ ?_ ?_ ?_; k_asm; k_asm; assumption; rotate_left 1; (with_unfolding_all rfl); (intro _; with_unfolding_all rfl); (rw [sizeLine_eq]; omega)); intro D' h' F' N' l1; (try k_lt l1))) | walk1 | (dsimp only; walk1))))
        rw [hge]
        refine LCg.CompEnd.intro F N _ (fun p hp => hp) off (.inr ⟨_, .head _, rfl, _, rfl⟩) ⟨rfl, ?_⟩
        rw [take_snoc hnm, List.map_append]
        exact strsSnoc hys
      · rintro ys _ ⟨rfl, hys⟩
        rw [hql, hqr, List.take_length] at hys
        intro D h2 tk2 F N off
        try dsimp only
        have sd1 : @LT.lt Nat _ Rs Sd := hSd _ (.tail _ (.tail _ (.tail _ (.tail _ (.tail _ (.tail _ (.head _)))))))
        obtain ⟨o1, o2, o3, o4, o5, o6, o7, o8, o9⟩ := off
        have o2 : @Ne Nat Nw D := o2
        have o3 : @Ne Nat Lf D := o3
        have o8 : @Ne Nat Rs D := o8
        have sd2 : @Ne Nat Sd Rs := Nat.ne_of_gt sd1
        have o8' : @Ne Nat D Rs := fun q => o8 q.symm
        have hrv9 : (rv' ++ [Value.ref A]).length ≤ 1000 := by omega
        ((try dsimp only); repeat' (first | (with_reducible refine wpAny_execs_cons ?_) | (with_reducible refine wpAny_execs_nil ?_) | (with_reducible refine wpAny_If ?_) | ((with_reducible show wpAny _ _ (PySem.truthy (Value.str _ _)) _ _ _); refine SBL.truthy (by omega) ?_) | ( (fail_if_success (with_reducible first | show LCg.CompSrc _ _ _ _ _ _ _ _ _ _ _ _ _ _ | show LCt.CompSrcT _ _ _ _ _ _ _ _ _ _ _ _ _ _ _ | show LCp.SrcLP _ _ _ _ _ _ _ _ _ _ _ _ _ _ _ | show LCg.CompEnd _ _ _ _ _ _ _ _ _ _ _ _ _ _ | show WEnd _ _ _ _ _ _ _ _ _ _ | show After _ _ _ _ _ _ _ _ _ | show TEnd _ _ _ _ _ _ _ _ _ | show TPost _ _ _ _ _ _ _ _ _ _ _ | show wpAny _ _ (eval (Expr.ListComp _ _ _ _) _) _ _ _ | show wpAny _ _ (exec (Stmt.For _ _ _ _ _) _) _ _ _ | show wpAny _ _ (exec (Stmt.While _ _ _ _) _) _ _ _ | show wpAny _ _ (exec (Stmt.Assign _ (Expr.ListComp _ _ _ _) _) _) _ _ _ | show wpAny _ _ (call (Value.builtin "str.join") _) _ _ _ | show wpAny _ _ (compareOp _ (Value.ref _) (Value.ref _)) _ _ _ | show wpAny _ _ (call (Value.ref _) _) _ _ _)); first | (with_reducible ((with_reducible show wpAny _ _ (subscriptTail _ (Expr.Slice _ _ _ _) (Value.ref _) (Value.ref _)) _ _ _); k_dflt (refine' slice_fromB (k := 1) ?_ ?_ ?_ ?_ ?_ ?_ ?_; k_asm; k_asm; assumption; rotate_left 1; (with_unfolding_all rfl); (intro _; with_unfolding_all rfl); (rw [sizeLine_eq]; omega)); intro D' h' F' N' l1; (try k_lt l1))) | walk1 | (dsimp only; walk1))))
        rename Fr _ _ _ _ => F
        rename News _ _ _ _ => N
        rw [List.push_toArray] at N
        have hl2 : (rv' ++ [Value.ref A] ++ [Value.ref D]).length = pre.length + 2 := by rw [List.length_append, hrvl]; rfl
        have hg2 : (rv' ++ [Value.ref A] ++ [Value.ref D])[((-1 : Int) + ((rv' ++ [Value.ref A] ++ [Value.ref D]).length : Int)).toNat]? = some (.ref D) := by
          rw [hl2, show ((-1 : Int) + ((pre.length + 2 : Nat) : Int)).toNat = (rv' ++ [Value.ref A]).length by omega]
          simp
        refine cut F _ (rounds_left (D := D) (Nw := Nw) (row := rowF nearF last left) (dv := ys) G' e2 hg2 (by omega) (by omega) hys hlv (by omega) F (newsSub N subL) ⟨rfl, rfl, trivial⟩) ?_
        clear F N
        rintro h5 tk5 m5 _ F N ⟨Le, ev, rfl, hev, off5, hs5⟩
        replace F := frOver _ F hs5
        obtain ⟨p1, p2, p3, p4, p5, p6, p7, p8⟩ := off5
        ((try dsimp only); repeat' (first | (with_reducible refine wpAny_execs_cons ?_) | (with_reducible refine wpAny_execs_nil ?_) | (with_reducible refine wpAny_If ?_) | ((with_reducible show wpAny _ _ (PySem.truthy (Value.str _ _)) _ _ _); refine SBL.truthy (by omega) ?_) | ( (fail_if_success (with_reducible first | show LCg.CompSrc _ _ _ _ _ _ _ _ _ _ _ _ _ _ | show LCt.CompSrcT _ _ _ _ _ _ _ _ _ _ _ _ _ _ _ | show LCp.SrcLP _ _ _ _ _ _ _ _ _ _ _ _ _ _ _ | show LCg.CompEnd _ _ _ _ _ _ _ _ _ _ _ _ _ _ | show WEnd _ _ _ _ _ _ _ _ _ _ | show After _ _ _ _ _ _ _ _ _ | show TEnd _ _ _ _ _ _ _ _ _ | show TPost _ _ _ _ _ _ _ _ _ _ _ | show wpAny _ _ (eval (Expr.ListComp _ _ _ _) _) _ _ _ | show wpAny _ _ (exec (Stmt.For _ _ _ _ _) _) _ _ _ | show wpAny _ _ (exec (Stmt.While _ _ _ _) _) _ _ _ | show wpAny _ _ (exec (Stmt.Assign _ (Expr.ListComp _ _ _ _) _) _) _ _ _ | show wpAny _ _ (call (Value.builtin "str.join") _) _ _ _ | show wpAny _ _ (compareOp _ (Value.ref _) (Value.ref _)) _ _ _ | show wpAny _ _ (call (Value.ref _) _) _ _ _)); first | (with_reducible ((with_reducible show wpAny _ _ (subscriptTail _ (Expr.Slice _ _ _ _) (Value.ref _) (Value.ref _)) _ _ _); k_dflt (refine' slice_fromB (k := 1) ?_ ?_ ?_ ?_ ?_ ?_ ?_; k_asm; k_asm; assumption; rotate_left 1; (with_unfolding_all rfl); (intro _; with_unfolding_all rfl); (rw [sizeLine_eq]; omega)); intro D' h' F' N' l1; (try k_lt l1))) | walk1 | (dsimp only; walk1))))
        refine WEnd.next (20 - (rs.length + 1)) F (newsSub N subM) (by omega) ⟨ev, _, Le, qn, qs, _, _, (D, listOf ys.toArray ys.length) :: tl', rs ++ [rowF nearF last left], _, _, rfl, ⟨_, e3⟩, ⟨_, ds⟩, fun e => p3 e.symm, fun e => p4 e.symm, fun e => p7 e.symm, List.forall_mem_cons.mpr ⟨⟨fun e => o4 e.symm, fun e => o5 e.symm⟩, t1'⟩, List.forall_mem_cons.mpr ⟨o8', t3'⟩, ?_, ?_, hR2, by rw [List.length_append]; rfl, ⟨rfl, trivial⟩⟩
        · exact RowsAt.app (RowsAt.mono (fun q hq => .tail _ hq) hrv) (.cons (.head _) hys .nil)
        · exact Eq.mp (congrArg (fun z => StrsAre ev (List.map mk z)) (List.filter_congr fun n _ => decide_eq_decide.mpr Iff.rfl)) hev
end
end
section
theorem drop_one {ns : List (List Nat)} {n0 : List Nat} (hnd : ns.Nodup) (h0 : ns[0]? = some n0) : ns.drop 1 = ns.filter fun n => decide (n ≠ n0) := by
  cases ns with
  | nil => cases h0
  | cons a r =>
    obtain rfl : a = n0 := Option.some.inj h0
    have hr := (List.nodup_cons.mp hnd).1
    rw [List.drop_one, List.tail_cons, List.filter_cons, if_neg (by simp)]
    exact (List.filter_eq_self.mpr fun x hx => by
      have : x ≠ a := fun e => hr (e ▸ hx)
      simpa using this).symm
theorem subI {α : Type} {l s r a b c e : α} : ∀ p ∈ [l, a, b, e, c, s, r], p ∈ [l, s, r, a, b, c, e] := by
  repeat' (first | exact List.forall_mem_nil _ | (refine List.forall_mem_cons.mpr ⟨by k_mem, ?_⟩))
section
set_option maxRecDepth 100000 in
set_option maxHeartbeats 8000000 in
theorem rounds_spec {w : World} {mg mb : Str → Option Value} {mean : ExcName → Option Value} {s : Shared} (G : Cx w mg mb mean s.heap) {Nm : Addr} {vn : List Value} {ns : List (List Nat)} {n0 : List Nat} {Q : Value → Shared → Prop} {E : Value → Shared → Prop}
    (hl : s.heap.IsList Nm vn.toArray) (hdn : s.heap.NoDictAt (.ref Nm)) (hvn : StrsAre vn (ns.map mk)) (hnw : ∀ x ∈ ns, IsWord x) (hnd : ns.Nodup) (hn0 : ns[0]? = some n0) (hnl : ns.length ≤ 7)
    (hQ : ∀ h' tk Rs rv kr rs left tl, Bs s.heap h' ((Rs, listOf rv.toArray kr) :: tl) → RowsAt tl rv rs → Reach nearF ns n0 rs [] left → Q (.ref Rs) { s with heap := h', toks := tk }) :
    wpAny (model PP w) (Lv 315) (call (.ref 121) [.ref Nm]) Q E s := by
  have G' := G
  obtain ⟨X, T⟩ := G
  have hvl : vn.length = ns.length := by rw [StrsAre.len hvn, List.length_map]
  have hnp : 0 < ns.length := (List.getElem?_eq_some_iff.mp hn0).1
  have hm0 : n0 ∈ ns := List.mem_of_getElem? hn0
  obtain ⟨t0, hat0⟩ := StrsAre.at hvn (k := 0) (by rw [List.length_map]; omega)
  rw [show (ns.map mk).getD 0 default = mk n0 by rw [List.getD_eq_getElem?_getD, List.getElem?_map, hn0]; rfl] at hat0
  (refine' call_ownC (by assumption) (Top.nolimit (by assumption)) ?ho ?hcd ?hb ?hl ?hc ?_ ?hr ?h1 ?h2 ?h3; (case ho => k_is); (case hcd => k_is); (case hb => exact BindsTo.of_eq rfl); (case hl => exact rfl); (case hc => decide +kernel); (case hr => decide); (case h1 => exact rfl); (case h2 => exact rfl); (case h3 => exact rfl))
  intro L h₁ tk cells F N Y
  obtain ⟨o1, o2, o3, o4, rfl, d1, d2, d3, d4⟩ := CellsAre.four Y
  clear Y
  replace d1 : o1.data = .cell none := d1
  replace d2 : o2.data = .cell none := d2
  replace d3 : o3.data = .cell none := d3
  replace d4 : o4.data = .cell (some (.ref Nm)) := d4
  generalize bindL _ _ _ = m₁ at F
  ((try dsimp only); repeat' (first | (with_reducible refine wpAny_execs_cons ?_) | (with_reducible refine wpAny_execs_nil ?_) | (with_reducible refine wpAny_If ?_) | ((with_reducible show wpAny _ _ (PySem.truthy (Value.str _ _)) _ _ _); refine SBL.truthy (by omega) ?_) | ( (fail_if_success (with_reducible first | show LCg.CompSrc _ _ _ _ _ _ _ _ _ _ _ _ _ _ | show LCt.CompSrcT _ _ _ _ _ _ _ _ _ _ _ _ _ _ _ | show LCp.SrcLP _ _ _ _ _ _ _ _ _ _ _ _ _ _ _ | show LCg.CompEnd _ _ _ _ _ _ _ _ _ _ _ _ _ _ | show WEnd _ _ _ _ _ _ _ _ _ _ | show After _ _ _ _ _ _ _ _ _ | show TEnd _ _ _ _ _ _ _ _ _ | show TPost _ _ _ _ _ _ _ _ _ _ _ | show wpAny _ _ (eval (Expr.ListComp _ _ _ _) _) _ _ _ | show wpAny _ _ (exec (Stmt.For _ _ _ _ _) _) _ _ _ | show wpAny _ _ (exec (Stmt.While _ _ _ _) _) _ _ _ | show wpAny _ _ (exec (Stmt.Assign _ (Expr.ListComp _ _ _ _) _) _) _ _ _ | show wpAny _ _ (call (Value.builtin "str.join") _) _ _ _ | show wpAny _ _ (compareOp _ (Value.ref _) (Value.ref _)) _ _ _ | show wpAny _ _ (call (Value.ref _) _) _ _ _)); first | (with_reducible ((with_reducible show wpAny _ _ (subscriptTail _ (Expr.Slice _ _ _ _) (Value.ref _) (Value.ref _)) _ _ _); k_dflt (refine' slice_fromB (k := 1) ?xF ?xN ?xm ?_ ?xa ?xb ?xc; (case xF => k_asm); (case xN => k_asm); (case xm => assumption); (case xa => with_unfolding_all rfl); (case xb => (intro _; with_unfolding_all rfl)); (case xc => (rw [sizeLine_eq]; omega))); intro D' h' F' N' l1; (try k_lt l1))) | walk1 | (dsimp only; walk1))))
  rename Fr _ _ _ _ => F
  rename News _ _ _ _ => N
  rename Obj => q2
  rename q2.data = _ => e2
  have hr0 : (ns.map mk).getD (Int.toNat 0) Str.empty = mk n0 := by
    rw [show Int.toNat 0 = 0 from rfl, List.getD_eq_getElem?_getD, List.getElem?_map, hn0]; rfl
  rw [hr0] at N
  dsimp only
  refine cut F _ (rounds_while (left := []) G' d4 e2 ⟨_, d1⟩ ⟨_, d2⟩ hl hdn hvn hnw hnd hm0 hnl ?_ ?_ ?_ ?_ ?_ ?_ ?_ ?_ F (newsSub N subI) ⟨rfl, trivial⟩) ?_
  · exact neN (by omega)
  · exact neN (by omega)
  · omega
  · exact neN (by omega)
  · exact List.forall_mem_cons.mpr ⟨⟨neN (by dsimp only; omega), neN (by dsimp only; omega)⟩, fun q hq => nomatch hq⟩
  · exact List.forall_mem_cons.mpr ⟨neN (by dsimp only; omega), fun q hq => nomatch hq⟩
  · exact .cons (.head _) (.cons _ _ .nil) .nil
  · rw [← drop_one hnd hn0, List.map_drop]
    exact StrsAre.drop hvn 1
  · clear F N
    rintro h₂ tk₂ m₂ _ F N ⟨rv, kr, tl, rs, left, rfl, hrv, hR⟩
    ((try dsimp only); repeat' (first | (with_reducible refine wpAny_execs_cons ?_) | (with_reducible refine wpAny_execs_nil ?_) | (with_reducible refine wpAny_If ?_) | ((with_reducible show wpAny _ _ (PySem.truthy (Value.str _ _)) _ _ _); refine SBL.truthy (by omega) ?_) | ( (fail_if_success (with_reducible first | show LCg.CompSrc _ _ _ _ _ _ _ _ _ _ _ _ _ _ | show LCt.CompSrcT _ _ _ _ _ _ _ _ _ _ _ _ _ _ _ | show LCp.SrcLP _ _ _ _ _ _ _ _ _ _ _ _ _ _ _ | show LCg.CompEnd _ _ _ _ _ _ _ _ _ _ _ _ _ _ | show WEnd _ _ _ _ _ _ _ _ _ _ | show After _ _ _ _ _ _ _ _ _ | show TEnd _ _ _ _ _ _ _ _ _ | show TPost _ _ _ _ _ _ _ _ _ _ _ | show wpAny _ _ (eval (Expr.ListComp _ _ _ _) _) _ _ _ | show wpAny _ _ (exec (Stmt.For _ _ _ _ _) _) _ _ _ | show wpAny _ _ (exec (Stmt.While _ _ _ _) _) _ _ _ | show wpAny _ _ (exec (Stmt.Assign _ (Expr.ListComp _ _ _ _) _) _) _ _ _ | show wpAny _ _ (call (Value.builtin "str.join") _) _ _ _ | show wpAny _ _ (compareOp _ (Value.ref _) (Value.ref _)) _ _ _ | show wpAny _ _ (call (Value.ref _) _) _ _ _)); first | (with_reducible ((with_reducible show wpAny _ _ (subscriptTail _ (Expr.Slice _ _ _ _) (Value.ref _) (Value.ref _)) _ _ _); k_dflt (refine' slice_fromB (k := 1) ?xF ?xN ?xm ?_ ?xa ?xb ?xc; (case xF => k_asm); (case xN => k_asm); (case xm => assumption); (case xa => with_unfolding_all rfl); (case xb => (intro _; with_unfolding_all rfl)); (case xc => (rw [sizeLine_eq]; omega))); intro D' h' F' N' l1; (try k_lt l1))) | walk1 | (dsimp only; walk1))))
    exact hQ _ _ _ _ _ _ _ _ ((Bs.of N F).sub fun p hp => .tail _ hp) hrv hR
end
end
section
abbrev lawEnv (L fa : Addr) (cd : Value) : Env := envOf "law" (fnScope 22) L fa cd
theorem ads_news {a : Lx} {w : World} {n : Int} {tn : Tok} {pb sv : List Value} {kb ks : Nat} {b : Addr} (h : b ∈ a.ads) : ∃ o, (b, o) ∈ a.news w n tn pb kb sv ks := by
  simp only [Lx.ads, List.mem_cons, List.not_mem_nil, or_false] at h
  rcases h with rfl | rfl | rfl | rfl | rfl | rfl | rfl | rfl | rfl
  all_goals exact ⟨_, by k_mem⟩
theorem off_base {a : Lx} {w : World} {g h : Heap} {n : Int} {tn : Tok} {pb sv : List Value} {kb ks : Nat} {b : Addr} {o : Obj} (B : Bs g h (a.news w n tn pb kb sv ks)) (e : g.get? b = some o) : b ∉ a.ads := fun q => by
  obtain ⟨o', hm⟩ := ads_news (w := w) (n := n) (tn := tn) (pb := pb) (sv := sv) (kb := kb) (ks := ks) q
  have := (B.got _ hm).2
  rw [show g.get? b = some o from e] at this; cases this
theorem lex_newsL {w : World} {h₀ h : Heap} {L : Addr} {a : Lx} {n : Int} {tn : Tok} {pb sv : List Value} {kb ks : Nat} (B : Bs h₀ h (a.news w n tn pb kb sv ks)) (hl : L ∉ a.ads) : News h₀ L h (a.news w n tn pb kb sv ks) :=
  fun p hp => ⟨(B.got p hp).1, fun e => hl (e ▸ news_ads p hp), (B.got p hp).2⟩
theorem lex_goL {w : World} {mg mb : Str → Option Value} {mean : ExcName → Option Value} {h₀ h : Heap} {L : Addr} {m : Str → Option Value} {rest : List (Addr × Obj)} {a : Lx} {n : Int} {pb : List Str} {left : List Nat}
    (G : Cx w mg mb mean h₀) (F : Fr h₀ L h m) (N : News h₀ L h rest) (S : LexSt w h₀ h a n pb left) (hl : L ∉ a.ads) (ap : ∀ p ∈ rest, p.1 ∉ a.ads) :
    ∃ g, Cx w mg mb mean g ∧ LexSt w g h a n pb left ∧ ∀ h' news', Bs g h' news' → Fr h₀ L h' m ∧ News h₀ L h' rest ∧ News h₀ L h' news' ∧ ∀ p ∈ rest, ∀ q ∈ news', p.1 ≠ q.1 := by
  obtain ⟨tn, pb1, kb, sv, ks, B, hp, hv⟩ := S
  have N1 := lex_newsL B hl
  refine ⟨hid h (a.news w n tn pb1 kb sv ks), G.keeps (hid_kept F N1), ⟨tn, pb1, kb, sv, ks, hid_bs N1, hp, hv⟩, ?_⟩
  intro h' news' B'
  have F' := back_fr F N1 B'.keep
  have ap' : ∀ p ∈ rest, p.1 ∉ (a.news w n tn pb1 kb sv ks).map (·.1) := fun p hp q => by
    obtain ⟨r, hr, e⟩ := List.mem_map.mp q
    exact ap p hp (e ▸ news_ads r hr)
  exact ⟨F', back_rest (news := a.news w n tn pb1 kb sv ks) N ap' B'.keep, back_news F N1 B', fun p hp q hq => back_ne N ap' B' hp hq⟩
theorem news_new {h₀ h h' : Heap} {L b : Addr} {o : Obj} {m : Str → Option Value} (F : Fr h₀ L h m) (hk : Kept h h') (e : h'.get? b = some o) (n : h.get? b = none) : h'.get? b = some o ∧ b ≠ L ∧ h₀.get? b = none := by
  refine ⟨e, fun q => ?_, ?_⟩
  · obtain ⟨o', _, _, e', _⟩ := F.ns
    rw [q] at n
    rw [show h.get? L = some o' from e'] at n; cases n
  · cases q : h₀.get? b with
    | none => rfl
    | some o' => rw [F.keep _ _ q] at n; cases n
inductive LaE (ps : Array Value) (m' : Str → Option Value) (news' : List (Addr × Obj)) : Prop
  | mk (ws : List (List Nat × Bool)) (D : Addr) (us : List Value) (k : Nat) (t : Tok) (e : news' = [(D, listOf us.toArray k), (79, tabObj ps)]) (nD : @Ne Nat D 79) (hw : ∀ p ∈ ws, IsWord p.1) (hl : ws.length = 7) (hu : StrsAre us (ws.map fun p => mk p.1)) (hs : Has m' [("words", .ref D), ("text", .str (mk (textOf ws)) t)])
inductive LbE (w : World) (L D : Addr) (us : List Value) (k : Nat) (ws : List (List Nat × Bool)) (m' : Str → Option Value) (news' : List (Addr × Obj)) : Prop
  | mk (a : Lx) (ps : Array Value) (tn : Tok) (kb : Nat) (sv : List Value) (ks : Nat) (ok : Lx.Ok a) (e : news' = (79, tabObj ps) :: (D, listOf us.toArray k) :: a.news w 1 tn [] kb sv ks) (hv : StrsAre sv ((textOf ws).map sg)) (aL : L ∉ a.ads) (aD : D ∉ a.ads) (a7 : (79 : Addr) ∉ a.ads) (hs : Has m' [("words", .ref D), ("lexer", .ref a.x), ("signs", .ref a.D)])
section
set_option maxRecDepth 100000 in
set_option maxHeartbeats 8000000 in
theorem law_one {w : World} {mg mb : Str → Option Value} {mean : ExcName → Option Value} {h₀ hp : Heap} {L fa : Addr} {cd : Value} {m : Str → Option Value} {gn : Array GenState} {dr : Drawn} {tk₀ : Nat} {os : OsState} (G : Cx w mg mb mean h₀) {ps : Array Value}
    (F : Fr h₀ L hp m) (N : News h₀ L hp [(79, tabObj ps)]) {sc : Addr} {vs : List Value} {ns : List Int} (hl : h₀.IsList sc vs.toArray) (hv : IntsAre vs ns) (hn : ns.length ≤ 63) (hs : Has m [("script", .ref sc)]) {Q : Flow → Shared → Prop} :
    wpAny (model PP w) (Lv 305) (exec (stAt (fnStmts 22) 0) (lawEnv L fa cd)) (After h₀ L gn dr os (LaE ps) Q) (fun _ _ => False) ⟨hp, gn, dr, tk₀, os⟩ := by
  have G' := G
  obtain ⟨X, T⟩ := G
  (conv => (arg 3; congr; · whnf; · (arg 2; whnf)))
  replace F := frOver _ F hs
  ((try dsimp only); repeat' (first | (with_reducible refine wpAny_execs_cons ?_) | (with_reducible refine wpAny_execs_nil ?_) | (with_reducible refine wpAny_If ?_) | ((with_reducible show wpAny _ _ (PySem.truthy (Value.str _ _)) _ _ _); refine SBL.truthy (by omega) ?_) | ( (fail_if_success (with_reducible first | show LCg.CompSrc _ _ _ _ _ _ _ _ _ _ _ _ _ _ | show LCt.CompSrcT _ _ _ _ _ _ _ _ _ _ _ _ _ _ _ | show LCp.SrcLP _ _ _ _ _ _ _ _ _ _ _ _ _ _ _ | show LCg.CompEnd _ _ _ _ _ _ _ _ _ _ _ _ _ _ | show WEnd _ _ _ _ _ _ _ _ _ _ | show After _ _ _ _ _ _ _ _ _ | show TEnd _ _ _ _ _ _ _ _ _ | show TPost _ _ _ _ _ _ _ _ _ _ _ | show wpAny _ _ (eval (Expr.ListComp _ _ _ _) _) _ _ _ | show wpAny _ _ (exec (Stmt.For _ _ _ _ _) _) _ _ _ | show wpAny _ _ (exec (Stmt.While _ _ _ _) _) _ _ _ | show wpAny _ _ (exec (Stmt.Assign _ (Expr.ListComp _ _ _ _) _) _) _ _ _ | show wpAny _ _ (call (Value.builtin "str.join") _) _ _ _ | show wpAny _ _ (compareOp _ (Value.ref _) (Value.ref _)) _ _ _ | show wpAny _ _ (call (Value.ref _) _) _ _ _)); first | walk1 | (dsimp only; walk1))))
  refine weaken (draw_spec (Cx.keeps G' F.keep) (hl.at fun o e => F.keep _ _ e) hv (by omega) ?_)
  intro ws T' D us k t h' tk hw hwl hk hus eT eD nT nD hDT
  have n79 : ∀ b : Addr, hp.get? b = none → @Ne Nat b 79 := fun b e q => by
    have := (N _ (.head _)).1
    rw [show (79 : Addr) = b from q.symm] at this
    rw [show hp.get? b = some _ from this] at e; cases e
  have nD' := n79 D nD
  have nT' := n79 T' nT
  have N2 := news_new F hk eD nD
  have N3 := news_new F hk eT nT
  replace F := frKept F hk
  replace N := newsKept N hk
  clear hk
  replace N : News h₀ L h' [(T', { cls := .type "tuple", data := .seq #[.ref D, .str (mk (textOf ws)) t] }), (D, listOf us.toArray k), (79, tabObj ps)] := fun p hp => by
    rcases List.mem_cons.mp hp with rfl | hp
    · exact N3
    · rcases List.mem_cons.mp hp with rfl | hp
      · exact N2
      · exact N p hp
  clear N2 N3
  ((try dsimp only); repeat' (first | (with_reducible refine wpAny_execs_cons ?_) | (with_reducible refine wpAny_execs_nil ?_) | (with_reducible refine wpAny_If ?_) | ((with_reducible show wpAny _ _ (PySem.truthy (Value.str _ _)) _ _ _); refine SBL.truthy (by omega) ?_) | ( (fail_if_success (with_reducible first | show LCg.CompSrc _ _ _ _ _ _ _ _ _ _ _ _ _ _ | show LCt.CompSrcT _ _ _ _ _ _ _ _ _ _ _ _ _ _ _ | show LCp.SrcLP _ _ _ _ _ _ _ _ _ _ _ _ _ _ _ | show LCg.CompEnd _ _ _ _ _ _ _ _ _ _ _ _ _ _ | show WEnd _ _ _ _ _ _ _ _ _ _ | show After _ _ _ _ _ _ _ _ _ | show TEnd _ _ _ _ _ _ _ _ _ | show TPost _ _ _ _ _ _ _ _ _ _ _ | show wpAny _ _ (eval (Expr.ListComp _ _ _ _) _) _ _ _ | show wpAny _ _ (exec (Stmt.For _ _ _ _ _) _) _ _ _ | show wpAny _ _ (exec (Stmt.While _ _ _ _) _) _ _ _ | show wpAny _ _ (exec (Stmt.Assign _ (Expr.ListComp _ _ _ _) _) _) _ _ _ | show wpAny _ _ (call (Value.builtin "str.join") _) _ _ _ | show wpAny _ _ (compareOp _ (Value.ref _) (Value.ref _)) _ _ _ | show wpAny _ _ (call (Value.ref _) _) _ _ _)); first | walk1 | (dsimp only; walk1))))
  rename Fr _ _ _ _ => F
  rename News _ _ _ _ => N
  exact After.next F (newsSub N fun p hp => .tail _ hp) ⟨ws, D, us, k, t, rfl, nD', hw, hwl, hus, ⟨rfl, rfl, trivial⟩⟩
set_option maxRecDepth 100000 in
set_option maxHeartbeats 8000000 in
theorem law_two {w : World} {mg mb : Str → Option Value} {mean : ExcName → Option Value} {h₀ hp : Heap} {L fa : Addr} {cd : Value} {m : Str → Option Value} {gn : Array GenState} {dr : Drawn} {tk₀ : Nat} {os : OsState} (G : Cx w mg mb mean h₀) (C : CodeHd h₀ 83 79) {ws : List (List Nat × Bool)} {D : Addr} {us : List Value} {k : Nat} {t : Tok} (nD : @Ne Nat D 79) (h79 : @LT.lt Nat _ 79 L)
    (F : Fr h₀ L hp m) (N : News h₀ L hp [(D, listOf us.toArray k), (79, tabObj #[])]) (hw : ∀ p ∈ ws, IsWord p.1) (hwl : ws.length = 7) (hs : Has m [("words", .ref D), ("text", .str (mk (textOf ws)) t)]) {Q : Flow → Shared → Prop} :
    wpAny (model PP w) (Lv 305) (exec (stAt (fnStmts 22) 1) (lawEnv L fa cd)) (After h₀ L gn dr os (LbE w L D us k ws) Q) (fun _ _ => False) ⟨hp, gn, dr, tk₀, os⟩ := by
  have G' := G
  obtain ⟨X, T⟩ := G
  (conv => (arg 3; congr; · whnf; · (arg 2; whnf)))
  replace F := frOver _ F hs
  ((try dsimp only); repeat' (first | (with_reducible refine wpAny_execs_cons ?_) | (with_reducible refine wpAny_execs_nil ?_) | (with_reducible refine wpAny_If ?_) | ((with_reducible show wpAny _ _ (PySem.truthy (Value.str _ _)) _ _ _); refine SBL.truthy (by omega) ?_) | ( (fail_if_success (with_reducible first | show LCg.CompSrc _ _ _ _ _ _ _ _ _ _ _ _ _ _ | show LCt.CompSrcT _ _ _ _ _ _ _ _ _ _ _ _ _ _ _ | show LCp.SrcLP _ _ _ _ _ _ _ _ _ _ _ _ _ _ _ | show LCg.CompEnd _ _ _ _ _ _ _ _ _ _ _ _ _ _ | show WEnd _ _ _ _ _ _ _ _ _ _ | show After _ _ _ _ _ _ _ _ _ | show TEnd _ _ _ _ _ _ _ _ _ | show TPost _ _ _ _ _ _ _ _ _ _ _ | show wpAny _ _ (eval (Expr.ListComp _ _ _ _) _) _ _ _ | show wpAny _ _ (exec (Stmt.For _ _ _ _ _) _) _ _ _ | show wpAny _ _ (exec (Stmt.While _ _ _ _) _) _ _ _ | show wpAny _ _ (exec (Stmt.Assign _ (Expr.ListComp _ _ _ _) _) _) _ _ _ | show wpAny _ _ (call (Value.builtin "str.join") _) _ _ _ | show wpAny _ _ (compareOp _ (Value.ref _) (Value.ref _)) _ _ _ | show wpAny _ _ (call (Value.ref _) _) _ _ _)); first | walk1 | (dsimp only; walk1))))
  have N79 : News h₀ L hp [(79, tabObj #[])] := newsSub N fun p hp => .tail _ hp
  have ND : News h₀ L hp [(D, listOf us.toArray k)] := newsSub N fun p hp => by rw [List.mem_singleton.mp hp]; exact .head _
  have hlen : (mk (textOf ws)).length ≤ 70 := by
    have := text_len ws hw
    rw [len_cl, cl_mk]; omega
  refine wpAny_call (weakenC (lexer_spec (g := hid hp [(79, tabObj #[])]) (G'.keeps (hid_kept F N79)) (C.keeps (hid_kept F N79)) (hid_bs N79) hlen ?_))
  intro a T' h' tk ok S eT nT hlT h7 h7c
  obtain ⟨ps, e7⟩ := h7
  obtain ⟨tn, pb, kb, sv, ks, B, hpb, hsv⟩ := S
  cases hpb
  rw [cl_mk] at hsv
  have eL : ∃ o, (hid hp [(79, tabObj #[])]).get? L = some o := by
    obtain ⟨o, _, _, e, _⟩ := F.ns
    exact ⟨o, hideAll_get _ e (by simp; exact fun q => absurd h79 (by rw [q]; exact Nat.lt_irrefl _))⟩
  have eD : ∃ o, (hid hp [(79, tabObj #[])]).get? D = some o := ⟨_, hideAll_get _ (ND _ (.head _)).1 (by simp; exact nD)⟩
  obtain ⟨oL, eL⟩ := eL
  obtain ⟨oD, eD⟩ := eD
  have aL := off_base B eL
  have aD := off_base B eD
  have a7 : (79 : Addr) ∉ a.ads := ads_of ok (.inr h7c)
  have aT : T' ∉ a.ads := ads_of ok (.inl hlT)
  have F2 := back_fr F N79 B.keep
  have N1 := back_news F N79 B
  have N2 := back_rest (rest := [(D, listOf us.toArray k)]) ND (by intro p hp; rw [List.mem_singleton.mp hp]; simpa using nD) B.keep
  have n7 := (N79 _ (.head _)).2
  have nTL : T' ≠ L ∧ h₀.get? T' = none := by
    refine ⟨fun q => ?_, ?_⟩
    · rw [q] at nT
      rw [show (hid hp [(79, tabObj #[])]).get? L = some oL from eL] at nT; cases nT
    · cases q : h₀.get? T' with
      | none => rfl
      | some o => rw [hid_kept F N79 _ _ q] at nT; cases nT
  clear F N ND N79
  have F := F2
  have N : News h₀ L h' ((T', { cls := .type "tuple", data := .seq #[.ref a.x, .ref a.D] }) :: (79, tabObj ps) :: (D, listOf us.toArray k) :: a.news w 1 tn [] kb sv ks) := fun p hp => by
    rcases List.mem_cons.mp hp with rfl | hp
    · exact ⟨eT, nTL⟩
    · rcases List.mem_cons.mp hp with rfl | hp
      · exact ⟨e7, n7⟩
      · rcases List.mem_cons.mp hp with rfl | hp
        · exact N2 _ (.head _)
        · exact N1 p hp
  clear N1 N2 F2 B
  obtain ⟨x', dx, l, y, dy, l2, f, cc, Ds, c, k1, k2, k3, k4, tw, j1, j2, j3, j4, j5, jn, jw, oc, oq, vs, tq, dc, pm, ct⟩ := a
  dsimp only [Lx.news] at N
  dsimp only
  ((try dsimp only); repeat' (first | (with_reducible refine wpAny_execs_cons ?_) | (with_reducible refine wpAny_execs_nil ?_) | (with_reducible refine wpAny_If ?_) | ((with_reducible show wpAny _ _ (PySem.truthy (Value.str _ _)) _ _ _); refine SBL.truthy (by omega) ?_) | ( (fail_if_success (with_reducible first | show LCg.CompSrc _ _ _ _ _ _ _ _ _ _ _ _ _ _ | show LCt.CompSrcT _ _ _ _ _ _ _ _ _ _ _ _ _ _ _ | show LCp.SrcLP _ _ _ _ _ _ _ _ _ _ _ _ _ _ _ | show LCg.CompEnd _ _ _ _ _ _ _ _ _ _ _ _ _ _ | show WEnd _ _ _ _ _ _ _ _ _ _ | show After _ _ _ _ _ _ _ _ _ | show TEnd _ _ _ _ _ _ _ _ _ | show TPost _ _ _ _ _ _ _ _ _ _ _ | show wpAny _ _ (eval (Expr.ListComp _ _ _ _) _) _ _ _ | show wpAny _ _ (exec (Stmt.For _ _ _ _ _) _) _ _ _ | show wpAny _ _ (exec (Stmt.While _ _ _ _) _) _ _ _ | show wpAny _ _ (exec (Stmt.Assign _ (Expr.ListComp _ _ _ _) _) _) _ _ _ | show wpAny _ _ (call (Value.builtin "str.join") _) _ _ _ | show wpAny _ _ (compareOp _ (Value.ref _) (Value.ref _)) _ _ _ | show wpAny _ _ (call (Value.ref _) _) _ _ _)); first | walk1 | (dsimp only; walk1))))
  rename Fr _ _ _ _ => F
  rename News _ _ _ _ => N
  exact After.next F (newsSub N fun p hp => .tail _ hp) ⟨_, ps, tn, kb, sv, ks, ok, rfl, hsv, aL, aD, a7, ⟨rfl, rfl, rfl, trivial⟩⟩
end
end
section
theorem run_same {ns : List (List Nat)} {n0 : List Nat} (hw : ∀ x ∈ ns, IsWord x) (hnd : ns.Nodup) (h0 : n0 ∈ ns) : ∀ i, runP dotsF ns n0 i = runP nearF ns n0 i := by
  intro i
  induction i with
  | zero => rfl
  | succ i ih =>
    have inv := (run_inv nearF hnd h0 i).2
    rw [runP, runP, ih]
    cases q : (runP nearF ns n0 i)[i]? with
    | none => rfl
    | some t =>
      have ht := hw t (inv t (List.mem_of_getElem? q))
      dsimp only
      rw [push_eq dotsF t ns _ hnd, push_eq nearF t ns _ hnd]
      congr 1
      apply List.filter_congr
      intro n hn
      rw [(near_facts ht (hw n hn)).1]
inductive LcE (w : World) (a : Lx) (ws : List (List Nat × Bool)) (D : Addr) (dO p79 : Obj) (m' : Str → Option Value) (news' : List (Addr × Obj)) : Prop
  | mk (i : Nat) (W Nm Rd : Addr) (vw : List Value) (kw : Nat) (vn : List Value) (kn : Nat) (rv : List Value) (kr : Nat) (tn : Tok) (kb : Nat) (sv : List Value) (ks : Nat) (e : news' = (W, listOf vw.toArray kw) :: (Nm, listOf vn.toArray kn) :: (Rd, listOf rv.toArray kr) :: (79, p79) :: (D, dO) :: a.news w 8 tn [] kb sv ks) (hv : StrsAre sv [])
      (aW : W ∉ a.ads) (aN : Nm ∉ a.ads) (aR : Rd ∉ a.ads) (hw : StrsAre vw (ws.map fun p => mk p.1)) (hn : StrsAre vn ((namesTo (ws.map (·.1)) 7).map mk)) (hl : (runP dotsF (namesTo (ws.map (·.1)) 7) ((ws.map (·.1)).getD 0 []) i).length = i)
      (hr : StrsAre rv ((runP dotsF (namesTo (ws.map (·.1)) 7) ((ws.map (·.1)).getD 0 []) i).map mk)) (hs : Has m' [("words", .ref D), ("lexer", .ref a.x), ("signs", .ref a.D), ("told", .ref W), ("names", .ref Nm), ("read", .ref Rd)])
section
set_option maxRecDepth 100000 in
set_option maxHeartbeats 8000000 in
theorem law_three {w : World} {mg mb : Str → Option Value} {mean : ExcName → Option Value} {h₀ hp : Heap} {L fa : Addr} {cd : Value} {m : Str → Option Value} {gn : Array GenState} {dr : Drawn} {tk₀ : Nat} {os : OsState} (G : Cx w mg mb mean h₀) {ws : List (List Nat × Bool)} {a : Lx} (ok : a.Ok) {tn : Tok} {sv : List Value} {kb ks : Nat} {D : Addr} {dO p79 : Obj}
    (F : Fr h₀ L hp m) (N : News h₀ L hp ((79, p79) :: (D, dO) :: a.news w 1 tn [] kb sv ks)) (hsv : StrsAre sv ((textOf ws).map sg)) (aL : L ∉ a.ads) (aD : D ∉ a.ads) (a7 : (79 : Addr) ∉ a.ads) (hw : ∀ p ∈ ws, IsWord p.1) (hwl : ws.length = 7) (hs : Has m [("words", .ref D), ("lexer", .ref a.x), ("signs", .ref a.D)]) {Q : Flow → Shared → Prop} :
    wpAny (model PP w) (Lv 305) (exec (stAt (fnStmts 22) 2) (lawEnv L fa cd)) (After h₀ L gn dr os (LcE w a ws D dO p79) Q) (fun _ _ => False) ⟨hp, gn, dr, tk₀, os⟩ := by
  have G' := G
  obtain ⟨X, T⟩ := G
  (conv => (arg 3; congr; · whnf; · (arg 2; whnf)))
  replace F := frOver _ F hs
  ((try dsimp only); repeat' (first | (with_reducible refine wpAny_execs_cons ?_) | (with_reducible refine wpAny_execs_nil ?_) | (with_reducible refine wpAny_If ?_) | ((with_reducible show wpAny _ _ (PySem.truthy (Value.str _ _)) _ _ _); refine SBL.truthy (by omega) ?_) | ( (fail_if_success (with_reducible first | show LCg.CompSrc _ _ _ _ _ _ _ _ _ _ _ _ _ _ | show LCt.CompSrcT _ _ _ _ _ _ _ _ _ _ _ _ _ _ _ | show LCp.SrcLP _ _ _ _ _ _ _ _ _ _ _ _ _ _ _ | show LCg.CompEnd _ _ _ _ _ _ _ _ _ _ _ _ _ _ | show WEnd _ _ _ _ _ _ _ _ _ _ | show After _ _ _ _ _ _ _ _ _ | show TEnd _ _ _ _ _ _ _ _ _ | show TPost _ _ _ _ _ _ _ _ _ _ _ | show wpAny _ _ (eval (Expr.ListComp _ _ _ _) _) _ _ _ | show wpAny _ _ (exec (Stmt.For _ _ _ _ _) _) _ _ _ | show wpAny _ _ (exec (Stmt.While _ _ _ _) _) _ _ _ | show wpAny _ _ (exec (Stmt.Assign _ (Expr.ListComp _ _ _ _) _) _) _ _ _ | show wpAny _ _ (call (Value.builtin "str.join") _) _ _ _ | show wpAny _ _ (compareOp _ (Value.ref _) (Value.ref _)) _ _ _ | show wpAny _ _ (call (Value.ref _) _) _ _ _)); first | walk1 | (dsimp only; walk1))))
  have S : LexSt w h₀ hp a 1 [] (textOf ws) := ⟨_, _, _, _, _, (Bs.of N F).sub (fun p hp => .tail _ (.tail _ hp)), .nil, hsv⟩
  obtain ⟨g, G2, S2, back⟩ := lex_goL (rest := [(79, p79), (D, dO)]) G' F (newsSub N (by intro p hp; rcases List.mem_cons.mp hp with rfl | hp; exact .head _; rw [List.mem_singleton.mp hp]; exact .tail _ (.head _))) S aL (by
    intro p hp
    rcases List.mem_cons.mp hp with rfl | hp
    · exact a7
    · rw [List.mem_singleton.mp hp]; exact aD)
  refine wpAny_call (weakenC (run_spec G2 ok S2 hw hwl ?_))
  intro i h' tk T' W Nm Rd vw kw vn kn rv kr tn' kb' sv' ks' B hsv' aT aW aN aR hvw hvn hlen hrv
  obtain ⟨F2, N2, N3, -⟩ := back _ _ B
  clear F N S S2 G2 back B
  have F := F2
  have N : News h₀ L h' ((T', { cls := .type "tuple", data := .seq #[.ref W, .ref Nm, .ref Rd] }) :: (W, listOf vw.toArray kw) :: (Nm, listOf vn.toArray kn) :: (Rd, listOf rv.toArray kr) :: (79, p79) :: (D, dO) :: a.news w 8 tn' [] kb' sv' ks') := fun p hp => by
    rcases List.mem_cons.mp hp with rfl | hp
    · exact N3 _ (.head _)
    rcases List.mem_cons.mp hp with rfl | hp
    · exact N3 _ (.tail _ (.head _))
    rcases List.mem_cons.mp hp with rfl | hp
    · exact N3 _ (.tail _ (.tail _ (.head _)))
    rcases List.mem_cons.mp hp with rfl | hp
    · exact N3 _ (.tail _ (.tail _ (.tail _ (.head _))))
    rcases List.mem_cons.mp hp with rfl | hp
    · exact N2 _ (.head _)
    rcases List.mem_cons.mp hp with rfl | hp
    · exact N2 _ (.tail _ (.head _))
    · exact N3 _ (.tail _ (.tail _ (.tail _ (.tail _ hp))))
  clear N2 N3 F2
  obtain ⟨x', dx, l, y, dy, l2, f, cc, Ds, c, k1, k2, k3, k4, tw, j1, j2, j3, j4, j5, jn, jw, oc, oq, vs, tq, dc, pm, ct⟩ := a
  dsimp only [Lx.news] at N
  dsimp only
  ((try dsimp only); repeat' (first | (with_reducible refine wpAny_execs_cons ?_) | (with_reducible refine wpAny_execs_nil ?_) | (with_reducible refine wpAny_If ?_) | ((with_reducible show wpAny _ _ (PySem.truthy (Value.str _ _)) _ _ _); refine SBL.truthy (by omega) ?_) | ( (fail_if_success (with_reducible first | show LCg.CompSrc _ _ _ _ _ _ _ _ _ _ _ _ _ _ | show LCt.CompSrcT _ _ _ _ _ _ _ _ _ _ _ _ _ _ _ | show LCp.SrcLP _ _ _ _ _ _ _ _ _ _ _ _ _ _ _ | show LCg.CompEnd _ _ _ _ _ _ _ _ _ _ _ _ _ _ | show WEnd _ _ _ _ _ _ _ _ _ _ | show After _ _ _ _ _ _ _ _ _ | show TEnd _ _ _ _ _ _ _ _ _ | show TPost _ _ _ _ _ _ _ _ _ _ _ | show wpAny _ _ (eval (Expr.ListComp _ _ _ _) _) _ _ _ | show wpAny _ _ (exec (Stmt.For _ _ _ _ _) _) _ _ _ | show wpAny _ _ (exec (Stmt.While _ _ _ _) _) _ _ _ | show wpAny _ _ (exec (Stmt.Assign _ (Expr.ListComp _ _ _ _) _) _) _ _ _ | show wpAny _ _ (call (Value.builtin "str.join") _) _ _ _ | show wpAny _ _ (compareOp _ (Value.ref _) (Value.ref _)) _ _ _ | show wpAny _ _ (call (Value.ref _) _) _ _ _)); first | walk1 | (dsimp only; walk1))))
  rename Fr _ _ _ _ => F
  rename News _ _ _ _ => N
  exact After.next F (newsSub N fun p hp => .tail _ hp) ⟨i, W, Nm, Rd, vw, kw, vn, kn, rv, kr, tn', kb', sv', ks', rfl, hsv', aW, aN, aR, hvw, hvn, hlen, hrv, ⟨rfl, rfl, rfl, rfl, rfl, rfl, trivial⟩⟩
end
end
section
theorem RowsAt.inn {h : Heap} {tl : List (Addr × Obj)} (hk : ∀ p ∈ tl, h.get? p.1 = some p.2) : ∀ {refs : List Value} {rs : List (List (List Nat))}, RowsAt tl refs rs → RowsIn h refs rs
  | _, _, .nil => .nil
  | _, _, .cons hm hv r => .cons ⟨_, hk _ hm, rfl, _, rfl⟩ hv (RowsAt.inn hk r)
theorem strs_app {ys : List Value} {b : List Str} (hb : StrsAre ys b) : ∀ {xs : List Value} {a : List Str}, StrsAre xs a → StrsAre (xs ++ ys) (a ++ b)
  | _, _, .nil => hb
  | _, _, .cons x t r => .cons x t (strs_app hb r)
theorem RowsIn.flat {h : Heap} : ∀ {refs : List Value} {rs : List (List (List Nat))}, RowsIn h refs rs → ∃ vss : List (List Value), refs.length = vss.length ∧ (∀ (i : Nat) vs, vss[i]? = some vs → ∃ Ar, refs[i]? = some (.ref Ar) ∧ h.IsList Ar vs.toArray) ∧ StrsAre vss.flatten (rs.flatten.map mk)
  | _, _, .nil => ⟨[], rfl, (fun i vs e => by simp at e), .nil⟩
  | _, _, .cons (A := A) (vs := vs) h1 h2 r => by
    obtain ⟨vss, e1, e2, e3⟩ := RowsIn.flat r
    refine ⟨vs :: vss, congrArg (· + 1) e1, ?_, ?_⟩
    · intro i us e
      cases i with
      | zero => cases Option.some.inj e; exact ⟨A, rfl, h1⟩
      | succ i => exact e2 i us e
    · rw [List.flatten_cons, List.flatten_cons, List.map_append]
      exact strs_app e3 h2
inductive LdE (m : Str → Option Value) (rest : List (Addr × Obj)) (nm : List (List Nat)) (n0 : List Nat) (m' : Str → Option Value) (news' : List (Addr × Obj)) : Prop
  | mk (Rs : Addr) (rv : List Value) (kr : Nat) (tl : List (Addr × Obj)) (rs : List (List (List Nat))) (left : List (List Nat)) (em : m' = (fun y => if y = Str.ofString "rounds" then some (.ref Rs) else m y)) (e : news' = (Rs, listOf rv.toArray kr) :: (rest ++ tl)) (n1 : ∀ p ∈ rest, Rs ≠ p.1) (n2 : ∀ p ∈ rest, ∀ q ∈ tl, p.1 ≠ q.1) (hr : RowsAt tl rv rs) (hR : Reach nearF nm n0 rs [] left)
section
set_option maxRecDepth 100000 in
set_option maxHeartbeats 8000000 in
theorem law_four {w : World} {mg mb : Str → Option Value} {mean : ExcName → Option Value} {h₀ hp : Heap} {L fa : Addr} {cd : Value} {m : Str → Option Value} {gn : Array GenState} {dr : Drawn} {tk₀ : Nat} {os : OsState} (G : Cx w mg mb mean h₀) {xs : List (List Nat)} {us vw : List Value} {k kw : Nat} {D W : Addr} {rest : List (Addr × Obj)}
    (F : Fr h₀ L hp m) (N : News h₀ L hp rest) (hD : (D, listOf us.toArray k) ∈ rest) (hW : (W, listOf vw.toArray kw) ∈ rest) (hus : StrsAre us (xs.map mk)) (hw : ∀ x ∈ xs, IsWord x)
    (hvw : StrsAre vw (xs.map mk)) (hs : Has m [("words", .ref D), ("told", .ref W)]) {Q : Flow → Shared → Prop} :
    wpAny (model PP w) (Lv 305) (exec (stAt (fnStmts 22) 3) (lawEnv L fa cd)) (After h₀ L gn dr os (fun m' news' => m' = m ∧ news' = rest) Q) (fun _ _ => False) ⟨hp, gn, dr, tk₀, os⟩ := by
  have G' := G
  obtain ⟨X, T⟩ := G
  (conv => (arg 3; congr; · whnf; · (arg 2; whnf)))
  replace F := frOver _ F hs
  ((try dsimp only); repeat' (first | (with_reducible refine wpAny_execs_cons ?_) | (with_reducible refine wpAny_execs_nil ?_) | (with_reducible refine wpAny_If ?_) | ((with_reducible show wpAny _ _ (PySem.truthy (Value.str _ _)) _ _ _); refine SBL.truthy (by omega) ?_) | ( (fail_if_success (with_reducible first | show LCg.CompSrc _ _ _ _ _ _ _ _ _ _ _ _ _ _ | show LCt.CompSrcT _ _ _ _ _ _ _ _ _ _ _ _ _ _ _ | show LCp.SrcLP _ _ _ _ _ _ _ _ _ _ _ _ _ _ _ | show LCg.CompEnd _ _ _ _ _ _ _ _ _ _ _ _ _ _ | show WEnd _ _ _ _ _ _ _ _ _ _ | show After _ _ _ _ _ _ _ _ _ | show TEnd _ _ _ _ _ _ _ _ _ | show TPost _ _ _ _ _ _ _ _ _ _ _ | show wpAny _ _ (eval (Expr.ListComp _ _ _ _) _) _ _ _ | show wpAny _ _ (exec (Stmt.For _ _ _ _ _) _) _ _ _ | show wpAny _ _ (exec (Stmt.While _ _ _ _) _) _ _ _ | show wpAny _ _ (exec (Stmt.Assign _ (Expr.ListComp _ _ _ _) _) _) _ _ _ | show wpAny _ _ (call (Value.builtin "str.join") _) _ _ _ | show wpAny _ _ (compareOp _ (Value.ref _) (Value.ref _)) _ _ _ | show wpAny _ _ (call (Value.ref _) _) _ _ _)); first | walk1 | (dsimp only; walk1))))
  refine ne_strs (N.isList hW) (N.isList hD) hvw hus (ok_words hw) (ok_words hw) (by decide) ?_
  rw [decide_eq_true rfl]
  ((try dsimp only); repeat' (first | (with_reducible refine wpAny_execs_cons ?_) | (with_reducible refine wpAny_execs_nil ?_) | (with_reducible refine wpAny_If ?_) | ((with_reducible show wpAny _ _ (PySem.truthy (Value.str _ _)) _ _ _); refine SBL.truthy (by omega) ?_) | ( (fail_if_success (with_reducible first | show LCg.CompSrc _ _ _ _ _ _ _ _ _ _ _ _ _ _ | show LCt.CompSrcT _ _ _ _ _ _ _ _ _ _ _ _ _ _ _ | show LCp.SrcLP _ _ _ _ _ _ _ _ _ _ _ _ _ _ _ | show LCg.CompEnd _ _ _ _ _ _ _ _ _ _ _ _ _ _ | show WEnd _ _ _ _ _ _ _ _ _ _ | show After _ _ _ _ _ _ _ _ _ | show TEnd _ _ _ _ _ _ _ _ _ | show TPost _ _ _ _ _ _ _ _ _ _ _ | show wpAny _ _ (eval (Expr.ListComp _ _ _ _) _) _ _ _ | show wpAny _ _ (exec (Stmt.For _ _ _ _ _) _) _ _ _ | show wpAny _ _ (exec (Stmt.While _ _ _ _) _) _ _ _ | show wpAny _ _ (exec (Stmt.Assign _ (Expr.ListComp _ _ _ _) _) _) _ _ _ | show wpAny _ _ (call (Value.builtin "str.join") _) _ _ _ | show wpAny _ _ (compareOp _ (Value.ref _) (Value.ref _)) _ _ _ | show wpAny _ _ (call (Value.ref _) _) _ _ _)); first | walk1 | (dsimp only; walk1))))
  exact After.next F N ⟨over_eq hs, rfl⟩
set_option maxRecDepth 100000 in
set_option maxHeartbeats 8000000 in
theorem law_five {w : World} {mg mb : Str → Option Value} {mean : ExcName → Option Value} {h₀ hp : Heap} {L fa : Addr} {cd : Value} {m : Str → Option Value} {gn : Array GenState} {dr : Drawn} {tk₀ : Nat} {os : OsState} (G : Cx w mg mb mean h₀) {nm : List (List Nat)} {n0 : List Nat} {vn : List Value} {kn : Nat} {Nm : Addr} {rest : List (Addr × Obj)}
    (F : Fr h₀ L hp m) (N : News h₀ L hp rest) (hN : (Nm, listOf vn.toArray kn) ∈ rest) (hvn : StrsAre vn (nm.map mk)) (hnw : ∀ x ∈ nm, IsWord x) (hnd : nm.Nodup) (hg0 : nm[0]? = some n0) (hnl : nm.length ≤ 7) (hs : Has m [("names", .ref Nm)]) {Q : Flow → Shared → Prop} :
    wpAny (model PP w) (Lv 305) (exec (stAt (fnStmts 22) 4) (lawEnv L fa cd)) (After h₀ L gn dr os (LdE m rest nm n0) Q) (fun _ _ => False) ⟨hp, gn, dr, tk₀, os⟩ := by
  have G' := G
  obtain ⟨X, T⟩ := G
  (conv => (arg 3; congr; · whnf; · (arg 2; whnf)))
  replace F := frOver _ F hs
  ((try dsimp only); repeat' (first | (with_reducible refine wpAny_execs_cons ?_) | (with_reducible refine wpAny_execs_nil ?_) | (with_reducible refine wpAny_If ?_) | ((with_reducible show wpAny _ _ (PySem.truthy (Value.str _ _)) _ _ _); refine SBL.truthy (by omega) ?_) | ( (fail_if_success (with_reducible first | show LCg.CompSrc _ _ _ _ _ _ _ _ _ _ _ _ _ _ | show LCt.CompSrcT _ _ _ _ _ _ _ _ _ _ _ _ _ _ _ | show LCp.SrcLP _ _ _ _ _ _ _ _ _ _ _ _ _ _ _ | show LCg.CompEnd _ _ _ _ _ _ _ _ _ _ _ _ _ _ | show WEnd _ _ _ _ _ _ _ _ _ _ | show After _ _ _ _ _ _ _ _ _ | show TEnd _ _ _ _ _ _ _ _ _ | show TPost _ _ _ _ _ _ _ _ _ _ _ | show wpAny _ _ (eval (Expr.ListComp _ _ _ _) _) _ _ _ | show wpAny _ _ (exec (Stmt.For _ _ _ _ _) _) _ _ _ | show wpAny _ _ (exec (Stmt.While _ _ _ _) _) _ _ _ | show wpAny _ _ (exec (Stmt.Assign _ (Expr.ListComp _ _ _ _) _) _) _ _ _ | show wpAny _ _ (call (Value.builtin "str.join") _) _ _ _ | show wpAny _ _ (compareOp _ (Value.ref _) (Value.ref _)) _ _ _ | show wpAny _ _ (call (Value.ref _) _) _ _ _)); first | walk1 | (dsimp only; walk1))))
  refine weaken (rounds_spec (Cx.keeps G' F.keep) (N.isList hN) ⟨_, (N _ hN).1, rfl⟩ hvn hnw hnd hg0 hnl ?_)
  intro h' tk Rs rv kr rs left tl B hrows hR
  have nn : ∀ p ∈ rest, ∀ q ∈ (Rs, listOf rv.toArray kr) :: tl, p.1 ≠ q.1 := fun p hm q hq e => by
    have e1 := (N _ hm).1
    have e2 := (B.got _ hq).2
    rw [e] at e1
    rw [show hp.get? q.1 = none from e2] at e1; cases e1
  have N2 : News h₀ L h' ((Rs, listOf rv.toArray kr) :: tl) := fun p hp => news_new F B.keep (B.got p hp).1 (B.got p hp).2
  replace F := frKept F B.keep
  replace N := newsKept N B.keep
  replace N : News h₀ L h' ((Rs, listOf rv.toArray kr) :: (rest ++ tl)) := fun p hp => by
    rcases List.mem_cons.mp hp with rfl | hp
    · exact N2 _ (.head _)
    rcases List.mem_append.mp hp with hp | hp
    · exact N p hp
    · exact N2 p (.tail _ hp)
  clear B N2
  ((try dsimp only); repeat' (first | (with_reducible refine wpAny_execs_cons ?_) | (with_reducible refine wpAny_execs_nil ?_) | (with_reducible refine wpAny_If ?_) | ((with_reducible show wpAny _ _ (PySem.truthy (Value.str _ _)) _ _ _); refine SBL.truthy (by omega) ?_) | ( (fail_if_success (with_reducible first | show LCg.CompSrc _ _ _ _ _ _ _ _ _ _ _ _ _ _ | show LCt.CompSrcT _ _ _ _ _ _ _ _ _ _ _ _ _ _ _ | show LCp.SrcLP _ _ _ _ _ _ _ _ _ _ _ _ _ _ _ | show LCg.CompEnd _ _ _ _ _ _ _ _ _ _ _ _ _ _ | show WEnd _ _ _ _ _ _ _ _ _ _ | show After _ _ _ _ _ _ _ _ _ | show TEnd _ _ _ _ _ _ _ _ _ | show TPost _ _ _ _ _ _ _ _ _ _ _ | show wpAny _ _ (eval (Expr.ListComp _ _ _ _) _) _ _ _ | show wpAny _ _ (exec (Stmt.For _ _ _ _ _) _) _ _ _ | show wpAny _ _ (exec (Stmt.While _ _ _ _) _) _ _ _ | show wpAny _ _ (exec (Stmt.Assign _ (Expr.ListComp _ _ _ _) _) _) _ _ _ | show wpAny _ _ (call (Value.builtin "str.join") _) _ _ _ | show wpAny _ _ (compareOp _ (Value.ref _) (Value.ref _)) _ _ _ | show wpAny _ _ (call (Value.ref _) _) _ _ _)); first | walk1 | (dsimp only; walk1))))
  rename Fr _ _ _ _ => F
  rename News _ _ _ _ => N
  rw [over_eq hs] at F
  exact After.next F N ⟨Rs, rv, kr, tl, rs, left, rfl, rfl, fun p hm => (nn p hm _ (.head _)).symm, fun p hm q hq => nn p hm q (.tail _ hq), hrows, hR⟩
set_option maxRecDepth 100000 in
set_option maxHeartbeats 8000000 in
theorem law_six {w : World} {mg mb : Str → Option Value} {mean : ExcName → Option Value} {h₀ hp : Heap} {L fa : Addr} {cd : Value} {m : Str → Option Value} {gn : Array GenState} {dr : Drawn} {tk₀ : Nat} {os : OsState} (G : Cx w mg mb mean h₀) {rs : List (List (List Nat))} {rd rv : List Value} {kd kr : Nat} {Rd Rs : Addr} {rest tl : List (Addr × Obj)}
    (F : Fr h₀ L hp m) (N : News h₀ L hp rest) (hR : (Rd, listOf rd.toArray kd) ∈ rest) (hRs : (Rs, listOf rv.toArray kr) ∈ rest) (htl : ∀ p ∈ tl, p ∈ rest) (hrd : StrsAre rd (rs.flatten.map mk)) (hw : ∀ x ∈ rs.flatten, IsWord x) (hrows : RowsAt tl rv rs) (hrl : rs.length ≤ 9) (hfl : rs.flatten.length ≤ 7)
    (hs : Has m [("read", .ref Rd), ("rounds", .ref Rs)]) {Q : Flow → Shared → Prop} :
    wpAny (model PP w) (Lv 305) (exec (stAt (fnStmts 22) 5) (lawEnv L fa cd)) (After h₀ L gn dr os (fun m' news' => m' = m ∧ news' = rest) Q) (fun _ _ => False) ⟨hp, gn, dr, tk₀, os⟩ := by
  have G' := G
  obtain ⟨X, T⟩ := G
  (conv => (arg 3; congr; · whnf; · (arg 2; whnf)))
  replace F := frOver _ F hs
  have hrin := RowsAt.inn (fun p hm => (N p (htl p hm)).1) hrows
  obtain ⟨vss, hlen, hvs, hfs⟩ := RowsIn.flat hrin
  have hr1 := RowsIn.len hrin
  have hfl2 := StrsAre.len hfs
  rw [List.length_map] at hfl2
  ((try dsimp only); repeat' (first | (with_reducible refine wpAny_execs_cons ?_) | (with_reducible refine wpAny_execs_nil ?_) | (with_reducible refine wpAny_If ?_) | ((with_reducible show wpAny _ _ (PySem.truthy (Value.str _ _)) _ _ _); refine SBL.truthy (by omega) ?_) | ( (fail_if_success (with_reducible first | show LCg.CompSrc _ _ _ _ _ _ _ _ _ _ _ _ _ _ | show LCt.CompSrcT _ _ _ _ _ _ _ _ _ _ _ _ _ _ _ | show LCp.SrcLP _ _ _ _ _ _ _ _ _ _ _ _ _ _ _ | show LCg.CompEnd _ _ _ _ _ _ _ _ _ _ _ _ _ _ | show WEnd _ _ _ _ _ _ _ _ _ _ | show After _ _ _ _ _ _ _ _ _ | show TEnd _ _ _ _ _ _ _ _ _ | show TPost _ _ _ _ _ _ _ _ _ _ _ | show wpAny _ _ (eval (Expr.ListComp _ _ _ _) _) _ _ _ | show wpAny _ _ (exec (Stmt.For _ _ _ _ _) _) _ _ _ | show wpAny _ _ (exec (Stmt.While _ _ _ _) _) _ _ _ | show wpAny _ _ (exec (Stmt.Assign _ (Expr.ListComp _ _ _ _) _) _) _ _ _ | show wpAny _ _ (call (Value.builtin "str.join") _) _ _ _ | show wpAny _ _ (compareOp _ (Value.ref _) (Value.ref _)) _ _ _ | show wpAny _ _ (call (Value.ref _) _) _ _ _)); first | walk1 | (dsimp only; walk1))))
  refine flat_comp rfl (by with_unfolding_all rfl) (by decide) (by rfl) (by decide) (by rfl) (by rfl) (by decide) (by decide) ?_
  walk1
  refine ⟨Rs, rv, vss, rfl, N.isList hRs, by rw [sizeLine_eq]; omega, by rw [sizeLine_eq]; omega, hlen, hvs, ?_⟩
  intro D2 h' tk hk eD nD _
  replace F := frKept F hk
  replace N := newsKept N hk
  refine ne_strs (N.isList hR) (xs := rd) (ys := vss.flatten) ⟨_, eD, rfl, _, rfl⟩ hrd hfs (ok_words hw) (ok_words hw) (by decide) ?_
  rw [decide_eq_true rfl]
  clear eD nD
  ((try dsimp only); repeat' (first | (with_reducible refine wpAny_execs_cons ?_) | (with_reducible refine wpAny_execs_nil ?_) | (with_reducible refine wpAny_If ?_) | ((with_reducible show wpAny _ _ (PySem.truthy (Value.str _ _)) _ _ _); refine SBL.truthy (by omega) ?_) | ( (fail_if_success (with_reducible first | show LCg.CompSrc _ _ _ _ _ _ _ _ _ _ _ _ _ _ | show LCt.CompSrcT _ _ _ _ _ _ _ _ _ _ _ _ _ _ _ | show LCp.SrcLP _ _ _ _ _ _ _ _ _ _ _ _ _ _ _ | show LCg.CompEnd _ _ _ _ _ _ _ _ _ _ _ _ _ _ | show WEnd _ _ _ _ _ _ _ _ _ _ | show After _ _ _ _ _ _ _ _ _ | show TEnd _ _ _ _ _ _ _ _ _ | show TPost _ _ _ _ _ _ _ _ _ _ _ | show wpAny _ _ (eval (Expr.ListComp _ _ _ _) _) _ _ _ | show wpAny _ _ (exec (Stmt.For _ _ _ _ _) _) _ _ _ | show wpAny _ _ (exec (Stmt.While _ _ _ _) _) _ _ _ | show wpAny _ _ (exec (Stmt.Assign _ (Expr.ListComp _ _ _ _) _) _) _ _ _ | show wpAny _ _ (call (Value.builtin "str.join") _) _ _ _ | show wpAny _ _ (compareOp _ (Value.ref _) (Value.ref _)) _ _ _ | show wpAny _ _ (call (Value.ref _) _) _ _ _)); first | walk1 | (dsimp only; walk1))))
  exact After.next F N ⟨over_eq hs, rfl⟩
end
end
section
section
set_option maxRecDepth 100000 in
set_option maxHeartbeats 8000000 in
theorem law_seven {w : World} {mg mb : Str → Option Value} {mean : ExcName → Option Value} {h₀ hp : Heap} {L fa : Addr} {cd : Value} {m : Str → Option Value} {gn : Array GenState} {dr : Drawn} {tk₀ : Nat} {os : OsState} (G : Cx w mg mb mean h₀) {nm : List (List Nat)} {n0 : List Nat} {rs : List (List (List Nat))} {vn rv : List Value} {kn kr : Nat} {Nm Rs : Addr} {rest tl : List (Addr × Obj)}
    (F : Fr h₀ L hp m) (N : News h₀ L hp rest) (hN : (Nm, listOf vn.toArray kn) ∈ rest) (hRs : (Rs, listOf rv.toArray kr) ∈ rest) (htl : ∀ p ∈ tl, p ∈ rest) (hvn : StrsAre vn (nm.map mk)) (hnw : ∀ x ∈ nm, IsWord x) (hg0 : nm[0]? = some n0) (hnl : nm.length ≤ 7) (hrows : RowsAt tl rv rs) (hrl : rs.length ≤ 9)
    (hfar : ∀ (r : Nat) (row : List (List Nat)), rs[r]? = some row → ∀ n ∈ row, IsWord n ∧ priceF n0 n ≤ 2 * (r : Int))
    (hs : Has m [("names", .ref Nm), ("rounds", .ref Rs)]) {Q : Flow → Shared → Prop} :
    wpAny (model PP w) (Lv 305) (exec (stAt (fnStmts 22) 6) (lawEnv L fa cd)) (After h₀ L gn dr os (fun m' news' => m' = m ∧ news' = rest) Q) (fun _ _ => False) ⟨hp, gn, dr, tk₀, os⟩ := by
  have G' := G
  obtain ⟨X, T⟩ := G
  have hm0 : n0 ∈ nm := List.mem_of_getElem? hg0
  have hnp : 0 < nm.length := (List.getElem?_eq_some_iff.mp hg0).1
  obtain ⟨t0, hat0⟩ := StrsAre.at hvn (k := 0) (by rw [List.length_map]; omega)
  rw [show (nm.map mk).getD 0 default = mk n0 by rw [List.getD_eq_getElem?_getD, List.getElem?_map, hg0]; rfl] at hat0
  (conv => (arg 3; congr; · whnf; · (arg 2; whnf)))
  replace F := frOver _ F hs
  ((try dsimp only); repeat' (first | (with_reducible refine wpAny_execs_cons ?_) | (with_reducible refine wpAny_execs_nil ?_) | (with_reducible refine wpAny_If ?_) | ((with_reducible show wpAny _ _ (PySem.truthy (Value.str _ _)) _ _ _); refine SBL.truthy (by omega) ?_) | ( (fail_if_success (with_reducible first | show LCg.CompSrc _ _ _ _ _ _ _ _ _ _ _ _ _ _ | show LCt.CompSrcT _ _ _ _ _ _ _ _ _ _ _ _ _ _ _ | show LCp.SrcLP _ _ _ _ _ _ _ _ _ _ _ _ _ _ _ | show LCg.CompEnd _ _ _ _ _ _ _ _ _ _ _ _ _ _ | show WEnd _ _ _ _ _ _ _ _ _ _ | show After _ _ _ _ _ _ _ _ _ | show TEnd _ _ _ _ _ _ _ _ _ | show TPost _ _ _ _ _ _ _ _ _ _ _ | show wpAny _ _ (eval (Expr.ListComp _ _ _ _) _) _ _ _ | show wpAny _ _ (exec (Stmt.For _ _ _ _ _) _) _ _ _ | show wpAny _ _ (exec (Stmt.While _ _ _ _) _) _ _ _ | show wpAny _ _ (exec (Stmt.Assign _ (Expr.ListComp _ _ _ _) _) _) _ _ _ | show wpAny _ _ (call (Value.builtin "str.join") _) _ _ _ | show wpAny _ _ (compareOp _ (Value.ref _) (Value.ref _)) _ _ _ | show wpAny _ _ (call (Value.ref _) _) _ _ _)); first | walk1 | (dsimp only; walk1))))
  refine weaken (judged_spec (Cx.keeps G' F.keep) (N.isList hN) hvn hnw (by omega) ?_)
  intro h' tk hk
  replace F := frKept F hk
  replace N := newsKept N hk
  clear hk
  ((try dsimp only); repeat' (first | (with_reducible refine wpAny_execs_cons ?_) | (with_reducible refine wpAny_execs_nil ?_) | (with_reducible refine wpAny_If ?_) | ((with_reducible show wpAny _ _ (PySem.truthy (Value.str _ _)) _ _ _); refine SBL.truthy (by omega) ?_) | ( (fail_if_success (with_reducible first | show LCg.CompSrc _ _ _ _ _ _ _ _ _ _ _ _ _ _ | show LCt.CompSrcT _ _ _ _ _ _ _ _ _ _ _ _ _ _ _ | show LCp.SrcLP _ _ _ _ _ _ _ _ _ _ _ _ _ _ _ | show LCg.CompEnd _ _ _ _ _ _ _ _ _ _ _ _ _ _ | show WEnd _ _ _ _ _ _ _ _ _ _ | show After _ _ _ _ _ _ _ _ _ | show TEnd _ _ _ _ _ _ _ _ _ | show TPost _ _ _ _ _ _ _ _ _ _ _ | show wpAny _ _ (eval (Expr.ListComp _ _ _ _) _) _ _ _ | show wpAny _ _ (exec (Stmt.For _ _ _ _ _) _) _ _ _ | show wpAny _ _ (exec (Stmt.While _ _ _ _) _) _ _ _ | show wpAny _ _ (exec (Stmt.Assign _ (Expr.ListComp _ _ _ _) _) _) _ _ _ | show wpAny _ _ (call (Value.builtin "str.join") _) _ _ _ | show wpAny _ _ (compareOp _ (Value.ref _) (Value.ref _)) _ _ _ | show wpAny _ _ (call (Value.ref _) _) _ _ _)); first | walk1 | (dsimp only; walk1))))
  refine item_list (N.isList hN) (by decide) (by decide) (x := .str (mk n0) t0) (by simpa using hat0) ?_
  ((try dsimp only); repeat' (first | (with_reducible refine wpAny_execs_cons ?_) | (with_reducible refine wpAny_execs_nil ?_) | (with_reducible refine wpAny_If ?_) | ((with_reducible show wpAny _ _ (PySem.truthy (Value.str _ _)) _ _ _); refine SBL.truthy (by omega) ?_) | ( (fail_if_success (with_reducible first | show LCg.CompSrc _ _ _ _ _ _ _ _ _ _ _ _ _ _ | show LCt.CompSrcT _ _ _ _ _ _ _ _ _ _ _ _ _ _ _ | show LCp.SrcLP _ _ _ _ _ _ _ _ _ _ _ _ _ _ _ | show LCg.CompEnd _ _ _ _ _ _ _ _ _ _ _ _ _ _ | show WEnd _ _ _ _ _ _ _ _ _ _ | show After _ _ _ _ _ _ _ _ _ | show TEnd _ _ _ _ _ _ _ _ _ | show TPost _ _ _ _ _ _ _ _ _ _ _ | show wpAny _ _ (eval (Expr.ListComp _ _ _ _) _) _ _ _ | show wpAny _ _ (exec (Stmt.For _ _ _ _ _) _) _ _ _ | show wpAny _ _ (exec (Stmt.While _ _ _ _) _) _ _ _ | show wpAny _ _ (exec (Stmt.Assign _ (Expr.ListComp _ _ _ _) _) _) _ _ _ | show wpAny _ _ (call (Value.builtin "str.join") _) _ _ _ | show wpAny _ _ (compareOp _ (Value.ref _) (Value.ref _)) _ _ _ | show wpAny _ _ (call (Value.ref _) _) _ _ _)); first | walk1 | (dsimp only; walk1))))
  refine weaken (told_spec (Cx.keeps G' F.keep) (hnw n0 hm0) (N.isList hRs) (RowsAt.inn (fun p hm => (N p (htl p hm)).1) hrows) hrl hfar ?_)
  intro h2 tk2 hk
  replace F := frKept F hk
  replace N := newsKept N hk
  clear hk
  ((try dsimp only); repeat' (first | (with_reducible refine wpAny_execs_cons ?_) | (with_reducible refine wpAny_execs_nil ?_) | (with_reducible refine wpAny_If ?_) | ((with_reducible show wpAny _ _ (PySem.truthy (Value.str _ _)) _ _ _); refine SBL.truthy (by omega) ?_) | ( (fail_if_success (with_reducible first | show LCg.CompSrc _ _ _ _ _ _ _ _ _ _ _ _ _ _ | show LCt.CompSrcT _ _ _ _ _ _ _ _ _ _ _ _ _ _ _ | show LCp.SrcLP _ _ _ _ _ _ _ _ _ _ _ _ _ _ _ | show LCg.CompEnd _ _ _ _ _ _ _ _ _ _ _ _ _ _ | show WEnd _ _ _ _ _ _ _ _ _ _ | show After _ _ _ _ _ _ _ _ _ | show TEnd _ _ _ _ _ _ _ _ _ | show TPost _ _ _ _ _ _ _ _ _ _ _ | show wpAny _ _ (eval (Expr.ListComp _ _ _ _) _) _ _ _ | show wpAny _ _ (exec (Stmt.For _ _ _ _ _) _) _ _ _ | show wpAny _ _ (exec (Stmt.While _ _ _ _) _) _ _ _ | show wpAny _ _ (exec (Stmt.Assign _ (Expr.ListComp _ _ _ _) _) _) _ _ _ | show wpAny _ _ (call (Value.builtin "str.join") _) _ _ _ | show wpAny _ _ (compareOp _ (Value.ref _) (Value.ref _)) _ _ _ | show wpAny _ _ (call (Value.ref _) _) _ _ _)); first | walk1 | (dsimp only; walk1))))
  exact After.next F N ⟨over_eq hs, rfl⟩
set_option maxRecDepth 100000 in
set_option maxHeartbeats 8000000 in
theorem law_eight {w : World} {mg mb : Str → Option Value} {mean : ExcName → Option Value} {h₀ hp : Heap} {L fa : Addr} {cd : Value} {m : Str → Option Value} {gn : Array GenState} {dr : Drawn} {tk₀ : Nat} {os : OsState} (G : Cx w mg mb mean h₀) {a : Lx} (ok : a.Ok) {tn : Tok} {sv : List Value} {kb ks : Nat} {ps : Array Value}
    (F : Fr h₀ L hp m) (N : News h₀ L hp ((79, tabObj ps) :: a.news w 8 tn [] kb sv ks)) (hsv : StrsAre sv []) (aL : L ∉ a.ads) (a7 : (79 : Addr) ∉ a.ads) (hs : Has m [("lexer", .ref a.x), ("signs", .ref a.D)]) {Q : Flow → Shared → Prop} (hQ : ∀ h' tk ps m', Fr h₀ L h' m' → h'.get? 79 = some (tabObj ps) → Q (.ret (.bool true)) ⟨h', gn, dr, tk, os⟩) :
    wpAny (model PP w) (Lv 305) (exec (stAt (fnStmts 22) 7) (lawEnv L fa cd)) Q (fun _ _ => False) ⟨hp, gn, dr, tk₀, os⟩ := by
  have G' := G
  obtain ⟨X, T⟩ := G
  have S : LexSt w h₀ hp a 8 [] [] := ⟨_, _, _, _, _, (Bs.of N F).sub (fun p hp => .tail _ hp), .nil, hsv⟩
  obtain ⟨x', dx, l, y, dy, l2, f, cc, Ds, c, k1, k2, k3, k4, tw, j1, j2, j3, j4, j5, jn, jw, oc, oq, vs, tq, dc, pm, ct⟩ := a
  dsimp only [Lx.news] at N
  dsimp only at hs
  (conv => (arg 3; congr; · whnf; · (arg 2; whnf)))
  replace F := frOver _ F hs
  ((try dsimp only); repeat' (first | (with_reducible refine wpAny_execs_cons ?_) | (with_reducible refine wpAny_execs_nil ?_) | (with_reducible refine wpAny_If ?_) | ((with_reducible show wpAny _ _ (PySem.truthy (Value.str _ _)) _ _ _); refine SBL.truthy (by omega) ?_) | ( (fail_if_success (with_reducible first | show LCg.CompSrc _ _ _ _ _ _ _ _ _ _ _ _ _ _ | show LCt.CompSrcT _ _ _ _ _ _ _ _ _ _ _ _ _ _ _ | show LCp.SrcLP _ _ _ _ _ _ _ _ _ _ _ _ _ _ _ | show LCg.CompEnd _ _ _ _ _ _ _ _ _ _ _ _ _ _ | show WEnd _ _ _ _ _ _ _ _ _ _ | show After _ _ _ _ _ _ _ _ _ | show TEnd _ _ _ _ _ _ _ _ _ | show TPost _ _ _ _ _ _ _ _ _ _ _ | show wpAny _ _ (eval (Expr.ListComp _ _ _ _) _) _ _ _ | show wpAny _ _ (exec (Stmt.For _ _ _ _ _) _) _ _ _ | show wpAny _ _ (exec (Stmt.While _ _ _ _) _) _ _ _ | show wpAny _ _ (exec (Stmt.Assign _ (Expr.ListComp _ _ _ _) _) _) _ _ _ | show wpAny _ _ (call (Value.builtin "str.join") _) _ _ _ | show wpAny _ _ (compareOp _ (Value.ref _) (Value.ref _)) _ _ _ | show wpAny _ _ (call (Value.ref _) _) _ _ _)); first | walk1 | (dsimp only; walk1))))
  obtain ⟨g, G2, S2, back⟩ := lex_goL (rest := [(79, tabObj ps)]) G' F (newsSub N (by intro p hp; rw [List.mem_singleton.mp hp]; exact .head _)) S aL (by
    intro p hp
    rw [List.mem_singleton.mp hp]; exact a7)
  refine wpAny_call (weakenC (get_spec0 (tok := []) (rest := []) (k := 0) G2 ok S2 (Nat.zero_le _) rfl ?_))
  intro h' tk t S3
  obtain ⟨tn', pb', kb', sv', ks', B, hpb, hsv'⟩ := S3
  cases hpb
  cases hsv'
  obtain ⟨F2, N2, N3, -⟩ := back _ _ B
  clear F N S S2 G2 back B
  have F := F2
  have N := newsApp N2 N3
  dsimp only [Lx.news, List.cons_append, List.nil_append] at N
  clear N2 N3 F2
  have eE : mk [] = Str.ofString "" := ofs_empty.symm
  rw [eE]
  ((try dsimp only); repeat' (first | (with_reducible refine wpAny_execs_cons ?_) | (with_reducible refine wpAny_execs_nil ?_) | (with_reducible refine wpAny_If ?_) | ((with_reducible show wpAny _ _ (PySem.truthy (Value.str _ _)) _ _ _); refine SBL.truthy (by omega) ?_) | ( (fail_if_success (with_reducible first | show LCg.CompSrc _ _ _ _ _ _ _ _ _ _ _ _ _ _ | show LCt.CompSrcT _ _ _ _ _ _ _ _ _ _ _ _ _ _ _ | show LCp.SrcLP _ _ _ _ _ _ _ _ _ _ _ _ _ _ _ | show LCg.CompEnd _ _ _ _ _ _ _ _ _ _ _ _ _ _ | show WEnd _ _ _ _ _ _ _ _ _ _ | show After _ _ _ _ _ _ _ _ _ | show TEnd _ _ _ _ _ _ _ _ _ | show TPost _ _ _ _ _ _ _ _ _ _ _ | show wpAny _ _ (eval (Expr.ListComp _ _ _ _) _) _ _ _ | show wpAny _ _ (exec (Stmt.For _ _ _ _ _) _) _ _ _ | show wpAny _ _ (exec (Stmt.While _ _ _ _) _) _ _ _ | show wpAny _ _ (exec (Stmt.Assign _ (Expr.ListComp _ _ _ _) _) _) _ _ _ | show wpAny _ _ (call (Value.builtin "str.join") _) _ _ _ | show wpAny _ _ (compareOp _ (Value.ref _) (Value.ref _)) _ _ _ | show wpAny _ _ (call (Value.ref _) _) _ _ _)); first | walk1 | (dsimp only; walk1))))
  rename News _ _ _ _ => N
  refine eq_strs (N.isList (a := l) (items := ([] : List Value).toArray) (by k_mem)) (N.isList (items := ([] : List Value).toArray) (.head _)) .nil .nil (fun x hx => nomatch hx) (fun x hx => nomatch hx) (by decide) ?_
  rw [decide_eq_true rfl]
  ((try dsimp only); repeat' (first | (with_reducible refine wpAny_execs_cons ?_) | (with_reducible refine wpAny_execs_nil ?_) | (with_reducible refine wpAny_If ?_) | ((with_reducible show wpAny _ _ (PySem.truthy (Value.str _ _)) _ _ _); refine SBL.truthy (by omega) ?_) | ( (fail_if_success (with_reducible first | show LCg.CompSrc _ _ _ _ _ _ _ _ _ _ _ _ _ _ | show LCt.CompSrcT _ _ _ _ _ _ _ _ _ _ _ _ _ _ _ | show LCp.SrcLP _ _ _ _ _ _ _ _ _ _ _ _ _ _ _ | show LCg.CompEnd _ _ _ _ _ _ _ _ _ _ _ _ _ _ | show WEnd _ _ _ _ _ _ _ _ _ _ | show After _ _ _ _ _ _ _ _ _ | show TEnd _ _ _ _ _ _ _ _ _ | show TPost _ _ _ _ _ _ _ _ _ _ _ | show wpAny _ _ (eval (Expr.ListComp _ _ _ _) _) _ _ _ | show wpAny _ _ (exec (Stmt.For _ _ _ _ _) _) _ _ _ | show wpAny _ _ (exec (Stmt.While _ _ _ _) _) _ _ _ | show wpAny _ _ (exec (Stmt.Assign _ (Expr.ListComp _ _ _ _) _) _) _ _ _ | show wpAny _ _ (call (Value.builtin "str.join") _) _ _ _ | show wpAny _ _ (compareOp _ (Value.ref _) (Value.ref _)) _ _ _ | show wpAny _ _ (call (Value.ref _) _) _ _ _)); first | walk1 | (dsimp only; walk1))))
  rename Fr _ _ _ _ => F
  rename News _ _ _ _ => N
  refine eq_strs (N.isList (a := Ds) (items := ([] : List Value).toArray) (by k_mem)) (N.isList (items := ([] : List Value).toArray) (.head _)) .nil .nil (fun x hx => nomatch hx) (fun x hx => nomatch hx) (by decide) ?_
  rw [decide_eq_true rfl]
  ((try dsimp only); repeat' (first | (with_reducible refine wpAny_execs_cons ?_) | (with_reducible refine wpAny_execs_nil ?_) | (with_reducible refine wpAny_If ?_) | ((with_reducible show wpAny _ _ (PySem.truthy (Value.str _ _)) _ _ _); refine SBL.truthy (by omega) ?_) | ( (fail_if_success (with_reducible first | show LCg.CompSrc _ _ _ _ _ _ _ _ _ _ _ _ _ _ | show LCt.CompSrcT _ _ _ _ _ _ _ _ _ _ _ _ _ _ _ | show LCp.SrcLP _ _ _ _ _ _ _ _ _ _ _ _ _ _ _ | show LCg.CompEnd _ _ _ _ _ _ _ _ _ _ _ _ _ _ | show WEnd _ _ _ _ _ _ _ _ _ _ | show After _ _ _ _ _ _ _ _ _ | show TEnd _ _ _ _ _ _ _ _ _ | show TPost _ _ _ _ _ _ _ _ _ _ _ | show wpAny _ _ (eval (Expr.ListComp _ _ _ _) _) _ _ _ | show wpAny _ _ (exec (Stmt.For _ _ _ _ _) _) _ _ _ | show wpAny _ _ (exec (Stmt.While _ _ _ _) _) _ _ _ | show wpAny _ _ (exec (Stmt.Assign _ (Expr.ListComp _ _ _ _) _) _) _ _ _ | show wpAny _ _ (call (Value.builtin "str.join") _) _ _ _ | show wpAny _ _ (compareOp _ (Value.ref _) (Value.ref _)) _ _ _ | show wpAny _ _ (call (Value.ref _) _) _ _ _)); first | walk1 | (dsimp only; walk1))))
  rename News _ _ _ _ => N
  exact hQ _ _ ps _ (by assumption) (N (79, tabObj ps) (by k_mem)).1
theorem law_body {w : World} {mg mb : Str → Option Value} {mean : ExcName → Option Value} {h₀ hp : Heap} {L fa : Addr} {cd : Value} {m : Str → Option Value} {gn : Array GenState} {dr : Drawn} {tk₀ : Nat} {os : OsState} (G : Cx w mg mb mean h₀) (C : CodeHd h₀ 83 79) (h79 : @LT.lt Nat _ 79 L)
    (F : Fr h₀ L hp m) (N : News h₀ L hp [(79, tabObj #[])]) {sc : Addr} {vs : List Value} {ns : List Int} (hl : h₀.IsList sc vs.toArray) (hv : IntsAre vs ns) (hn : ns.length ≤ 63) (hs : Has m [("script", .ref sc)]) {Q : Flow → Shared → Prop} (hQ : ∀ h' tk ps m', Fr h₀ L h' m' → h'.get? 79 = some (tabObj ps) → Q (.ret (.bool true)) ⟨h', gn, dr, tk, os⟩) :
    wpAny (model PP w) (Lv 305) (execs [stAt (fnStmts 22) 0, stAt (fnStmts 22) 1, stAt (fnStmts 22) 2, stAt (fnStmts 22) 3, stAt (fnStmts 22) 4, stAt (fnStmts 22) 5, stAt (fnStmts 22) 6, stAt (fnStmts 22) 7] (lawEnv L fa cd)) Q (fun _ _ => False) ⟨hp, gn, dr, tk₀, os⟩ := by
  refine wpAny_execs_cons (cut F _ (law_one G F N hl hv hn hs) ?_)
  clear F N hs
  rintro h1 tk1 m1 _ F N ⟨ws, D, us, k, t, rfl, nD, hw, hwl, hus, hs⟩
  dsimp only
  refine wpAny_execs_cons (cut F _ (law_two G C nD h79 F N hw hwl hs) ?_)
  clear F N hs
  rintro h2 tk2 m2 _ F N ⟨a, ps, tn, kb, sv, ks, ok, rfl, hsv, aL, aD, a7, hs⟩
  dsimp only
  refine wpAny_execs_cons (cut F _ (law_three G ok F N hsv aL aD a7 hw hwl hs) ?_)
  clear F N hs hsv
  rintro h3 tk3 m3 _ F N ⟨i, W, Nm, Rd, vw, kw, vn, kn, rv, kr, tn, kb, sv, ks, rfl, hsv, aW, aN, aR, hvw, hvn, hi, hrv, hs⟩
  dsimp only
  have hxl : (ws.map (·.1)).length = 7 := by rw [List.length_map, hwl]
  have hxw : ∀ x ∈ ws.map (·.1), IsWord x := fun x hx => by
    obtain ⟨p, hp, rfl⟩ := List.mem_map.mp hx
    exact hw p hp
  have hwx : (ws.map fun p => mk p.1) = (ws.map (·.1)).map mk := by rw [List.map_map]; rfl
  rw [hwx] at hus hvw
  generalize ws.map (·.1) = xs at *
  clear hw hwl hwx
  have hnw : ∀ x ∈ namesTo xs 7, IsWord x := fun x hx => by
    rw [names_mem _ 7 (by omega)] at hx
    exact hxw x (List.mem_of_mem_take hx)
  have hnd := names_nodup xs 7 (by omega)
  have hnl := names_len xs 7
  obtain ⟨nr, hns⟩ := names_head xs 6
  generalize xs.getD 0 [] = n0 at *
  have hg0 : (namesTo xs 7)[0]? = some n0 := by rw [hns]; rfl
  have hm0 : n0 ∈ namesTo xs 7 := List.mem_of_getElem? hg0
  generalize namesTo xs 7 = nm at *
  clear hns
  obtain ⟨s1, s2, s3, s4, s5, s6, -⟩ := hs
  refine wpAny_execs_cons (cut F _ (law_four (k := k) (kw := kw) G F N (by k_mem) (.head _) hus hxw hvw ⟨s1, s4, trivial⟩) ?_)
  clear F
  rename News _ _ _ _ => N0
  rintro h4 tk4 m4 _ F N ⟨rfl, rfl⟩
  clear N0
  dsimp only
  refine wpAny_execs_cons (cut F _ (law_five (kn := kn) G F N (.tail _ (.head _)) hvn hnw hnd hg0 hnl ⟨s5, trivial⟩) ?_)
  clear F N
  rintro h5 tk5 _ _ F N ⟨Rs, rv5, kr5, tl, rs, left, rfl, rfl, nRs, ntl, hrows, hR⟩
  dsimp only
  obtain ⟨-, -, k5, ek, -, hfar⟩ := reach_far nearF (priceF n0) (by rw [price_self (hnw n0 hm0)]; exact Int.le_refl _) (fun p hp n hn' h => price_tri (hnw n0 hm0) (hnw p hp) (hnw n hn') h) hm0 hR
  obtain ⟨-, -, -, -, -, hfl⟩ := reach_all hnd hm0 hR
  have hrl := (reach_len hR).1
  have hflat := run_rounds nearF hnd hm0 hR (i := i) (by rw [← run_same hnw hnd hm0]; exact hi)
  rw [run_same hnw hnd hm0, hflat] at hrv
  have hfw : ∀ x ∈ rs.flatten, IsWord x := fun x hx => by
    obtain ⟨row, hr, hx⟩ := List.mem_flatten.mp hx
    obtain ⟨r, hr⟩ := List.mem_iff_getElem?.mp hr
    exact hnw x (hfar r row hr x hx).1
  have e0 : ∀ (y : Str) (v : Value), y ≠ Str.ofString "rounds" → m4 y = some v → (fun y => if y = Str.ofString "rounds" then some (Value.ref Rs) else m4 y) y = some v := fun y v h1 h2 => (if_neg h1).trans h2
  refine wpAny_execs_cons (cut F _ (law_six (kd := kr) (kr := kr5) (tl := tl) G F N (.tail _ (.tail _ (.tail _ (.head _)))) (.head _) (fun p hp => .tail _ (List.mem_append_right _ hp)) hrv hfw hrows (by omega) (by omega) ⟨e0 "read" _ (by decide) s6, if_pos rfl, trivial⟩) ?_)
  clear F
  rename News _ _ _ _ => N0
  rintro h6 tk6 _ _ F N ⟨rfl, rfl⟩
  clear N0
  dsimp only
  refine wpAny_execs_cons (cut F _ (law_seven (kn := kn) (kr := kr5) (tl := tl) G F N (.tail _ (.tail _ (.head _))) (.head _) (fun p hp => .tail _ (List.mem_append_right _ hp)) hvn hnw hg0 hnl hrows (by omega) (fun r row hr n hn' => ⟨hnw n (hfar r row hr n hn').1, (hfar r row hr n hn').2⟩) ⟨e0 "names" _ (by decide) s5, if_pos rfl, trivial⟩) ?_)
  clear F
  rename News _ _ _ _ => N0
  rintro h7 tk7 _ _ F N ⟨rfl, rfl⟩
  clear N0
  dsimp only
  refine wpAny_execs_cons (law_eight (ps := ps) (kb := kb) (ks := ks) (tn := tn) G ok F (newsSub N ?_) hsv aL a7 ⟨e0 "lexer" _ (by decide) s2, e0 "signs" _ (by decide) s3, trivial⟩ hQ)
  intro p hp
  refine .tail _ (List.mem_append_left _ (.tail _ (.tail _ (.tail _ ?_))))
  rcases List.mem_cons.mp hp with rfl | hp
  · exact .head _
  · exact .tail _ (.tail _ hp)
end
end
end Mine
set_option maxRecDepth 100000 in
set_option maxHeartbeats 8000000 in
theorem PySem.Challenge.cw_pe0157_01_holds : PySem.Challenge.rw_pe0157_01.Holds := by
  refine Mine.hd ?_
  k_go0
  rename Fr _ _ _ _ => F
  rename News _ _ _ _ => N
  rename CodeHd _ _ _ => C
  rename Frag.In _ _ => X
  rename Top topProg _ _ _ _ _ => T
  rename IntsAre _ _ => hI
  rename Heap.IsList (ghostOf _ _) _ _ => hl
  rename @LT.lt Nat _ 79 _ => h79
  rename ¬ _ < _ => hn
  have hn' := Int.ofNat_le.mp (Int.not_lt.mp hn)
  refine wpAny_mono (Mine.weaken (A' := Mine.Lv 305) (Mine.law_body ⟨X, T⟩ C h79 F N hl hI hn' ⟨rfl, trivial⟩ ?_) (h2 := Nat.le_of_ble_eq_true rfl) (h5 := Nat.le_of_ble_eq_true rfl)) (fun _ _ q => q) (fun _ _ e => e.elim)
  intro h' tk ps m' F' e7
  refine ⟨?_, ⟨ps, e7⟩, trivial⟩
  refine goodW_bool F' (by assumption) (raisesW_false ?_) ?_
  · wrow_none_raised
  · wrow_post
