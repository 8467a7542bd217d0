import PyProof.Rows.All
import Wide.All
import OpenK.AllK
import Wide.FinOn
import Lean
import PySem.Challenge.RW_mr0037_01
open PySem PySem.W PyProof.Rows PySem.Calls PySem.Spec
set_option Elab.async false
set_option maxRecDepth 100000
set_option maxHeartbeats 8000000
namespace Mine
open_top hd for PySem.Challenge.rw_mr0037_01

section
abbrev Led := List (Addr × Obj)

/-- where a call stands: the caller's frame L above the ground h₀; need is what is handed over -/
structure Site (K : Frag) (p : Program) (loose : List Str) (mean : ExcName → Option Value) (mg mb : Str → Option Value) (A₀ A : Around) (base h₀ : Heap) (outer : List Env) (env : Env) (L : Addr) (m : Str → Option Value) (s : Shared) (need : Led) : Prop where
  low : Below A₀ base outer h₀
  fr : Fr h₀ L s.heap m
  frag : K.In h₀
  top : Top p loose mean mg mb h₀
  led : News h₀ L s.heap need
  stack : A.frames = some (env :: outer)
  home : env.frame = some L
  inDef : env.scope.kind = .function

/-- what the callee may lean on: its ground g is the caller's heap less what was handed over -/
structure Inn (K : Frag) (p : Program) (loose : List Str) (mean : ExcName → Option Value) (mg mb : Str → Option Value) (A : Around) (base h₀ : Heap) (outer : List Env) (env : Env) (L : Addr) (m : Str → Option Value) (s : Shared) (need : Led)
    (g : Heap) (L' : Addr) (h₁ : Heap) (m' : Str → Option Value) (led : Led) : Prop where
  stay : ∀ b o, s.heap.get? b = some o → (∀ q ∈ need, q.1 ≠ b) → g.get? b = some o
  under : ∀ b o, g.get? b = some o → b < L'
  given : ∀ q ∈ need, q.1 < L'
  caller : Fr h₀ L g m
  fr : Fr g L' h₁ m'
  led : News g L' h₁ led
  low : Below A base (env :: outer) g
  frag : K.In g
  top : Top p loose mean mg mb g

/-- a def's body runs in env'; ok takes what it returns, R what it raises -/
def Runs (prog : Program) (w : World) (A : Around) (env' : Env) (body : List Stmt) (ok : Value → Shared → Prop) (R : Result → Shared → Prop) (s : Shared) : Prop :=
  wpAny (model prog w) (A.deeper env') (execs body env') (fun fl s' => ok (match fl with | .ret v => v | _ => .none) s')
    (fun e s' => wpAny (model prog w) (A.deeper env') (leaving env' e) (fun _ s₂ => R (.error e) s₂) (fun e₂ s₂ => R (.error e₂) s₂) s') s
theorem Runs.weaken {prog : Program} {w : World} {A : Around} {env' : Env} {body : List Stmt} {ok ok₂ : Value → Shared → Prop} {R : Result → Shared → Prop} {s : Shared} (r : Runs prog w A env' body ok R s) (h : ∀ v s', ok v s' → ok₂ v s') :
    Runs prog w A env' body ok₂ R s := wpAny_mono r (fun _ _ q => h _ _ q) fun _ _ q => q

section
variable {prog : Program} {w : World} {K : Frag} {p : Program} {loose : List Str} {mean : ExcName → Option Value} {mg mb : Str → Option Value} {A₀ A : Around} {base h₀ : Heap} {outer : List Env} {env : Env} {L : Addr} {m : Str → Option Value} {s : Shared} {need : Led}
  {R : Result → Shared → Prop}
/-- the callee's ground: the heap at the call with need hidden -/
abbrev dug (s : Shared) (need : Led) : Heap := hideAll s.heap (need.map (·.1))
theorem dug_some {b : Addr} {o : Obj} (e : s.heap.get? b = some o) (off : ∀ q ∈ need, q.1 ≠ b) : (dug s need).get? b = some o :=
  hideAll_get _ e (by simpa using fun o' hm => off (b, o') hm rfl)
theorem dug_none {q : Addr × Obj} (hq : q ∈ need) : (dug s need).get? q.1 = none := hideAll_none _ (by simpa using ⟨q.2, hq⟩)
theorem fresh_of_dug {a : Addr} (e : s.heap.get? a = none) : (dug s need).get? a = none :=
  Option.eq_none_iff_forall_ne_some.mpr fun o q => by
    have := of_hideAll _ q
    rw [e] at this
    cases this
theorem Site.enter (S : Site K p loose mean mg mb A₀ A base h₀ outer env L m s need) {h₁ : Heap} {m' : Str → Option Value} {cells : Led} (ns : h₁.Ns s.heap.objs.size m') (up : ∀ b o, s.heap.get? b = some o → h₁.get? b = some o)
    (nc : News s.heap s.heap.objs.size h₁ cells) : Inn K p loose mean mg mb A base h₀ outer env L m s need (dug s need) s.heap.objs.size h₁ m' (cells ++ need) ∧ ∀ R : Result → Shared → Prop, ∀ v s', LeaveK h₀ L m (dug s need) R v s' → R (.ok (.ret v)) s' := by
  have size : (dug s need).objs.size = s.heap.objs.size := hideAll_size _ _
  have inside : ∀ q ∈ need, q.1 < s.heap.objs.size := fun q hq => Heap.lt_size (S.led q hq).1
  have all := fun R => groundX (R := R) S.low S.fr S.led S.stack S.home S.inDef
  obtain ⟨cf, bl, st, _⟩ := all fun _ _ => True
  refine ⟨{ stay := fun b o e off => dug_some e off, under := fun b o e => Heap.lt_size (of_hideAll _ e), given := inside, caller := cf, fr := ⟨ns, fun b o e => up b o (of_hideAll _ e), Nat.le_of_eq size⟩, led := ?_, low := bl, frag := S.frag.keeps st, top := S.top.keeps st }, fun R => (all R).2.2.2⟩
  intro q hq
  rcases List.mem_append.mp hq with hc | hn
  · obtain ⟨x1, x2, x3⟩ := nc q hc
    exact ⟨x1, x2, fresh_of_dug x3⟩
  · exact ⟨up _ _ (S.led q hn).1, Nat.ne_of_lt (inside q hn), dug_none hn⟩

variable {name qual : Str} {params : Arguments} {body : List Stmt} {scope : Scope} {dV kV doc pm cdv ct oc : Value} {an od : Option Addr} {osl : Array (Option Value)} {f : Addr} {args : Args} {binds : List (Str × Value)}
/-- a def without cells, which may raise -/
theorem enterR (S : Site K p loose mean mg mb A₀ A base h₀ outer env L m s need) (hfun : K.lookup f = some ⟨oc, od, .func (fnOf name qual params body scope dV kV doc pm an cdv ct), osl⟩) (hcode : codeIn K cdv qual = true) (room : A.depth < recursionLimit)
    (args_are : BindsTo s (fnOf name qual params body scope dV kV doc pm an cdv ct) args binds) (allLocal : ∀ y ∈ binds, scope.names.lookup y.1 = some .local) (noCell : ∀ y ∈ scope.names, y.2 ≠ .cell)
    (plain : scope.isCoroutine = false ∧ scope.isGenerator = false ∧ scope.kind = .function)
    (go : ∀ g L' h₁, Inn K p loose mean mg mb A base h₀ outer env L m s need g L' h₁ (fun y => binds.reverse.lookup y) need → (∀ v s', LeaveK h₀ L m g R v s' → R (.ok (.ret v)) s') →
      Runs prog w A (envOf qual scope L' f cdv) body (fun v => R (.ok (.ret v))) R { s with heap := h₁, toks := s.toks + binds.length }) : codeAny (model prog w) A (.call (.ref f) args) R s := by
  have hin := S.frag.keeps S.fr.keep
  refine codeAny_call_def room (hin _ _ hfun) rfl (S.top.nolimit.keeps S.fr.keep) (codeRec_of hin hcode) rfl args_are noCell allLocal (fun h₁ ns up => ?_) plain.1 plain.2.1 plain.2.2
  obtain ⟨inn, back⟩ := S.enter (cells := []) ns up News.nil
  exact go _ _ h₁ inn (back R)
/-- a def without cells -/
theorem enterP (S : Site K p loose mean mg mb A₀ A base h₀ outer env L m s need) (hfun : K.lookup f = some ⟨oc, od, .func (fnOf name qual params body scope dV kV doc pm an cdv ct), osl⟩) (hcode : codeIn K cdv qual = true) (room : A.depth < recursionLimit)
    (args_are : BindsTo s (fnOf name qual params body scope dV kV doc pm an cdv ct) args binds) (allLocal : ∀ y ∈ binds, scope.names.lookup y.1 = some .local) (noCell : ∀ y ∈ scope.names, y.2 ≠ .cell)
    (plain : scope.isCoroutine = false ∧ scope.isGenerator = false ∧ scope.kind = .function)
    (go : ∀ g L' h₁, Inn K p loose mean mg mb A base h₀ outer env L m s need g L' h₁ (fun y => binds.reverse.lookup y) need →
      Runs prog w A (envOf qual scope L' f cdv) body (LeaveK h₀ L m g R) R { s with heap := h₁, toks := s.toks + binds.length }) : codeAny (model prog w) A (.call (.ref f) args) R s :=
  enterR S hfun hcode room args_are allLocal noCell plain fun g L' h₁ inn back => (go g L' h₁ inn).weaken back
/-- a def with cells of its own -/
theorem enterC (S : Site K p loose mean mg mb A₀ A base h₀ outer env L m s need) (hfun : K.lookup f = some ⟨oc, od, .func (fnOf name qual params body scope dV kV doc pm an cdv ct), osl⟩) (hcode : codeIn K cdv qual = true) (room : A.depth < recursionLimit)
    (args_are : BindsTo s (fnOf name qual params body scope dV kV doc pm an cdv ct) args binds) (kinds : (binds.all fun y => scope.names.lookup y.1 == some .local || scope.names.lookup y.1 == some .cell) = true) (once : ((cellsFrom 0 scope.names []).map (·.1)).Nodup)
    (plain : scope.isCoroutine = false ∧ scope.isGenerator = false ∧ scope.kind = .function)
    (go : ∀ g L' h₁ tk cells, Inn K p loose mean mg mb A base h₀ outer env L m s need g L' h₁ (bindL (envOfC qual scope L' f cdv).kindOf binds fun _ => none) (cells ++ need) →
      CellsAre (bindC (envOfC qual scope L' f cdv).kindOf binds fun _ => none) (cellsFrom (L' + 1) scope.names []) cells →
      Runs prog w A (envOfC qual scope L' f cdv) body (LeaveK h₀ L m g R) R { s with heap := h₁, toks := tk }) : codeAny (model prog w) A (.call (.ref f) args) R s := by
  have hin := S.frag.keeps S.fr.keep
  have free := S.top.nolimit.keeps S.fr.keep
  have names : ∀ n c, (n, c) ∈ cellsFrom (s.heap.objs.size + 1) scope.names [] → List.lookup n (cellsFrom (s.heap.objs.size + 1) scope.names []) = some c := fun n c hm => by
    refine lookup_of_mem_nodup ?_ hm
    rw [← cellsFrom_names scope.names 0 (s.heap.objs.size + 1) [] [] rfl]
    exact once
  refine codeAny_call_function room (hin _ _ hfun) rfl plain.1 plain.2.1 rfl (codeRec_of hin hcode) (args_are _ _ _ _ ?_)
  refine wpAny_newFunctionEnv_cells plain.2.2 (kindsX kinds _) ?_
  rintro _ rfl s₂ made
  have up := made.toInCall.keep
  refine ⟨free.keeps up, codeAny_func ?_⟩
  obtain ⟨h₁, tk, e, _⟩ := made.done
  obtain ⟨cells, nc, are⟩ := Cl.news (Nat.le_refl s.heap.objs.size) fun n c hm => ⟨made.cell n c (names n c hm), made.above n c hm⟩
  obtain ⟨inn, back⟩ := S.enter made.toInCall.ns up nc
  rw [e] at inn ⊢
  exact (go _ _ h₁ tk cells inn are).weaken (back R)
end

/-- what a def of the text does: of the ledger it is handed need; olds are objects that it reads; Φ says what comes back and what is new or changed -/
def Con (w : World) (p : Program) (loose : List Str) (mean : ExcName → Option Value) (mg mb : Str → Option Value) (dd du : Nat) (f : Addr) (need olds : Led) (vs : List Value) (Φ : Value → Led → Prop) : Prop :=
  ∀ (dp un : Nat) (gd : Option (List Code)) (cn : Str) (cs : Scope) (a : Addr) (ccd : Value) (cl : List (Str × Addr)) (outer : List Env) (A₀ : Around) (base h₀ : Heap) (L : Addr) (m : Str → Option Value) (s : Shared) (rest : Led) (Q E : Value → Shared → Prop),
   Below A₀ base outer h₀ → Fr h₀ L s.heap m → (hd.heap_39 w.params).In h₀ → Top p loose mean mg mb h₀ → cs.kind = .function →
   News h₀ L s.heap need → News h₀ L s.heap rest → (∀ p ∈ need, ∀ q ∈ rest, p.1 ≠ q.1) → (∀ q ∈ olds, s.heap.get? q.1 = some q.2 ∧ ∀ p ∈ need, p.1 ≠ q.1) →
   dp + dd < recursionLimit → un + du < cLine →
   (∀ r need' h' tk', Fr h₀ L h' m → News h₀ L h' (need' ++ rest) → (∀ p ∈ need', ∀ q ∈ rest, p.1 ≠ q.1) → (∀ q ∈ olds, h'.get? q.1 = some q.2) → Φ r need' → Q r { s with heap := h', toks := tk' }) →
   wpAny (model PySem.Challenge.rw_mr0037_01.row.prog w) (ktrTop dp un gd cn cs L a ccd cl outer) (call (.ref f) vs) Q E s

/-- at the end of a def: the rest of the caller's ledger stands beside what the def hands back -/
theorem rest_back {h₀ g hs h' : Heap} {L L' : Addr} {m' : Str → Option Value} {need need' rest : Led} (hg : ∀ b o, hs.get? b = some o → (∀ q ∈ need, q.1 ≠ b) → g.get? b = some o)
    (NR : News h₀ L hs rest) (hdis : ∀ p ∈ need, ∀ q ∈ rest, p.1 ≠ q.1) (F' : Fr g L' h' m') (N' : News g L' h' need') (kN : News h₀ L h' need') :
    News h₀ L h' (need' ++ rest) ∧ ∀ p ∈ need', ∀ q ∈ rest, p.1 ≠ q.1 := by
  have inG : ∀ q ∈ rest, g.get? q.1 = some q.2 := fun q hq => hg q.1 q.2 (NR q hq).1 fun p hp => hdis p hp q hq
  refine ⟨fun p hp => ?_, fun p hp q hq e => ?_⟩
  · rcases List.mem_append.mp hp with hp | hp
    · exact kN p hp
    · exact ⟨F'.keep _ _ (inG p hp), (NR p hp).2⟩
  · have := (N' p hp).2.2
    rw [e, inG q hq] at this
    cases this
theorem olds_back {g hs h' : Heap} {L' : Addr} {m' : Str → Option Value} {need olds : Led} (hg : ∀ b o, hs.get? b = some o → (∀ q ∈ need, q.1 ≠ b) → g.get? b = some o)
    (ho : ∀ q ∈ olds, hs.get? q.1 = some q.2 ∧ ∀ p ∈ need, p.1 ≠ q.1) (F' : Fr g L' h' m') : ∀ q ∈ olds, h'.get? q.1 = some q.2 :=
  fun q hq => F'.keep _ _ (hg q.1 q.2 (ho q hq).1 (ho q hq).2)
end

section
section
variable {prog : Program} {w : World} {A : Around} {E : Value → Shared → Prop} {s : Shared} {env : Env} {h₀ : Heap} {Q : Flow → Shared → Prop}

def LEnd (h₀ : Heap) (L : Addr) (s : Shared) (I : Addr) (o : Obj) (J : (Str → Option Value) → Led → Prop) (s₃ : Shared) : Prop :=
  ∃ h' tk m' news', s₃ = { s with heap := h', toks := tk } ∧ Fr h₀ L h' m' ∧ News h₀ L h' ((I, o) :: news') ∧ (∀ p ∈ news', p.1 ≠ I) ∧ J m' news'
def LPost (h₀ : Heap) (L : Addr) (s : Shared) (I : Addr) (o : Obj) (J : (Str → Option Value) → Led → Prop) (Q : Flow → Shared → Prop) (f : Flow) (s₃ : Shared) : Prop :=
  match f with
  | .ret v => Q (.ret v) s₃
  | .brk => Q .next s₃
  | _ => LEnd h₀ L s I o J s₃

theorem pyIter_for {x : Str} {px : Pos} {body orelse : List Stmt} {ax : Addr} {vs : List Value} {m₀ : Str → Option Value} {news : Led}
    (J : Nat → (Str → Option Value) → Led → Prop)
    (hh : A.handled = none) (F : Fr h₀ env.locals s.heap m₀) (N : News h₀ env.locals s.heap news)
    (h0 : J 0 m₀ news) (hax : ∀ i m₁ news₁ h₁, J i m₁ news₁ → Fr h₀ env.locals h₁ m₁ → News h₀ env.locals h₁ news₁ → h₁.IsList ax vs.toArray)
    (step : ∀ i v m₁ news₁ h₁ tk₁ I o, vs[i]? = some v → J i m₁ news₁ → (∀ p ∈ news, p.1 < I) → (∀ p ∈ news₁, p.1 ≠ I) → o.cls = .type "list_iterator" → Fr h₀ env.locals h₁ m₁ → News h₀ env.locals h₁ ((I, o) :: news₁) →
      wpAny (model prog w) A (assign (.Name x px) env v) (fun _ s₂ => wpAny (model prog w) A (execs body env) (LPost h₀ env.locals s I o (J (i + 1)) Q) E s₂) E { s with heap := h₁, toks := tk₁ })
    (done : ∀ h' tk m' news', Fr h₀ env.locals h' m' → News h₀ env.locals h' news' → J vs.length m' news' → wpAny (model prog w) A (execs orelse env) Q E { s with heap := h', toks := tk })
    (hE : PassesOwn (model prog w) A env E) :
    wpAny (model prog w) A (pyIter (.ref ax)) (fun it s₂ => codeAny (model prog w) A (.forLoop (.Name x px) it body orelse env) (fun r s' => match r with | .ok f => Q f s' | .error e => cameBackBy (model prog w) A env E e s') s₂) E s := by
  have hl : s.heap.IsList ax vs.toArray := hax _ _ _ _ h0 F N
  refine wpAny_pyIter_list hl ?_
  have hne : ∀ p ∈ news, p.1 < s.heap.objs.size := fun p hp => Heap.lt_size (N p hp).1
  have hIL : s.heap.objs.size ≠ env.locals := Nat.ne_of_gt F.ns.lt
  have hI0 : h₀.get? s.heap.objs.size = none := next_is_new F
  generalize hIe : s.heap.objs.size = I at *
  refine codeAny_forLoop (fun n s' => ∃ h' tk m' news' o i, s' = { s with heap := h', toks := tk } ∧ o.cls = .type "list_iterator" ∧ o.data = .fields #[.ref ax, .int (i : Nat) 0] ∧ Fr h₀ env.locals h' m' ∧ News h₀ env.locals h' ((I, o) :: news') ∧ (∀ p ∈ news', p.1 ≠ I) ∧ J i m' news' ∧ i ≤ vs.length ∧ n = vs.length + 1 - i) ?_ (vs.length + 1)
    ⟨_, s.toks, m₀, news, { cls := .type "list_iterator", data := .fields #[.ref ax, .int (0 : Nat) 0] }, 0, rfl, rfl, rfl, F.push _, ?_, fun p hp e => absurd (hne p hp) (by rw [e]; exact Nat.lt_irrefl _), h0, Nat.zero_le _, rfl⟩
  · rintro n s' ⟨h', tk, m', news', o, i, rfl, ho1, ho2, F', N', hoff, hJ, hi, rfl⟩
    have hio := N' _ (List.mem_cons_self ..)
    have hit : h'.IsListIter I ax i := ⟨o, hio.1, ho1, ho2⟩
    have hl' : h'.IsList ax vs.toArray := hax _ _ _ _ hJ F' fun p hp => N' p (List.mem_cons_of_mem _ hp)
    have up : ∀ h₁, Heap.ExtBut I h' h₁ → Fr h₀ env.locals h₁ m' ∧ News h₀ env.locals h₁ news' := fun h₁ hs =>
      ⟨⟨F'.ns.at' fun o e => hs _ o (Ne.symm hIL) e, fun b o e => hs b o (fun q => by rw [q, hI0] at e; cases e) (F'.keep b o e), F'.above⟩,
       fun p hp => ⟨hs _ _ (hoff p hp) (N' p (List.mem_cons_of_mem _ hp)).1, (N' p (List.mem_cons_of_mem _ hp)).2⟩⟩
    by_cases hlt : i < vs.length
    · refine wpAny_pyNext_list_item (x := vs[i]) hit hl' (by simp [hlt]) fun h₁ hit' hs' => ?_
      obtain ⟨o₁, ho₁, hc₁, hd₁⟩ := hit'
      obtain ⟨F₁, N₁⟩ := up h₁ hs'.extBut
      have N₁' : News h₀ env.locals h₁ ((I, o₁) :: news') := fun p hp => by
        rcases List.mem_cons.mp hp with rfl | hp
        · exact ⟨ho₁, hIL, hI0⟩
        · exact N₁ p hp
      refine wpAny_mono (wpAny_passesOwn hE (wpAny_mono (step i vs[i] m' news' h₁ tk I o₁ (by simp [hlt]) hJ hne hoff hc₁ F₁ N₁') (fun _ s₂ h₂ => wpAny_passesOwn hE h₂) fun _ _ e => e)) (fun _ s₂ h₂ => wpAny_mono h₂ (fun f s₃ h₃ => ?_) fun _ _ e => e) fun _ _ e => e
      have fin : LEnd h₀ env.locals s I o₁ (J (i + 1)) s₃ → ∃ n', n' < vs.length + 1 - i ∧ ∃ h' tk m' news' o i, s₃ = { s with heap := h', toks := tk } ∧ o.cls = .type "list_iterator" ∧ o.data = .fields #[.ref ax, .int (i : Nat) 0] ∧ Fr h₀ env.locals h' m' ∧ News h₀ env.locals h' ((I, o) :: news') ∧ (∀ p ∈ news', p.1 ≠ I) ∧ J i m' news' ∧ i ≤ vs.length ∧ n' = vs.length + 1 - i := by
        rintro ⟨h9, tk₃, m₃, news₃, e9, F₃, N₃, hoff₃, hJ₃⟩
        exact ⟨vs.length + 1 - (i + 1), by omega, h9, tk₃, m₃, news₃, o₁, i + 1, e9, hc₁, hd₁, F₃, N₃, hoff₃, hJ₃, hlt, rfl⟩
      cases f with
      | next => exact fin h₃
      | cont => exact fin h₃
      | brk => exact h₃
      | ret v => exact h₃
    · have hin : i = vs.length := by omega
      subst hin
      refine wpAny_pyNext_list_end hh hit hl' (by simp) fun h₁ hs' => ?_
      obtain ⟨F₁, N₁⟩ := up h₁ hs'
      exact wpAny_passesOwn hE (done h₁ tk m' news' F₁ N₁ hJ)
  · intro p hp
    rcases List.mem_cons.mp hp with rfl | hp
    · exact ⟨by rw [← hIe]; exact Heap.get?_push_size _ rfl, hIL, hI0⟩
    · exact ⟨Heap.get?_push_of_some _ (N p hp).1, (N p hp).2⟩

end
end

section
variable {w : World} {p : Program} {loose : List Str} {mean : ExcName → Option Value} {mg mb : Str → Option Value}
def sbF (n : Int) : Bool := if n = 0 then false else (Builtin.bitAnd n (n - 1) == 0)
theorem sb_spec (n : Int) (t : Tok) : Con w p loose mean mg mb 1 8 26 [] [] [.int n t] (fun r need' => r = .bool (sbF n) ∧ need' = []) := by
  unfold Con
  k_fill
  intro dp un gd cn cs a ccd cl outer A₀ base h₀ L m s rest Q E B F X T hk N NR hdis hold hdp hun ret
  refine wpAny_call ?_
  have site : Site _ p loose mean mg mb A₀ (ktrTop dp un gd cn cs L a ccd cl outer) base h₀ outer _ L m s ([]) := ⟨B, F, X, T, N, rfl, rfl, hk⟩
  refine enterP site (by k_is) (by k_is) (by ktr_room) (by exact BindsTo.of_eq rfl) (by exact locs rfl) (by decide) (by exact ⟨rfl, rfl, rfl⟩) ?_
  rintro g L' h1 ⟨hg, hlt, hnl, FG, F', N', B', X', T'⟩
  clear site
  unfold Runs
  (try k_fold)
  k_steps
  all_goals
    have hR := rest_back hg NR hdis (h' := ‹Heap›) (by assumption) News.nil News.nil
    refine ret _ [] _ _ (by assumption) hR.1 hR.2 (fun _ h => nomatch h) ⟨?_, rfl⟩
  · simp only [sbF]; rw [if_pos (by assumption)]
  · simp only [sbF]; rw [if_neg (by assumption)]
theorem hb_spec (n : Int) (t : Tok) : Con w p loose mean mg mb 1 8 33 [] [] [.int n t] (fun r need' => (∃ t, r = .int ((Builtin.Int.intBits n : Int) - 1) t) ∧ need' = []) := by
  unfold Con
  k_fill
  intro dp un gd cn cs a ccd cl outer A₀ base h₀ L m s rest Q E B F X T hk N NR hdis hold hdp hun ret
  refine wpAny_call ?_
  have site : Site _ p loose mean mg mb A₀ (ktrTop dp un gd cn cs L a ccd cl outer) base h₀ outer _ L m s ([]) := ⟨B, F, X, T, N, rfl, rfl, hk⟩
  refine enterP site (by k_is) (by k_is) (by ktr_room) (by exact BindsTo.of_eq rfl) (by exact locs rfl) (by decide) (by exact ⟨rfl, rfl, rfl⟩) ?_
  rintro g L' h1 ⟨hg, hlt, hnl, FG, F', N', B', X', T'⟩
  clear site
  unfold Runs
  (try k_fold)
  k_steps
  have hR := rest_back hg NR hdis (h' := h1) (by assumption) News.nil News.nil
  exact ret _ [] _ _ (by assumption) hR.1 hR.2 (fun _ h => nomatch h) ⟨⟨_, rfl⟩, rfl⟩
end

section
variable {w : World} {p : Program} {loose : List Str} {mean : ExcName → Option Value} {mg mb : Str → Option Value}
def rowF : List Int → List Int → List Int
  | [], r => r
  | p :: ps, r => rowF ps (r.map (· + 2 ^ p.toNat) ++ r)
theorem ite_same {x : Str} {a b : Option Value} {m : Str → Option Value} : (fun y => if y = x then a else if y = x then b else m y) = fun y => if y = x then a else m y := by
  funext y
  by_cases h : y = x
  · rw [if_pos h, if_pos h]
  · rw [if_neg h, if_neg h, if_neg h]
theorem newsSub {h₀ h : Heap} {L : Addr} {a b : Led} (N : News h₀ L h a) (hs : ∀ p ∈ b, p ∈ a) : News h₀ L h b := fun p hp => N p (hs p hp)
theorem rowF_length : ∀ (ps r : List Int), (rowF ps r).length = 2 ^ ps.length * r.length
  | [], r => by simp [rowF]
  | p :: ps, r => by
    rw [rowF, rowF_length ps, List.length_append, List.length_map, List.length_cons, Nat.pow_succ]
    rw [Nat.mul_assoc]; congr 1; omega
theorem rowF_snoc : ∀ (ps : List Int) (q : Int) (r : List Int), rowF (ps ++ [q]) r = (rowF ps r).map (· + 2 ^ q.toNat) ++ rowF ps r
  | [], q, r => rfl
  | p :: ps, q, r => by rw [List.cons_append, rowF, rowF_snoc ps, rowF]
theorem row_spec (l : Addr) (vs : List Value) (n : Nat) (ps : List Int) (hi : IntsAre vs ps) (hp : ∀ x ∈ ps, 0 ≤ x ∧ x < 60) (hln : ps.length ≤ 4) :
    Con w p loose mean mg mb 1 8 38 [] [(l, listOf vs.toArray n)] [.ref l] (fun r need' => ∃ a rs n, r = .ref a ∧ need' = [(a, listOf rs.toArray n)] ∧ IntsAre rs (rowF ps [0])) := by
  unfold Con
  k_fill
  intro dp un gd cn cs a ccd cl outer A₀ base h₀ L m s rest Q E B F X T hk N NR hdis hold hdp hun ret
  refine wpAny_call ?_
  have site : Site _ p loose mean mg mb A₀ (ktrTop dp un gd cn cs L a ccd cl outer) base h₀ outer _ L m s ([]) := ⟨B, F, X, T, N, rfl, rfl, hk⟩
  refine enterC site (by k_is) (by k_is) (by ktr_room) (by exact BindsTo.of_eq rfl) (by exact rfl) (by decide +kernel) (by exact ⟨rfl, rfl, rfl⟩) ?_
  rintro g L' h1 tk1 cells ⟨hg, hlt, hnl, FG, F', N', B', X', T'⟩ Y'
  clear site
  unfold Runs
  refine wpAny_noRaise ?_
  have hl : g.IsList l vs.toArray := ⟨_, hg _ _ (hold _ (List.mem_singleton.mpr rfl)).1 (fun _ h => nomatch h), rfl, _, rfl⟩
  k_cells Y'
  replace F' : Fr g L' h1 (fun y => if y = Str.ofString "places" then some (.ref l) else none) := F'
  (try simp only [List.cons_append, List.nil_append] at N')
  (try k_fold)
  k_steps
  refine wpAny_For ?_ (fun _ => rfl)
  walk1
  refine pyIter_for (vs := vs) (J := fun i m₁ news₁ => ∃ r rs n o v, m₁ = (fun y => if y = Str.ofString "row" then some (.ref r) else if y = Str.ofString "places" then some (.ref l) else none) ∧ news₁ = [(r, listOf rs.toArray n), (L' + 1, o)] ∧ L' + 1 < r ∧ o.data = .cell v ∧ IntsAre rs (rowF (ps.take i) [0])) rfl (by assumption) (by assumption) ⟨_, [_], _, _, _, rfl, rfl, by assumption, by assumption, ?_⟩ ?_ ?_ ?_ PassesOwn.never
  · rw [List.take_zero]; exact .cons _ _ .nil
  · intros
    exact hl.at fun o e => Fr.keep (by assumption) _ _ e
  · rintro i v m₁ news₁ h₁ tk₁ I o hv ⟨r, rs, n, o1, v1, rfl, rfl, hr, ho1, hrs⟩ hIn hoff hoc F₁ N₁
    replace F₁ : Fr g L' h₁ _ := F₁
    replace N₁ : News g L' h₁ _ := N₁
    have d1 : @Ne Nat r I := hoff _ (.head _)
    have d2 : @Ne Nat (L' + 1) I := hoff _ (.tail _ (.head _))
    replace hr : @LT.lt Nat _ (L' + 1) r := hr
    clear hoff hIn
    obtain ⟨q, t, rfl, hq⟩ := IntsAre.at hi i v hv
    have hqb := hp q (List.mem_of_getElem? hq)
    have hq0 := hqb.1
    have hq1 := hqb.2
    clear hqb
    k_steps
    have hrl : rs.length ≤ 16 := by
      rw [hrs.length, rowF_length]
      simp only [List.length_take, List.length_singleton]
      have : min i ps.length ≤ 4 := by omega
      calc 2 ^ min i ps.length * 1 ≤ 2 ^ 4 * 1 := Nat.mul_le_mul_right _ (Nat.pow_le_pow_right (by decide) this)
        _ = 16 := rfl
    refine LCg.CompSrc.ledger (by rfl) (by k_asm) (by k_asm) (by k_mem) (by rw [PySem.sizeLine_eq, List.size_toArray]; omega) ?_
    intro g'
    refine kcf_list (fun k => k + 2 ^ q.toNat) hrs (fun k' t' I' oI' C' oC' D' m' ys' h' tk' E' hk' hC' hx' F' N' off' ne' hMark' => ?_) ?_
    · simp only [LCg.Off3, and_true] at off'
      (try k_fold)
      k_steps
    · unfold KPfDone
      intro ys hys
      (try k_fold)
      k_steps
      refine kmk_add_ints (by k_asm) (by k_asm) (by is_list) (by is_list) hys hrs ?_ ?_
      · intro D us h2 F2 N2 l2 hus
        k_lt l2
        k_steps
        refine ⟨_, _, _, [(D, listOf us.toArray 0), (L' + 1, _)], rfl, by assumption, newsSub (by assumption) (by kcf_all), ?_, D, us, 0, _, _, ite_same, rfl, l2.2.2.2, by assumption, ?_⟩
        · simp only [List.forall_mem_cons]
          exact ⟨Nat.ne_of_gt l2.2.1, d2, fun _ h => nomatch h⟩
        · rw [List.take_add_one, hq]
          show IntsAre us (rowF (ps.take i ++ [q]) [0])
          rw [rowF_snoc]
          exact hus
      · rw [sizeLine_eq, List.length_map, ← hrs.length]; omega
  · rintro h2 tk2 m₁ news₁ F2 N2 ⟨r, rs, n, o, v, rfl, rfl, hr, ho, hrs⟩
    replace F2 : Fr g L' h2 _ := F2
    replace N2 : News g L' h2 _ := N2
    rw [hi.length, List.take_length] at hrs
    k_steps
    have hR := rest_back hg NR hdis (need' := [(r, listOf rs.toArray n)]) F2 (newsSub N2 (by kcf_all)) (newsSub (by assumption) (by kcf_all))
    exact ret _ _ _ _ (by assumption) hR.1 hR.2 (olds_back hg hold F2) ⟨r, rs, n, rfl, rfl, hrs⟩
end

section
/-! comprehensions turn by turn: a turn is a comprehension of length one -/
section
variable {prog : Program} {w : World} {A : Around} {h₀ : Heap} {L : Addr} {m : Str → Option Value} {env : Env} {ct elt : Expr} {x : Str} {scope : Scope} {cl : List (Str × Addr)} {s : Shared} {S : Led → Prop} {P : Nat → Value → Prop} {G Fin : List Value → Led → Prop}
theorem oneT {k i : Nat} {ys : List Value} {nw : Led} (one : LCt.CompRestT prog w A h₀ L m env ct elt x scope cl s S P G 1 i ys nw)
    (others : ∀ zs nw', G zs nw' → LCt.CompRestT prog w A h₀ L m env ct elt x scope cl s S P Fin k (i + 1) zs nw') : LCt.CompRestT prog w A h₀ L m env ct elt x scope cl s S P Fin (k + 1) i ys nw :=
  fun v I oI C oC D m₂ h tk E' b1 b2 b3 b4 b5 b6 b7 => wpAny_mono (one v I oI C oC D m₂ h tk E' b1 b2 b3 b4 b5 b6 b7) (fun yes s₂ end₂ => by
    cases yes
    · obtain ⟨h₂, tk₂, nw₂, c1, c2, c3, c4, c5, c6⟩ := end₂
      exact ⟨h₂, tk₂, nw₂, c1, c2, c3, c4, c5, others _ _ c6⟩
    · exact wpAny_mono end₂ (fun y s₃ end₃ => by
        obtain ⟨h₂, tk₂, nw₂, c1, c2, c3, c4, c5, c6⟩ := end₃
        exact ⟨h₂, tk₂, nw₂, c1, c2, c3, c4, c5, others _ _ c6⟩) fun _ _ q => q) fun _ _ q => q
theorem chainT (J : Nat → List Value → Led → Prop) (n : Nat) (turn : ∀ i ys nw, i < n → J i ys nw → LCt.CompRestT prog w A h₀ L m env ct elt x scope cl s S P (J (i + 1)) 1 i ys nw) (fin : ∀ ys nw, J n ys nw → Fin ys nw) (k : Nat) :
    ∀ i ys nw, i + k = n → J i ys nw → LCt.CompRestT prog w A h₀ L m env ct elt x scope cl s S P Fin k i ys nw := by
  induction k with
  | zero => exact fun i ys nw e hJ => fin ys nw (by rw [← e]; exact hJ)
  | succ k step => exact fun i ys nw e hJ => oneT (turn i ys nw (by omega) hJ) fun zs nw' => step (i + 1) zs nw' (by omega)
theorem oneC {k i : Nat} {ys : List Value} {nw : Led} (one : LCg.CompRest prog w A h₀ L m env elt x scope cl s S P G 1 i ys nw)
    (others : ∀ zs nw', G zs nw' → LCg.CompRest prog w A h₀ L m env elt x scope cl s S P Fin k (i + 1) zs nw') : LCg.CompRest prog w A h₀ L m env elt x scope cl s S P Fin (k + 1) i ys nw :=
  fun v I oI C oC D m₂ h tk E' b1 b2 b3 b4 b5 b6 b7 => wpAny_mono (one v I oI C oC D m₂ h tk E' b1 b2 b3 b4 b5 b6 b7) (fun y s₂ end₂ => by
    obtain ⟨h₂, tk₂, nw₂, c1, c2, c3, c4, c5, c6⟩ := end₂
    exact ⟨h₂, tk₂, nw₂, c1, c2, c3, c4, c5, others _ _ c6⟩) fun _ _ q => q
theorem chainC (J : Nat → List Value → Led → Prop) (n : Nat) (turn : ∀ i ys nw, i < n → J i ys nw → LCg.CompRest prog w A h₀ L m env elt x scope cl s S P (J (i + 1)) 1 i ys nw) (fin : ∀ ys nw, J n ys nw → Fin ys nw) (k : Nat) :
    ∀ i ys nw, i + k = n → J i ys nw → LCg.CompRest prog w A h₀ L m env elt x scope cl s S P Fin k i ys nw := by
  induction k with
  | zero => exact fun i ys nw e hJ => fin ys nw (by rw [← e]; exact hJ)
  | succ k step => exact fun i ys nw e hJ => oneC (turn i ys nw (by omega) hJ) fun zs nw' => step (i + 1) zs nw' (by omega)
end
end

section
variable {w : World} {p : Program} {loose : List Str} {mean : ExcName → Option Value} {mg mb : Str → Option Value}
/-- a list of ints in the ledger -/
structure Sq where
  a : Addr
  vs : List Value
  n : Nat
  ns : List Int
def Sq.entry (c : Sq) : Addr × Obj := (c.a, listOf c.vs.toArray c.n)
def pick (all : List (List Int)) : List (List Int) → Option Int
  | [] => none
  | [] :: r => pick all r
  | (h :: _) :: r => if all.all (fun s => !s.tail.contains h) then some h else pick all r
def dropC (c : Int) (s : List Int) : List Int := if s.head? = some c then s.tail else s
def c3 : Nat → List (List Int) → Option (List Int)
  | 0, _ => none
  | f + 1, seqs =>
    let ss := seqs.filter (fun s => !s.isEmpty)
    if ss.isEmpty then some [] else match pick ss ss with
      | none => none
      | some c => (c3 f (ss.map (dropC c))).map (c :: ·)
theorem lookup1 {x : Str} {v : Value} : (fun y => List.lookup y [(x, v)]) = fun y => if y = x then some v else none := by
  funext y
  by_cases h : y = x
  · subst h; simp [List.lookup]
  · have : (y == x) = false := by simpa using h
    simp [List.lookup, this, h]
theorem map2 {m : Str → Option Value} {x1 x2 : Str} {a1 a2 : Option Value} (h1 : m x1 = a1) (h2 : m x2 = a2) : m = fun y => if y = x1 then a1 else if y = x2 then a2 else m y := by
  funext y
  by_cases e1 : y = x1
  · rw [if_pos e1, e1, h1]
  · rw [if_neg e1]
    by_cases e2 : y = x2
    · rw [if_pos e2, e2, h2]
    · rw [if_neg e2]
abbrev refs (cur : List Sq) : List Value := cur.map fun c => Value.ref c.a
abbrev total (cur : List Sq) : Nat := (cur.map fun c => c.ns.length).sum
theorem mem_total {cur : List Sq} {c : Sq} (h : c ∈ cur) : c.ns.length ≤ total cur := by
  induction cur with
  | nil => cases h
  | cons d r ih =>
    simp only [total, List.map_cons, List.sum_cons] at ih ⊢
    rcases List.mem_cons.mp h with rfl | h
    · omega
    · have := ih h; omega
theorem off1_mem {D : Addr} {l : Led} {q : Addr × Obj} (h : LCg.Off1 D l) (hq : q ∈ l) : @Ne Nat q.1 D := by
  induction l with
  | nil => cases hq
  | cons a r ih =>
    rcases List.mem_cons.mp hq with e | hq
    · rw [e]; exact h.1
    · exact ih h.2 hq
theorem map3 {m : Str → Option Value} {x1 x2 x3 : Str} {a1 a2 a3 : Option Value} (h1 : m x1 = a1) (h2 : m x2 = a2) (h3 : m x3 = a3) : m = fun y => if y = x1 then a1 else if y = x2 then a2 else if y = x3 then a3 else m y := by
  funext y
  by_cases e1 : y = x1
  · rw [if_pos e1, e1, h1]
  · rw [if_neg e1]
    by_cases e2 : y = x2
    · rw [if_pos e2, e2, h2]
    · rw [if_neg e2]
      by_cases e3 : y = x3
      · rw [if_pos e3, e3, h3]
      · rw [if_neg e3]
def Picked : Option Int → Value → Prop
  | none, v => v = .none
  | some c, v => ∃ t, v = .int c t
theorem filter_ns (cur : List Sq) : (cur.map (·.ns)).filter (fun s => !s.isEmpty) = (cur.filter fun c => !c.ns.isEmpty).map (·.ns) := by
  rw [List.filter_map]; rfl
theorem c3_done {cur : List Sq} {n : Nat} (h : (cur.filter fun c => !c.ns.isEmpty) = []) (hn : 0 < n) : c3 n (cur.map (·.ns)) = some [] := by
  cases n with
  | zero => omega
  | succ n => simp only [c3]; rw [filter_ns, h]; rfl
theorem c3_step {cur cur2 : List Sq} {n : Nat} (h : (cur.filter fun c => !c.ns.isEmpty) = cur2) (hne : cur2 ≠ []) (hn : 0 < n) :
    c3 n (cur.map (·.ns)) = match pick (cur2.map (·.ns)) (cur2.map (·.ns)) with | none => none | some c => (c3 (n - 1) ((cur2.map (·.ns)).map (dropC c))).map (c :: ·) := by
  cases n with
  | zero => omega
  | succ n =>
    simp only [c3]
    rw [filter_ns, h]
    rw [if_neg (by cases cur2 with | nil => exact absurd rfl hne | cons _ _ => exact Bool.false_ne_true)]
    rfl
theorem refs_at {cur : List Sq} {i : Nat} {v : Value} (h : (refs cur)[i]? = some v) : ∃ c, cur[i]? = some c ∧ v = .ref c.a := by
  rw [List.getElem?_map] at h
  cases e : cur[i]? with
  | none => rw [e] at h; cases h
  | some c => rw [e] at h; exact ⟨c, rfl, (Option.some.inj h).symm⟩
theorem any_tail {s : List Int} {x : Int} : ((List.drop (Int.toNat 1) s).any fun y => y == x) = s.tail.contains x := by
  rw [show List.drop (Int.toNat 1) s = s.tail from by rw [show Int.toNat 1 = 1 from rfl, List.drop_one], List.contains_eq_any_beq]
  congr 1
  funext y
  exact Bool.beq_comm
theorem drop_at {α : Type} {l : List α} {i : Nat} {x : α} (h : l[i]? = some x) : l.drop i = x :: l.drop (i + 1) := by
  obtain ⟨hlt, e⟩ := List.getElem?_eq_some_iff.mp h
  rw [List.drop_eq_getElem_cons hlt, e]
theorem allLt_mem {d : Nat} {l : Led} {q : Addr × Obj} (h : AllLt d l) (hq : q ∈ l) : @LT.lt Nat _ q.1 d := by
  induction l with
  | nil => cases hq
  | cons a r ih =>
    rcases List.mem_cons.mp hq with e | hq
    · rw [e]; exact h.1
    · exact ih h.2 hq
theorem nodup_filter {cur : List Sq} {f : Sq → Bool} (h : (cur.map (·.a)).Nodup) : ((cur.filter f).map (·.a)).Nodup :=
  h.sublist (List.filter_sublist.map _)
theorem set_mid {α : Type} (A B : List α) (x y : α) {i : Nat} (h : i = A.length) : (A ++ x :: B).set i y = A ++ y :: B := by
  subst h
  induction A with
  | nil => rfl
  | cons a r ih => simp [ih]
theorem set_same {α : Type} {l : List α} {i : Nat} {x : α} (h : l[i]? = some x) : l.set i x = l := by
  obtain ⟨hlt, e⟩ := List.getElem?_eq_some_iff.mp h
  rw [← e]; exact List.set_getElem_self hlt
theorem led_set {g h h' : Heap} {L : Addr} {m : Str → Option Value} {pre : Led} {cs : List Sq} {i : Nat} {c c' : Sq} (F : Fr g L h m) (N : News g L h (pre ++ cs.map Sq.entry)) (hc : cs[i]? = some c) (ha : c'.a = c.a)
    (hnd : (cs.map (·.a)).Nodup) (hpre : ∀ p ∈ pre, p.1 ≠ c.a) (hs : Heap.SameBut c.a h h') (ho : h'.get? c.a = some (listOf c'.vs.toArray c'.n)) : Fr g L h' m ∧ News g L h' (pre ++ (cs.set i c').map Sq.entry) := by
  have z := N c.entry (List.mem_append_right _ (List.mem_map.mpr ⟨c, List.mem_of_getElem? hc, rfl⟩))
  refine ⟨F.change hs z.2.1 z.2.2, fun q hq => ?_⟩
  rcases List.mem_append.mp hq with hq | hq
  · have zq := N q (List.mem_append_left _ hq)
    exact ⟨(hs.2 _ (hpre q hq)).trans zq.1, zq.2⟩
  · obtain ⟨d, hd, rfl⟩ := List.mem_map.mp hq
    obtain ⟨j, hj⟩ := List.mem_iff_getElem?.mp hd
    rw [List.getElem?_set] at hj
    split at hj
    · split at hj
      · obtain rfl := Option.some.inj hj
        exact ⟨by show h'.get? c'.a = _; rw [ha]; exact ho, by show c'.a ≠ L; rw [ha]; exact z.2.1, by show g.get? c'.a = none; rw [ha]; exact z.2.2⟩
      · cases hj
    · rename_i hne
      have zd := N d.entry (List.mem_append_right _ (List.mem_map.mpr ⟨d, List.mem_of_getElem? hj, rfl⟩))
      refine ⟨(hs.2 _ fun e => hne ?_).trans zd.1, zd.2⟩
      have e1 : (cs.map (·.a))[i]? = some c.a := by rw [List.getElem?_map, hc]; rfl
      have e2 : (cs.map (·.a))[j]? = some c.a := by rw [List.getElem?_map, hj]; exact congrArg some e
      exact List.getElem?_inj (List.getElem?_eq_some_iff.mp e1).1 hnd |>.mp (e1.trans e2.symm)
theorem pick_head {all : List (List Int)} {x : Int} : ∀ {N : List (List Int)}, pick all N = some x → ∃ s ∈ N, s.head? = some x
  | [], h => by cases h
  | [] :: r, h => by
    obtain ⟨s, hs, e⟩ := pick_head (N := r) h
    exact ⟨s, List.mem_cons_of_mem _ hs, e⟩
  | (y :: tl) :: r, h => by
    rw [pick] at h
    split at h
    · exact ⟨y :: tl, List.mem_cons_self, h⟩
    · obtain ⟨s, hs, e⟩ := pick_head (N := r) h
      exact ⟨s, List.mem_cons_of_mem _ hs, e⟩
theorem dropC_le (x : Int) (s : List Int) : (dropC x s).length ≤ s.length := by
  rw [dropC]; split
  · rw [List.length_tail]; omega
  · omega
theorem drop_sum_le (x : Int) : ∀ N : List (List Int), ((N.map (dropC x)).map List.length).sum ≤ (N.map List.length).sum
  | [] => Nat.le_refl _
  | s :: r => by
    have := drop_sum_le x r
    have := dropC_le x s
    simp only [List.map_cons, List.sum_cons]; omega
theorem drop_sum_lt {x : Int} : ∀ {N : List (List Int)}, (∃ s ∈ N, s.head? = some x) → ((N.map (dropC x)).map List.length).sum < (N.map List.length).sum
  | [], h => by obtain ⟨s, hs, _⟩ := h; cases hs
  | s :: r, h => by
    simp only [List.map_cons, List.sum_cons]
    obtain ⟨q, hq, e⟩ := h
    have h1 := drop_sum_le x r
    have h2 := dropC_le x s
    rcases List.mem_cons.mp hq with rfl | hq
    · have h3 : (dropC x q).length < q.length := by
        cases q with
        | nil => cases e
        | cons y tl => rw [dropC, if_pos e]; simp
      omega
    · have h3 := drop_sum_lt (x := x) (N := r) ⟨q, hq, e⟩
      omega
theorem drop_total {all N : List (List Int)} {x : Int} (h : pick all N = some x) : ((N.map (dropC x)).map List.length).sum < (N.map List.length).sum := drop_sum_lt (pick_head h)
theorem filter_total {cur cur2 : List Sq} {f : Sq → Bool} (h : cur.filter f = cur2) : total cur2 ≤ total cur := by
  subst h
  induction cur with
  | nil => exact Nat.le_refl _
  | cons c r ih =>
    simp only [total, List.map_cons, List.sum_cons, List.filter_cons] at ih ⊢
    split
    · simp only [List.map_cons, List.sum_cons]; omega
    · omega
structure CInv (B n : Nat) (target : Option (List Int)) (m : Str → Option Value) (news : Led) (cur : List Sq) (S sn R : Nat) (rs : List Value) (rn : Nat) (res : List Int) : Prop where
  seqs : m (Str.ofString "sequences") = some (.ref S)
  resu : m (Str.ofString "result") = some (.ref R)
  led : news = (R, listOf rs.toArray rn) :: (S, listOf (refs cur).toArray sn) :: cur.map Sq.entry
  hint : ∀ c ∈ cur, IntsAre c.vs c.ns
  nd : (cur.map (·.a)).Nodup
  sOff : ∀ c ∈ cur, c.a ≠ S
  rOff : ∀ c ∈ cur, c.a ≠ R
  rs_ne : R ≠ S
  rints : IntsAre rs res
  small : total cur < n
  big : res.length + total cur ≤ B
  len : cur.length ≤ B
  tgt : target = (c3 n (cur.map (·.ns))).map (res ++ ·)

theorem c3_spec (l : Addr) (k : Nat) (cur : List Sq) (f : Nat) (hi : ∀ c ∈ cur, IntsAre c.vs c.ns) (hnd : (cur.map (·.a)).Nodup) (hla : ∀ c ∈ cur, c.a ≠ l) (hf : total cur < f) (hB : total cur ≤ 1000 ∧ cur.length ≤ 1000) :
  ∀ (dp un : Nat) (gd : Option (List Code)) (cn : Str) (cs : Scope) (a : Addr) (ccd : Value) (cl : List (Str × Addr)) (outer : List Env) (A₀ : Around) (base h₀ : Heap) (L : Addr) (m : Str → Option Value) (s : Shared) (rest : Led) (Q E : Value → Shared → Prop),
   Below A₀ base outer h₀ → Fr h₀ L s.heap m → (hd.heap_39 w.params).In h₀ → Top p loose mean mg mb h₀ → cs.kind = .function →
   News h₀ L s.heap ((l, listOf (refs cur).toArray k) :: cur.map Sq.entry) → News h₀ L s.heap rest → (∀ p ∈ ((l, listOf (refs cur).toArray k) :: cur.map Sq.entry), ∀ q ∈ rest, p.1 ≠ q.1) →
   dp + 1 < recursionLimit → un + 8 < cLine →
   (∀ out, c3 f (cur.map (·.ns)) = some out → ∀ a rs n h' tk', Fr h₀ L h' m → News h₀ L h' ((a, listOf rs.toArray n) :: rest) → (∀ q ∈ rest, a ≠ q.1) → IntsAre rs out → Q (.ref a) { s with heap := h', toks := tk' }) →
   (c3 f (cur.map (·.ns)) = none → ∀ e g h' tk', Fr h₀ L g m → (∀ q ∈ rest, g.get? q.1 = some q.2) → RaisedSN base g (envX cn cs L a ccd cl :: outer) e (.type "RuntimeError") [] h' → g.UpToSlots h' → E (.ref e) { s with heap := h', toks := tk' }) →
   wpAny (model PySem.Challenge.rw_mr0037_01.row.prog w) (ktrTop dp un gd cn cs L a ccd cl outer) (call (.ref 19) [.ref l]) Q E s := by
  k_fill
  intro dp un gd cn cs a ccd cl outer A₀ base h₀ L m s rest Q E B F X T hk N NR hdis hdp hun ret err
  refine wpAny_call ?_
  have site : Site _ p loose mean mg mb A₀ (ktrTop dp un gd cn cs L a ccd cl outer) base h₀ outer _ L m s ((l, listOf (refs cur).toArray k) :: cur.map Sq.entry) := ⟨B, F, X, T, N, rfl, rfl, hk⟩
  refine enterP site (by k_is) (by k_is) (by ktr_room) (by exact BindsTo.of_eq rfl) (by exact locs rfl) (by decide) (by exact ⟨rfl, rfl, rfl⟩) ?_
  rintro g L' h1 ⟨hg, hlt, hnl, FG, F', N', B', X', T'⟩
  clear site
  unfold Runs
  have F0 : Fr g L' h1 (fun y => List.lookup y [(Str.ofString "sequences", Value.ref l)]) := F'
  rw [lookup1] at F0
  clear F'
  repeat' ((fail_if_success (with_reducible show wpAny _ _ (exec (PySem.Stmt.While _ _ _ _) _) _ _ _)); (first | (k_unfold; (try dsimp only)) | (k_end; wrow_close) | walk1 | (dsimp only; walk1)))
  rename_i l' h2 l1 h3 F3 N3
  refine While_inv2 (J := fun n m₁ news₁ => ∃ cur' S sn R rs rn res, CInv 1000 n (c3 f (cur.map (·.ns))) m₁ news₁ cur' S sn R rs rn res) (n₀ := f) (by assumption) (by assumption) ⟨cur, l, k, l', [], 0, [], ?_⟩ ?_ PassesOwn.leaving
  · have hlt1 : ∀ c ∈ cur, c.a ≠ l' := fun c hc => Nat.ne_of_lt (allLt_mem l1.2 (List.mem_map.mpr ⟨c, hc, rfl⟩))
    exact ⟨rfl, rfl, rfl, hi, hnd, hla, hlt1, (Nat.ne_of_gt l1.1 : (l' : Nat) ≠ l), .nil, hf, by simpa using hB.1, hB.2, by simp⟩
  · rintro n m₁ news₁ h₁ tk₁ F₁ N₁ ⟨cur', S, sn, R, rs, rn, res, I⟩
    rw [map2 I.seqs I.resu] at F₁
    have hled := I.led
    subst hled
    repeat' ((fail_if_success (with_reducible show wpAny _ _ (exec (PySem.Stmt.Assign _ _ _) _) _ _ _)); (first | (k_unfold; (try dsimp only)) | (k_end; wrow_close) | walk1 | (dsimp only; walk1)))
    k_dflt (refine LCt.Assign_ListComp_T (F₀ := by k_asm) (by rfl) (by with_unfolding_all rfl) (by with_unfolding_all rfl) (by decide) (by rfl) (by decide) (by rfl) (by rfl) (by rfl) ?_)
    walk1
    refine LCt.CompSrcT.ledger (by rfl) (by k_asm) (by k_asm) (by k_mem) (by rw [PySem.sizeLine_eq, List.size_toArray, List.length_map]; have := I.len; omega) ?_
    intro g'
    refine chainT (fun i ys nw => nw = _ ∧ ys = refs ((cur'.take i).filter fun c => !c.ns.isEmpty)) _ ?_ ?_ _ _ _ _ (Nat.zero_add _) ⟨rfl, by simp⟩
    · rintro i ys nw hi ⟨rfl, rfl⟩
      refine LCt.CompRestT.succ ?_
      intro v I1 oI C oC D m2 h2 tk2 E2 hv hC hx F2 N2 off ne
      obtain ⟨c, hci, rfl⟩ := refs_at (show (refs cur')[i]? = some v by simpa using hv)
      have hc := List.mem_of_getElem? hci
      have ht : cur'.take (i + 1) = cur'.take i ++ [c] := by rw [List.take_add_one, hci]; rfl
      k_steps
      have hmem : (c.a, listOf c.vs.toArray c.n) ∈ cur'.map Sq.entry := List.mem_map.mpr ⟨c, hc, rfl⟩
      have hlc : h2.IsList c.a c.vs.toArray := ⟨_, (N2 _ (.tail _ (.tail _ (.tail _ (.tail _ (.tail _ hmem)))))).1, rfl, _, rfl⟩
      have hcl := (I.hint c hc).length
      have hct := mem_total hc
      have hbig := I.big
      refine wpAny_truthy_list hlc (by rw [List.size_toArray]; omega) ?_
      dsimp only
      cases he : c.vs.toArray.isEmpty
      · simp only [Bool.not_false, if_true]
        k_steps
        refine LCg.CompEnd.intro F2 N2 _ (fun _ h => h) off (.inr ⟨_, .tail _ (.head _), rfl, _, rfl⟩) (LCt.CompRestT.zero ⟨rfl, ?_⟩)
        suffices hem : c.ns.isEmpty = false by rw [ht, List.filter_append]; simp [refs, hem]
        cases hns : c.ns with
        | nil =>
          rw [hns] at hcl
          rw [List.eq_nil_of_length_eq_zero hcl] at he
          exact absurd he (by decide)
        | cons _ _ => rfl
      · simp only [Bool.not_true, Bool.false_eq_true, if_false]
        refine LCg.CompEnd.intro F2 N2 _ (fun _ h => h) off (.inr ⟨_, .tail _ (.head _), rfl, _, rfl⟩) (LCt.CompRestT.zero ⟨rfl, ?_⟩)
        suffices hem : c.ns.isEmpty = true by rw [ht, List.filter_append]; simp [refs, hem]
        cases hvs : c.vs with
        | nil => rw [hvs] at hcl; rw [List.eq_nil_of_length_eq_zero hcl.symm]; rfl
        | cons _ _ => rw [hvs] at he; exact absurd he (by simp)
    · rintro _ _ ⟨rfl, rfl⟩
      rw [show cur'.take (refs cur').toArray.size = cur' by simp]
      intro D h4 tk4 F4 N4 off4
      dsimp only
      generalize hc2 : (cur'.filter fun c => !c.ns.isEmpty) = cur2 at *
      have hsub2 : ∀ c ∈ cur2, c ∈ cur' := fun c hc => by rw [← hc2] at hc; exact (List.mem_filter.mp hc).1
      have hne2 : ∀ c ∈ cur2, c.ns ≠ [] := fun c hc e => by
        rw [← hc2] at hc
        have := (List.mem_filter.mp hc).2
        rw [e] at this
        exact absurd this (by decide)
      have hlen2 : cur2.length ≤ 1000 := by have := I.len; have h9 := List.length_filter_le (fun c : Sq => !c.ns.isEmpty) cur'; rw [hc2] at h9; omega
      have N5 : News g L' h4 ((R, listOf rs.toArray rn) :: (D, listOf (refs cur2).toArray (refs cur2).length) :: cur2.map Sq.entry) := by
        intro q hq
        rcases List.mem_cons.mp hq with rfl | hq
        · exact N4 _ (.tail _ (.head _))
        rcases List.mem_cons.mp hq with rfl | hq
        · exact N4 _ (.head _)
        obtain ⟨c, hc, rfl⟩ := List.mem_map.mp hq
        exact N4 _ (.tail _ (.tail _ (.tail _ (List.mem_map.mpr ⟨c, hsub2 c hc, rfl⟩))))
      have hRD : @Ne Nat R D := off4.1
      have hcD : ∀ c ∈ cur2, @Ne Nat c.a D := fun c hc => off1_mem off4.2.2 (List.mem_map.mpr ⟨c, hsub2 c hc, rfl⟩)
      clear N4 off4 N₁ F₁ F3 N3 l1
      k_steps
      refine wpAny_truthy_list (items := (refs cur2).toArray) ⟨_, (N5 _ (.tail _ (.head _))).1, rfl, _, rfl⟩ (by rw [List.size_toArray, List.length_map]; omega) ?_
      dsimp only
      by_cases hemp : cur2 = []
      · subst hemp
        simp only [List.map_nil, List.isEmpty_toArray, List.isEmpty_nil, Bool.not_true, Bool.not_false]
        k_steps
        dsimp only [WhileStep2]
        refine leaveK_ (news' := [(R, listOf rs.toArray rn)]) F4 (newsSub N5 (by kcf_all)) fun kF kN => ?_
        have hR := rest_back hg NR hdis F4 (newsSub N5 (by kcf_all)) kN
        refine ret res ?_ R rs rn _ _ kF hR.1 (fun q hq => hR.2 _ (.head _) q hq) I.rints
        rw [I.tgt, c3_done hc2 (by have := I.small; omega)]
        simp
      · have hemp' : (refs cur2).toArray.isEmpty = false := by
          cases cur2 with
          | nil => exact absurd rfl hemp
          | cons _ _ => rfl
        rw [hemp']
        simp only [Bool.not_false, Bool.not_true]
        repeat' ((fail_if_success (with_reducible show wpAny _ _ (exec (PySem.Stmt.For _ _ _ _ _) _) _ _ _)); (first | (k_unfold; (try dsimp only)) | (k_end; wrow_close) | walk1 | (dsimp only; walk1)))
        refine wpAny_mono (Q := fun fl s' => fl = Flow.next ∧ ∃ (h' : Heap) (tk : Nat) (u : Str → Option Value) (v : Value), s' = { s with heap := h', toks := tk } ∧ Fr g L' h' (fun y => if y = Str.ofString "candidate" then some v else if y = Str.ofString "sequences" then some (.ref D) else if y = Str.ofString "result" then some (.ref R) else u y)
          ∧ News g L' h' ((R, listOf rs.toArray rn) :: (D, listOf (refs cur2).toArray (refs cur2).length) :: cur2.map Sq.entry) ∧ Picked (pick (cur2.map (·.ns)) (cur2.map (·.ns))) v) ?_ ?_ (fun _ _ x => x)
        · refine wpAny_For ?_ (fun _ => rfl)
          walk1
          refine pyIter_for (vs := refs cur2) (J := fun i m₁ news₁ => news₁ = (R, listOf rs.toArray rn) :: (D, listOf (refs cur2).toArray (refs cur2).length) :: cur2.map Sq.entry ∧ m₁ (Str.ofString "sequences") = some (.ref D) ∧ m₁ (Str.ofString "result") = some (.ref R) ∧ (0 < i → m₁ (Str.ofString "candidate") = some .none) ∧ pick (cur2.map (·.ns)) ((cur2.map (·.ns)).drop i) = pick (cur2.map (·.ns)) (cur2.map (·.ns))) rfl F4 N5 ⟨rfl, rfl, rfl, fun h => absurd h (by decide), rfl⟩ ?_ ?_ ?_ PassesOwn.leaving
          · rintro i m₁ news₁ h₁ ⟨rfl, -⟩ F₁ N₁
            exact ⟨_, (N₁ _ (.tail _ (.head _))).1, rfl, _, rfl⟩
          · rintro i v m₁ news₁ h₁ tk₁ I1 o1 hv ⟨rfl, hs1, hs2, hs3, hs4⟩ hIn hoff hoc F₁ N₁
            obtain ⟨c, hc, rfl⟩ := refs_at hv
            have hcm := List.mem_of_getElem? hc
            rw [map2 hs1 hs2] at F₁
            replace F₁ : Fr g L' h₁ _ := F₁
            replace N₁ : News g L' h₁ _ := N₁
            obtain ⟨x, tl, hcn⟩ : ∃ x tl, c.ns = x :: tl := by
              cases h9 : c.ns with
              | nil => exact absurd h9 (hne2 c hcm)
              | cons x tl => exact ⟨x, tl, rfl⟩
            k_steps
            refine item_list_ints (ns := c.ns) (vs := c.vs) (by exact News.isList (by assumption) (.tail _ (.tail _ (.tail _ (List.mem_map.mpr ⟨c, hcm, rfl⟩))))) (I.hint c (hsub2 c hcm)) (by decide) (by rw [hcn, List.length_cons]; omega) (by decide) ?_
            intro t
            rw [show c.ns.getD (Int.toNat 0) 0 = x by rw [hcn]; rfl]
            repeat' ((fail_if_success (with_reducible show wpAny _ _ (exec (PySem.Stmt.For _ _ _ _ _) _) _ _ _)); (first | (k_unfold; (try dsimp only)) | (k_end; wrow_close) | walk1 | (dsimp only; walk1)))
            rename_i h7 F7 N7
            refine wpAny_For ?_ (fun _ => rfl)
            walk1
            refine pyIter_for (vs := refs cur2) (J := fun j m₂ news₂ => news₂ = (I1, o1) :: (R, listOf rs.toArray rn) :: (D, listOf (refs cur2).toArray (refs cur2).length) :: cur2.map Sq.entry ∧ m₂ (Str.ofString "sequences") = some (.ref D) ∧ m₂ (Str.ofString "result") = some (.ref R) ∧ m₂ (Str.ofString "candidate") = some (.int x t) ∧ ((cur2.map (·.ns)).take j).all (fun s => !s.tail.contains x) = true) rfl F7 N7 ⟨rfl, rfl, rfl, rfl, rfl⟩ ?_ ?_ ?_ PassesOwn.leaving
            · rintro j m₂ news₂ h₂ ⟨rfl, -⟩ F₂ N₂
              exact ⟨_, (N₂ _ (.tail _ (.tail _ (.head _)))).1, rfl, _, rfl⟩
            · rintro j v m₂ news₂ h₂ tk₂ I2 o2 hv2 ⟨rfl, hr1, hr2, hr3, hr4⟩ hIn2 hoff2 hoc2 F₂ N₂
              obtain ⟨d, hd, rfl⟩ := refs_at hv2
              have hdm := List.mem_of_getElem? hd
              rw [map3 hr3 hr1 hr2] at F₂
              replace F₂ : Fr g L' h₂ _ := F₂
              replace N₂ : News g L' h₂ _ := N₂
              have hdi := I.hint d (hsub2 d hdm)
              k_steps
              have hz : d.vs.toArray.size ≤ sizeLine := by
                have h8 := mem_total (hsub2 d hdm)
                have h9 := I.big
                rw [sizeLine_eq, List.size_toArray, hdi.length]; omega
              k_dflt (refine' kmk_slice_ints (vs := d.vs) (ns := d.ns) ?zzF ?zzN ?zzl ?zzp ?zzq hdi ?zzm rfl ?_ ?zzs ?zzt hz; (case zzF => k_asm); (case zzN => k_asm); (case zzl => exact News.isList (by assumption) (.tail _ (.tail _ (.tail _ (.tail _ (List.mem_map.mpr ⟨d, hdm, rfl⟩)))))); (case zzp => exact .int _ _); (case zzq => exact .none); (case zzm => exact kmk_from hdi (by decide)); (case zzs => with_unfolding_all rfl); (case zzt => kmk_pure))
              intro D2 ws h9 F9 N9 l9 hI9 hC9 hL9
              clear hC9 hL9
              k_steps
              · rename_i hany hq Fq Nq
                rw [any_tail] at hany
                dsimp only [LPost]
                refine wpAny_execs_nil ?_
                refine ⟨_, _, _, (R, listOf rs.toArray rn) :: (D, listOf (refs cur2).toArray (refs cur2).length) :: cur2.map Sq.entry, rfl, Fq, newsSub Nq (fun q hq => .tail _ (.tail _ hq)), hoff, rfl, rfl, rfl, fun _ => rfl, ?_⟩
                rw [← hs4]
                have hdrop : (cur2.map (·.ns)).drop i = (x :: tl) :: (cur2.map (·.ns)).drop (i + 1) := by
                  rw [← hcn]; exact drop_at (by rw [List.getElem?_map, hc]; rfl)
                rw [hdrop, pick, if_neg]
                intro hall
                have := List.all_eq_true.mp hall d.ns (List.mem_map.mpr ⟨d, hdm, rfl⟩)
                rw [hany] at this
                exact absurd this (by decide)
              · rename_i hany
                rw [any_tail] at hany
                refine ⟨_, _, _, (I1, o1) :: (R, listOf rs.toArray rn) :: (D, listOf (refs cur2).toArray (refs cur2).length) :: cur2.map Sq.entry, rfl, F9, newsSub N9 (fun q hq => .tail _ hq), hoff2, rfl, rfl, rfl, rfl, ?_⟩
                rw [List.take_add_one, List.getElem?_map, hd, List.all_append, hr4]
                simp only [Option.map_some, Option.toList_some, List.all_cons, List.all_nil, hany]
                rfl
            · rintro h8 tk8 m₂ news₂ F8 N8 ⟨rfl, hr1, hr2, hr3, hr4⟩
              k_steps
              dsimp only [LPost]
              refine ⟨rfl, _, _, m₂, .int x t, rfl, ?_, newsSub N8 (fun q hq => .tail _ hq), ?_⟩
              · rw [← map3 hr3 hr1 hr2]; exact F8
              · rw [List.length_map, ← List.length_map (f := fun x : Sq => x.ns), List.take_length] at hr4
                have hdrop : (cur2.map (·.ns)).drop i = (x :: tl) :: (cur2.map (·.ns)).drop (i + 1) := by
                  rw [← hcn]; exact drop_at (by rw [List.getElem?_map, hc]; rfl)
                rw [← hs4, hdrop, pick, if_pos hr4]
                exact ⟨t, rfl⟩
          · rintro h5 tk5 m₁ news₁ F5 N5' ⟨rfl, hs1, hs2, hs3, hs4⟩
            have hlen0 : 0 < (refs cur2).length := by rw [List.length_map]; exact List.length_pos_iff.mpr hemp
            refine wpAny_execs_nil ?_
            refine ⟨rfl, _, _, m₁, .none, rfl, ?_, N5', ?_⟩
            · rw [← map3 (hs3 hlen0) hs1 hs2]; exact F5
            · rw [List.length_map, ← List.length_map (f := fun x : Sq => x.ns), List.drop_length] at hs4
              rw [← hs4]; rfl
        · rintro fl s6 ⟨rfl, h6, tk6, u, v, rfl, F6, N6, hpick⟩
          dsimp only
          have hstep := I.tgt
          rw [c3_step hc2 hemp (by have := I.small; omega)] at hstep
          generalize hpk : pick (cur2.map (·.ns)) (cur2.map (·.ns)) = pk at *
          cases pk with
          | none =>
            simp only [Picked] at hpick
            subst hpick
            repeat' ((fail_if_success (with_reducible show wpAny _ _ (PySem.leaving _ _) _ _ _)); (first | (k_unfold; (try dsimp only)) | (k_end; wrow_close) | walk1 | (dsimp only; walk1)))
            rename_i hx
            refine leave_newS B' hx F6 News.nil fun h7 hR _ hU => ?_
            refine err (by rw [hstep]; rfl) _ g h7 _ FG (fun q hq => hg q.1 q.2 (NR q hq).1 fun p hp => hdis p hp q hq) hR hU
          | some x =>
            obtain ⟨t, rfl⟩ := hpick
            repeat' ((fail_if_success (with_reducible show wpAny _ _ (call _ _ _) _ _ _)); (first | (k_unfold; (try dsimp only)) | (k_end; wrow_close) | walk1 | (dsimp only; walk1)))
            refine append_K F6 N6 (.head ?_) ?_ ?_
            · intro q hq
              rcases List.mem_cons.mp hq with rfl | hq
              · exact fun e => hRD e.symm
              · obtain ⟨c, hc, rfl⟩ := List.mem_map.mp hq
                exact I.rOff c (hsub2 c hc)
            · intro h7 F7 N7
              rw [List.push_toArray] at N7
              have hsm := I.small
              have hrint := I.rints
              repeat' ((fail_if_success (with_reducible show wpAny _ _ (exec (PySem.Stmt.For _ _ _ _ _) _) _ _ _)); (first | (k_unfold; (try dsimp only)) | (k_end; wrow_close) | walk1 | (dsimp only; walk1)))
              refine wpAny_mono (Q := fun fl s' => fl = Flow.next ∧ ∃ (h' : Heap) (tk : Nat) (m' : Str → Option Value) (cs' : List Sq), s' = { s with heap := h', toks := tk } ∧ m' (Str.ofString "sequences") = some (.ref D) ∧ m' (Str.ofString "result") = some (.ref R) ∧ Fr g L' h' m'
                ∧ News g L' h' ((R, listOf (rs ++ [Value.int x t]).toArray (rn + 1)) :: (D, listOf (refs cur2).toArray (refs cur2).length) :: cs'.map Sq.entry) ∧ cs'.map (·.a) = cur2.map (·.a) ∧ (∀ c ∈ cs', IntsAre c.vs c.ns) ∧ cs'.map (·.ns) = (cur2.map (·.ns)).map (dropC x)) ?_ ?_ (fun _ _ x => x)
              · refine wpAny_For ?_ (fun _ => rfl)
                walk1
                refine pyIter_for (vs := refs cur2) (J := fun i m₁ news₁ => ∃ cs' : List Sq, news₁ = (R, listOf (rs ++ [Value.int x t]).toArray (rn + 1)) :: (D, listOf (refs cur2).toArray (refs cur2).length) :: cs'.map Sq.entry ∧ m₁ (Str.ofString "sequences") = some (.ref D) ∧ m₁ (Str.ofString "result") = some (.ref R) ∧ m₁ (Str.ofString "candidate") = some (.int x t)
                  ∧ cs'.map (·.a) = cur2.map (·.a) ∧ (∀ c ∈ cs', IntsAre c.vs c.ns) ∧ cs'.map (·.ns) = ((cur2.map (·.ns)).take i).map (dropC x) ++ (cur2.map (·.ns)).drop i) rfl F7 N7 ⟨cur2, rfl, rfl, rfl, rfl, rfl, fun c hc => I.hint c (hsub2 c hc), rfl⟩ ?_ ?_ ?_ PassesOwn.leaving
                · rintro i m₁ news₁ h₁ ⟨cs', rfl, -⟩ F₁ N₁
                  exact ⟨_, (N₁ _ (.tail _ (.head _))).1, rfl, _, rfl⟩
                · rintro i v m₁ news₁ h₁ tk₁ I1 o1 hv ⟨cs', rfl, hs1, hs2, hs3, hs4, hs5, hs6⟩ hIn hoff hoc F₁ N₁
                  have hrefs : refs cur2 = refs cs' := by
                    have := congrArg (List.map Value.ref) hs4
                    rw [List.map_map, List.map_map] at this
                    exact this.symm
                  rw [hrefs] at hv
                  obtain ⟨c, hc, rfl⟩ := refs_at hv
                  have hcm := List.mem_of_getElem? hc
                  rw [map3 hs3 hs1 hs2] at F₁
                  replace F₁ : Fr g L' h₁ _ := F₁
                  replace N₁ : News g L' h₁ _ := N₁
                  have hilt : i < cur2.length := by
                    have h8 : i < cs'.length := (List.getElem?_eq_some_iff.mp hc).1
                    have h9 := congrArg List.length hs4
                    simp only [List.length_map] at h9
                    omega
                  have hci : (cur2.map (·.ns))[i]? = some c.ns := by
                    have h8 : (cs'.map (·.ns))[i]? = some c.ns := by rw [List.getElem?_map, hc]; rfl
                    rw [hs6, List.getElem?_append_right (by simp; omega)] at h8
                    rw [List.getElem?_drop] at h8
                    simpa [Nat.min_eq_left (Nat.le_of_lt hilt)] using h8
                  obtain ⟨y, tl, hcn⟩ : ∃ y tl, c.ns = y :: tl := by
                    obtain ⟨d, hd, hd2⟩ := List.mem_map.mp (List.mem_of_getElem? hci)
                    have hd2 : d.ns = c.ns := hd2
                    cases h9 : c.ns with
                    | nil => exact absurd (hd2.trans h9) (hne2 d hd)
                    | cons x tl => exact ⟨x, tl, rfl⟩
                  k_steps
                  refine item_list_ints (ns := c.ns) (vs := c.vs) (by exact News.isList (by assumption) (.tail _ (.tail _ (.tail _ (List.mem_map.mpr ⟨c, hcm, rfl⟩))))) (hs5 c hcm) (by decide) (by rw [hcn, List.length_cons]; omega) (by decide) ?_
                  intro t2
                  rw [show c.ns.getD (Int.toNat 0) 0 = y by rw [hcn]; rfl]
                  have hnd' : (cs'.map (·.a)).Nodup := by
                    rw [hs4, ← hc2]
                    exact nodup_filter I.nd
                  have haR : c.a ≠ R := by
                    have h8 : c.a ∈ cur2.map (·.a) := by rw [← hs4]; exact List.mem_map.mpr ⟨c, hcm, rfl⟩
                    obtain ⟨d, hd, hd2⟩ := List.mem_map.mp h8
                    rw [← hd2]; exact I.rOff d (hsub2 d hd)
                  have haD : c.a ≠ D := by
                    have h8 : c.a ∈ cur2.map (·.a) := by rw [← hs4]; exact List.mem_map.mpr ⟨c, hcm, rfl⟩
                    obtain ⟨d, hd, hd2⟩ := List.mem_map.mp h8
                    rw [← hd2]; exact hcD d hd
                  have haI : c.a ≠ I1 := hoff (c.entry) (.tail _ (.tail _ (List.mem_map.mpr ⟨c, hcm, rfl⟩)))
                  have hdrop : (cur2.map (·.ns)).drop i = c.ns :: (cur2.map (·.ns)).drop (i + 1) := drop_at hci
                  have htake : (cur2.map (·.ns)).take (i + 1) = (cur2.map (·.ns)).take i ++ [c.ns] := by rw [List.take_add_one, hci]; rfl
                  k_steps
                  · rename_i h9 F9 N9 tk9 hyx
                    subst hyx
                    obtain ⟨t0, vtl, hcv, hvt⟩ := IntsAre.cons_inv (hcn ▸ hs5 c hcm)
                    have hpl : h9.PlainList c.a c.vs.toArray := ⟨c.n, (N9 _ (.tail _ (.tail _ (.tail _ (List.mem_map.mpr ⟨c, hcm, rfl⟩))))).1⟩
                    have hcz : c.vs.toArray.size ≤ sizeLine := by
                      have h8 : c.ns ∈ cur2.map (·.ns) := List.mem_of_getElem? hci
                      obtain ⟨d, hd, hd2⟩ := List.mem_map.mp h8
                      have hd2 : d.ns = c.ns := hd2
                      have h7 := mem_total (hsub2 d hd)
                      have h6 := I.big
                      rw [sizeLine_eq, List.size_toArray, (hs5 c hcm).length, ← hd2]; omega
                    refine wpAny_delItem_plain (k := 0) hpl (by decide) (by rw [hcv]; simp [seqIndex?]) ?_ hcz
                    rintro h10 ⟨n10, ho10⟩ hsb
                    have hno : h10.get? c.a = some (listOf vtl.toArray n10) := by rw [ho10, hcv]; simp
                    obtain ⟨F10, N10⟩ := led_set (pre := [(I1, o1), (R, listOf (rs ++ [Value.int y t]).toArray (rn + 1)), (D, listOf (refs cur2).toArray (refs cur2).length)]) (c' := ⟨c.a, vtl, n10, tl⟩) F9 N9 hc rfl hnd' (by
                      simp only [List.forall_mem_cons]
                      exact ⟨Ne.symm haI, Ne.symm haR, Ne.symm haD, fun _ h => nomatch h⟩) hsb hno
                    k_steps
                    refine ⟨_, _, _, (R, listOf (rs ++ [Value.int y t]).toArray (rn + 1)) :: (D, listOf (refs cur2).toArray (refs cur2).length) :: (cs'.set i ⟨c.a, vtl, n10, tl⟩).map Sq.entry, rfl, F10, N10, ?_, _, rfl, rfl, rfl, rfl, ?_, ?_, ?_⟩
                    · intro q hq
                      rcases List.mem_cons.mp hq with rfl | hq
                      · exact hoff _ (.head _)
                      rcases List.mem_cons.mp hq with rfl | hq
                      · exact hoff _ (.tail _ (.head _))
                      obtain ⟨d, hd, rfl⟩ := List.mem_map.mp hq
                      rcases List.mem_or_eq_of_mem_set hd with hd | rfl
                      · exact hoff _ (.tail _ (.tail _ (List.mem_map.mpr ⟨d, hd, rfl⟩)))
                      · exact haI
                    · rw [List.map_set, ← hs4]
                      exact set_same (by rw [List.getElem?_map, hc]; rfl)
                    · intro d hd
                      rcases List.mem_or_eq_of_mem_set hd with hd | rfl
                      · exact hs5 d hd
                      · exact hvt
                    · rw [List.map_set, hs6, hdrop, htake, List.map_append]
                      have hil : i = (((cur2.map (·.ns)).take i).map (dropC y)).length := by
                        simp only [List.length_map, List.length_take]; omega
                      rw [set_mid _ _ _ _ hil]
                      simp [dropC, hcn]
                  · rename_i h9 F9 N9 tk9 hyx
                    refine ⟨_, _, _, (R, listOf (rs ++ [Value.int x t]).toArray (rn + 1)) :: (D, listOf (refs cur2).toArray (refs cur2).length) :: cs'.map Sq.entry, rfl, F9, N9, hoff, cs', rfl, rfl, rfl, rfl, hs4, hs5, ?_⟩
                    rw [hs6, hdrop, htake, List.map_append]
                    have hd1 : dropC x c.ns = c.ns := by
                      rw [dropC, if_neg]
                      rw [hcn]
                      intro h8
                      exact hyx (Option.some.inj h8)
                    simp [hd1]
                · rintro h8 tk8 m₁ news₁ F8 N8 ⟨cs', rfl, hs1, hs2, hs3, hs4, hs5, hs6⟩
                  refine wpAny_execs_nil ⟨rfl, h8, tk8, m₁, cs', rfl, hs1, hs2, F8, N8, hs4, hs5, ?_⟩
                  rw [hs6, List.length_map, ← List.length_map (f := fun x : Sq => x.ns), List.take_length, List.drop_length, List.append_nil]
              · rintro fl s8 ⟨rfl, h8, tk8, m8, cs', rfl, hs1, hs2, F8, N8, hs4, hs5, hs6⟩
                dsimp only
                refine wpAny_execs_nil ?_
                have hdec := drop_total hpk
                have hle := filter_total (cur := cur') hc2
                have htot : total cs' = (((cur2.map (·.ns)).map (dropC x)).map List.length).sum := by rw [← hs6, List.map_map]; rfl
                have htot2 : total cur2 = ((cur2.map (·.ns)).map List.length).sum := by rw [List.map_map]; rfl
                have hbig := I.big
                have offs : ∀ c ∈ cs', ∃ d ∈ cur2, d.a = c.a := fun c hc => by
                  have h9 : c.a ∈ cur2.map (·.a) := by rw [← hs4]; exact List.mem_map.mpr ⟨c, hc, rfl⟩
                  obtain ⟨d, hd, hd2⟩ := List.mem_map.mp h9
                  exact ⟨d, hd, hd2⟩
                have hrefs : refs cur2 = refs cs' := by
                  have := congrArg (List.map Value.ref) hs4
                  rw [List.map_map, List.map_map] at this
                  exact this.symm
                refine ⟨h8, tk8, m8, _, n - 1, rfl, F8, N8, by omega, cs', D, (refs cur2).length, R, rs ++ [Value.int x t], rn + 1, res ++ [x], hs1, hs2, by rw [hrefs], hs5, ?_, ?_, ?_, hRD, ?_, ?_, ?_, ?_, ?_⟩
                · rw [hs4, ← hc2]; exact nodup_filter I.nd
                · intro c hc
                  obtain ⟨d, hd, e⟩ := offs c hc
                  rw [← e]; exact hcD d hd
                · intro c hc
                  obtain ⟨d, hd, e⟩ := offs c hc
                  rw [← e]; exact I.rOff d (hsub2 d hd)
                · exact IntsAre.append hrint (.cons x t .nil)
                · omega
                · rw [List.length_append, List.length_singleton]; omega
                · have := congrArg List.length hs4
                  simp only [List.length_map] at this
                  omega
                · rw [hstep, hs6]
                  simp only [Option.map_map]
                  congr 1
                  funext l
                  simp
            · rw [sizeLine_eq, List.size_toArray, I.rints.length]
              have := I.big
              omega
end

section
variable {w : World} {p : Program} {loose : List Str} {mean : ExcName → Option Value} {mg mb : Str → Option Value}
theorem merged_spec (l : Addr) (k : Nat) (cur : List Sq) (f : Nat) (hi : ∀ c ∈ cur, IntsAre c.vs c.ns) (hnd : (cur.map (·.a)).Nodup) (hla : ∀ c ∈ cur, c.a ≠ l) (hf : total cur < f) (hB : total cur ≤ 1000 ∧ cur.length ≤ 1000) :
  ∀ (dp un : Nat) (gd : Option (List Code)) (cn : Str) (cs : Scope) (a : Addr) (ccd : Value) (cl : List (Str × Addr)) (A₀ : Around) (h₀ : Heap) (L : Addr) (m : Str → Option Value) (s : Shared) (rest : Led) (Q E : Value → Shared → Prop),
   Below A₀ h₀ [] h₀ → Fr h₀ L s.heap m → (hd.heap_39 w.params).In h₀ → Top p loose mean mg mb h₀ → cs.kind = .function →
   News h₀ L s.heap ((l, listOf (refs cur).toArray k) :: cur.map Sq.entry) → News h₀ L s.heap rest → (∀ p ∈ ((l, listOf (refs cur).toArray k) :: cur.map Sq.entry), ∀ q ∈ rest, p.1 ≠ q.1) →
   dp + 2 < recursionLimit → un + 16 < cLine →
   (∀ out, c3 f (cur.map (·.ns)) = some out → ∀ a rs n h' tk', Fr h₀ L h' m → News h₀ L h' ((a, listOf rs.toArray n) :: rest) → (∀ q ∈ rest, a ≠ q.1) → IntsAre rs out → Q (.ref a) { s with heap := h', toks := tk' }) →
   (c3 f (cur.map (·.ns)) = none → ∀ t h' tk', Fr h₀ L h' m → News h₀ L h' rest → Q (.str (Str.ofString "refused") t) { s with heap := h', toks := tk' }) →
   wpAny (model PySem.Challenge.rw_mr0037_01.row.prog w) (ktrTop dp un gd cn cs L a ccd cl []) (call (.ref 50) [.ref l]) Q E s := by
  k_fill
  intro dp un gd cn cs a ccd cl A₀ h₀ L m s rest Q E B F X T hk N NR hdis hdp hun ret err
  refine wpAny_call ?_
  have site : Site _ p loose mean mg mb A₀ (ktrTop dp un gd cn cs L a ccd cl []) h₀ h₀ [] _ L m s ((l, listOf (refs cur).toArray k) :: cur.map Sq.entry) := ⟨B, F, X, T, N, rfl, rfl, hk⟩
  refine enterR site (by k_is) (by k_is) (by ktr_room) (by exact BindsTo.of_eq rfl) (by exact locs rfl) (by decide) (by exact ⟨rfl, rfl, rfl⟩) ?_
  rintro g L' h1 ⟨hg, hlt, hnl, FG, F', N', B', X', T'⟩ lv
  clear site
  unfold Runs
  have F0 : Fr g L' h1 (fun y => List.lookup y [(Str.ofString "rows", Value.ref l)]) := F'
  rw [lookup1] at F0
  clear F'
  repeat' ((fail_if_success (with_reducible show wpAny _ _ (call _ _ _) _ _ _)); (first | (k_unfold; (try dsimp only)) | (k_end; wrow_close) | walk1 | (dsimp only; walk1)))
  refine c3_spec l k cur f hi hnd hla hf hB _ _ _ _ _ _ _ _ _ _ _ _ _ _ _ [] _ _ B' F0 X' T' rfl N' News.nil (fun _ _ _ h => nomatch h) ?_ ?_ ?_ ?_
  · ktr_room
  · ktr_units
  · intro out hout a2 rs n2 h2 tk2 F2 N2 _ hrs
    dsimp only
    k_steps
    refine lv (.ref a2) _ (leaveK_ F2 N2 fun kF kN => ?_)
    have hR := rest_back hg NR hdis F2 N2 kN
    exact ret out hout a2 rs n2 _ _ kF hR.1 (fun q hq => hR.2 _ (.head _) q hq) hrs
  · intro hnone e2 g2 h2 tk2 FG2 _ hR hU
    have D0 : KtsDicts ([envX cn cs L a ccd cl].filterMap (·.frame)) g := by
      intro b hb
      obtain rfl : b = L := by simpa using hb
      obtain ⟨o, es, ep, ho, hod, _⟩ := FG.ns
      exact ⟨o, es, ep, ho, hod⟩
    refine caught_SN0 (T' := "RuntimeError") hR FG2 B' hU X T D0 KtsTurn.refl (by k_is) PyProof.Rows.Boot.«RuntimeError» (by decide) PySem.F.isExc_RuntimeError PySem.F.notTuple_RuntimeError (by rw [isSubtype_type]; kernel_rfl) ?_
    intro h3 g3 T3 F3 N3 B3 X3 TT3 D3
    k_steps
    have hLg : ∀ b o, g.get? b = some o → b ≠ L → h3.get? b = some o := fun b o hb hbL => F3.keep _ _ (T3.other b o hb (by simpa using hbL))
    have hL0 : h₀.get? L = none := by
      cases q : h₀.get? L with
      | none => rfl
      | some o => exact absurd (Nat.lt_of_lt_of_le (Heap.lt_size q) F.above) (Nat.lt_irrefl _)
    refine err hnone _ _ _ ⟨?_, fun b o hb => hLg b o (FG.keep b o hb) (fun e => by rw [e, hL0] at hb; cases hb), F.above⟩ ?_
    · obtain ⟨o, es, ep, ho, hod, hr⟩ := FG.ns
      obtain ⟨sl, hs⟩ := T3.frame L o ho (by simp)
      exact ⟨_, es, ep, F3.keep _ _ hs, hod, hr⟩
    · intro q hq
      exact ⟨hLg q.1 q.2 (hg q.1 q.2 (NR q hq).1 fun p hp => hdis p hp q hq) (NR q hq).2.1, (NR q hq).2⟩
end

section
/-- the object od at d is a dict of ints' keys with these pairs -/
def DObj (prog : Program) (w : World) (od : Obj) (kvs : List (Int × Value)) (ep : Nat) : Prop :=
  ∃ es, od.ExactDict ∧ od.data = .dict es ep ∧ KeysOf (intKind prog w) es ∧ Pairs (intKind prog w) es.toList kvs ∧ (kvs.map (·.1)).Nodup
theorem DObj.at {prog : Program} {w : World} {od : Obj} {kvs : List (Int × Value)} {ep : Nat} {h : Heap} {d : Addr} (x : DObj prog w od kvs ep) (e : h.get? d = some od) : h.DictAt (intKind prog w) d kvs ep :=
  let ⟨es, r⟩ := x; ⟨od, es, e, r⟩
theorem DObj.of {prog : Program} {w : World} {kvs : List (Int × Value)} {h : Heap} {d : Addr} (x : h.DictOf (intKind prog w) d kvs) : ∃ od ep, h.get? d = some od ∧ DObj prog w od kvs ep :=
  let ⟨o, es, ep, e, r⟩ := x; ⟨o, ep, e, es, r⟩
def DSrc (prog : Program) (w : World) (d : Addr) (kvs : List (Int × Value)) (ep : Nat) (nw : Led) : Prop := ∃ od, (d, od) ∈ nw ∧ DObj prog w od kvs ep
section
variable {prog : Program} {w : World} {A : Around} {E : Value → Shared → Prop} {s : Shared} {h₀ : Heap} {L a : Addr} {m : Str → Option Value} {cn : Str} {cs : Scope} {ccd : Value} {own : List (Str × Addr)} {Q : Flow → Shared → Prop} {y : Str} {py : Pos}
/-- the finished list D gets its name y while the comprehension's frame C still stands -/
theorem named {s₂ : Shared} {D C : Addr} {h : Heap} {tk : Nat} {mc : Str → Option Value} {ys : List Value} {nw : Led} (fr : Fr h₀ L h m) (led : News h₀ L h ((D, LCg.lst ys) :: nw)) (off : LCg.Off1 D nw) (ns : h.Ns C mc)
    (apart : h₀.get? C = none ∧ C ≠ L ∧ C ≠ D ∧ ∀ q ∈ nw, q.1 ≠ C) (fin : LCg.FinA h₀ L m s₂ y Q ys nw) (inDef : cs.kind = .function) (loc : (envX cn cs L a ccd own).kindOf y = some .local) :
    wpAny (model prog w) A (assign (.Name y py) (envX cn cs L a ccd own) (.ref D)) (fun _ u => ∃ mc', u.heap.Ns C mc' ∧ ∀ h', Heap.SameBut C u.heap h' → Q .next { u with heap := h' }) E { s₂ with heap := h, toks := tk } := by
  obtain ⟨newC, notL, notD, notNw⟩ := apart
  obtain ⟨oC, there, isNs⟩ := LCg.ns_obj ns
  have both : News h₀ L h ((C, oC) :: (D, LCg.lst ys) :: nw) := List.forall_mem_cons.mpr ⟨⟨there, notL, newC⟩, led⟩
  have away : ∀ q ∈ (D, LCg.lst ys) :: nw, q.1 ≠ C := List.forall_mem_cons.mpr ⟨notD.symm, notNw⟩
  refine wpAny_assign_Name (storeX_L fr both (fun h₂ fr₂ led₂ => ?_) inDef loc)
  have ⟨atC, rest⟩ := List.forall_mem_cons.mp led₂
  exact ⟨mc, isNs.ns atC.1, fun h₃ same => fin D h₃ _ (fr₂.change same notL newC) (fun q hq => ⟨same.extBut _ _ (away q hq) (rest q hq).1, (rest q hq).2⟩) off⟩
/-- the comprehension's source is a dict of the ledger; what is left is turn after turn -/
def KeysAt (prog : Program) (w : World) (A : Around) (h₀ : Heap) (L : Addr) (m : Str → Option Value) (env : Env) (ct elt : Expr) (x : Str) (scope : Scope) (cl : List (Str × Addr)) (y : Str) (Q : Flow → Shared → Prop) (v : Value) (u : Shared) : Prop :=
  ∃ d kvs ep nw, v = .ref d ∧ (d == sysModules) = false ∧ A.handled = none ∧ Fr h₀ L u.heap m ∧ News h₀ L u.heap nw ∧ DSrc prog w d kvs ep nw ∧ kvs.length ≤ sizeLine ∧
    ∀ g, LCt.CompRestT prog w A h₀ L m env ct elt x scope cl { u with heap := g } (DSrc prog w d kvs ep) (fun i k => ∃ n z, kvs[i]? = some (n, z) ∧ ∃ t, k = .int n t) (LCg.FinA h₀ L m { u with heap := g } y Q) kvs.length 0 [] nw
theorem int_keys (quiet : A.handled = none) {I d : Addr} (ne : d ≠ I) (kvs : List (Int × Value)) (ep : Nat) :
    Walks prog w A I [I, d] [I] kvs.length (fun i k => ∃ n z, kvs[i]? = some (n, z) ∧ ∃ t, k = .int n t) (fun i h => h.IsKeyIter I d i kvs.length ep ∧ h.DictAt (intKind prog w) d kvs ep) :=
  (Walks.dictKeys quiet I d ne kvs ep).weaken fun _ _ pv => pv.imp fun _ ⟨z, at_, is⟩ => ⟨z, at_, Value.isInt_shape is⟩
/-- y = [elt for x in d if ct] -/
theorem keys_comp {ct elt iter : Expr} {x : Str} {px pos spos : Pos} {scope : Scope} {cl : List (Str × Addr)} (inDef : cs.kind = .function) (loc : (envX cn cs L a ccd own).kindOf y = some .local)
    (swap : swapsWith (.ListComp elt [⟨.Name x px, iter, [ct], 0⟩] scope pos) (some (.Name y py)) spos.line (envX cn cs L a ccd own) = pure true) (clos : closureFor scope (envX cn cs L a ccd own) = pure cl)
    (shape : scope.kind = .function ∧ (∀ z ∈ scope.names, z.2 ≠ .cell) ∧ (∀ z ∈ scope.names, z.2 = .local → scope.names.lookup z.1 = some .local) ∧ scope.names.lookup x = some .local) (fold : ∀ z, foldedSetIterable iter (envX cn cs L a ccd own) z = pure z)
    (src : wpAny (model prog w) A (eval iter (envX cn cs L a ccd own)) (KeysAt prog w A h₀ L m (envX cn cs L a ccd own) ct elt x scope cl y Q) E s) :
    wpAny (model prog w) A (exec (.Assign [.Name y py] (.ListComp elt [⟨.Name x px, iter, [ct], 0⟩] scope pos) spos) (envX cn cs L a ccd own)) Q E s := by
  have whole : ∀ at_ : Pos, wpAny (model prog w) A (comprehension (.ListComp elt [⟨.Name x px, iter, [ct], 0⟩] scope pos) scope (envX cn cs L a ccd own) at_ (newList []) false (eval iter (envX cn cs L a ccd own)) (some (assign (.Name y py) (envX cn cs L a ccd own)))) (fun _ u => Q .next u) E s := by
    intro at_
    refine wpAny_comprehension_free rfl fold clos shape.1 shape.2.2.1 (wpAny_mono src ?_ fun _ _ q => q)
    rintro _ u ⟨d, kvs, ep, nw, rfl, notSys, quiet, fr, led, isSrc, short, turns⟩
    have dict : ∀ {h : Heap} {nw' : Led}, News h₀ L h nw' → DSrc prog w d kvs ep nw' → h.DictAt (intKind prog w) d kvs ep := fun N ⟨_, hm, isD⟩ => isD.at (N _ hm).1
    have here := dict led isSrc
    refine wpAny_pyIter_dict notSys here ?_
    have grow : ∀ b o, u.heap.get? b = some o → (u.heap.push { cls := .type "dict_keyiterator", data := .fields #[.ref d, .int 0 0, .int kvs.length 0, .int ep 0] }).get? b = some o := fun _ _ e => Heap.get?_push_of_some _ e
    refine LCt.block_T (S := DSrc prog w d kvs ep) (news := nw) (hx := shape.2.2.2) (hkind := shape.1) (hcell := shape.2.1) (hsz := short) (R := turns _) (hS := isSrc) (W := int_keys quiet (Nat.ne_of_lt here.lt_size) kvs ep)
      (F := fr.keeps grow) (N := led.grown grow) (hst := ⟨⟨_, Heap.get?_push_size _ rfl, rfl, rfl⟩, here.push _⟩) (hIL := Nat.ne_of_lt fr.ns.lt) (hI₀ := next_is_new fr) (off := fun q hq => Nat.ne_of_lt (Heap.lt_size (led q hq).1)) ?_ ?_ ?_ ?_
    · exact fun i h st => st.1.imp fun _ q => q.1
    · rintro i h h' o nw' ⟨⟨o₁, e₁, is₁⟩, _⟩ e e' _ N' S'
      rw [e₁] at e
      exact ⟨⟨o₁, e'.trans e.symm, is₁⟩, dict N' S'⟩
    · intro b hb
      have le : b ≤ u.heap.objs.size := by
        rcases (by simpa using hb : b = u.heap.objs.size ∨ b = d) with e | e
        · exact Nat.le_of_eq e
        · rw [e]; exact Nat.le_of_lt here.lt_size
      exact (Heap.size_push ..).symm ▸ Nat.lt_succ_of_le le
    · exact fun D C h tk mc ys nw' fr' led' off' ns c1 _ c2 _ c3 c4 fin => named fr' led' off' ns ⟨c1, c2, c3, c4⟩ fin inDef loc
  rw [exec_Assign_Name_used _ _ _ _ swap]
  exact wpAny_bind (wpAny_standAt (wpAny_bind (wpAny_bind (wpAny_mono (whole _) (fun _ _ q => wpAny_pure (wpAny_pure q)) fun _ _ q => q))))
theorem sift_fold (f : Int → Bool) : ∀ ks l : List Int, ks.foldl (fun l k => if f k = true then l ++ [k] else l) l = l ++ ks.filter f
  | [], l => by simp
  | k :: ks, l => by
    rw [List.foldl_cons, sift_fold f ks]
    cases h : f k <;> simp [h]
theorem sift_grows (f : Int → Bool) : KPfGrows (fun l k => if f k = true then l ++ [k] else l) := by
  intro l k
  show (if f k = true then l ++ [k] else l).length ≤ l.length + 1
  split <;> simp
end
end

section
abbrev tabAt (c' : Addr) : Obj := tabObj #[rawInt 40, rawInt 34, .ref c']
def TabSt (qual : Str) (tab : Led) : Prop :=
  tab = [(40, tabObj #[])] ∨ ∃ c' oc vs t, tab = [(40, tabAt c'), (c', oc)] ∧ oc.data = .fields vs ∧ vs[1]? = some (.str qual t)
theorem updF_mid {d : Addr} {o : Obj} : ∀ {pre post : Led}, (∀ p ∈ pre, p.1 ≠ d) → (∀ p ∈ post, p.1 ≠ d) → UpdF d o (pre ++ (d, o) :: post) (fun o' => pre ++ (d, o') :: post)
  | [], _, _, h2 => .head h2
  | p :: r, post, h1, h2 => .tail (h1 p (.head _)) (updF_mid (pre := r) (fun q hq => h1 q (.tail _ hq)) h2)
theorem nd_mid {pre post : Led} {d : Addr} {o : Obj} (h : ((pre ++ (d, o) :: post).map (·.1)).Nodup) : (∀ p ∈ pre, p.1 ≠ d) ∧ (∀ p ∈ post, p.1 ≠ d) := by
  rw [List.map_append, List.map_cons] at h
  have h' := List.nodup_append.mp h
  refine ⟨fun p hp e => h'.2.2 p.1 (List.mem_map.mpr ⟨p, hp, rfl⟩) d (List.mem_cons_self ..) e, fun p hp e => ?_⟩
  have := (List.nodup_cons.mp h'.2.1).1
  exact this (by rw [← e]; exact List.mem_map.mpr ⟨p, hp, rfl⟩)
theorem lam_make {M : Model} {A : Around} {E : Value → Shared → Prop} {s : Shared} {h₀ : Heap} {L a : Addr} {m mg mb : Str → Option Value} {cn : Str} {cs : Scope} {cl : List (Str × Addr)} {pre post tab : Led}
    {p : Program} {loose : List Str} {mean : ExcName → Option Value} {name qual : Str} {params : Arguments} {body : Expr} {scope : Scope} {firstLine : Nat} {clos : List (Str × Addr)} {el ec : Nat}
    {Q : Value → Shared → Prop} (F : Fr h₀ L s.heap m) (N : News h₀ L s.heap (pre ++ (tab ++ post))) (nd : ((pre ++ (tab ++ post)).map (·.1)).Nodup) (T : Top p loose mean mg mb h₀) (C : CodeHd h₀ 42 40) (ht : TabSt qual tab)
    (hcl : closureFor scope (envX cn cs L a (.ref 42) cl) = pure clos)
    (h : ∀ f c' oc vs t ctv h' tk, Fr h₀ L h' m → News h₀ L h' ((f, kla_obj name qual params body scope clos ((mg "__name__").getD .none) c' ctv) :: (pre ++ ([(40, tabAt c'), (c', oc)] ++ post))) →
      oc.data = .fields vs → vs[1]? = some (.str qual t) → (((f, kla_obj name qual params body scope clos ((mg "__name__").getD .none) c' ctv) :: (pre ++ ([(40, tabAt c'), (c', oc)] ++ post))).map (·.1)).Nodup → Q (.ref f) { s with heap := h', toks := tk }) :
    wpAny M A (makeFunction name qual params (.expr body) scope (envX cn cs L a (.ref 42) cl) [] [] [] ⟨40, 34, el, ec⟩ firstLine) Q E s := by
  rcases ht with rfl | ⟨c', oc, vs, t, rfl, hd, hv⟩
  · have hm := nd_mid (pre := pre) (post := post) nd
    refine kla_nest F N T C rfl (updF_mid hm.1 hm.2) (by exact True.intro) (by rfl) hcl ?_
    intro f c' oc vs t ctv h' tk F' N' hd hv hlt hcf
    have hold : ∀ q ∈ pre ++ ([(40, tabObj #[])] ++ post), q.1 < c' := hlt
    refine h f c' oc vs t ctv h' tk F' (fun q hq => N' q ?_) hd hv ?_
    · rcases List.mem_cons.mp hq with rfl | hq
      · exact .head _
      rcases List.mem_append.mp hq with hq | hq
      · exact .tail _ (.tail _ (List.mem_append_left _ hq))
      rcases List.mem_append.mp hq with hq | hq
      · rcases List.mem_cons.mp hq with rfl | hq
        · exact .tail _ (.tail _ (List.mem_append_right _ (.head _)))
        · rw [List.mem_singleton.mp hq]; exact .tail _ (.head _)
      · exact .tail _ (.tail _ (List.mem_append_right _ (.tail _ hq)))
    · have e1 : ((pre ++ ([(40, tabAt c'), (c', oc)] ++ post)).map (Prod.fst)).Perm (c' :: ((pre ++ ([(40, tabObj #[])] ++ post)).map (Prod.fst))) := by
        simp only [List.map_append, List.map_cons, List.map_nil, List.cons_append, List.nil_append]
        exact (List.Perm.append_left _ (List.Perm.swap ..)).trans (List.perm_middle)
      have hc' : c' ∉ (pre ++ ([(40, tabObj #[])] ++ post)).map (Prod.fst) := fun hq => by
        obtain ⟨q, hq, e⟩ := List.mem_map.mp hq
        exact absurd (hold q hq) (by rw [e]; exact Nat.lt_irrefl _)
      have hn2 : ((pre ++ ([(40, tabAt c'), (c', oc)] ++ post)).map (·.1)).Nodup := e1.nodup_iff.mpr (List.nodup_cons.mpr ⟨hc', nd⟩)
      rw [List.map_cons]
      refine List.nodup_cons.mpr ⟨fun hq => ?_, hn2⟩
      rcases List.mem_cons.mp (e1.mem_iff.mp hq) with e | hq
      · exact absurd hcf (by rw [show f = c' from e]; exact Nat.lt_irrefl _)
      · obtain ⟨q, hq, e⟩ := List.mem_map.mp hq
        exact absurd (Nat.lt_trans (hold q hq) hcf) (by rw [e]; exact Nat.lt_irrefl _)
  · refine kla_hit (c' := c') F N T C rfl (List.mem_append_right _ (.head _)) (by simp [TriplesOk, rawInt]) (by simp [codeAmong, rawInt]) hcl ?_
    intro f ctv h' tk F' N' hlt
    refine h f c' oc vs t ctv h' tk F' N' hd hv ?_
    rw [List.map_cons]
    refine List.nodup_cons.mpr ⟨fun hq => ?_, nd⟩
    obtain ⟨q, hq, e⟩ := List.mem_map.mp hq
    exact absurd (hlt q hq) (by rw [e]; exact Nat.lt_irrefl _)
end

section
section
variable {prog : Program} {w : World} {A : Around} {s : Shared} {h₀ : Heap} {L : Addr} {m : Str → Option Value} {env : Env}
/-- a comprehension over the ints ks that has made i lists, one for each int; the last one made stands first in the ledger -/
def Copies (cp : Int → List Int) (ks : List Int) (news : Led) (i : Nat) (ys : List Value) (nw : Led) : Prop :=
  ∃ cps : List Sq, ys = refs cps.reverse ∧ nw = cps.map Sq.entry ++ news ∧ cps.reverse.map (·.ns) = (ks.take i).map cp ∧ (∀ c ∈ cps, IntsAre c.vs c.ns) ∧ (nw.map (·.1)).Nodup
theorem Copies.none {cp : Int → List Int} {ks : List Int} {news : Led} (nd : (news.map (·.1)).Nodup) : Copies cp ks news 0 [] news := ⟨[], rfl, rfl, by simp, (fun _ q => nomatch q), nd⟩
theorem Copies.more {cp : Int → List Int} {ks : List Int} {news nw : Led} {i : Nat} {ys : List Value} {k : Int} (x : Copies cp ks news i ys nw) (at_ : ks[i]? = some k) (c : Sq) (hc : IntsAre c.vs c.ns) (is : c.ns = cp k) (off : ∀ q ∈ nw, q.1 ≠ c.a) :
    Copies cp ks news (i + 1) (ys ++ [.ref c.a]) (c.entry :: nw) := by
  obtain ⟨cps, rfl, rfl, h1, h2, h3⟩ := x
  refine ⟨c :: cps, by simp [refs], rfl, ?_, List.forall_mem_cons.mpr ⟨hc, h2⟩, ?_⟩
  · rw [List.take_add_one, at_, List.map_append, ← h1]
    simp [is]
  · refine List.nodup_cons.mpr ⟨fun q => ?_, h3⟩
    obtain ⟨z, hz, e⟩ := List.mem_map.mp q
    exact off z hz e
theorem DObj.isDictOf {prog : Program} {w : World} {od : Obj} {kvs : List (Int × Value)} {ep : Nat} (x : DObj prog w od kvs ep) : od.IsDictOf (intKind prog w) kvs := let ⟨es, r⟩ := x; ⟨es, ep, r⟩
end
end

section
variable {w : World} {p : Program} {loose : List Str} {mean : ExcName → Option Value} {mg mb : Str → Option Value}
def withinF (ps : List Int) (flag : Int) : List Int := ps.filter fun q => decide (flag / 2 ^ q.toNat % 2 = 1)
def lineF (ps : List Int) (flag : Int) : List Int := rowF (withinF ps flag) [0]
def isBelow (flag one : Int) : Bool := (Builtin.bitAnd one flag == one) && sbF (Builtin.bitXor one flag)
def keyF (ps : List Int) (flag one : Int) : Int := (ps.idxOf ((Builtin.Int.intBits (Builtin.bitXor one flag) : Int) - 1) : Nat)
def flagsF (ps : List Int) : List Int := (rowF ps [0]).reverse
structure LawOf (ps : List Int) : Prop where
  rng : ∀ x ∈ ps, 0 ≤ x ∧ x < 60
  len : ps.length ≤ 4
  nd : (flagsF ps).Nodup
  idx : ∀ i flag one, (flagsF ps)[i]? = some flag → one ∈ (flagsF ps).take i → isBelow flag one = true → ((Builtin.Int.intBits (Builtin.bitXor one flag) : Int) - 1) ∈ ps
  sb : ∀ flag ∈ flagsF ps, sbF flag = decide ((withinF ps flag).length = 1)
  step : ∀ i flag bs, (flagsF ps)[i]? = some flag → bs.Perm (((flagsF ps).take i).filter (isBelow flag)) → bs.Pairwise (fun x y => keyF ps flag x ≤ keyF ps flag y) → ∃ t, c3 1000 (bs.map (lineF ps) ++ [bs]) = some t ∧ flag :: t = lineF ps flag
theorem light : ∀ {ps : List Int}, (∀ x ∈ ps, 0 ≤ x ∧ x < 60) → PyData.weightAll (ps.map .int) ≤ 8 * ps.length
  | [], _ => Nat.le_refl 0
  | x :: ps, h => by
    have ih := light fun y hy => h y (.tail _ hy)
    have hx := h x (.head _)
    have hw : PyData.weight (.int x) ≤ 6 := by
      rw [PyData.weight]
      split
      · exact Nat.zero_le _
      · rename_i hne
        have : x.natAbs ≠ 0 := fun e => hne (by rw [Int.natAbs_eq_zero.mp e]; rfl)
        have := (Nat.log2_lt this (k := 6)).mpr (by omega)
        omega
    rw [List.map_cons, PyData.weightAll, List.length_cons]
    omega
theorem places_lay {ps : List Int} (h : ∀ x ∈ ps, 0 ≤ x ∧ x < 60) (hl : ps.length ≤ 4) : PyData.layable0 (.list (ps.map .int)) = true := by
  have hw := light h
  have hc : PyData.canLay0 (.list (ps.map .int)) = true := by rw [PyData.canLay0, canLayAll_ints]
  have hd : PyData.depth (.list (ps.map .int)) ≤ 64 := by rw [PyData.depth, PyProof.Rows.depthAll_ints]; decide
  have hw' : PyData.weight (.list (ps.map .int)) ≤ 2 ^ 20 := by rw [PyData.weight]; omega
  unfold PyData.layable0
  rw [hc, decide_eq_true hd, decide_eq_true hw']
  rfl
theorem DObj.nodup {prog : Program} {w : World} {od : Obj} {kvs : List (Int × Value)} {ep : Nat} (x : DObj prog w od kvs ep) : (kvs.map (·.1)).Nodup := let ⟨_, _, _, _, _, h⟩ := x; h
theorem line_at {ps fl : List Int} {done : List Sq} {k : Int} (hl : done.map (·.ns) = fl.map (lineF ps)) (hn : ((fl.zip (refs done)).map (·.1)).Nodup) (hk : k ∈ fl) : ∃ c ∈ done, valueAt (fl.zip (refs done)) k = some (.ref c.a) ∧ c.ns = lineF ps k := by
  obtain ⟨j, hj⟩ := List.mem_iff_getElem?.mp hk
  have h1 : (done.map (·.ns))[j]? = some (lineF ps k) := by rw [hl, List.getElem?_map, hj]; rfl
  rw [List.getElem?_map] at h1
  cases hc : done[j]? with
  | none => rw [hc] at h1; cases h1
  | some c =>
    rw [hc] at h1
    refine ⟨c, List.mem_of_getElem? hc, ?_, Option.some.inj h1⟩
    refine valueAt_of_get hn (i := j) ?_
    rw [List.getElem?_zip_eq_some]
    exact ⟨hj, by rw [List.getElem?_map, hc]; rfl⟩
theorem flags_le {ps : List Int} (h : ps.length ≤ 4) (i : Nat) : ((flagsF ps).take i).length ≤ 16 := by
  have h1 : (2 : Nat) ^ ps.length ≤ 2 ^ 4 := Nat.pow_le_pow_right (by decide) h
  have h2 : (flagsF ps).length = 2 ^ ps.length * 1 := by
    show (rowF ps [0]).reverse.length = _
    rw [List.length_reverse, rowF_length]; rfl
  rw [List.length_take, h2]
  omega
theorem line_len {ps : List Int} (h : ps.length ≤ 4) (k : Int) : (lineF ps k).length ≤ 16 := by
  have h0 : (withinF ps k).length ≤ 4 := Nat.le_trans (List.length_filter_le _ _) h
  have h1 : (2 : Nat) ^ (withinF ps k).length ≤ 2 ^ 4 := Nat.pow_le_pow_right (by decide) h0
  show (rowF (withinF ps k) [0]).length ≤ 16
  rw [rowF_length]
  simp only [List.length_singleton]
  omega
theorem sum_lines {ps : List Int} (h : ps.length ≤ 4) : ∀ bs : List Int, ((bs.map (lineF ps)).map List.length).sum ≤ 16 * bs.length
  | [] => by simp
  | b :: r => by
    have h1 := sum_lines h r
    have h2 := line_len h b
    simp only [List.map_cons, List.sum_cons, List.length_cons]
    omega
structure LInv (prog : Program) (w : World) (L' l V d0 : Addr) (fv : List Value) (ps : List Int) (qual : Str) (i : Nat) (news : Led) (od : Obj) (ep : Nat) (oF oL oP : Obj) (tab : Led) (done : List Sq) : Prop where
  led : news = (V, listOf fv.toArray 0) :: (d0, od) :: (L' + 1 + 1 + 1, oF) :: (L' + 1 + 1, oL) :: (L' + 1, oP) :: (tab ++ done.map Sq.entry)
  nd : (news.map (·.1)).Nodup
  dob : DObj prog w od (((flagsF ps).take i).zip (refs done)) ep
  cF : ∃ v, oF.data = .cell v
  cL : oL.data = .cell (some (.ref d0))
  cP : oP.data = .cell (some (.ref l))
  tabS : TabSt qual tab
  lns : done.map (·.ns) = ((flagsF ps).take i).map (lineF ps)
  hint : ∀ c ∈ done, IntsAre c.vs c.ns
theorem lines_spec (l : Addr) (vs : List Value) (n : Nat) (ps : List Int) (hi : IntsAre vs ps) (H : LawOf ps) :
  ∀ (dp un : Nat) (gd : Option (List Code)) (cn : Str) (cs : Scope) (a : Addr) (ccd : Value) (cl : List (Str × Addr)) (outer : List Env) (A₀ : Around) (base h₀ : Heap) (L : Addr) (m : Str → Option Value) (s : Shared) (rest : Led) (Q E : Value → Shared → Prop),
   Below A₀ base outer h₀ → Fr h₀ L s.heap m → (hd.heap_39 w.params).In h₀ → Top p loose mean mg mb h₀ → cs.kind = .function → CodeHd h₀ 42 40 →
   News h₀ L s.heap [(40, tabObj #[])] → News h₀ L s.heap rest → (∀ q ∈ rest, q.1 ≠ 40) → (l, listOf vs.toArray n) ∈ rest →
   dp + 3 < recursionLimit → un + 24 < cLine →
   (∀ d od ep (done : List Sq) tab h' tk', Fr h₀ L h' m → News h₀ L h' ((d, od) :: (40, tabObj tab) :: (done.map Sq.entry ++ rest)) → (∀ p ∈ (d, od) :: (40, tabObj tab) :: done.map Sq.entry, ∀ q ∈ rest, p.1 ≠ q.1) → (d == sysModules) = false → DObj PySem.Challenge.rw_mr0037_01.row.prog w od ((flagsF ps).zip (refs done)) ep → done.map (·.ns) = (flagsF ps).map (lineF ps) → (∀ c ∈ done, IntsAre c.vs c.ns) → Q (.ref d) { s with heap := h', toks := tk' }) →
   wpAny (model PySem.Challenge.rw_mr0037_01.row.prog w) (ktrTop dp un gd cn cs L a ccd cl outer) (call (.ref 43) [.ref l]) Q E s := by
  k_fill
  intro dp un gd cn cs a ccd cl outer A₀ base h₀ L m s rest Q E B F X T hk hCH N NR h40 hlm hdp hun ret
  refine wpAny_call ?_
  have site : Site _ p loose mean mg mb A₀ (ktrTop dp un gd cn cs L a ccd cl outer) base h₀ outer _ L m s ([(40, tabObj #[])]) := ⟨B, F, X, T, N, rfl, rfl, hk⟩
  refine enterC site (by k_is) (by k_is) (by ktr_room) (by exact BindsTo.of_eq rfl) (by exact rfl) (by decide +kernel) (by exact ⟨rfl, rfl, rfl⟩) ?_
  rintro g L' h1 tk1 cells ⟨hg, hlt, hnl, FG, F', N', B', X', T'⟩ Y'
  clear site
  unfold Runs
  refine wpAny_noRaise ?_
  have hlo : g.get? l = some (listOf vs.toArray n) := hg _ _ (NR _ hlm).1 (by simpa using fun e : 40 = l => h40 _ hlm e.symm)
  have hl : g.IsList l vs.toArray := ⟨_, hlo, rfl, _, rfl⟩
  have hCG : CodeHd g 42 40 := hCH.keeps FG.keep
  have h40L : @LT.lt Nat _ 40 L' := hnl _ (.head _)
  k_cells Y'
  replace F' : Fr g L' h1 (fun y => none) := F'
  (try simp only [List.cons_append, List.nil_append] at N')
  (try k_fold)
  repeat' ((fail_if_success (with_reducible show wpAny _ _ (call _ _ _) _ _ _)); (first | (k_unfold; (try dsimp only)) | (k_end; wrow_close) | walk1 | (dsimp only; walk1)))
  rename_i oF oL0 oP dF dL0 dP d0 h2 oD hsm hs' fs' hiD fi' l1 h3 oL F3 N3 dL
  refine wpAny_For ?_ (fun _ => rfl)
  repeat' ((fail_if_success (with_reducible show wpAny _ _ (call _ _ _) _ _ _)); (first | (k_unfold; (try dsimp only)) | (k_end; wrow_close) | walk1 | (dsimp only; walk1)))
  have hrow := row_spec (w := w) (p := p) (loose := loose) (mean := mean) (mg := mg) (mb := mb) l vs n ps hi H.rng H.len
  unfold Con at hrow
  refine hrow _ _ _ _ _ _ _ _ _ _ _ _ _ _ _ _ _ _ B' F3 X' T' rfl News.nil N3 (fun _ h => nomatch h) (fun q hq => ?_) ?_ ?_ ?_
  · rw [List.mem_singleton.mp hq]
    exact ⟨F3.keep _ _ (hg _ _ (NR _ hlm).1 (by simpa using fun e : 40 = l => h40 _ hlm e.symm)), fun _ h => nomatch h⟩
  · ktr_room
  · ktr_units
  rintro _ _ h4 tk4 F4 N4 off4 _ ⟨a4, rs, n4, rfl, rfl, hrs⟩
  clear hrow
  simp only [List.cons_append, List.nil_append] at N4
  have hrl : rs.toArray.size ≤ sizeLine := by
    rw [sizeLine_eq, List.size_toArray, hrs.length, rowF_length]
    have : (2 : Nat) ^ ps.length ≤ 2 ^ 4 := Nat.pow_le_pow_right (by decide) H.len
    simp only [List.length_singleton]
    omega
  repeat' ((fail_if_success (with_reducible show wpAny _ _ (subscriptTail _ _ _ _) _ _ _)); (first | (k_unfold; (try dsimp only)) | (k_end; wrow_close) | walk1 | (dsimp only; walk1)))
  refine kba_turn (value' := .Name (Str.ofString "x") ⟨0, 0, 0, 0⟩) (fun _ => rfl) ?_
  k_dflt (refine' krv_ints (ns := rowF ps [0]) (vs := rs) F4 N4 ?zzl ?zzk hrs ?_ ?zzs ?zzt hrl; (case zzl => exact News.isList N4 (.head _)); (case zzk => exact .int _ _); (case zzs => with_unfolding_all rfl); (case zzt => exact fun _ => rfl))
  intro V fv h5 F5 N5 l5 hfv _
  k_lt l5
  have ha4 := off4 _ (.head _)
  simp only [List.forall_mem_cons] at ha4
  have hdP : oP.data = .cell (some (.ref l)) := dP
  obtain ⟨ep0, hD0⟩ : ∃ ep, DObj PySem.Challenge.rw_mr0037_01.row.prog w oD [] ep := by
    obtain ⟨es, ep, r⟩ := hiD
    exact ⟨ep, es, r⟩
  refine pyIter_for (vs := fv) (J := fun i _ news₁ => ∃ od ep oF oL oP tab done, LInv PySem.Challenge.rw_mr0037_01.row.prog w L' l V d0 fv ps (Str.ofString "_law_lines" ++ ".<locals>." ++ "<lambda>") i news₁ od ep oF oL oP tab done) (news := (V, listOf fv.toArray 0) :: (d0, oD) :: (L' + 1 + 1 + 1, oF) :: (L' + 1 + 1, oL) :: (L' + 1, oP) :: [(40, tabObj #[])]) rfl F5 (newsSub N5 (by kcf_all)) ⟨oD, ep0, oF, oL, oP, [(40, tabObj #[])], [], rfl, ?_, hD0, ⟨_, dF⟩, dL, hdP, .inl rfl, ?_, fun _ h => nomatch h⟩ ?_ ?_ ?_ PassesOwn.never
  · simp only [List.map_cons, List.map_nil, List.nodup_cons, List.mem_cons, List.not_mem_nil, or_false, not_or, not_false_eq_true, List.nodup_nil, and_true]
    refine ⟨⟨?_, ?_, ?_, ?_, ?_⟩, ⟨?_, ?_, ?_, ?_⟩, ⟨?_, ?_, ?_⟩, ⟨?_, ?_⟩, ?_⟩ <;> refine neN ?_ <;> omega
  · simp
  · rintro i m₁ news₁ h₁ ⟨od, ep, oF, oL, oP, tab, done, LI⟩ F₁ N₁
    rw [LI.led] at N₁
    exact ⟨_, (N₁ _ (.head _)).1, rfl, _, rfl⟩
  · rintro i v m₁ news₁ h₁ tk₁ I1 o1 hv ⟨od, ep, oF, oL, oP, tab, done, LI⟩ hIn hoff hoc F₁ N₁
    have hled := LI.led
    subst hled
    replace F₁ : Fr g L' h₁ _ := F₁
    replace N₁ : News g L' h₁ _ := N₁
    obtain ⟨flag, t, rfl, hflag⟩ := IntsAre.at hfv i v hv
    obtain ⟨v0, hcF⟩ := LI.cF
    have hcL := LI.cL
    have hcP := LI.cP
    have hnd1 : (((I1, o1) :: (V, listOf fv.toArray 0) :: (d0, od) :: (L' + 1 + 1 + 1, oF) :: (L' + 1 + 1, oL) :: (L' + 1, oP) :: (tab ++ done.map Sq.entry)).map (·.1)).Nodup := by
      rw [List.map_cons]
      exact List.nodup_cons.mpr ⟨fun hq => by obtain ⟨q, hq, e⟩ := List.mem_map.mp hq; exact hoff q hq e, LI.nd⟩
    have hm3 := nd_mid (pre := [(I1, o1), (V, listOf fv.toArray 0), (d0, od)]) hnd1
    walk1
    k_dflt (refine' storeX_C (c := L' + 1 + 1 + 1) F₁ N₁ ?zc (updF_mid (pre := [(I1, o1), (V, listOf fv.toArray 0), (d0, od)]) hm3.1 hm3.2) hcF ?_ ?za ?zb; (case za => rfl); (case zb => rfl); (case zc => rfl))
    intro h2 oF2 F2 N2 hcF2
    simp only [List.cons_append, List.nil_append] at N2
    clear hm3 hcF
    repeat' ((fail_if_success (with_reducible show wpAny _ _ (exec (PySem.Stmt.Assign _ _ _) _) _ _ _)); (first | (k_unfold; (try dsimp only)) | (k_end; wrow_close) | walk1 | (dsimp only; walk1)))
    k_dflt (refine keys_comp (h₀ := g) (L := L') (m := m₁) (by rfl) (by rfl) (by with_unfolding_all rfl) (by with_unfolding_all rfl) (by exact ⟨rfl, by decide, by decide, rfl⟩) (by intro _; rfl) ?_)
    walk1
    have hdl0 : done.length = ((flagsF ps).take i).length := by
      have := congrArg List.length LI.lns
      simpa using this
    refine ⟨d0, _, ep, _, rfl, hsm, rfl, F2, N2, ⟨od, .tail _ (.tail _ (.head _)), LI.dob⟩, ?_, fun g' => ?_⟩
    · have h8 := flags_le H.len i
      rw [sizeLine_eq, List.length_zip]
      omega
    refine kci_rest (ks := (flagsF ps).take i) (fun l k => if isBelow flag k = true then l ++ [k] else l) (by rw [List.length_zip, List.length_map, hdl0, Nat.min_self]) (fun j v _ hv => by
      obtain ⟨k, x, hkx, t, e⟩ := hv
      rw [List.getElem?_zip_eq_some] at hkx
      exact ⟨k, t, hkx.1, e⟩) (fun k t2 I2 oI C oC D m2 ys lk h3 tk3 E3 hk hlk hC hx F3 N3 off ne _ => ?_) ?_ (sift_grows _)
    · repeat' ((fail_if_success (with_reducible show wpAny _ _ (call _ _ _) _ _ _)); (first | (k_unfold; (try dsimp only)) | (k_end; wrow_close) | walk1 | (dsimp only; walk1)))
      · rename_i hand _
        have hsb := sb_spec (w := w) (p := p) (loose := loose) (mean := mean) (mg := mg) (mb := mb) (Builtin.bitXor k flag) (tk3 + 1)
        unfold Con at hsb
        refine hsb _ _ _ _ _ _ _ _ _ _ _ _ _ _ _ _ _ _ B' F3 X' T' rfl News.nil N3 (fun _ h => nomatch h) (fun _ h => nomatch h) (by ktr_room) (by ktr_units) ?_
        clear hsb
        rintro _ _ h4 tk4 F4 N4 _ _ ⟨rfl, rfl⟩
        rw [List.nil_append] at N4
        have hbel : isBelow flag k = sbF (Builtin.bitXor k flag) := by rw [isBelow, hand]; simp
        cases hsbv : sbF (Builtin.bitXor k flag)
        · k_steps
          exact LCg.CompEnd.intro F4 N4 _ (fun _ h => h) off ⟨od, .tail _ (.tail _ (.head _)), LI.dob⟩ (kci_no (by rw [hbel, hsbv]; rfl) rfl)
        · k_steps
          exact LCg.CompEnd.intro F4 N4 _ (fun _ h => h) off ⟨od, .tail _ (.tail _ (.head _)), LI.dob⟩ (kci_el (by rw [hbel, hsbv]; rfl) rfl rfl)
      · rename_i hand
        refine LCg.CompEnd.intro F3 N3 _ (fun _ h => h) off ⟨od, .tail _ (.tail _ (.head _)), LI.dob⟩ (kci_no ?_ rfl)
        rw [isBelow, beq_eq_false_iff_ne.mpr hand]; rfl
    · unfold KPfDone
      intro ys hys _ Bd h3 tk3 F3 N3 off3
      rw [sift_fold, List.nil_append] at hys
      dsimp only
      repeat' ((fail_if_success (with_reducible show wpAny _ _ (eval (PySem.Expr.Lambda _ _ _ _) _) _ _ _)); (first | (k_unfold; (try dsimp only)) | (k_end; wrow_close) | walk1 | (dsimp only; walk1)))
      have hnd3 : (([(Bd, LCg.lst ys), (I1, o1), (V, listOf fv.toArray 0), (d0, od), (L' + 1 + 1 + 1, oF2), (L' + 1 + 1, oL), (L' + 1, oP)] ++ (tab ++ done.map Sq.entry)).map (·.1)).Nodup := by
        refine List.nodup_cons.mpr ⟨fun hq => ?_, hnd1⟩
        obtain ⟨q, hq, e⟩ := List.mem_map.mp hq
        exact off1_mem off3 hq e
      refine kla_eval rfl ?_
      k_dflt (refine' lam_make (pre := [(Bd, LCg.lst ys), (I1, o1), (V, listOf fv.toArray 0), (d0, od), (L' + 1 + 1 + 1, oF2), (L' + 1 + 1, oL), (L' + 1, oP)]) F3 N3 hnd3 T' hCG LI.tabS ?zcl ?_; (case zcl => exact rfl))
      intro f c' oc vs4 t4 ctv h4 tk4 F4 N4 hd4 hv4 nd4
      clear N3 off3 hnd3 F3 N2 F2
      repeat' ((fail_if_success (with_reducible show wpAny _ _ (call _ _ _) _ _ _)); (first | (k_unfold; (try dsimp only)) | (k_end; wrow_close) | walk1 | (dsimp only; walk1)))
      change wpAny _ _ (call (.builtin "sorted") [.ref Bd] [(Str.ofString "key", .ref f)]) _ _ _
      have hblen : (((flagsF ps).take i).filter (isBelow flag)).length < 64 := by
        have h8 := List.length_filter_le (isBelow flag) ((flagsF ps).take i)
        have h9 := flags_le H.len i
        omega
      refine ksk_letter (keyF ps flag) (b := false) F4 N4 (News.isList N4 (.tail _ (.head _))) hys hblen (ksk_s1 _ _) (fun x => ksk_l1 _ _) (fun x => ksk_t1 _ _) ?_ ?_
      · intro one t5 h5 tk5 own hone F5 N5
        refine wpAny_call ?_
        k_dflt (refine' kla_code ?k1 ?k2 ?k3 ?k4 ?k5 ?kA ?kF ?kK ?k6 ?k7 ?k8 ?k9 ?kB ?_ ?c2 ?c3 ?c4 ?c5; (case kA => exact rfl); (case kF => exact rfl); (case kK => exact rfl); (case k1 => exact B'); (case k2 => exact F5); (case k3 => exact X'); (case k4 => exact N5); (case k5 => exact T'); (case k6 => exact .head _); (case k7 => exact codeRec_news N5 (List.mem_append_left _ (.tail _ (List.mem_append_right _ (.tail _ (.head _))))) hd4 hv4); (case k8 => ktr_room); (case k9 => exact rfl); (case c5 => decide); (case kB => exact locs rfl); (case c2 => exact rfl); (case c3 => exact rfl); (case c4 => exact rfl))
        intro g6 L6 h6 FG6 F6 N6 B6 X6 T6
        simp only [List.cons_append, List.nil_append] at N6
        have hl6 : g6.IsList l vs.toArray := hl.at fun o e => FG6.keep _ _ e
        repeat' ((fail_if_success (with_reducible show wpAny _ _ (getMethod _ _ _) _ _ _)); (first | (k_unfold; (try dsimp only)) | (k_end; wrow_close) | walk1 | (dsimp only; walk1)))
        with_unfolding_all refine getMethod_list_of PySem.F.slot_list_index PySem.F.type_list_index (hl6.at fun o e => F6.keep _ _ e) ⟨_, F6.keep _ _ (FG6.keep _ _ hlo), rfl⟩ ?_
        repeat' ((fail_if_success (with_reducible show wpAny _ _ (call _ _ _) _ _ _)); (first | (k_unfold; (try dsimp only)) | (k_end; wrow_close) | walk1 | (dsimp only; walk1)))
        have hhb := hb_spec (w := w) (p := p) (loose := loose) (mean := mean) (mg := mg) (mb := mb) (Builtin.bitXor one flag)
        unfold Con at hhb
        refine hhb _ _ _ _ _ _ _ _ _ _ _ _ _ _ _ _ _ _ _ B6 F6 X6 T6 rfl News.nil N6 (fun _ h => nomatch h) (fun _ h => nomatch h) (by ktr_room) (by ktr_units) ?_
        clear hhb
        rintro _ _ h7 tk7 F7 N7 _ _ ⟨⟨t7, rfl⟩, rfl⟩
        rw [List.nil_append] at N7
        repeat' ((fail_if_success (with_reducible show wpAny _ _ (call _ _ _) _ _ _)); (first | (k_unfold; (try dsimp only)) | (k_end; wrow_close) | walk1 | (dsimp only; walk1)))
        refine index_list_ints (hl6.at fun o e => F7.keep _ _ e) hi (places_lay H.rng H.len) (H.idx i flag one (by simpa [flagsF] using hflag) (List.mem_filter.mp hone).1 (List.mem_filter.mp hone).2) ?_
        k_steps
      · intro Bs bv bases cb h5 tk5 F5 N5 l5 hbv _ hperm hpw _
        simp only [Bool.false_eq_true, if_false] at hpw
        have hnd5 : (((Bs, listOf bv.toArray cb) :: (I1, o1) :: (V, listOf fv.toArray 0) :: (d0, od) :: (L' + 1 + 1 + 1, oF2) :: (L' + 1 + 1, oL) :: (L' + 1, oP) :: (40, tabAt c') :: (c', oc) :: done.map Sq.entry).map (·.1)).Nodup := by
          refine List.nodup_cons.mpr ⟨fun hq => ?_, (List.nodup_cons.mp (List.nodup_cons.mp nd4).2).2⟩
          obtain ⟨q, hq, e⟩ := List.mem_map.mp hq
          exact absurd (l5 q (.tail _ (.tail _ hq))) (by rw [e]; exact Nat.lt_irrefl _)
        have N6 : News g L' h5 ((Bs, listOf bv.toArray cb) :: (I1, o1) :: (V, listOf fv.toArray 0) :: (d0, od) :: (L' + 1 + 1 + 1, oF2) :: (L' + 1 + 1, oL) :: (L' + 1, oP) :: (40, tabAt c') :: (c', oc) :: done.map Sq.entry) := newsSub N5 (fun q hq => by
          rcases List.mem_cons.mp hq with rfl | hq
          · exact .head _
          · exact .tail _ (.tail _ (.tail _ hq)))
        clear N5 l5 nd4 N4 F4
        repeat' ((fail_if_success (with_reducible show wpAny _ _ (eval (PySem.Expr.ListComp _ _ _ _) _) _ _ _)); (first | (k_unfold; (try dsimp only)) | (k_end; wrow_close) | walk1 | (dsimp only; walk1)))
        rename_i h6 Fl h7 F7 N7 l7
        have hbl : bases.length ≤ 16 := by
          rw [hperm.length_eq]
          have h8 := List.length_filter_le (isBelow flag) ((flagsF ps).take i)
          have h9 := flags_le H.len i
          omega
        have hnd7 : (((Fl, listOf #[Value.int flag t] 0) :: (Bs, listOf bv.toArray cb) :: (I1, o1) :: (V, listOf fv.toArray 0) :: (d0, od) :: (L' + 1 + 1 + 1, oF2) :: (L' + 1 + 1, oL) :: (L' + 1, oP) :: (40, tabAt c') :: (c', oc) :: done.map Sq.entry).map (·.1)).Nodup := by
          refine List.nodup_cons.mpr ⟨fun hq => ?_, hnd5⟩
          obtain ⟨q, hq, e⟩ := List.mem_map.mp hq
          have hall : AllLt Fl ((Bs, listOf bv.toArray cb) :: (I1, o1) :: (V, listOf fv.toArray 0) :: (d0, od) :: (L' + 1 + 1 + 1, oF2) :: (L' + 1 + 1, oL) :: (L' + 1, oP) :: (40, tabAt c') :: (c', oc) :: done.map Sq.entry) := l7
          exact absurd (allLt_mem hall hq) (by rw [e]; exact Nat.lt_irrefl _)
        k_dflt (refine LCg.ListComp_U (F₀ := F7) (by with_unfolding_all rfl) (by decide) (by rfl) (by decide) (by rfl) ?_)
        walk1
        refine LCg.CompSrc.ledger (by rfl) F7 N7 (.tail _ (.head _)) (by rw [PySem.sizeLine_eq, List.size_toArray, hbv.length]; omega) ?_
        intro g'
        refine chainC (Copies (lineF ps) bases _) _ ?_ ?_ _ _ _ _ (Nat.zero_add _) (Copies.none hnd7)
        · intro i2 ys2 nw2 _ hcp
          obtain ⟨cps, hys2, rfl, hcp1, hcp2, hcp3⟩ := id hcp
          refine LCg.CompRest.succ ?_
          intro v2 I2 oI C oC D m2 h8 tk8 E8 hv2 hC hx F8 N8 off ne
          obtain ⟨k, t2, rfl, hk2⟩ := IntsAre.at hbv i2 v2 (by simpa using hv2)
          have hk := List.mem_of_getElem? hk2
          obtain ⟨c, hcm, hcv, hcn⟩ := line_at LI.lns LI.dob.nodup (List.mem_filter.mp (hperm.mem_iff.mp hk)).1
          have N8s : News g L' h8 [(I2, oI), (C, oC), (D, LCg.lst ys2), (L' + 1 + 1, oL), (d0, od)] := newsSub N8 (by
            simp only [List.forall_mem_cons]
            exact ⟨.head _, .tail _ (.head _), .tail _ (.tail _ (.head _)), .tail _ (.tail _ (.tail _ (List.mem_append_right _ (.tail _ (.tail _ (.tail _ (.tail _ (.tail _ (.tail _ (.head _))))))))))
              , .tail _ (.tail _ (.tail _ (List.mem_append_right _ (.tail _ (.tail _ (.tail _ (.tail _ (.head _)))))))), fun _ h => nomatch h⟩)
          have N8h := PySem.Flt.Hid.mk N8
          clear N8
          repeat' ((fail_if_success (with_reducible show wpAny _ _ (subscriptTail _ _ _ _) _ _ _)); (first | (k_unfold; (try dsimp only)) | (k_end; wrow_close) | walk1 | (dsimp only; walk1)))
          have N8 := N8h.out
          refine kdt_tail (knd := intKind _ _) N8 (.tail _ (.tail _ (.tail _ (List.mem_append_right _ (.tail _ (.tail _ (.tail _ (.tail _ (.head _))))))))) LI.dob.isDictOf ?_
          refine kdt_getItem (knd := intKind _ _) N8 (.tail _ (.tail _ (.tail _ (List.mem_append_right _ (.tail _ (.tail _ (.tail _ (.tail _ (.head _))))))))) LI.dob.isDictOf (intKind_is _ _ _ _) hcv ?_
          repeat' ((fail_if_success (with_reducible show wpAny _ _ (call _ _ _) _ _ _)); (first | (k_unfold; (try dsimp only)) | (k_end; wrow_close) | walk1 | (dsimp only; walk1)))
          have hci := LI.hint c hcm
          have hcl : c.vs.length ≤ 16 := by rw [hci.length, hcn]; exact line_len H.len k
          refine list_copyK F8 N8 (News.isList N8 (.tail _ (.tail _ (.tail _ (List.mem_append_right _ (.tail _ (.tail _ (.tail _ (.tail _ (.tail _ (.tail _ (.tail _ (.tail _ (.tail _ (.tail _ (List.mem_map.mpr ⟨c, hcm, rfl⟩)))))))))))))))) ?_ (by rw [sizeLine_eq, List.size_toArray]; omega)
          intro D9 c9 h9 F9 N9 l9
          dsimp only
          have hmem : (Bs, listOf bv.toArray cb) ∈ (⟨D9, c.vs, c9, c.ns⟩ : Sq).entry :: (cps.map Sq.entry ++ (Fl, listOf #[Value.int flag t] 0) :: (Bs, listOf bv.toArray cb) :: (I1, o1) :: (V, listOf fv.toArray 0) :: (d0, od) :: (L' + 1 + 1 + 1, oF2) :: (L' + 1 + 1, oL) :: (L' + 1, oP) :: (40, tabAt c') :: (c', oc) :: done.map Sq.entry) := .tail _ (List.mem_append_right _ (.tail _ (.head _)))
          refine LCg.CompEnd.intro F9 N9 _ (fun q hq => ?_) (?_ : LCg.Off3 I2 C D ((⟨D9, c.vs, c9, c.ns⟩ : Sq).entry :: (cps.map Sq.entry ++ (Fl, listOf #[Value.int flag t] 0) :: (Bs, listOf bv.toArray cb) :: (I1, o1) :: (V, listOf fv.toArray 0) :: (d0, od) :: (L' + 1 + 1 + 1, oF2) :: (L' + 1 + 1, oL) :: (L' + 1, oP) :: (40, tabAt c') :: (c', oc) :: done.map Sq.entry))) (.inr ⟨_, hmem, rfl, _, rfl⟩) (LCg.CompRest.zero (hcp.more hk2 ⟨D9, c.vs, c9, c.ns⟩ hci hcn fun q hq e => ?_))
          · rcases List.mem_cons.mp hq with rfl | hq
            · exact .tail _ (.head _)
            rcases List.mem_cons.mp hq with rfl | hq
            · exact .tail _ (.tail _ (.head _))
            rcases List.mem_cons.mp hq with rfl | hq
            · exact .tail _ (.tail _ (.tail _ (.head _)))
            rcases List.mem_cons.mp hq with rfl | hq
            · exact .head _
            · exact .tail _ (.tail _ (.tail _ (.tail _ hq)))
          · exact ⟨⟨Nat.ne_of_gt (l9 _ (.head _)), Nat.ne_of_gt (l9 _ (.tail _ (.head _))), Nat.ne_of_gt (l9 _ (.tail _ (.tail _ (.head _))))⟩, off⟩
          · exact absurd (l9 q (.tail _ (.tail _ (.tail _ hq)))) (by rw [e]; exact Nat.lt_irrefl _)
        · rintro _ _ ⟨cps, rfl, rfl, hcps, hcpi, hcpn⟩
          rw [List.size_toArray, hbv.length, List.take_length] at hcps
          intro S9 h9 tk9 F9 N9 off9
          repeat' ((fail_if_success (with_reducible show wpAny _ _ (binaryOp _ _ _) _ _ _)); (first | (k_unfold; (try dsimp only)) | (k_end; wrow_close) | walk1 | (dsimp only; walk1)))
          rename_i B1 h10 F10 N10 l10
          have hcl : cps.length = bases.length := by
            have := congrArg List.length hcps
            simpa using this
          refine kmk_add_lit F10 N10 (its := (refs cps.reverse).toArray) (its2 := #[Value.ref Bs]) (News.isList N10 (.tail _ (.head _))) (News.isList N10 (.head _)) (zs := refs (cps.reverse ++ [⟨Bs, bv, cb, bases⟩])) (by simp [refs]) ?_ (by rw [sizeLine_eq]; simp; omega)
          intro S h11 F11 N11 l11
          repeat' ((fail_if_success (with_reducible show wpAny _ _ (call _ _ _) _ _ _)); (first | (k_unfold; (try dsimp only)) | (k_end; wrow_close) | walk1 | (dsimp only; walk1)))
          have hsplit : ((cps.reverse ++ [(⟨Bs, bv, cb, bases⟩ : Sq)]).map Sq.entry).Perm (cps.map Sq.entry ++ [(Bs, listOf bv.toArray cb)]) := by
            rw [List.map_append]
            exact List.Perm.append_right _ ((List.reverse_perm cps).map _)
          have hmem : ∀ q ∈ (cps.reverse ++ [(⟨Bs, bv, cb, bases⟩ : Sq)]).map Sq.entry, q ∈ cps.map Sq.entry ++ (Fl, listOf #[Value.int flag t] 0) :: (Bs, listOf bv.toArray cb) :: (I1, o1) :: (V, listOf fv.toArray 0) :: (d0, od) :: (L' + 1 + 1 + 1, oF2) :: (L' + 1 + 1, oL) :: (L' + 1, oP) :: (40, tabAt c') :: (c', oc) :: done.map Sq.entry := fun q hq => by
            rcases List.mem_append.mp (hsplit.mem_iff.mp hq) with hq | hq
            · exact List.mem_append_left _ hq
            · rw [List.mem_singleton.mp hq]; exact List.mem_append_right _ (.tail _ (.head _))
          have hcpn2 : ((cps.map Sq.entry ++ [(Bs, listOf bv.toArray cb)] ++ (Fl, listOf #[Value.int flag t] 0) :: (I1, o1) :: (V, listOf fv.toArray 0) :: (d0, od) :: (L' + 1 + 1 + 1, oF2) :: (L' + 1 + 1, oL) :: (L' + 1, oP) :: (40, tabAt c') :: (c', oc) :: done.map Sq.entry).map (·.1)).Nodup := by
            refine (List.Perm.map _ ?_).nodup_iff.mp hcpn
            rw [List.append_assoc]
            exact List.Perm.append_left _ (List.Perm.swap ..)
          rw [List.map_append] at hcpn2
          have hdd := List.nodup_append.mp hcpn2
          have htot : total (cps.reverse ++ [(⟨Bs, bv, cb, bases⟩ : Sq)]) ≤ 300 := by
            have e1 : total (cps.reverse ++ [(⟨Bs, bv, cb, bases⟩ : Sq)]) = ((bases.map (lineF ps)).map List.length).sum + bases.length := by
              show ((cps.reverse ++ [(⟨Bs, bv, cb, bases⟩ : Sq)]).map fun c => c.ns.length).sum = _
              rw [List.map_append, List.sum_append, ← hcps, List.map_map]
              simp [Function.comp_def]
            have e2 := sum_lines H.len bases
            omega
          obtain ⟨tl, htl, htl2⟩ := H.step i flag bases (by simpa [flagsF] using hflag) hperm hpw
          have hns : (cps.reverse ++ [(⟨Bs, bv, cb, bases⟩ : Sq)]).map (·.ns) = bases.map (lineF ps) ++ [bases] := by rw [List.map_append, hcps]; rfl
          refine c3_spec S 0 (cps.reverse ++ [⟨Bs, bv, cb, bases⟩]) 1000 ?_ ?_ ?_ (by omega) ⟨by omega, by simp; omega⟩ _ _ _ _ _ _ _ _ _ _ _ _ _ _ _ ((Fl, listOf #[Value.int flag t] 0) :: (I1, o1) :: (V, listOf fv.toArray 0) :: (d0, od) :: (L' + 1 + 1 + 1, oF2) :: (L' + 1 + 1, oL) :: (L' + 1, oP) :: (40, tabAt c') :: (c', oc) :: done.map Sq.entry) _ _ B' F11 X' T' rfl ?_ ?_ ?_ (by ktr_room) (by ktr_units) ?_ ?_
          · intro c hc
            rcases List.mem_append.mp hc with hc | hc
            · exact hcpi c (List.mem_reverse.mp hc)
            · rw [List.mem_singleton.mp hc]; exact hbv
          · have h8 := (List.Perm.map Prod.fst hsplit).nodup_iff.mpr hdd.1
            rw [List.map_map] at h8
            exact h8
          · intro c hc e
            exact absurd (l11 c.entry (.tail _ (.tail _ (hmem _ (List.mem_map.mpr ⟨c, hc, rfl⟩))))) (by rw [show c.entry.1 = S from e]; exact Nat.lt_irrefl _)
          · refine newsSub N11 (fun q hq => ?_)
            rcases List.mem_cons.mp hq with rfl | hq
            · exact .head _
            · exact .tail _ (.tail _ (.tail _ (hmem q hq)))
          · refine newsSub N11 (fun q hq => .tail _ (.tail _ (.tail _ (List.mem_append_right _ ?_))))
            rcases List.mem_cons.mp hq with rfl | hq
            · exact .head _
            · exact .tail _ (.tail _ hq)
          · intro q hq r hr e
            have hr' : r ∈ cps.map Sq.entry ++ (Fl, listOf #[Value.int flag t] 0) :: (Bs, listOf bv.toArray cb) :: (I1, o1) :: (V, listOf fv.toArray 0) :: (d0, od) :: (L' + 1 + 1 + 1, oF2) :: (L' + 1 + 1, oL) :: (L' + 1, oP) :: (40, tabAt c') :: (c', oc) :: done.map Sq.entry := by
              refine List.mem_append_right _ ?_
              rcases List.mem_cons.mp hr with rfl | hr
              · exact .head _
              · exact .tail _ (.tail _ hr)
            rcases List.mem_cons.mp hq with rfl | hq
            · exact absurd (l11 r (.tail _ (.tail _ hr'))) (by rw [← e]; exact Nat.lt_irrefl _)
            · exact hdd.2.2 q.1 (List.mem_map.mpr ⟨q, hsplit.mem_iff.mp hq, rfl⟩) r.1 (List.mem_map.mpr ⟨r, hr, rfl⟩) e
          · intro out hout a12 rs12 n12 h12 tk12 F12 N12 off12 hrs12
            rw [hns, htl] at hout
            obtain rfl := Option.some.inj hout
            clear N11 N10 l10 l11 hsplit hmem
            dsimp only
            repeat' ((fail_if_success (with_reducible show wpAny _ _ (binaryOp _ _ _) _ _ _)); (first | (k_unfold; (try dsimp only)) | (k_end; wrow_close) | walk1 | (dsimp only; walk1)))
            have htlen : tl.length ≤ 16 := by
              have h8 := line_len H.len flag
              rw [← htl2, List.length_cons] at h8
              omega
            refine kmk_add_ints F12 N12 (vs := [Value.int flag t]) (News.isList N12 (.tail _ (.head _))) (News.isList N12 (.head _)) (.cons flag t .nil) hrs12 ?_ (by rw [sizeLine_eq]; simp; omega)
            intro D13 us h13 F13 N13 l13 hus
            have hus' : IntsAre us (lineF ps flag) := by rw [← htl2]; exact hus
            repeat' ((fail_if_success (with_reducible show wpAny _ _ (setItem _ _ _) _ _ _)); (first | (k_unfold; (try dsimp only)) | (k_end; wrow_close) | walk1 | (dsimp only; walk1)))
            have hdl : done.length = ((flagsF ps).take i).length := by
              have := congrArg List.length LI.lns
              simpa using this
            have hfi : (flagsF ps)[i]? = some flag := by simpa [flagsF] using hflag
            have htk : (flagsF ps).take (i + 1) = (flagsF ps).take i ++ [flag] := by rw [List.take_add_one, hfi]; rfl
            have hkeys : (((flagsF ps).take i).zip (refs done)).map (·.1) = (flagsF ps).take i := by
              rw [List.map_fst_zip]
              rw [List.length_map, hdl]; exact Nat.le_refl _
            have hfresh : flag ∉ (flagsF ps).take i := by
              have h8 := H.nd
              have h9 : ((flagsF ps).take (i + 1)).Nodup := h8.sublist (List.take_sublist _ _)
              rw [htk] at h9
              exact fun hq => (List.nodup_append.mp h9).2.2 flag hq flag (by simp) rfl
            have hstored : stored (((flagsF ps).take i).zip (refs done)) flag (.ref D13) = ((flagsF ps).take (i + 1)).zip (refs (done ++ [⟨D13, us, 0, lineF ps flag⟩])) := by
              rw [stored_absent (valueAt_none_of_not_mem (by rw [hkeys]; exact hfresh)), htk]
              rw [show refs (done ++ [⟨D13, us, 0, lineF ps flag⟩]) = refs done ++ [Value.ref D13] by simp [refs]]
              rw [List.zip_append (by rw [List.length_map, hdl])]
              rfl
            refine wpAny_setItem_pairs (knd := intKind _ _) (intKind_is _ _ _ _) (LI.dob.at (N13 _ (.tail _ (.tail _ (.tail _ (.tail _ (.tail _ (.head _))))))).1).dictOf ?_ ?_
            · intro h14 hm14 hs14
              rw [hstored] at hm14
              obtain ⟨od', ep', hod', hDO⟩ := DObj.of hm14
              have hnd14 : (((I1, o1) :: (V, listOf fv.toArray 0) :: (d0, od) :: (L' + 1 + 1 + 1, oF2) :: (L' + 1 + 1, oL) :: (L' + 1, oP) :: ([(40, tabAt c'), (c', oc)] ++ (done ++ [(⟨D13, us, 0, lineF ps flag⟩ : Sq)]).map Sq.entry)).map (·.1)).Nodup := by
                have h8 := (List.nodup_cons.mp hnd5).2
                rw [List.map_append]
                have e8 : ((I1, o1) :: (V, listOf fv.toArray 0) :: (d0, od) :: (L' + 1 + 1 + 1, oF2) :: (L' + 1 + 1, oL) :: (L' + 1, oP) :: ([(40, tabAt c'), (c', oc)] ++ (done.map Sq.entry ++ [(⟨D13, us, 0, lineF ps flag⟩ : Sq)].map Sq.entry))) = ((I1, o1) :: (V, listOf fv.toArray 0) :: (d0, od) :: (L' + 1 + 1 + 1, oF2) :: (L' + 1 + 1, oL) :: (L' + 1, oP) :: (40, tabAt c') :: (c', oc) :: done.map Sq.entry) ++ [(D13, listOf us.toArray 0)] := rfl
                rw [e8, List.map_append]
                refine List.nodup_append.mpr ⟨h8, by simp, fun x hx y hy e => ?_⟩
                obtain ⟨q, hq, rfl⟩ := List.mem_map.mp hx
                have hy' : y = D13 := by simpa using hy
                exact absurd (l13 q (.tail _ (.tail _ hq))) (by rw [e, hy']; exact Nat.lt_irrefl _)
              have N14 : News g L' h13 ([(I1, o1), (V, listOf fv.toArray 0)] ++ (d0, od) :: ((L' + 1 + 1 + 1, oF2) :: (L' + 1 + 1, oL) :: (L' + 1, oP) :: ([(40, tabAt c'), (c', oc)] ++ (done ++ [(⟨D13, us, 0, lineF ps flag⟩ : Sq)]).map Sq.entry))) := by
                refine newsSub N13 (fun q hq => ?_)
                have hq' : q ∈ ((I1, o1) :: (V, listOf fv.toArray 0) :: (d0, od) :: (L' + 1 + 1 + 1, oF2) :: (L' + 1 + 1, oL) :: (L' + 1, oP) :: (40, tabAt c') :: (c', oc) :: done.map Sq.entry) ++ [(D13, listOf us.toArray 0)] := by
                  rw [List.map_append] at hq
                  exact hq
                rcases List.mem_append.mp hq' with hq | hq
                · exact .tail _ (.tail _ (.tail _ hq))
                · rw [List.mem_singleton.mp hq]; exact .head _
              have hm14' := nd_mid (pre := [(I1, o1), (V, listOf fv.toArray 0)]) hnd14
              have z14 := N14 (d0, od) (List.mem_append_right _ (.head _))
              have N15 := news_set N14 hm14'.1 hm14'.2 hs14 hod'
              have F15 := F13.change hs14 z14.2.1 z14.2.2
              have hnd15 := (List.nodup_cons.mp hnd14).2
              k_steps
              refine ⟨_, _, _, (V, listOf fv.toArray 0) :: (d0, od') :: (L' + 1 + 1 + 1, oF2) :: (L' + 1 + 1, oL) :: (L' + 1, oP) :: ([(40, tabAt c'), (c', oc)] ++ (done ++ [(⟨D13, us, 0, lineF ps flag⟩ : Sq)]).map Sq.entry), rfl, F15, N15, ?_, od', ep', oF2, oL, oP, [(40, tabAt c'), (c', oc)], done ++ [⟨D13, us, 0, lineF ps flag⟩], rfl, hnd15, hDO, ⟨_, hcF2⟩, hcL, hcP, .inr ⟨c', oc, vs4, t4, rfl, hd4, hv4⟩, ?_, ?_⟩
              · intro q hq e
                have h8 := (List.nodup_cons.mp hnd14).1
                have h9 : q.1 ∈ List.map (fun x : Addr × Obj => x.1) ((V, listOf fv.toArray 0) :: (d0, od') :: (L' + 1 + 1 + 1, oF2) :: (L' + 1 + 1, oL) :: (L' + 1, oP) :: ([(40, tabAt c'), (c', oc)] ++ (done ++ [(⟨D13, us, 0, lineF ps flag⟩ : Sq)]).map Sq.entry)) := List.mem_map.mpr ⟨q, hq, rfl⟩
                rw [e] at h9
                exact h8 h9
              · rw [List.map_append, LI.lns, htk, List.map_append]; rfl
              · intro c hc
                rcases List.mem_append.mp hc with hc | hc
                · exact LI.hint c hc
                · rw [List.mem_singleton.mp hc]; exact hus'
            · have h8 := flags_le H.len i
              rw [sizeLine_eq, List.length_zip]
              omega
          · intro hnone
            rw [hns, htl] at hnone
            cases hnone
  · rintro h6 tk6 m₁ news₁ F6 N6 ⟨od, ep, oF, oL, oP, tab, done, LI⟩
    have hled := LI.led
    subst hled
    replace F6 : Fr g L' h6 _ := F6
    replace N6 : News g L' h6 _ := N6
    have hcL := LI.cL
    have hcP := LI.cP
    k_steps
    rename_i kF kN _ _
    have hfl : fv.length = (flagsF ps).length := hfv.length
    have hdob := LI.dob
    have hlns := LI.lns
    rw [hfl, List.take_length] at hdob hlns
    obtain ⟨tp, htp⟩ : ∃ tp, (40, tabObj tp) ∈ tab := by
      rcases LI.tabS with rfl | ⟨c', oc, vs4, t4, rfl, _⟩
      · exact ⟨_, .head _⟩
      · exact ⟨_, .head _⟩
    have hsub : ∀ q ∈ (d0, od) :: (40, tabObj tp) :: done.map Sq.entry, q ∈ (V, listOf fv.toArray 0) :: (d0, od) :: (L' + 1 + 1 + 1, oF) :: (L' + 1 + 1, oL) :: (L' + 1, oP) :: (tab ++ done.map Sq.entry) := fun q hq => by
      rcases List.mem_cons.mp hq with rfl | hq
      · exact .tail _ (.head _)
      rcases List.mem_cons.mp hq with rfl | hq
      · exact .tail _ (.tail _ (.tail _ (.tail _ (.tail _ (List.mem_append_left _ htp)))))
      · exact .tail _ (.tail _ (.tail _ (.tail _ (.tail _ (List.mem_append_right _ hq)))))
    have hR := rest_back (need' := (d0, od) :: (40, tabObj tp) :: done.map Sq.entry) hg NR (fun p hp q hq e => h40 q hq (by rw [List.mem_singleton.mp hp] at e; exact e.symm)) F6 (newsSub N6 hsub) (newsSub kN hsub)
    exact ret d0 od ep done tp h6 _ kF hR.1 hR.2 hsm hdob hlns LI.hint
end

section
section
variable {w : World} {p : Program} {loose : List Str} {mean : ExcName → Option Value} {mg mb : Str → Option Value} {dp un : Nat} {gd : Option (List Code)} {cn : Str} {cs : Scope} {a : Addr} {ccd : Value} {cl : List (Str × Addr)} {outer : List Env} {A₀ : Around} {base h₀ : Heap} {L : Addr} {m : Str → Option Value} {s : Shared} {rest : Led} {Q E : Value → Shared → Prop}
theorem row_call {l : Addr} {vs : List Value} {n : Nat} {ps : List Int} (B : Below A₀ base outer h₀) (F : Fr h₀ L s.heap m) (X : (hd.heap_39 w.params).In h₀) (T : Top p loose mean mg mb h₀) (hk : cs.kind = .function) (NR : News h₀ L s.heap rest)
    (hlm : (l, listOf vs.toArray n) ∈ rest) (hi : IntsAre vs ps) (hr : ∀ x ∈ ps, 0 ≤ x ∧ x < 60) (hln : ps.length ≤ 4) (hdp : dp + 1 < recursionLimit) (hun : un + 8 < cLine)
    (ret : ∀ a rs n h' tk', Fr h₀ L h' m → News h₀ L h' ((a, listOf rs.toArray n) :: rest) → (∀ q ∈ rest, a ≠ q.1) → IntsAre rs (rowF ps [0]) → Q (.ref a) { s with heap := h', toks := tk' }) :
    wpAny (model PySem.Challenge.rw_mr0037_01.row.prog w) (ktrTop dp un gd cn cs L a ccd cl outer) (call (.ref 38) [.ref l]) Q E s := by
  have h := row_spec (w := w) (p := p) (loose := loose) (mean := mean) (mg := mg) (mb := mb) l vs n ps hi hr hln
  unfold Con at h
  refine h _ _ _ _ _ _ _ _ _ _ _ _ _ _ _ rest _ _ B F X T hk News.nil NR (fun _ h => nomatch h) (fun q hq => ?_) hdp hun ?_
  · rw [List.mem_singleton.mp hq]
    exact ⟨(NR _ hlm).1, fun _ h => nomatch h⟩
  · rintro r need' h' tk' F' N' off _ ⟨a, rs, n, rfl, rfl, hrs⟩
    exact ret a rs n h' tk' F' N' (fun q hq => off _ (.head _) q hq) hrs
theorem sb_call {n : Int} {t : Tok} (B : Below A₀ base outer h₀) (F : Fr h₀ L s.heap m) (X : (hd.heap_39 w.params).In h₀) (T : Top p loose mean mg mb h₀) (hk : cs.kind = .function) (NR : News h₀ L s.heap rest)
    (hdp : dp + 1 < recursionLimit) (hun : un + 8 < cLine)
    (ret : ∀ h' tk', Fr h₀ L h' m → News h₀ L h' rest → Q (.bool (sbF n)) { s with heap := h', toks := tk' }) :
    wpAny (model PySem.Challenge.rw_mr0037_01.row.prog w) (ktrTop dp un gd cn cs L a ccd cl outer) (call (.ref 26) [.int n t]) Q E s := by
  have h := sb_spec (w := w) (p := p) (loose := loose) (mean := mean) (mg := mg) (mb := mb) n t
  unfold Con at h
  refine h _ _ _ _ _ _ _ _ _ _ _ _ _ _ _ rest _ _ B F X T hk News.nil NR (fun _ h => nomatch h) (fun _ h => nomatch h) hdp hun ?_
  rintro r need' h' tk' F' N' off _ ⟨rfl, rfl⟩
  exact ret h' tk' F' N'
end
end

section
/-! the plain law: bits -/
theorem add_xor_and (a b : Nat) : a + b = (a ^^^ b) + 2 * (a &&& b) := by
  induction a using Nat.strongRecOn generalizing b with
  | ind a ih =>
    by_cases h : a = 0
    · subst h; simp
    · have h1 := ih (a / 2) (by omega) (b / 2)
      have h2 : (a ^^^ b) / 2 = a / 2 ^^^ b / 2 := Nat.xor_div_two
      have h3 : (a &&& b) / 2 = a / 2 &&& b / 2 := Nat.and_div_two
      have h4 : ((a ^^^ b) % 2 = 1) ↔ ¬ ((a % 2 = 1) ↔ (b % 2 = 1)) := Nat.xor_mod_two_eq_one
      have h5 : (a &&& b) % 2 = 1 ↔ a % 2 = 1 ∧ b % 2 = 1 := Nat.and_mod_two_eq_one
      rw [← h2, ← h3] at h1
      omega
theorem add_pow_xor {x k : Nat} (h : x.testBit k = false) : x + 2 ^ k = x ^^^ 2 ^ k := by
  have h1 : x &&& 2 ^ k = 0 := by
    refine Nat.eq_of_testBit_eq fun i => ?_
    rw [Nat.testBit_and, Nat.testBit_two_pow, Nat.zero_testBit]
    by_cases e : k = i
    · subst e; rw [h]; rfl
    · simp [e]
  rw [add_xor_and, h1]; simp
def phi : List Nat → Nat → Nat → Nat
  | [], _, _ => 0
  | p :: ps, i, c => (if c.testBit i then 2 ^ p else 0) ||| phi ps (i + 1) c
theorem phi_bit : ∀ (ps : List Nat) (i c k : Nat), (phi ps i c).testBit k = true ↔ ∃ j, ps[j]? = some k ∧ c.testBit (i + j) = true
  | [], i, c, k => by simp [phi]
  | p :: ps, i, c, k => by
    rw [phi, Nat.testBit_or, Bool.or_eq_true, phi_bit ps]
    constructor
    · rintro (h | ⟨j, h1, h2⟩)
      · refine ⟨0, ?_, ?_⟩ <;> split at h
        · rw [Nat.testBit_two_pow] at h; simpa using h
        · simp at h
        · assumption
        · simp at h
      · exact ⟨j + 1, by simpa using h1, by rw [← h2]; congr 1; omega⟩
    · rintro ⟨j, h1, h2⟩
      cases j with
      | zero =>
        left
        rw [if_pos (by simpa using h2), Nat.testBit_two_pow]
        simpa using h1
      | succ j => exact .inr ⟨j, by simpa using h1, by rw [← h2]; congr 1; omega⟩
section
variable {ps : List Nat} (nd : ps.Nodup)
include nd
theorem nd_at {i j k : Nat} (h1 : ps[i]? = some k) (h2 : ps[j]? = some k) : i = j := by
  obtain ⟨hi, e1⟩ := List.getElem?_eq_some_iff.mp h1
  obtain ⟨hj, e2⟩ := List.getElem?_eq_some_iff.mp h2
  exact (List.getElem_inj nd).mp (e1.trans e2.symm)
theorem phi_at {j k : Nat} (c : Nat) (h : ps[j]? = some k) : (phi ps 0 c).testBit k = c.testBit j := by
  rw [Bool.eq_iff_iff, phi_bit]
  constructor
  · rintro ⟨j', h1, h2⟩
    rw [nd_at nd h h1]; simpa using h2
  · intro h2
    exact ⟨j, h, by simpa using h2⟩
omit nd in
theorem phi_off {k : Nat} (c : Nat) (h : k ∉ ps) : (phi ps 0 c).testBit k = false := by
  rw [← Bool.not_eq_true, phi_bit]
  rintro ⟨j, h1, _⟩
  exact h (List.mem_of_getElem? h1)
theorem phi_xor (c d : Nat) : phi ps 0 (c ^^^ d) = phi ps 0 c ^^^ phi ps 0 d := by
  refine Nat.eq_of_testBit_eq fun k => ?_
  by_cases h : k ∈ ps
  · obtain ⟨j, hj⟩ := List.mem_iff_getElem?.mp h
    rw [Nat.testBit_xor, phi_at nd _ hj, phi_at nd _ hj, phi_at nd _ hj, Nat.testBit_xor]
  · rw [Nat.testBit_xor, phi_off _ h, phi_off _ h, phi_off _ h]; rfl
theorem phi_and (c d : Nat) : phi ps 0 (c &&& d) = phi ps 0 c &&& phi ps 0 d := by
  refine Nat.eq_of_testBit_eq fun k => ?_
  by_cases h : k ∈ ps
  · obtain ⟨j, hj⟩ := List.mem_iff_getElem?.mp h
    rw [Nat.testBit_and, phi_at nd _ hj, phi_at nd _ hj, phi_at nd _ hj, Nat.testBit_and]
  · rw [Nat.testBit_and, phi_off _ h, phi_off _ h, phi_off _ h]; rfl
theorem phi_pow {j k : Nat} (hj : ps[j]? = some k) : phi ps 0 (2 ^ j) = 2 ^ k := by
  refine Nat.eq_of_testBit_eq fun t => ?_
  by_cases h : t ∈ ps
  · obtain ⟨i, hi⟩ := List.mem_iff_getElem?.mp h
    rw [phi_at nd _ hi, Nat.testBit_two_pow, Nat.testBit_two_pow]
    refine decide_eq_decide.mpr ⟨fun e => ?_, fun e => ?_⟩
    · subst e; rw [hj] at hi; exact Option.some.inj hi
    · subst e; exact nd_at nd hj hi
  · rw [phi_off _ h, Nat.testBit_two_pow]
    refine (decide_eq_false fun e => h ?_).symm
    subst e; exact List.mem_of_getElem? hj
theorem phi_inj {c d : Nat} (hc : c < 2 ^ ps.length) (hd : d < 2 ^ ps.length) (h : phi ps 0 c = phi ps 0 d) : c = d := by
  refine Nat.eq_of_testBit_eq fun j => ?_
  by_cases hj : j < ps.length
  · have hk : ps[j]? = some ps[j] := List.getElem?_eq_getElem hj
    rw [← phi_at nd c hk, ← phi_at nd d hk, h]
  · have hl : 2 ^ ps.length ≤ 2 ^ j := Nat.pow_le_pow_right (by decide) (by omega)
    rw [Nat.testBit_lt_two_pow (Nat.lt_of_lt_of_le hc hl), Nat.testBit_lt_two_pow (Nat.lt_of_lt_of_le hd hl)]
theorem phi_add {x j k : Nat} (hj : ps[j]? = some k) (h : x.testBit j = false) : phi ps 0 (x + 2 ^ j) = phi ps 0 x + 2 ^ k := by
  rw [add_pow_xor h, phi_xor nd, phi_pow nd hj, add_pow_xor (by rw [phi_at nd _ hj]; exact h)]
end
theorem bitAnd_cast (a b : Nat) : Builtin.bitAnd (a : Int) (b : Int) = ((a &&& b : Nat) : Int) := by
  rw [bitAnd_pp (by omega) (by omega)]; rfl
theorem bitXor_cast (a b : Nat) : Builtin.bitXor (a : Int) (b : Int) = ((a ^^^ b : Nat) : Int) := by
  rw [bitXor_and, bitAnd_cast]
  have := add_xor_and a b
  omega
theorem sb_pow (x : Nat) : sbF (x : Int) = true ↔ ∃ k, x = 2 ^ k := by
  unfold sbF
  by_cases h0 : x = 0
  · subst h0
    simp
    intro k e
    have := Nat.two_pow_pos k
    omega
  · rw [if_neg (by omega), show (x : Int) - 1 = ((x - 1 : Nat) : Int) by omega, bitAnd_cast, beq_iff_eq]
    constructor
    · intro h
      refine ⟨x.log2, ?_⟩
      have h1 : 2 ^ x.log2 ≤ x := Nat.log2_self_le h0
      have h2 : x < 2 ^ (x.log2 + 1) := Nat.lt_log2_self
      by_cases e : x = 2 ^ x.log2
      · exact e
      · have h3 := Nat.testBit_log2 h0
        have h4 : (x - 1).testBit x.log2 = true := Nat.testBit_of_two_pow_le_and_two_pow_add_one_gt (by omega) (by omega)
        have h5 : (x &&& (x - 1)).testBit x.log2 = true := by rw [Nat.testBit_and, h3, h4]; rfl
        rw [show x &&& (x - 1) = 0 by omega] at h5
        simp at h5
    · rintro ⟨k, rfl⟩
      have : 2 ^ k &&& (2 ^ k - 1) = 0 := by
        refine Nat.eq_of_testBit_eq fun i => ?_
        rw [Nat.testBit_and, Nat.testBit_two_pow, Nat.testBit_two_pow_sub_one, Nat.zero_testBit]
        by_cases e : k = i
        · subst e; simp
        · simp [e]
      omega
theorem bits_pow (k : Nat) : (Builtin.Int.intBits ((2 ^ k : Nat) : Int) : Int) - 1 = k := by
  unfold Builtin.Int.intBits
  have := Nat.two_pow_pos k
  have h : ((((2 ^ k : Nat) : Int)) == 0) = false := by
    refine beq_eq_false_iff_ne.mpr ?_; omega
  rw [h]
  simp only [Bool.false_eq_true, if_false, Int.natAbs_natCast, Nat.log2_two_pow]
  omega
theorem sb_phi {ps : List Nat} (nd : ps.Nodup) {c : Nat} (hc : c < 2 ^ ps.length) : sbF (phi ps 0 c : Int) = sbF (c : Int) := by
  rw [Bool.eq_iff_iff, sb_pow, sb_pow]
  constructor
  · rintro ⟨k, h⟩
    have h1 : (phi ps 0 c).testBit k = true := by rw [h, Nat.testBit_two_pow]; simp
    obtain ⟨j, hj, _⟩ := (phi_bit _ _ _ _).mp h1
    have hjl : j < ps.length := (List.getElem?_eq_some_iff.mp hj).1
    exact ⟨j, phi_inj nd hc (Nat.pow_lt_pow_right (by decide) hjl) (h.trans (phi_pow nd hj).symm)⟩
  · rintro ⟨j, rfl⟩
    have hjl : j < ps.length := (Nat.pow_lt_pow_iff_right (by decide)).mp hc
    exact ⟨ps[j], phi_pow nd (List.getElem?_eq_getElem hjl)⟩
theorem below_phi {ps : List Nat} (nd : ps.Nodup) {c d : Nat} (hc : c < 2 ^ ps.length) (hd : d < 2 ^ ps.length) : isBelow (phi ps 0 c : Int) (phi ps 0 d : Int) = isBelow (c : Int) (d : Int) := by
  unfold isBelow
  rw [bitAnd_cast, bitXor_cast, bitAnd_cast, bitXor_cast, ← phi_and nd, ← phi_xor nd, sb_phi nd (Nat.xor_lt_two_pow hd hc)]
  congr 1
  rw [Bool.eq_iff_iff, beq_iff_eq, beq_iff_eq]
  constructor
  · intro h
    rw [phi_inj nd (Nat.and_lt_two_pow _ hc) hd (by omega)]
  · intro h
    rw [show d &&& c = d by omega]
theorem key_phi {ps : List Nat} (nd : ps.Nodup) {c d : Nat} (hc : c < 2 ^ ps.length) (hd : d < 2 ^ ps.length) (h : isBelow (c : Int) (d : Int) = true) :
    ∃ k, ps[(d ^^^ c).log2]? = some k ∧ (Builtin.Int.intBits (Builtin.bitXor (phi ps 0 d : Int) (phi ps 0 c : Int)) : Int) - 1 = k := by
  unfold isBelow at h
  rw [Bool.and_eq_true, bitXor_cast, sb_pow] at h
  obtain ⟨_, j, hj⟩ := h
  have hx : d ^^^ c < 2 ^ ps.length := Nat.xor_lt_two_pow hd hc
  rw [hj] at hx
  have hjl : j < ps.length := (Nat.pow_lt_pow_iff_right (by decide)).mp hx
  have hk : ps[j]? = some ps[j] := List.getElem?_eq_getElem hjl
  refine ⟨ps[j], ?_, ?_⟩
  · rw [hj, Nat.log2_two_pow, hk]
  · rw [bitXor_cast, ← phi_xor nd, hj, phi_pow nd hk]
    exact bits_pow _
end

section
/-! the plain law: rows as codes -/
def rowN : List Nat → List Nat → List Nat
  | [], r => r
  | i :: is, r => rowN is (r.map (· + 2 ^ i) ++ r)
def ph (ps : List Nat) (c : Nat) : Int := (phi ps 0 c : Int)
def pl (ps : List Nat) (i : Nat) : Int := ((ps.getD i 0 : Nat) : Int)
theorem row_codes {ps : List Nat} (nd : ps.Nodup) : ∀ (is r : List Nat), is.Nodup → (∀ i ∈ is, i < ps.length) → (∀ x ∈ r, ∀ i ∈ is, x.testBit i = false) → rowF (is.map (pl ps)) (r.map (ph ps)) = (rowN is r).map (ph ps)
  | [], r, _, _, _ => rfl
  | i :: is, r, hn, hl, hb => by
    rw [List.map_cons, rowF, rowN]
    rw [List.nodup_cons] at hn
    have hi : ps[i]? = some (ps.getD i 0) := by
      rw [List.getD_eq_getElem?_getD, List.getElem?_eq_getElem (hl i (.head _))]; rfl
    have e : ((r.map (ph ps)).map (· + 2 ^ (pl ps i).toNat) ++ r.map (ph ps)) = (r.map (· + 2 ^ i) ++ r).map (ph ps) := by
      rw [List.map_append, List.map_map, List.map_map]
      congr 1
      refine List.map_congr_left fun x hx => ?_
      show (phi ps 0 x : Int) + 2 ^ (pl ps i).toNat = (phi ps 0 (x + 2 ^ i) : Int)
      rw [phi_add nd hi (hb x hx i (.head _))]
      simp [pl]
    rw [e]
    refine row_codes nd is _ hn.2 (fun j hj => hl j (.tail _ hj)) fun x hx j hj => ?_
    rcases List.mem_append.mp hx with hx | hx
    · obtain ⟨y, hy, rfl⟩ := List.mem_map.mp hx
      rw [add_pow_xor (hb y hy i (.head _)), Nat.testBit_xor, hb y hy j (.tail _ hj), Nat.testBit_two_pow]
      have : i ≠ j := fun e => hn.1 (e ▸ hj)
      simp [this]
    · exact hb x hx j (.tail _ hj)
theorem ph_zero (ps : List Nat) : ph ps 0 = 0 := by
  unfold ph
  have : phi ps 0 0 = 0 := by
    refine Nat.eq_of_testBit_eq fun k => ?_
    rw [Nat.zero_testBit, ← Bool.not_eq_true, phi_bit]
    rintro ⟨j, _, h⟩
    simp at h
  rw [this]; rfl
theorem ints_pl (ps : List Nat) : ps.map (fun k : Nat => (k : Int)) = (List.range ps.length).map (pl ps) := by
  refine List.ext_getElem (by simp) fun i h1 h2 => ?_
  simp only [List.getElem_map, List.getElem_range, pl]
  rw [List.getD_eq_getElem?_getD, List.getElem?_eq_getElem (by simpa using h1)]; rfl
abbrev inz (ps : List Nat) : List Int := ps.map (fun k : Nat => (k : Int))
theorem rowN_full : ∀ n < 5, (rowN (List.range n) [0]).reverse = List.range (2 ^ n) := by decide +kernel
theorem flags_codes {ps : List Nat} (nd : ps.Nodup) (hl : ps.length < 5) : flagsF (inz ps) = (List.range (2 ^ ps.length)).map (ph ps) := by
  have h := row_codes nd (List.range ps.length) [0] List.nodup_range (fun i hi => List.mem_range.mp hi) (fun x hx i _ => by rw [List.mem_singleton.mp hx]; simp)
  rw [List.map_singleton, ph_zero, ← ints_pl] at h
  unfold flagsF
  rw [h, ← List.map_reverse, rowN_full _ hl]
def wN (n c : Nat) : List Nat := (List.range n).filter fun i => c.testBit i
theorem within_codes {ps : List Nat} (nd : ps.Nodup) (c : Nat) : withinF (inz ps) (ph ps c) = (wN ps.length c).map (pl ps) := by
  unfold withinF wN
  rw [show inz ps = _ from ints_pl ps, List.filter_map]
  congr 1
  refine List.filter_congr fun i hi => ?_
  have hk : ps[i]? = some (ps.getD i 0) := by
    rw [List.getD_eq_getElem?_getD, List.getElem?_eq_getElem (List.mem_range.mp hi)]; rfl
  rw [← phi_at nd c hk, Nat.testBit_eq_decide_div_mod_eq]
  show decide ((phi ps 0 c : Int) / 2 ^ ((ps.getD i 0 : Nat) : Int).toNat % 2 = 1) = _
  rw [Int.toNat_natCast]
  refine decide_eq_decide.mpr ?_
  have : ((2 : Int) ^ (ps.getD i 0)) = ((2 ^ (ps.getD i 0) : Nat) : Int) := by simp
  rw [this]
  omega
def lineN (n c : Nat) : List Nat := rowN (wN n c) [0]
theorem line_codes {ps : List Nat} (nd : ps.Nodup) (c : Nat) : lineF (inz ps) (ph ps c) = (lineN ps.length c).map (ph ps) := by
  unfold lineF lineN
  rw [within_codes nd]
  have h := row_codes nd (wN ps.length c) [0] (List.Pairwise.filter _ List.nodup_range) (fun i hi => List.mem_range.mp (List.mem_filter.mp hi).1) (fun x hx i _ => by rw [List.mem_singleton.mp hx]; simp)
  rw [List.map_singleton, ph_zero] at h
  exact h
theorem ph_inj {ps : List Nat} (nd : ps.Nodup) {c d : Nat} (hc : c < 2 ^ ps.length) (hd : d < 2 ^ ps.length) (h : ph ps c = ph ps d) : c = d := phi_inj nd hc hd (Int.ofNat.inj h)
theorem flags_nodup {ps : List Nat} (nd : ps.Nodup) (hl : ps.length < 5) : (flagsF (inz ps)).Nodup := by
  rw [flags_codes nd hl]
  exact nodup_map_on (fun a ha b hb e => ph_inj nd (List.mem_range.mp ha) (List.mem_range.mp hb) e) List.nodup_range
/-! c3 and injective maps -/
section
variable {f : Int → Int} {P : Int → Prop} (hf : ∀ x y, P x → P y → f x = f y → x = y)
include hf
theorem contains_map {h : Int} (hh : P h) : ∀ {l : List Int}, (∀ x ∈ l, P x) → (l.map f).contains (f h) = l.contains h
  | [], _ => rfl
  | a :: l, hl => by
    rw [List.map_cons, List.contains_cons, List.contains_cons, contains_map hh fun x hx => hl x (.tail _ hx)]
    congr 1
    rw [Bool.eq_iff_iff, beq_iff_eq, beq_iff_eq]
    exact ⟨fun e => hf _ _ hh (hl a (.head _)) e, fun e => by rw [e]⟩
theorem pick_map {all : List (List Int)} (ha : ∀ s ∈ all, ∀ x ∈ s, P x) : ∀ {l : List (List Int)}, (∀ s ∈ l, ∀ x ∈ s, P x) → pick (all.map (List.map f)) (l.map (List.map f)) = (pick all l).map f
  | [], _ => rfl
  | [] :: r, hl => by
    rw [List.map_cons, List.map_nil, pick, pick]
    exact pick_map ha fun s hs => hl s (.tail _ hs)
  | (h :: t) :: r, hl => by
    rw [List.map_cons, List.map_cons, pick, pick]
    have e : (all.map (List.map f)).all (fun s => !s.tail.contains (f h)) = all.all (fun s => !s.tail.contains h) := by
      rw [List.all_map, Bool.eq_iff_iff, List.all_eq_true, List.all_eq_true]
      refine forall_congr' fun s => forall_congr' fun hs => ?_
      show (!(s.map f).tail.contains (f h)) = true ↔ _
      rw [← List.map_tail, contains_map hf (hl _ (.head _) h (.head _)) fun x hx => ha s hs x (List.mem_of_mem_tail hx)]
    rw [e]
    split
    · rfl
    · exact pick_map ha fun s hs => hl s (.tail _ hs)
theorem dropC_map {c : Int} (hc : P c) {s : List Int} (hs : ∀ x ∈ s, P x) : dropC (f c) (s.map f) = (dropC c s).map f := by
  unfold dropC
  cases s with
  | nil => rfl
  | cons a t =>
    by_cases h : a = c
    · subst h; simp
    · have : f a ≠ f c := fun e => h (hf _ _ (hs a (.head _)) hc e)
      simp [h, this]
omit hf in
theorem dropC_sub {c : Int} {s : List Int} {x : Int} (h : x ∈ dropC c s) : x ∈ s := by
  unfold dropC at h
  split at h
  · exact List.mem_of_mem_tail h
  · exact h
theorem c3_map : ∀ (k : Nat) (seqs : List (List Int)), (∀ s ∈ seqs, ∀ x ∈ s, P x) → c3 k (seqs.map (List.map f)) = (c3 k seqs).map (List.map f)
  | 0, _, _ => rfl
  | k + 1, seqs, hs => by
    have e : (seqs.map (List.map f)).filter (fun s => !s.isEmpty) = (seqs.filter (fun s => !s.isEmpty)).map (List.map f) := by
      rw [List.filter_map]
      congr 1
      refine List.filter_congr fun s _ => ?_
      cases s <;> rfl
    unfold c3
    simp only [e]
    generalize hss : seqs.filter (fun s => !s.isEmpty) = ss
    have hP : ∀ s ∈ ss, ∀ x ∈ s, P x := fun s h => hs s (List.mem_filter.mp (hss ▸ h)).1
    rw [List.isEmpty_map]
    split
    · rfl
    · rw [pick_map hf hP hP]
      cases hp : pick ss ss with
      | none => rfl
      | some c =>
        obtain ⟨s, h1, h2⟩ := pick_head hp
        have hc : P c := hP s h1 c (List.mem_of_head? h2)
        simp only [Option.map_some]
        have e2 : (ss.map (List.map f)).map (dropC (f c)) = (ss.map (dropC c)).map (List.map f) := by
          rw [List.map_map, List.map_map]
          exact List.map_congr_left fun s hs => dropC_map hf hc (hP s hs)
        rw [e2, c3_map k]
        · cases c3 k (ss.map (dropC c)) <;> rfl
        · intro s hs x hx
          obtain ⟨s', hs', rfl⟩ := List.mem_map.mp hs
          exact hP s' hs' x (dropC_sub hx)
end
/-- two lists of the same things, each once -/
theorem c3_two : ∀ (a b : List Int) (k : Nat), a.length < k → a.Nodup → b.Nodup → a.Perm b → c3 k [a, b] = if a = b then some a else none
  | [], b, k, hk, _, _, hp => by
    cases k with
    | zero => exact absurd hk (by simp)
    | succ k =>
      rw [List.nil_perm.mp hp]; rfl
  | x :: a, b, k, hk, hna, hnb, hp => by
    cases b with
    | nil => exact absurd (List.perm_nil.mp hp) (by simp)
    | cons y b =>
      cases k with
      | zero => exact absurd hk (by simp)
      | succ k =>
        rw [List.nodup_cons] at hna hnb
        unfold c3
        simp only [List.filter_cons, List.isEmpty_cons, Bool.not_false, if_true, List.filter_nil, Bool.false_eq_true, if_false]
        by_cases e : x = y
        · subst e
          have h1 : a.contains x = false := by simpa using hna.1
          have h2 : b.contains x = false := by simpa using hnb.1
          have hpk : pick [x :: a, x :: b] [x :: a, x :: b] = some x := by
            rw [pick, if_pos]
            simp [hna.1, hnb.1]
          rw [hpk]
          simp only [List.map_cons, List.map_nil, dropC, List.head?_cons, if_true, List.tail_cons]
          rw [c3_two a b k (by simpa using hk) hna.2 hnb.2 (List.Perm.cons_inv hp)]
          by_cases e : a = b
          · subst e; simp
          · simp [e]
        · have hx : x ∈ b := by
            rcases List.mem_cons.mp (hp.mem_iff.mp (.head _)) with h | h
            · exact absurd h e
            · exact h
          have hy : y ∈ a := by
            rcases List.mem_cons.mp (hp.mem_iff.mpr (.head _)) with h | h
            · exact absurd h.symm e
            · exact h
          have hpk : pick [x :: a, y :: b] [x :: a, y :: b] = none := by
            rw [pick, if_neg (by simp [hx]), pick, if_neg (by simp [hy]), pick]
          rw [hpk]
          simp [e]
end

section
/-! the plain law: the finite part, on codes -/
def belN (c : Nat) : List Nat := (List.range c).filter fun d => isBelow (c : Int) (d : Int)
def basN (n c : Nat) : List Nat := (wN n c).map fun i => c - 2 ^ i
abbrev zs (l : List Nat) : List Int := l.map (fun k : Nat => (k : Int))
theorem fin_sb : ∀ n : Nat, n < 5 → ∀ c : Nat, c < 2 ^ n → sbF (c : Int) = decide ((wN n c).length = 1) := by decide +kernel
theorem fin_perm : ∀ n < 5, ∀ c < 2 ^ n, (basN n c).Perm (belN c) := by decide +kernel
theorem fin_sort : ∀ n < 5, ∀ c < 2 ^ n, (basN n c).Pairwise (fun x y => (x ^^^ c).log2 ≤ (y ^^^ c).log2) := by decide +kernel
theorem fin_inj : ∀ n < 5, ∀ c < 2 ^ n, ∀ x ∈ belN c, ∀ y ∈ belN c, (x ^^^ c).log2 = (y ^^^ c).log2 → x = y := by decide +kernel
theorem fin_lt : ∀ n < 5, ∀ c < 2 ^ n, ∀ x ∈ lineN n c, x < 2 ^ n := by decide +kernel
theorem fin_c3 : ∀ n < 5, ∀ c < 2 ^ n, c3 1000 ((basN n c).map (fun d => zs (lineN n d)) ++ [zs (basN n c)]) = some (zs (lineN n c)).tail := by decide +kernel
theorem fin_head : ∀ n < 5, ∀ c < 2 ^ n, lineN n c = c :: (lineN n c).tail := by decide +kernel
end

section
section
variable {ps : List Nat} (nd : ps.Nodup) (hl : ps.length < 5)
include nd hl
theorem flag_at {i : Nat} {flag : Int} (h : (flagsF (inz ps))[i]? = some flag) : i < 2 ^ ps.length ∧ flag = ph ps i := by
  rw [flags_codes nd hl, List.getElem?_map] at h
  cases hq : (List.range (2 ^ ps.length))[i]? with
  | none => rw [hq] at h; cases h
  | some c =>
    rw [hq] at h
    obtain ⟨h1, h2⟩ := List.getElem?_eq_some_iff.mp hq
    rw [List.getElem_range] at h2
    subst h2
    exact ⟨by simpa using h1, (Option.some.inj h).symm⟩
theorem take_codes {i : Nat} (h : i < 2 ^ ps.length) : (flagsF (inz ps)).take i = (List.range i).map (ph ps) := by
  rw [flags_codes nd hl, ← List.map_take, List.take_range, Nat.min_eq_left (Nat.le_of_lt h)]
theorem below_codes {i : Nat} (h : i < 2 ^ ps.length) : ((flagsF (inz ps)).take i).filter (isBelow (ph ps i)) = (belN i).map (ph ps) := by
  rw [take_codes nd hl h, List.filter_map]
  congr 1
  refine List.filter_congr fun d hd => ?_
  have hd := List.mem_range.mp hd
  exact below_phi nd h (by omega)
omit hl in
theorem key_codes {c d : Nat} (hc : c < 2 ^ ps.length) (hd : d < 2 ^ ps.length) (h : isBelow (c : Int) (d : Int) = true) : keyF (inz ps) (ph ps c) (ph ps d) = ((d ^^^ c).log2 : Nat) := by
  obtain ⟨k, h1, h2⟩ := key_phi nd hc hd h
  unfold keyF ph
  rw [h2]
  congr 1
  obtain ⟨hj, e⟩ := List.getElem?_eq_some_iff.mp h1
  have ndz : (inz ps).Nodup := nodup_map_on (fun a _ b _ e => Int.ofNat.inj e) nd
  have hj' : (d ^^^ c).log2 < (inz ps).length := by simpa using hj
  have := List.Nodup.idxOf_getElem ndz _ hj'
  rw [← e]
  simpa using this
theorem step_codes {i : Nat} (h : i < 2 ^ ps.length) {bs : List Int} (hp : bs.Perm ((belN i).map (ph ps))) (hs : bs.Pairwise (fun x y => keyF (inz ps) (ph ps i) x ≤ keyF (inz ps) (ph ps i) y)) : bs = (basN ps.length i).map (ph ps) := by
  have hb : ∀ d ∈ belN i, d < 2 ^ ps.length ∧ isBelow (i : Int) (d : Int) = true := fun d hd => by
    obtain ⟨h1, h2⟩ := List.mem_filter.mp hd
    have := List.mem_range.mp h1
    exact ⟨by omega, h2⟩
  have hP := fin_perm _ hl i h
  refine List.Perm.eq_of_pairwise (le := fun x y => keyF (inz ps) (ph ps i) x ≤ keyF (inz ps) (ph ps i) y) (fun x y hx hy h1 h2 => ?_) hs ?_ (hp.trans (hP.map _).symm)
  · obtain ⟨d, hd, rfl⟩ := List.mem_map.mp (hp.mem_iff.mp hx)
    obtain ⟨e, he, rfl⟩ := List.mem_map.mp hy
    have he := hP.mem_iff.mp he
    rw [key_codes nd h (hb d hd).1 (hb d hd).2, key_codes nd h (hb e he).1 (hb e he).2] at h1 h2
    rw [fin_inj _ hl i h d hd e he (by omega)]
  · rw [List.pairwise_map]
    refine List.Pairwise.imp_of_mem (fun {d e} hd he hle => ?_) (fin_sort _ hl i h)
    have hd := hP.mem_iff.mp hd
    have he := hP.mem_iff.mp he
    rw [key_codes nd h (hb d hd).1 (hb d hd).2, key_codes nd h (hb e he).1 (hb e he).2]
    omega
theorem c3_codes {i : Nat} (h : i < 2 ^ ps.length) : c3 1000 (((basN ps.length i).map (ph ps)).map (lineF (inz ps)) ++ [(basN ps.length i).map (ph ps)]) = some ((lineN ps.length i).tail.map (ph ps)) := by
  have hP := fin_perm _ hl i h
  have hb : ∀ d ∈ basN ps.length i, d < 2 ^ ps.length := fun d hd => by
    have := List.mem_range.mp (List.mem_filter.mp (hP.mem_iff.mp hd)).1
    omega
  have e : ((basN ps.length i).map (ph ps)).map (lineF (inz ps)) ++ [(basN ps.length i).map (ph ps)] = ((basN ps.length i).map (fun d => zs (lineN ps.length d)) ++ [zs (basN ps.length i)]).map (List.map fun x => ph ps x.toNat) := by
    rw [List.map_append, List.map_map, List.map_map, List.map_singleton]
    congr 1
    · refine List.map_congr_left fun d _ => ?_
      show lineF (inz ps) (ph ps d) = (zs (lineN ps.length d)).map _
      rw [line_codes nd, List.map_map]
      rfl
    · rw [List.map_map]; rfl
  rw [e, c3_map (P := fun x => ∃ c : Nat, x = c ∧ c < 2 ^ ps.length), fin_c3 _ hl i h]
  · rw [Option.map_some, ← List.map_tail, List.map_map]; rfl
  · rintro x y ⟨c, rfl, hc⟩ ⟨d, rfl, hd⟩ he
    rw [ph_inj nd hc hd he]
  · intro s hs x hx
    rcases List.mem_append.mp hs with hs | hs
    · obtain ⟨d, hd, rfl⟩ := List.mem_map.mp hs
      obtain ⟨c, hc, rfl⟩ := List.mem_map.mp hx
      exact ⟨c, rfl, fin_lt _ hl d (hb d hd) c hc⟩
    · rw [List.mem_singleton.mp hs] at hx
      obtain ⟨c, hc, rfl⟩ := List.mem_map.mp hx
      exact ⟨c, rfl, hb c hc⟩
theorem law_codes (hr : ∀ k ∈ ps, k < 60) : LawOf (inz ps) where
  rng := fun x hx => by
    obtain ⟨k, hk, rfl⟩ := List.mem_map.mp hx
    have := hr k hk
    omega
  len := by rw [List.length_map]; omega
  nd := flags_nodup nd hl
  idx := fun i flag one hf ho hb => by
    obtain ⟨hi, rfl⟩ := flag_at nd hl hf
    rw [take_codes nd hl hi] at ho
    obtain ⟨d, hd, rfl⟩ := List.mem_map.mp ho
    have hd := List.mem_range.mp hd
    have hd' : d < 2 ^ ps.length := by omega
    have hb' : isBelow (i : Int) (d : Int) = true := by rw [← hb]; exact (below_phi nd hi hd').symm
    obtain ⟨k, h1, h2⟩ := key_phi nd hi hd' hb'
    unfold ph
    rw [h2]
    exact List.mem_map.mpr ⟨k, List.mem_of_getElem? h1, rfl⟩
  sb := fun flag hf => by
    rw [flags_codes nd hl] at hf
    obtain ⟨c, hc, rfl⟩ := List.mem_map.mp hf
    have hc := List.mem_range.mp hc
    rw [within_codes nd, List.length_map, ← fin_sb _ hl c hc]
    exact sb_phi nd hc
  step := fun i flag bs hf hp hs => by
    obtain ⟨hi, rfl⟩ := flag_at nd hl hf
    rw [below_codes nd hl hi] at hp
    have := step_codes nd hl hi hp hs
    subst this
    refine ⟨_, c3_codes nd hl hi, ?_⟩
    rw [line_codes nd]
    conv => rhs; rw [fin_head _ hl i hi]
    rfl
end
theorem inz_of {ps : List Int} (h : ∀ x ∈ ps, 0 ≤ x) : ps = inz (ps.map Int.toNat) := by
  show ps = (ps.map Int.toNat).map (fun k : Nat => (k : Int))
  rw [List.map_map]
  conv => lhs; rw [← List.map_id ps]
  refine List.map_congr_left fun x hx => ?_
  have := h x hx
  show x = (x.toNat : Int)
  omega
theorem toNat_nodup {ps : List Int} (nd : ps.Nodup) (h : ∀ x ∈ ps, 0 ≤ x) : (ps.map Int.toNat).Nodup :=
  nodup_map_on (fun a ha b hb e => by have := h a ha; have := h b hb; omega) nd
theorem law_of {ps : List Int} (nd : ps.Nodup) (hl : ps.length ≤ 4) (hr : ∀ x ∈ ps, 0 ≤ x ∧ x < 60) : LawOf ps := by
  have e := inz_of fun x hx => (hr x hx).1
  rw [e]
  refine law_codes (toNat_nodup nd fun x hx => (hr x hx).1) (by rw [List.length_map]; omega) fun k hk => ?_
  obtain ⟨x, hx, rfl⟩ := List.mem_map.mp hk
  have := hr x hx
  omega
/-! the second merge -/
theorem row_nodup {W : List Int} (nd : W.Nodup) (hl : W.length ≤ 4) (h : ∀ x ∈ W, 0 ≤ x) : (rowF W [0]).Nodup := by
  have e := inz_of h
  have := flags_nodup (toNat_nodup nd h) (by rw [List.length_map]; omega)
  rw [← e] at this
  exact (List.reverse_perm _).nodup_iff.mp this
theorem row_perm {a b : List Int} (h : a.Perm b) : ∀ {r r' : List Int}, r.Perm r' → (rowF a r).Perm (rowF b r') := by
  induction h with
  | nil => exact fun h => h
  | cons x _ ih => exact fun h => ih ((h.map _).append h)
  | swap x y l =>
    intro r r' h
    have hrefl : ∀ (l r r' : List Int), r.Perm r' → (rowF l r).Perm (rowF l r') := by
      intro l
      induction l with
      | nil => exact fun _ _ h => h
      | cons x l ih => exact fun _ _ h => ih _ _ ((h.map _).append h)
    refine hrefl l _ _ ?_
    have e : ∀ r : List Int, (r.map (· + 2 ^ y.toNat)).map (· + 2 ^ x.toNat) = (r.map (· + 2 ^ x.toNat)).map (· + 2 ^ y.toNat) := fun r => by
      rw [List.map_map, List.map_map]
      refine List.map_congr_left fun z _ => ?_
      show z + _ + _ = z + _ + _
      omega
    rw [List.map_append, List.map_append, e, List.append_assoc, List.append_assoc]
    refine (((h.map _).map _)).append ?_
    rw [← List.append_assoc, ← List.append_assoc]
    exact (List.perm_append_comm.trans ((h.map _).append (h.map _))).append h
  | trans _ _ ih1 ih2 => exact fun h => (ih1 h).trans (ih2 (List.Perm.refl _))
theorem row_last (ps : List Int) : ∀ r : List Int, (rowF ps r).getLast? = r.getLast? := by
  induction ps with
  | nil => exact fun _ => rfl
  | cons p ps ih =>
    intro r
    rw [rowF, ih]
    rw [List.getLast?_append, List.getLast?_map]
    cases r.getLast? <;> rfl
theorem row_inj (n : Nat) : ∀ (a b : List Int), a.length = n → b.length = n → (∀ x ∈ a, 0 ≤ x) → (∀ x ∈ b, 0 ≤ x) → rowF a [0] = rowF b [0] → a = b := by
  induction n with
  | zero =>
    intro a b ha hb _ _ _
    rw [List.length_eq_zero_iff.mp ha, List.length_eq_zero_iff.mp hb]
  | succ n ih =>
    intro a b ha hb pa pb h
    have hna : a ≠ [] := by intro e; rw [e] at ha; simp at ha
    have hnb : b ≠ [] := by intro e; rw [e] at hb; simp at hb
    rw [← List.dropLast_concat_getLast hna, ← List.dropLast_concat_getLast hnb] at h ⊢
    have la : a.dropLast.length = n := by rw [List.length_dropLast]; omega
    have lb : b.dropLast.length = n := by rw [List.length_dropLast]; omega
    have xa := pa _ (List.getLast_mem hna)
    have xb := pb _ (List.getLast_mem hnb)
    rw [rowF_snoc, rowF_snoc] at h
    obtain ⟨h1, h2⟩ := List.append_inj h (by rw [List.length_map, List.length_map, rowF_length, rowF_length, la, lb])
    have e := ih _ _ la lb (fun x hx => pa x (List.dropLast_subset _ hx)) (fun x hx => pb x (List.dropLast_subset _ hx)) h2
    rw [e] at h1 ⊢
    congr 1
    have h3 := congrArg List.getLast? h1
    rw [List.getLast?_map, List.getLast?_map, row_last] at h3
    have h4 : (0 : Int) + 2 ^ (a.getLast hna).toNat = 0 + 2 ^ (b.getLast hnb).toNat := Option.some.inj h3
    have h5 : (2 : Nat) ^ (a.getLast hna).toNat = 2 ^ (b.getLast hnb).toNat := by
      have e1 : ((2 : Int) ^ (a.getLast hna).toNat) = ((2 ^ (a.getLast hna).toNat : Nat) : Int) := by simp
      have e2 : ((2 : Int) ^ (b.getLast hnb).toNat) = ((2 ^ (b.getLast hnb).toNat : Nat) : Int) := by simp
      rw [e1, e2] at h4
      omega
    have h6 := (Nat.pow_right_inj (by decide)).mp h5
    congr 1
    omega
theorem merge_law {ps : List Int} (nd : ps.Nodup) (H : LawOf ps) {flag : Int} {srt : List Int} (hp : srt.Perm (withinF ps flag)) : c3 1000 [rowF (withinF ps flag) [0], rowF srt [0]] = if withinF ps flag = srt then some (rowF (withinF ps flag) [0]) else none := by
  have hW : ∀ x ∈ withinF ps flag, 0 ≤ x := fun x hx => (H.rng x (List.mem_filter.mp hx).1).1
  have hS : ∀ x ∈ srt, 0 ≤ x := fun x hx => hW x (hp.mem_iff.mp hx)
  have hWl : (withinF ps flag).length ≤ 4 := Nat.le_trans (List.length_filter_le _ _) H.len
  have hSl : srt.length ≤ 4 := by rw [hp.length_eq]; exact hWl
  have hWn : (withinF ps flag).Nodup := List.Pairwise.filter _ nd
  have hSn : srt.Nodup := hp.nodup_iff.mpr hWn
  have hlen : (rowF (withinF ps flag) [0]).length ≤ 16 := by
    rw [rowF_length]; exact Nat.mul_le_mul_right 1 (Nat.pow_le_pow_right (by decide) hWl)
  rw [c3_two _ _ 1000 (by omega) (row_nodup hWn hWl hW) (row_nodup hSn hSl hS) (row_perm hp.symm (List.Perm.refl _))]
  by_cases e : withinF ps flag = srt
  · rw [if_pos e, if_pos (by rw [e])]
  · rw [if_neg e, if_neg fun h => e (row_inj _ _ _ hp.length_eq.symm rfl hW hS h)]
end

section
def drawStep (ps : List Int) (x : Int) : List Int := if (!(ps.any (· == x.fmod 60)) && decide (ps.length < 4)) = true then ps ++ [x.fmod 60] else ps
def drawF (xs : List Int) : List Int := xs.foldl drawStep []
theorem map1 {m : Str → Option Value} {x1 : Str} {a1 : Option Value} (h1 : m x1 = a1) : m = fun y => if y = x1 then a1 else m y := by
  funext y
  by_cases e1 : y = x1
  · rw [if_pos e1, e1, h1]
  · rw [if_neg e1]
theorem draw_len : ∀ (xs ps : List Int), ps.length ≤ 4 → (xs.foldl drawStep ps).length ≤ 4
  | [], _, h => h
  | x :: r, ps, h => by
    refine draw_len r _ ?_
    rw [drawStep]
    split
    · rename_i hc
      simp only [Bool.and_eq_true, decide_eq_true_eq] at hc
      rw [List.length_append, List.length_singleton]; omega
    · exact h
theorem draw_ok : ∀ (xs ps : List Int), ps.Nodup → (∀ x ∈ ps, 0 ≤ x ∧ x < 60) → (xs.foldl drawStep ps).Nodup ∧ ∀ x ∈ xs.foldl drawStep ps, 0 ≤ x ∧ x < 60
  | [], _, h1, h2 => ⟨h1, h2⟩
  | x :: r, ps, h1, h2 => by
    have h : (drawStep ps x).Nodup ∧ ∀ y ∈ drawStep ps x, 0 ≤ y ∧ y < 60 := by
      rw [drawStep]
      split
      · rename_i hc
        rw [Bool.and_eq_true, Bool.not_eq_true'] at hc
        have hn : x.fmod 60 ∉ ps := fun hm => by
          have h3 : ps.any (· == x.fmod 60) = true := List.any_eq_true.mpr ⟨_, hm, beq_self_eq_true _⟩
          rw [hc.1] at h3
          cases h3
        constructor
        · refine List.nodup_append.mpr ⟨h1, List.nodup_cons.mpr ⟨List.not_mem_nil, List.nodup_nil⟩, fun a ha b hb e => ?_⟩
          rw [List.mem_singleton.mp hb] at e
          exact hn (e ▸ ha)
        · intro y hy
          rcases List.mem_append.mp hy with hy | hy
          · exact h2 y hy
          · rw [List.mem_singleton.mp hy, Int.fmod_eq_emod_of_nonneg _ (by decide)]
            omega
      · exact ⟨h1, h2⟩
    exact draw_ok r _ h.1 h.2
theorem draw_nodup (xs : List Int) : (drawF xs).Nodup := (draw_ok xs [] List.nodup_nil (fun _ h => nomatch h)).1
theorem law_of_draw (xs : List Int) : LawOf (drawF xs) := law_of (draw_nodup xs) (draw_len _ _ (by simp)) (draw_ok xs [] List.nodup_nil (fun _ h => nomatch h)).2
theorem sorted_uniq {a b : List Int} (hp : a.Perm b) (ha : a.Pairwise (· ≤ ·)) (hb : b.Pairwise (· ≤ ·)) : a = b := List.Perm.eq_of_pairwise (le := (· ≤ ·)) (fun _ _ _ _ h1 h2 => Int.le_antisymm h1 h2) ha hb hp
theorem subL_of {b : Led} : ∀ {a : Led}, (∀ q ∈ a, q ∈ b) → SubL a b
  | [], _ => trivial
  | p :: r, h => ⟨h p (.head _), subL_of fun q hq => h q (.tail _ hq)⟩
theorem offW_of {I : Addr} {o : Obj} : ∀ {a : Led}, (∀ q ∈ a, q.1 ≠ I) → OffW [(I, o)] a
  | [], _ => trivial
  | p :: r, h => ⟨⟨.inl (h p (.head _)), trivial⟩, offW_of fun q hq => h q (.tail _ hq)⟩
theorem kv_at {ps fl : List Int} {done : List Sq} {k : Int} {v : Value} (hl : done.map (·.ns) = fl.map (lineF ps)) (h : (k, v) ∈ fl.zip (refs done)) : ∃ c ∈ done, v = .ref c.a ∧ c.ns = lineF ps k ∧ k ∈ fl := by
  obtain ⟨j, hj⟩ := List.mem_iff_getElem?.mp h
  rw [List.getElem?_zip_eq_some] at hj
  obtain ⟨h1, h2⟩ := hj
  obtain ⟨c, hc, e⟩ := refs_at h2
  refine ⟨c, List.mem_of_getElem? hc, e, ?_, List.mem_of_getElem? h1⟩
  have h3 : (done.map (·.ns))[j]? = some c.ns := by rw [List.getElem?_map, hc]; rfl
  rw [hl, List.getElem?_map, h1] at h3
  exact (Option.some.inj h3).symm
theorem law_holds : PySem.Challenge.rw_mr0037_01.Holds := by
  refine hd ?_
  k_go0
  refine wpAny_noRaise ?_
  (all_goals try k_fold)
  repeat' ((fail_if_success (with_reducible show wpAny _ _ (exec (PySem.Stmt.For _ _ _ _ _) _) _ _ _)); (first | (k_unfold; (try dsimp only)) | (k_end; wrow_close) | walk1 | (dsimp only; walk1)))
  rename_i w s0 s1 mg mb G Y fa o pm cd doc ho hcd hg X1 V1 T1 B1 TE TW ns hs hlay0 hL0 hr0 hl2 la lb l vs lc hL ra w1 r0 hI hr1 hc1 hc2 hD h1 tk1 oF dF X0 XX TT KK l0 P0 h2 l1 h3 F3 N3
  generalize hLe : s1.heap.objs.size = L at *
  generalize hge : ghostOf s1.heap [(42, 40)] = g at *
  replace F3 : Fr g L h3 (fun y => if y = Str.ofString "places" then some (.ref P0) else if y = Str.ofString "script" then some (.ref l) else none) := F3
  replace dF : oF.data = .cell none := dF
  clear X0 hcd hD Y G
  refine wpAny_For ?_ (fun _ => rfl)
  repeat' ((fail_if_success (with_reducible show wpAny _ _ (pyIter _) _ _ _)); (first | (k_unfold; (try dsimp only)) | (k_end; wrow_close) | walk1 | (dsimp only; walk1)))
  rename_i D1 ws1 h4 hw1 hC1 hL1 l4 l5 h5 l6 X0 xv h6 F6 N6 hxv l7
  refine pyIter_for (vs := xv) (J := fun i m₁ news₁ => ∃ pv pn, m₁ (Str.ofString "places") = some (.ref P0) ∧ news₁ = [(X0, listOf xv.toArray 0), (P0, listOf pv.toArray pn), (L + 1, oF), (40, tabObj #[])] ∧ IntsAre pv (drawF (List.take i (ns.take 4 ++ ([4, 0, 9] : List Int))))) (news := [(X0, listOf xv.toArray 0), (P0, listOf #[] 0), (L + 1, oF), (40, tabObj #[])]) rfl F6 (newsSub N6 (by kcf_all)) ⟨[], 0, rfl, rfl, by rw [List.take_zero]; exact .nil⟩ ?_ ?_ ?_ PassesOwn.never
  · rintro i m₁ news₁ h₁ ⟨pv, pn, hp, rfl, hpv⟩ F₁ N₁
    exact ⟨_, (N₁ _ (.head _)).1, rfl, _, rfl⟩
  · rintro i v m₁ news₁ h₁ tk₁ I1 o1 hv ⟨pv, pn, hp, rfl, hpv⟩ hIn hoff hoc F₁ N₁
    replace F₁ : Fr g L h₁ _ := F₁
    replace N₁ : News g L h₁ _ := N₁
    rw [map1 hp] at F₁
    obtain ⟨x, t, rfl, hx⟩ := IntsAre.at hxv i v hv
    have d1 : @Ne Nat X0 I1 := hoff _ (.head _)
    have d2 : @Ne Nat P0 I1 := hoff _ (.tail _ (.head _))
    have d3 : @Ne Nat (L + 1) I1 := hoff _ (.tail _ (.tail _ (.head _)))
    have d4 : @Ne Nat 40 I1 := hoff _ (.tail _ (.tail _ (.tail _ (.head _))))
    have hpl : pv.length ≤ 4 := by rw [hpv.length]; exact draw_len _ _ (by simp)
    have htk : List.take (i + 1) (ns.take 4 ++ ([4, 0, 9] : List Int)) = List.take i (ns.take 4 ++ ([4, 0, 9] : List Int)) ++ [x] := by rw [List.take_add_one, hx]; rfl
    have hstep : drawF (List.take (i + 1) (ns.take 4 ++ ([4, 0, 9] : List Int))) = drawStep (drawF (List.take i (ns.take 4 ++ ([4, 0, 9] : List Int)))) x := by
      rw [htk, drawF, List.foldl_append]; rfl
    have hoff' : ∀ pv' pn', ∀ p ∈ ([(X0, listOf xv.toArray 0), (P0, listOf (List.toArray pv') pn'), (L + 1, oF), (40, tabObj #[])] : Led), p.1 ≠ I1 := fun pv' pn' => by
      simp only [List.forall_mem_cons]
      exact ⟨d1, d2, d3, d4, fun _ h => nomatch h⟩
    k_steps
    · rename_i hany
      refine ⟨_, _, _, _, rfl, by assumption, by assumption, hoff' pv pn, pv, pn, rfl, rfl, ?_⟩
      rw [hstep, drawStep, if_neg (by rw [hany]; simp)]
      exact hpv
    · rename_i hany
      refine len_list (News.isList (by assumption) (.tail _ (.tail _ (.head _)))) (by rw [List.size_toArray]; omega) ?_
      rw [List.size_toArray, hpv.length]
      k_steps
      · rename_i hlt hq Fq Nq
        rw [List.push_toArray] at Nq
        refine ⟨_, _, _, _, rfl, Fq, Nq, hoff' _ _, _, _, rfl, rfl, ?_⟩
        rw [hstep, drawStep, if_pos (by rw [hany]; simp; omega)]
        exact IntsAre.append hpv (.cons _ _ .nil)
      · rename_i hlt
        refine ⟨_, _, _, _, rfl, by assumption, by assumption, hoff' pv pn, pv, pn, rfl, rfl, ?_⟩
        rw [hstep, drawStep, if_neg (by rw [hany]; simp; omega)]
        exact hpv
  · rintro h₁ tk₁ m₁ news₁ F₁ N₁ ⟨pv, pn, hp, rfl, hpv⟩
    replace F₁ : Fr g L h₁ _ := F₁
    replace N₁ : News g L h₁ _ := N₁
    rw [map1 hp] at F₁
    repeat' ((fail_if_success (with_reducible show wpAny _ _ (call _ _ _) _ _ _)); (first | (k_unfold; (try dsimp only)) | (k_end; wrow_close) | walk1 | (dsimp only; walk1)))
    rw [hxv.length, List.take_length] at hpv
    have H : LawOf (drawF (ns.take 4 ++ ([4, 0, 9] : List Int))) := law_of_draw _
    have Hn : (drawF (ns.take 4 ++ ([4, 0, 9] : List Int))).Nodup := draw_nodup _
    generalize hps : drawF (ns.take 4 ++ ([4, 0, 9] : List Int)) = ps at *
    refine lines_spec P0 pv pn ps hpv H _ _ _ _ _ _ _ _ _ _ _ _ _ _ _ [(P0, listOf pv.toArray pn), (L + 1, oF)] _ _ KK F₁ XX TT rfl codeHd (newsSub N₁ (by kcf_all)) (newsSub N₁ (by kcf_all)) ?_ (.head _) ?_ ?_ ?_
    · simp only [List.forall_mem_cons]
      refine ⟨neN ?_, neN ?_, fun _ h => nomatch h⟩ <;> omega
    · ktr_room
    · ktr_units
    intro d od ep done tab h7 tk7 F7 N7 off7 hsm7 hD7 hlns hint
    clear N₁ F₁
    repeat' ((fail_if_success (with_reducible show wpAny _ _ (exec (PySem.Stmt.For _ _ _ _ _) _) _ _ _)); (first | (k_unfold; (try dsimp only)) | (k_end; wrow_close) | walk1 | (dsimp only; walk1)))
    rename_i h8 F8 N8
    have N9 : News g L h8 ((L + 1, oF) :: (P0, listOf pv.toArray pn) :: (d, od) :: (40, tabObj tab) :: done.map Sq.entry) := newsSub N8 (fun q hq => by
      rcases List.mem_cons.mp hq with rfl | hq
      · exact .tail _ (.tail _ (List.mem_append_right _ (.tail _ (.head _))))
      rcases List.mem_cons.mp hq with rfl | hq
      · exact .tail _ (.tail _ (List.mem_append_right _ (.head _)))
      rcases List.mem_cons.mp hq with rfl | hq
      · exact .head _
      rcases List.mem_cons.mp hq with rfl | hq
      · exact .tail _ (.head _)
      · exact .tail _ (.tail _ (List.mem_append_left _ hq)))
    have hcellOff : ∀ q ∈ (P0, listOf pv.toArray pn) :: (d, od) :: (40, tabObj tab) :: done.map Sq.entry, q.1 ≠ L + 1 := fun q hq => by
      rcases List.mem_cons.mp hq with rfl | hq
      · exact neN (by omega)
      · exact off7 q hq _ (.tail _ (.head _))
    clear N8
    have hIs := hD7.isDictOf
    refine For_turns F8 ?_
    repeat' ((fail_if_success (with_reducible show wpAny _ _ (pyIter _) _ _ _)); (first | (k_unfold; (try dsimp only)) | (k_end; wrow_close) | walk1 | (dsimp only; walk1)))
    rename_i vw h10 F10 N10 l10
    refine kta_items (knd := intKind _ _) (enc := PyData.int) (xs := ((flagsF ps).zip (refs done)).map fun q => Itm.pair (Value.int q.1) q.2) (news := (L + 1, oF) :: (P0, listOf pv.toArray pn) :: (d, od) :: (40, tabObj tab) :: done.map Sq.entry) rfl F10 (newsSub N10 (fun q hq => .tail _ hq)) ⟨_, (N10 _ (.head _)).1, rfl, rfl⟩ (.tail _ (.tail _ (.head _))) hIs (fun _ _ q => Value.isInt_shape q) rfl ?_
    intro I hI
    have hI1 : @LT.lt Nat _ (L + 1) I := hI _ (.head _)
    have hIall : ∀ q ∈ (P0, listOf pv.toArray pn) :: (d, od) :: (40, tabObj tab) :: done.map Sq.entry, @LT.lt Nat _ q.1 I := fun q hq => hI q (.tail _ hq)
    obtain ⟨kv, hkv⟩ : ∃ kv, kv = (flagsF ps).zip (refs done) := ⟨_, rfl⟩
    have hsub : ∀ x ∈ kv, x ∈ (flagsF ps).zip (refs done) := by rw [hkv]; exact fun _ h => h
    rw [← hkv]
    replace dF : ∃ v, oF.data = .cell v := ⟨_, dF⟩
    generalize hmm : (fun y => if y = Str.ofString "lines" then some (Value.ref d) else if y = Str.ofString "places" then some (Value.ref P0) else m₁ y) = mm
    have hmp : mm (Str.ofString "places") = some (.ref P0) := by rw [← hmm]; rfl
    clear hmm hkv hI N10 F10 N9 F8 l10 off7
    induction kv generalizing mm oF with
    | nil =>
      refine ItemsRest.zero ?_
      intro h11 tk11 F11 N11
      replace F11 : Fr g L h11 _ := F11
      replace N11 : News g L h11 _ := N11
      subst hge
      subst hLe
      k_steps
    | cons kx kv ih =>
      obtain ⟨flag, lv⟩ := kx
      refine ItemsRest.pair ?_
      intro T11 t11 h11 tk11 hT11 F11
      refine AllObj.cons fun o11 ho11 => AllObj.nil ?_
      intro N11
      replace F11 : Fr g L h11 _ := F11
      replace N11 : News g L h11 ((I, o11) :: (L + 1, oF) :: (P0, listOf pv.toArray pn) :: (d, od) :: (40, tabObj tab) :: done.map Sq.entry) := N11
      rw [map1 hmp] at F11
      dsimp only at hT11
      obtain ⟨c, hcm, rfl, hcn, hfl⟩ : ∃ c ∈ done, lv = .ref c.a ∧ c.ns = lineF ps flag ∧ flag ∈ flagsF ps := kv_at hlns (hsub _ (.head _))
      obtain ⟨v11, hcF⟩ := dF
      have d1 : @Ne Nat I (L + 1) := Nat.ne_of_gt hI1
      repeat' ((fail_if_success (with_reducible show wpAny _ _ (storeName _ _ _) _ _ _)); (first | (k_unfold; (try dsimp only)) | (k_end; wrow_close) | walk1 | (dsimp only; walk1)))
      rename_i h12 F12 N12
      k_dflt (refine' storeX_C (c := L + 1) F12 N12 ?zc (updF_mid (pre := [(I, o11)]) (by simpa using d1) hcellOff) hcF ?_ ?za ?zb; (case za => rfl); (case zb => rfl); (case zc => rfl))
      intro h13 oF2 F13 N13 hcF2
      simp only [List.cons_append, List.nil_append] at N13
      clear hcF N12 F12
      repeat' ((fail_if_success (with_reducible show wpAny _ _ (exec (PySem.Stmt.Assign _ _ _) _) _ _ _)); (first | (k_unfold; (try dsimp only)) | (k_end; wrow_close) | walk1 | (dsimp only; walk1)))
      rename_i h14 F14 N14
      k_dflt (refine LCt.Assign_ListComp_T (F₀ := F14) (by rfl) (by with_unfolding_all rfl) (by with_unfolding_all rfl) (by decide) (by rfl) (by decide) (by rfl) (by rfl) (by rfl) ?_)
      walk1
      refine LCt.CompSrcT.ledger (by rfl) F14 N14 (.tail _ (.tail _ (.head _))) (by rw [PySem.sizeLine_eq, List.size_toArray, hpv.length]; have := H.len; omega) ?_
      intro g'
      refine kci_rest (ks := ps) (fun l q => if decide (flag / 2 ^ q.toNat % 2 = 1) = true then l ++ [q] else l) (by rw [List.size_toArray, hpv.length]) (fun j v _ hv => ?_) (fun k t2 I2 oI C oC D m2 ys lk h15 tk15 E15 hk hlk hC hx F15 N15 off ne _ => ?_) ?_ (sift_grows fun q => decide (flag / 2 ^ q.toNat % 2 = 1))
      · obtain ⟨k, t, e, hk⟩ := IntsAre.at hpv j v (by simpa using hv)
        exact ⟨k, t, hk, e⟩
      · have hk0 := (H.rng k hk).1
        have hk1 := (H.rng k hk).2
        have h2p : (0 : Int) < 2 ^ k.toNat := Int.pow_pos (by decide)
        have hfd : (flag.fdiv (2 ^ k.toNat)).fmod 2 = flag / 2 ^ k.toNat % 2 := by
          rw [Int.fdiv_eq_ediv_of_nonneg _ (Int.le_of_lt h2p), Int.fmod_eq_emod_of_nonneg _ (by decide)]
        k_steps
        · rename_i hb
          refine LCg.CompEnd.intro F15 N15 _ (fun _ h => h) off (.inr ⟨_, .tail _ (.tail _ (.head _)), rfl, _, rfl⟩) (kci_el (if_pos (decide_eq_true ?_)) rfl rfl)
          rw [← hfd, hb]
        · rename_i hb
          refine LCg.CompEnd.intro F15 N15 _ (fun _ h => h) off (.inr ⟨_, .tail _ (.tail _ (.head _)), rfl, _, rfl⟩) (kci_no (if_neg fun q => hb ?_) rfl)
          rw [hfd]; exact of_decide_eq_true q
      · unfold KPfDone
        intro ys hys _ W h15 tk15 F15 N15 off15
        dsimp only
        have hys' : IntsAre ys (withinF ps flag) := by
          rw [sift_fold fun q => decide (flag / 2 ^ q.toNat % 2 = 1), List.nil_append] at hys
          exact hys
        have hwr : ∀ x ∈ withinF ps flag, 0 ≤ x ∧ x < 60 := fun x hx => H.rng x (List.mem_filter.mp hx).1
        have hwl : (withinF ps flag).length ≤ 4 := Nat.le_trans (List.length_filter_le _ _) H.len
        repeat' ((fail_if_success (with_reducible show wpAny _ _ (call _ _ _) _ _ _)); (first | (k_unfold; (try dsimp only)) | (k_end; wrow_close) | walk1 | (dsimp only; walk1)))
        refine row_call KK F15 XX TT rfl N15 (.head _) hys' hwr hwl (by ktr_room) (by ktr_units) ?_
        intro a16 rs16 n16 h16 tk16 F16 N16 off16 hrs16
        dsimp only
        repeat' ((fail_if_success (with_reducible show wpAny _ _ (compareOp _ _ _) _ _ _)); (first | (k_unfold; (try dsimp only)) | (k_end; wrow_close) | walk1 | (dsimp only; walk1)))
        refine ne_intsK (News.isList N16 (.tail _ (.tail _ (.tail _ (.tail _ (.tail _ (.tail _ (.tail _ (List.mem_map.mpr ⟨c, hcm, rfl⟩))))))))) (hint c hcm) (News.isList N16 (.head _)) hrs16 (by ktr_units) ?_
        rw [show decide (c.ns = rowF (withinF ps flag) [0]) = true from decide_eq_true hcn]
        repeat' ((fail_if_success (with_reducible show wpAny _ _ (call _ _ _) _ _ _)); (first | (k_unfold; (try dsimp only)) | (k_end; wrow_close) | walk1 | (dsimp only; walk1)))
        refine sb_call KK F16 XX TT rfl N16 (by ktr_room) (by ktr_units) ?_
        intro h17 tk17 F17 N17
        clear N16 F16
        dsimp only
        rw [H.sb flag hfl]
        repeat' ((fail_if_success (with_reducible show wpAny _ _ (call _ _ _) _ _ _)); (first | (k_unfold; (try dsimp only)) | (k_end; wrow_close) | walk1 | (dsimp only; walk1)))
        refine len_list (News.isList N17 (.tail _ (.head _))) (by rw [List.size_toArray, hys'.length]; omega) ?_
        rw [List.size_toArray, hys'.length]
        repeat' ((fail_if_success (with_reducible show wpAny _ _ (compareOp _ _ _) _ _ _)); (first | (k_unfold; (try dsimp only)) | (k_end; wrow_close) | walk1 | (dsimp only; walk1)))
        refine eq_int ?_
        rw [show (((withinF ps flag).length : Int) == 1) = decide ((withinF ps flag).length = 1) by
          by_cases h1 : (withinF ps flag).length = 1
          · rw [h1]; rfl
          · rw [decide_eq_false h1]
            refine beq_eq_false_iff_ne.mpr fun e => h1 ?_
            omega]
        generalize decide ((withinF ps flag).length = 1) = bb
        refine ne_bool ?_
        rw [show (bb != bb) = false by cases bb <;> rfl]
        repeat' ((fail_if_success (with_reducible show wpAny _ _ (call _ _ _) _ _ _)); (first | (k_unfold; (try dsimp only)) | (k_end; wrow_close) | walk1 | (dsimp only; walk1)))
        refine row_call KK F17 XX TT rfl N17 (.tail _ (.head _)) hys' hwr hwl (by ktr_room) (by ktr_units) ?_
        intro r1 rs1 n1 h18 tk18 F18 N18 off18 hrs1
        dsimp only
        repeat' ((fail_if_success (with_reducible show wpAny _ _ (call _ _ _) _ _ _)); (first | (k_unfold; (try dsimp only)) | (k_end; wrow_close) | walk1 | (dsimp only; walk1)))
        refine kso_sorted F18 N18 (News.isList N18 (.tail _ (.tail _ (.head _)))) hys' (by omega) ?_
        intro S20 sv srt e20 h20 F20 N20 off20 hsv _ hsp hss _
        dsimp only
        have hsr : ∀ x ∈ srt, 0 ≤ x ∧ x < 60 := fun x hx => hwr x (hsp.mem_iff.mp hx)
        have hsl : srt.length ≤ 4 := by rw [hsp.length_eq]; exact hwl
        repeat' ((fail_if_success (with_reducible show wpAny _ _ (call _ _ _) _ _ _)); (first | (k_unfold; (try dsimp only)) | (k_end; wrow_close) | walk1 | (dsimp only; walk1)))
        refine row_call KK F20 XX TT rfl N20 (.head _) hsv hsr hsl (by ktr_room) (by ktr_units) ?_
        intro r2 rs2 n2 h21 tk21 F21 N21 off21 hrs2
        dsimp only
        repeat' ((fail_if_success (with_reducible show wpAny _ _ (call _ _ _) _ _ _)); (first | (k_unfold; (try dsimp only)) | (k_end; wrow_close) | walk1 | (dsimp only; walk1)))
        rename_i l22 h22 F22 N22 lt22
        have hR : ∀ q ∈ (W, LCg.lst ys) :: (I, o11) :: (L + 1, oF2) :: (P0, listOf pv.toArray pn) :: (d, od) :: (40, tabObj tab) :: done.map Sq.entry, @LT.lt Nat _ q.1 l22 := by
          have := tb_ltOf lt22.2.2.2.2.2.2.2.2.2.2
          intro q hq
          rcases List.mem_cons.mp hq with rfl | hq
          · exact lt22.2.2.2.2.1
          rcases List.mem_cons.mp hq with rfl | hq
          · exact lt22.2.2.2.2.2.1
          rcases List.mem_cons.mp hq with rfl | hq
          · exact lt22.2.2.2.2.2.2.1
          rcases List.mem_cons.mp hq with rfl | hq
          · exact lt22.2.2.2.2.2.2.2.1
          rcases List.mem_cons.mp hq with rfl | hq
          · exact lt22.2.2.2.2.2.2.2.2.1
          rcases List.mem_cons.mp hq with rfl | hq
          · exact lt22.2.2.2.2.2.2.2.2.2.1
          · exact this q hq
        have hl1 : (rowF (withinF ps flag) [0]).length ≤ 16 := by
          rw [rowF_length]; exact Nat.mul_le_mul_right 1 (Nat.pow_le_pow_right (by decide) hwl)
        have hl2' : (rowF srt [0]).length ≤ 16 := by
          rw [rowF_length]; exact Nat.mul_le_mul_right 1 (Nat.pow_le_pow_right (by decide) hsl)
        have ht : total [(⟨r1, rs1, n1, rowF (withinF ps flag) [0]⟩ : Sq), ⟨r2, rs2, n2, rowF srt [0]⟩] ≤ 32 := by
          simp only [total, List.map_cons, List.map_nil, List.sum_cons, List.sum_nil]
          have := hrs1.length
          have := hrs2.length
          omega
        refine merged_spec l22 0 [⟨r1, rs1, n1, rowF (withinF ps flag) [0]⟩, ⟨r2, rs2, n2, rowF srt [0]⟩] 1000 ?_ ?_ ?_ (by omega) ⟨by omega, by simp only [List.length_cons, List.length_nil]; omega⟩ _ _ _ _ _ _ _ _ _ _ _ _ _ ((W, LCg.lst ys) :: (I, o11) :: (L + 1, oF2) :: (P0, listOf pv.toArray pn) :: (d, od) :: (40, tabObj tab) :: done.map Sq.entry) _ _ KK F22 XX TT rfl ?_ ?_ ?_ (by ktr_room) (by ktr_units) ?_ ?_
        · intro c hc
          rcases List.mem_cons.mp hc with rfl | hc
          · exact hrs1
          rcases List.mem_cons.mp hc with rfl | hc
          · exact hrs2
          · exact nomatch hc
        · refine List.nodup_cons.mpr ⟨fun h => ?_, List.nodup_cons.mpr ⟨(fun h => nomatch h), List.nodup_nil⟩⟩
          exact off21 _ (.tail _ (.head _)) (List.mem_singleton.mp h).symm
        · intro c hc
          rcases List.mem_cons.mp hc with rfl | hc
          · exact Nat.ne_of_lt lt22.2.2.1
          rcases List.mem_cons.mp hc with rfl | hc
          · exact Nat.ne_of_lt lt22.1
          · exact nomatch hc
        · exact newsSub N22 (fun q hq => by
            rcases List.mem_cons.mp hq with rfl | hq
            · exact .head _
            rcases List.mem_cons.mp hq with rfl | hq
            · exact .tail _ (.tail _ (.tail _ (.head _)))
            rcases List.mem_cons.mp hq with rfl | hq
            · exact .tail _ (.head _)
            · exact nomatch hq)
        · exact newsSub N22 (fun q hq => .tail _ (.tail _ (.tail _ (.tail _ (.tail _ hq)))))
        · intro q hq q' hq'
          rcases List.mem_cons.mp hq with rfl | hq
          · exact Nat.ne_of_gt (hR q' hq')
          rcases List.mem_cons.mp hq with rfl | hq
          · exact off18 q' (.tail _ hq')
          rcases List.mem_cons.mp hq with rfl | hq
          · exact off21 q' (.tail _ (.tail _ (.tail _ hq')))
          · exact nomatch hq
        · intro out hout a23 rs23 n23 h23 tk23 F23 N23 off23 hrs23
          dsimp only
          repeat' ((fail_if_success (with_reducible show wpAny _ _ (call _ _ _) _ _ _)); (first | (k_unfold; (try dsimp only)) | (k_end; wrow_close) | walk1 | (dsimp only; walk1)))
          rename_i h23' F23 N23
          refine kso_sorted F23 N23 (News.isList N23 (.tail _ (.head _))) hys' (by omega) ?_
          intro S24 sv4 srt4 e24 h24 F24 N24 off24 hsv4 _ hsp4 hss4 _
          dsimp only
          repeat' ((fail_if_success (with_reducible show wpAny _ _ (compareOp _ _ _) _ _ _)); (first | (k_unfold; (try dsimp only)) | (k_end; wrow_close) | walk1 | (dsimp only; walk1)))
          refine eq_intsK (News.isList N24 (.tail _ (.tail _ (.head _)))) hys' (News.isList N24 (.head _)) hsv4 (by ktr_units) ?_
          have hs4 : srt4 = srt := sorted_uniq (hsp4.trans hsp.symm) hss4 hss
          have hm := merge_law Hn H hsp
          rw [show c3 1000 [rowF (withinF ps flag) [0], rowF srt [0]] = some out from hout] at hm
          have hws : withinF ps flag = srt := by
            by_cases h : withinF ps flag = srt
            · exact h
            · rw [if_neg h] at hm; exact nomatch hm
          rw [if_pos hws] at hm
          have hom : out = rowF (withinF ps flag) [0] := Option.some.inj hm
          rw [decide_eq_true (hws.trans hs4.symm)]
          repeat' ((fail_if_success (with_reducible show wpAny _ _ (call _ _ _) _ _ _)); (first | (k_unfold; (try dsimp only)) | (k_end; wrow_close) | walk1 | (dsimp only; walk1)))
          refine row_call KK F24 XX TT rfl N24 (.tail _ (.tail _ (.head _))) hys' hwr hwl (by ktr_room) (by ktr_units) ?_
          intro r5 rs5 n5 h25 tk25 F25 N25 off25 hrs5
          dsimp only
          repeat' ((fail_if_success (with_reducible show wpAny _ _ (compareOp _ _ _) _ _ _)); (first | (k_unfold; (try dsimp only)) | (k_end; wrow_close) | walk1 | (dsimp only; walk1)))
          refine ne_intsK (News.isList N25 (.tail _ (.tail _ (.head _)))) hrs23 (News.isList N25 (.head _)) hrs5 (by ktr_units) ?_
          rw [decide_eq_true hom]
          k_steps
          refine UnrEndW.intro F25 N25 ((L + 1, oF2) :: (P0, listOf pv.toArray pn) :: (d, od) :: (40, tabObj tab) :: done.map Sq.entry) (And.intro ?_ trivial) (subL_of fun q hq => ?_) (offW_of fun q hq => ?_) ⟨And.intro (.tail _ (.tail _ (.head _))) trivial, ?_⟩
          · exact .tail _ (.tail _ (.tail _ (.tail _ (.head _))))
          · exact .tail _ (.tail _ (.tail _ (.tail _ (.tail _ hq))))
          · rcases List.mem_cons.mp hq with rfl | hq
            · exact Nat.ne_of_lt hI1
            · exact Nat.ne_of_lt (hIall q hq)
          · apply ih <;> first | exact (fun x hx => hsub x (.tail _ hx)) | exact ⟨_, hcF2⟩ | rfl | assumption
        · intro hnone t23 h23 tk23 F23 N23
          dsimp only
          repeat' ((fail_if_success (with_reducible show wpAny _ _ (call _ _ _) _ _ _)); (first | (k_unfold; (try dsimp only)) | (k_end; wrow_close) | walk1 | (dsimp only; walk1)))
          rename_i h23' F23 N23
          refine kso_sorted F23 N23 (News.isList N23 (.head _)) hys' (by omega) ?_
          intro S24 sv4 srt4 e24 h24 F24 N24 off24 hsv4 _ hsp4 hss4 _
          dsimp only
          repeat' ((fail_if_success (with_reducible show wpAny _ _ (compareOp _ _ _) _ _ _)); (first | (k_unfold; (try dsimp only)) | (k_end; wrow_close) | walk1 | (dsimp only; walk1)))
          refine eq_intsK (News.isList N24 (.tail _ (.head _))) hys' (News.isList N24 (.head _)) hsv4 (by ktr_units) ?_
          have hs4 : srt4 = srt := sorted_uniq (hsp4.trans hsp.symm) hss4 hss
          have hm := merge_law Hn H hsp
          rw [show c3 1000 [rowF (withinF ps flag) [0], rowF srt [0]] = none from hnone] at hm
          have hws : ¬ withinF ps flag = srt := by
            intro h
            rw [if_pos h] at hm; exact nomatch hm
          rw [decide_eq_false (show ¬ withinF ps flag = srt4 by rw [hs4]; exact hws)]
          repeat' ((fail_if_success (with_reducible show wpAny _ _ (compareOp _ _ _) _ _ _)); (first | (k_unfold; (try dsimp only)) | (k_end; wrow_close) | walk1 | (dsimp only; walk1)))
          refine PySem.P.ne_str ?_
          rw [show ((Str.ofString "refused").cps.toList != (Str.ofString "refused").cps.toList) = false by decide]
          k_steps
          refine UnrEndW.intro F24 N24 ((L + 1, oF2) :: (P0, listOf pv.toArray pn) :: (d, od) :: (40, tabObj tab) :: done.map Sq.entry) (And.intro ?_ trivial) (subL_of fun q hq => ?_) (offW_of fun q hq => ?_) ⟨And.intro (.tail _ (.tail _ (.head _))) trivial, ?_⟩
          · exact .tail _ (.tail _ (.head _))
          · exact .tail _ (.tail _ (.tail _ hq))
          · rcases List.mem_cons.mp hq with rfl | hq
            · exact Nat.ne_of_lt hI1
            · exact Nat.ne_of_lt (hIall q hq)
          · apply ih <;> first | exact (fun x hx => hsub x (.tail _ hx)) | exact ⟨_, hcF2⟩ | rfl | assumption
end
end Mine

theorem PySem.Challenge.cw_mr0037_01_holds : PySem.Challenge.rw_mr0037_01.Holds :=
  Mine.law_holds
