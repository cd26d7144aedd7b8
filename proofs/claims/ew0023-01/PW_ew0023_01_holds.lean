import PyProof.Rows.All
import Wide.All
import OpenK.AllK
import Wide.FinOn
import KE.KIntText
import KE.KEqDat
import KE.KItemsList
import PyProof.EqKinds
import KE.KPairTest
import PyProof.GenCompT
import PyProof.JoinWalk
import PyProof.StrLaws
import Lean
import PySem.Challenge.RW_ew0023_01
section
open PySem PySem.W PyProof.Rows
set_option Elab.async false
namespace Mine
set_option maxRecDepth 100000 in
set_option maxHeartbeats 8000000 in
open_top lawTop for PySem.Challenge.rw_ew0023_01


end Mine
end
section
example : True := by (w_top off); trivial
open PySem PySem.W PyProof.Rows PySem.Calls
set_option Elab.async false
namespace Mine
abbrev pg : Program := PySem.Challenge.rw_ew0023_01.row.prog

/-- one more than the greatest address of a ledger -/
def topOf : List (Addr × Obj) → Nat
  | [] => 0
  | p :: r => max (p.1 + 1) (topOf r)
theorem lt_topOf : ∀ {l : List (Addr × Obj)}, ∀ p ∈ l, p.1 < topOf l
  | [], _, h => nomatch h
  | q :: r, p, h => by
    simp only [topOf]
    rcases List.mem_cons.mp h with rfl | h
    · exact Nat.lt_of_lt_of_le (Nat.lt_succ_self _) (Nat.le_max_left _ _)
    · exact Nat.lt_of_lt_of_le (lt_topOf p h) (Nat.le_max_right _ _)
theorem topOf_le : ∀ {l : List (Addr × Obj)} {d : Addr}, (∀ p ∈ l, p.1 < d) → topOf l ≤ d
  | [], _, _ => Nat.zero_le _
  | p :: r, d, h => by
    simp only [topOf]
    exact Nat.max_le.mpr ⟨h p (.head _), topOf_le fun q hq => h q (.tail _ hq)⟩
theorem off_topOf {l : List (Addr × Obj)} {d : Addr} (h : topOf l ≤ d) : ∀ p ∈ l, p.1 ≠ d := fun p hp => Nat.ne_of_lt (Nat.lt_of_lt_of_le (lt_topOf p hp) h)
theorem all_topOf {l : List (Addr × Obj)} {d : Addr} (h : topOf l ≤ d) : ∀ p ∈ l, p.1 < d := fun p hp => Nat.lt_of_lt_of_le (lt_topOf p hp) h

/-- no address of a ledger is x -/
def OffL (x : Addr) : List (Addr × Obj) → Prop
  | [] => True
  | p :: r => @Ne Nat p.1 x ∧ OffL x r
theorem offL_of {x : Addr} : ∀ {l : List (Addr × Obj)}, (∀ p ∈ l, @Ne Nat p.1 x) → OffL x l
  | [], _ => trivial
  | p :: _, h => ⟨h p (.head _), offL_of fun q hq => h q (.tail _ hq)⟩
def OffA (news : List (Addr × Obj)) : List (Addr × Obj) → Prop
  | [] => True
  | q :: r => OffL q.1 news ∧ OffA news r
theorem offA_of {news : List (Addr × Obj)} : ∀ {l : List (Addr × Obj)}, (∀ q ∈ l, ∀ p ∈ news, @Ne Nat p.1 q.1) → OffA news l
  | [], _ => trivial
  | q :: _, h => ⟨offL_of (h q (.head _)), offA_of fun r hr => h r (.tail _ hr)⟩

/-- what a body leaves behind: its answer, what it made (of the objects that it was handed none is changed) -/
def Done (args : List (Addr × Obj)) (P : Value → List (Addr × Obj) → Prop) (g : Heap) (s : Shared) (v : Value) (s' : Shared) : Prop :=
  ∃ L' m' all new h' tk, s' = { s with heap := h', toks := tk } ∧ Fr g L' h' m' ∧ News g L' h' all ∧ P v new ∧ (∀ p ∈ new, p ∈ all) ∧ (∀ p ∈ args, p ∈ all) ∧ (∀ p ∈ new, ∀ q ∈ args, q.1 ≠ p.1)
theorem Done.intro {args : List (Addr × Obj)} {P : Value → List (Addr × Obj) → Prop} {g : Heap} {s : Shared} {v : Value} {L' : Addr} {m' : Str → Option Value} {all new : List (Addr × Obj)} {h' : Heap} {tk : Nat}
    (F : Fr g L' h' m') (N : News g L' h' all) (p : P v new) (hn : ∀ p ∈ new, p ∈ all) (ha : ∀ p ∈ args, p ∈ all) (hd : ∀ p ∈ new, ∀ q ∈ args, q.1 ≠ p.1) : Done args P g s v { s with heap := h', toks := tk } :=
  ⟨L', m', all, new, h', tk, rfl, F, N, p, hn, ha, hd⟩

/-- what a call answers, wherever it is made: `d` frames deep at most; `args`: the made objects that it reads -/
def Meets (w : World) (d : Nat) (f : Value) (vals : List Value) (kw : List (Str × Value)) (args : List (Addr × Obj)) (P : Value → List (Addr × Obj) → Prop) : Prop :=
  ∀ (loose : List Str) (mean : ExcName → Option Value) (mg mb : Str → Option Value) (dp un : Nat) (gd : Option (List Code)) (cn : Str) (sn : List (Str × NameKind)) (sg sc : Bool) (sm : List (Str × Const))
    (a : Addr) (ccd : Value) (cl : List (Str × Addr)) (outer : List Env) (A₀ : Around) (base h₀ : Heap) (L : Addr) (m : Str → Option Value) (s : Shared) (Q E : Value → Shared → Prop) (news : List (Addr × Obj)),
    Below A₀ base outer h₀ → Fr h₀ L s.heap m → (lawTop.heap_39 w.params).In h₀ → News h₀ L s.heap news → (∀ p ∈ args, p ∈ news) → Top lawTop.view_39 loose mean mg mb h₀ →
    dp + d < recursionLimit → un + 20 * d < cLine →
    (∀ v new h' tk', P v new → Fr h₀ L h' m → News h₀ L h' (new ++ news) → (∀ q ∈ new, ∀ p ∈ news, @Ne Nat p.1 q.1) → Q v { s with heap := h', toks := tk' }) →
    wpAny (model pg w) (ktrTop dp un gd cn ⟨.function, sn, sg, sc, sm⟩ L a ccd cl outer) (call f vals kw) Q E s

theorem Meets.use {w : World} {d : Nat} {f : Value} {vals : List Value} {kw : List (Str × Value)} {args news : List (Addr × Obj)} {P : Value → List (Addr × Obj) → Prop} (h : Meets w d f vals kw args P)
    {loose : List Str} {mean : ExcName → Option Value} {mg mb : Str → Option Value} {dp un : Nat} {gd : Option (List Code)} {cn : Str} {sn : List (Str × NameKind)} {sg sc : Bool} {sm : List (Str × Const)}
    {a : Addr} {ccd : Value} {cl : List (Str × Addr)} {outer : List Env} {A₀ : Around} {base h₀ : Heap} {L : Addr} {m : Str → Option Value} {s : Shared} {Q E : Value → Shared → Prop}
    (B : Below A₀ base outer h₀) (F : Fr h₀ L s.heap m) (X : (lawTop.heap_39 w.params).In h₀) (N : News h₀ L s.heap news) (ha : ∀ p ∈ args, p ∈ news) (T : Top lawTop.view_39 loose mean mg mb h₀)
    (hd : dp + d < recursionLimit) (hu : un + 20 * d < cLine)
    (r : ∀ v new h' tk', P v new → Fr h₀ L h' m → News h₀ L h' (new ++ news) → (∀ q ∈ new, ∀ p ∈ news, @Ne Nat p.1 q.1) → Q v { s with heap := h', toks := tk' }) :
    wpAny (model pg w) (ktrTop dp un gd cn ⟨.function, sn, sg, sc, sm⟩ L a ccd cl outer) (call f vals kw) Q E s :=
  h _ _ _ _ _ _ _ _ _ _ _ _ _ _ _ _ _ _ _ _ _ _ _ _ _ B F X N ha T hd hu r

section
variable {prog : Program} {w : World} {A₀ A : Around} {s : Shared} {base h₀ : Heap} {outer : List Env} {L : Addr} {m : Str → Option Value} {env : Env} {news args : List (Addr × Obj)}

/-- the frame below and its ledger again, behind a body that is done -/
theorem done_back {P : Value → List (Addr × Obj) → Prop} {s₁ : Shared} {v : Value} {s' : Shared} (F : Fr h₀ L s.heap m) (N : News h₀ L s.heap news) (ha : ∀ p ∈ args, p ∈ news)
    (D : Done args P (hideAll s.heap (args.map (fun x : Addr × Obj => x.1))) s₁ v s') :
    ∃ new h' tk, s' = { s₁ with heap := h', toks := tk } ∧ P v new ∧ Fr h₀ L h' m ∧ News h₀ L h' (new ++ news) ∧ (∀ q ∈ new, ∀ p ∈ news, @Ne Nat p.1 q.1) := by
  obtain ⟨L', m', all, new, h', tk, rfl, F', N', hp, hn, hA, hd⟩ := D
  have Na : News h₀ L s.heap args := fun p hp => N p (ha p hp)
  have nm : ∀ b o, h₀.get? b = some o → b ∉ args.map (fun x : Addr × Obj => x.1) := fun b o e q => by
    obtain ⟨p, hp, rfl⟩ := List.mem_map.mp q
    rw [(Na p hp).2.2] at e; cases e
  have st : h₀.StaysIn (hideAll s.heap (args.map (fun x : Addr × Obj => x.1))) := fun b o e => hideAll_get _ (F.keep b o e) (nm b o e)
  obtain ⟨oL, es, ep, hL, hLd, hLk, hLf⟩ := F.ns
  have nL : L ∉ args.map (fun x : Addr × Obj => x.1) := fun q => by
    obtain ⟨p, hp, e⟩ := List.mem_map.mp q
    exact (Na p hp).2.1 e
  have hLg := hideAll_get (args.map (fun x : Addr × Obj => x.1)) hL nL
  refine ⟨new, h', tk, rfl, hp, ⟨⟨oL, es, ep, F'.keep L oL hLg, hLd, hLk, hLf⟩, fun b o e => F'.keep b o (st b o e), F.above⟩, fun p hp => ?_, fun q hq p hp => ?_⟩
  · rcases List.mem_append.mp hp with hp | hp
    · have x := N' p (hn p hp)
      refine ⟨x.1, fun q => ?_, ?_⟩
      · have := x.2.2; rw [q, hLg] at this; cases this
      · cases q : h₀.get? p.1 with
        | none => rfl
        | some o => have := x.2.2; rw [st _ _ q] at this; cases this
    · refine ⟨?_, (N p hp).2⟩
      by_cases hm : p.1 ∈ args.map (fun x : Addr × Obj => x.1)
      · obtain ⟨q, hq, e⟩ := List.mem_map.mp hm
        have e2 := (N q (ha q hq)).1
        rw [e, (N p hp).1] at e2
        have x := (N' q (hA q hq)).1
        rw [e] at x
        rw [x, e2]
      · exact F'.keep _ _ (hideAll_get _ (N p hp).1 hm)
  · by_cases hm : p.1 ∈ args.map (fun x : Addr × Obj => x.1)
    · obtain ⟨r, hr, e⟩ := List.mem_map.mp hm
      rw [← e]
      exact hd q hq r hr
    · intro e
      have x := (N' q (hn q hq)).2.2
      rw [← e, hideAll_get _ (N p hp).1 hm] at x
      cases x

variable {K : Frag} {loose : List Str} {mean : ExcName → Option Value} {mg mb : Str → Option Value} {p : Program} {P : Value → List (Addr × Obj) → Prop} {Q E : Value → Shared → Prop}
  {name qual : Str} {params : Arguments} {body : List Stmt} {scope : Scope} {dV kV doc pm cdv ct oc : Value} {an od : Option Addr} {osl : Array (Option Value)} {f : Addr} {vals : Args} {binds : List (Str × Value)}

/-- the names that a call binds, written out -/
structure BindHint (b : List (Str × Value)) : Prop where
  mark : True

theorem enterM (bh : BindHint binds) (B : Below A₀ base outer h₀) (F : Fr h₀ L s.heap m) (X₀ : K.In h₀) (N : News h₀ L s.heap news) (ha : ∀ p ∈ args, p ∈ news) (T : Top p loose mean mg mb h₀) (hA : A.frames = some (env :: outer)) (hf : env.frame = some L) (hke : env.scope.kind = .function)
    (ho : K.lookup f = some ⟨oc, od, .func (fnOf name qual params body scope dV kV doc pm an cdv ct), osl⟩) (hcd : codeIn K cdv qual = true) (hroom : A.depth < recursionLimit)
    (hbind : BindsTo s (fnOf name qual params body scope dV kV doc pm an cdv ct) vals binds) (hloc : ∀ y ∈ binds, scope.names.lookup y.1 = some .local)
    (ret : ∀ v new h' tk', P v new → Fr h₀ L h' m → News h₀ L h' (new ++ news) → (∀ q ∈ new, ∀ p ∈ news, @Ne Nat p.1 q.1) → Q v { s with heap := h', toks := tk' })
    (h : ∀ g L' h₁, Fr g L' h₁ (fun y => binds.reverse.lookup y) → News g L' h₁ args → (∀ p ∈ args, p.1 < L') → Below A base (env :: outer) g → K.In g → Top p loose mean mg mb g →
      wpAny (model prog w) (A.deeper (envOf qual scope L' f cdv)) (execs body (envOf qual scope L' f cdv))
        (fun fl s' => Done args P g s (match fl with | .ret v => v | _ => .none) s') (fun _ _ => False)
        { s with heap := h₁, toks := s.toks + binds.length })
    (hco : scope.isCoroutine = false) (hgen : scope.isGenerator = false) (hk : scope.kind = .function)
    (hcell : ∀ x ∈ scope.names, x.2 ≠ .cell) : codeAny (model prog w) A (.call (.ref f) vals) (fun r s' => match r with | .ok (.ret v) => Q v s' | .ok _ => False | .error e => E e s') s := by
  have Na : News h₀ L s.heap args := fun p hp => N p (ha p hp)
  obtain ⟨_, BG, st, _⟩ := groundX (R := fun _ _ => True) B F Na hA hf hke
  have XS : K.In s.heap := X₀.keeps F.keep
  refine codeAny_call_def (fd := fnOf name qual params body scope dV kV doc pm an cdv ct) (body := body) (binds := binds) hroom (XS _ _ ho) rfl (T.nolimit.keeps F.keep) (codeRec_of XS hcd) rfl hbind hcell hloc (fun h₁ hns hk₁ => ?_) hco hgen hk
  refine wpAny_mono (h (hideAll s.heap (args.map (fun x : Addr × Obj => x.1))) s.heap.objs.size h₁ ⟨hns, fun b o e => hk₁ b o (of_hideAll _ e), Nat.le_of_eq (hideAll_size _ _)⟩
    (fun p hp => ⟨hk₁ _ _ (Na p hp).1, Nat.ne_of_lt (Heap.lt_size (Na p hp).1), hideAll_none _ (List.mem_map_of_mem hp)⟩) (fun p hp => Heap.lt_size (Na p hp).1) BG (X₀.keeps st) (T.keeps st)) (fun fl s' D => ?_) fun _ _ y => y.elim
  obtain ⟨new, h', tk, rfl, hp, F', N', hd⟩ := done_back F N ha D
  exact ret _ new h' tk hp F' N' hd

theorem enterC (bh : BindHint binds) (B : Below A₀ base outer h₀) (F : Fr h₀ L s.heap m) (X₀ : K.In h₀) (N : News h₀ L s.heap news) (ha : ∀ p ∈ args, p ∈ news) (T : Top p loose mean mg mb h₀) (hA : A.frames = some (env :: outer)) (hf : env.frame = some L) (hke : env.scope.kind = .function)
    (ho : K.lookup f = some ⟨oc, od, .func (fnOf name qual params body scope dV kV doc pm an cdv ct), osl⟩) (hcd : codeIn K cdv qual = true) (hroom : A.depth < recursionLimit)
    (hbind : BindsTo s (fnOf name qual params body scope dV kV doc pm an cdv ct) vals binds) (hkind : (binds.all fun y => scope.names.lookup y.1 == some .local || scope.names.lookup y.1 == some .cell) = true)
    (hnd : ((cellsFrom 0 scope.names []).map (·.1)).Nodup)
    (ret : ∀ v new h' tk', P v new → Fr h₀ L h' m → News h₀ L h' (new ++ news) → (∀ q ∈ new, ∀ p ∈ news, @Ne Nat p.1 q.1) → Q v { s with heap := h', toks := tk' })
    (h : ∀ g L' h₁ tk cells, Fr g L' h₁ (bindL (envOfC qual scope L' f cdv).kindOf binds fun _ => none) → News g L' h₁ (cells ++ args) →
      CellsAre (bindC (envOfC qual scope L' f cdv).kindOf binds fun _ => none) (cellsFrom (L' + 1) scope.names []) cells → (∀ p ∈ args, p.1 < L') → Below A base (env :: outer) g → K.In g → Top p loose mean mg mb g →
      wpAny (model prog w) (A.deeper (envOfC qual scope L' f cdv)) (execs body (envOfC qual scope L' f cdv))
        (fun fl s' => Done args P g s (match fl with | .ret v => v | _ => .none) s') (fun _ _ => False)
        { s with heap := h₁, toks := tk })
    (hco : scope.isCoroutine = false) (hgen : scope.isGenerator = false) (hk : scope.kind = .function) : codeAny (model prog w) A (.call (.ref f) vals) (fun r s' => match r with | .ok (.ret v) => Q v s' | .ok _ => False | .error e => E e s') s := by
  have Na : News h₀ L s.heap args := fun p hp => N p (ha p hp)
  obtain ⟨_, BG, st, _⟩ := groundX (R := fun _ _ => True) B F Na hA hf hke
  have XS : K.In s.heap := X₀.keeps F.keep
  refine codeAny_call_function hroom (XS _ _ ho) rfl hco hgen rfl (codeRec_of XS hcd) (hbind _ _ _ _ ?_)
  refine wpAny_newFunctionEnv_cells hk (kindsX hkind _) fun env' he s' x => ?_
  subst he
  refine ⟨(T.nolimit.keeps F.keep).keeps x.toInCall.keep, codeAny_func ?_⟩
  obtain ⟨h₁, tk, rfl, _⟩ := x.done
  have hk₁ := x.toInCall.keep
  obtain ⟨cells, NC, Y⟩ := Cl.news (h₀ := s.heap) (Nat.le_refl _) fun n c hm => ⟨x.cell n c (lookup_of_mem_nodup (cellsFrom_names scope.names 0 (s.heap.objs.size + 1) [] [] rfl ▸ hnd) hm), x.above n c hm⟩
  refine wpAny_mono (h (hideAll s.heap (args.map (fun x : Addr × Obj => x.1))) s.heap.objs.size h₁ tk cells ⟨x.toInCall.ns, fun b o e => hk₁ b o (of_hideAll _ e), Nat.le_of_eq (hideAll_size _ _)⟩ (fun p hp => ?_) Y (fun p hp => Heap.lt_size (Na p hp).1) BG (X₀.keeps st) (T.keeps st)) (fun fl s' D => ?_) fun _ _ y => y.elim
  · rcases List.mem_append.mp hp with hp | hp
    · refine ⟨(NC p hp).1, (NC p hp).2.1, ?_⟩
      cases q : (hideAll s.heap (args.map (fun x : Addr × Obj => x.1))).get? p.1 with
      | none => rfl
      | some o => have := of_hideAll _ q; rw [(NC p hp).2.2] at this; cases this
    · exact ⟨hk₁ _ _ (Na p hp).1, Nat.ne_of_lt (Heap.lt_size (Na p hp).1), hideAll_none _ (List.mem_map_of_mem hp)⟩
  · obtain ⟨new, h', tk', e, hp, F', N', hd⟩ := done_back F N ha D
    subst e
    exact ret _ new h' tk' hp F' N' hd
end
end Mine
end
section
example : True := by (w_top off); trivial
open PySem PySem.W PyProof.Rows
namespace Mine
/-- a code object's table; that of __str__ stands at 86, empty at first -/
abbrev tabO (ps : Array Value) : Obj := { cls := .none, data := .fields ps }
/-- the module builtins, at 4 -/
abbrev modB : Obj := { cls := .type "module", dict := some builtinsNs, data := .plain }
noncomputable def heapX (P : Params) : Frag := (86, tabO #[]) :: (4, modB) :: lawTop.heap_39 P
end Mine
end
section
example : True := by (w_top off); trivial
open PySem PySem.W PyProof.Rows PySem.Calls
set_option Elab.async false
namespace Mine
/-- the claim's caller is somewhere on this stack -/
def hasCaller (l : List (Code × Pos)) : Bool := l.any fun x => x.1.isCaller
/-- a context of the claim's own run -/
def Called (Γ : Ctx) : Prop := (Γ.code.isCaller || hasCaller Γ.below) = true
theorem called_below {Γ : Ctx} (h : hasCaller Γ.below = true) : Called Γ := by
  unfold Called; rw [h, Bool.or_true]
theorem called_enter {Γ : Ctx} (h : Called Γ) (c : Code) (m : Option Value) (p : Pos) : hasCaller (Γ.enter c m p).below = true := h

/-- as wpAny, in the contexts that the claim's caller began -/
def wpC {α : Type} (M : Model) (A : Around) (t : Sem α) (Q : α → Shared → Prop) (E : Value → Shared → Prop) (s : Shared) : Prop :=
  ∀ Γ p, Γ.In A → Called Γ → Sem.wp M Γ t (fun a _ s' => Q a s') (fun e _ s' => E e s') p s
def codeC (M : Model) (A : Around) (c : Code) (R : Result → Shared → Prop) (s : Shared) : Prop :=
  ∀ Γ p, Γ.code = c → Γ.Below A → hasCaller Γ.below = true → wpCode M Γ R p s

section
variable {α β : Type} {M : Model} {A : Around} {E : Value → Shared → Prop} {s : Shared}
theorem wpC.any {t : Sem α} {Q : α → Shared → Prop} (h : wpAny M A t Q E s) : wpC M A t Q E s := fun Γ p hΓ _ => h Γ p hΓ
theorem codeC.any {c : Code} {R : Result → Shared → Prop} (h : codeAny M A c R s) : codeC M A c R s := fun Γ p hc hΓ _ => h Γ p hc hΓ
theorem wpC.mono {t : Sem α} {Q Q' : α → Shared → Prop} {E' : Value → Shared → Prop} (h : wpC M A t Q E s) (hQ : ∀ a s, Q a s → Q' a s) (hE : ∀ e s, E e s → E' e s) : wpC M A t Q' E' s :=
  fun Γ p hΓ c => Sem.wp_mono M Γ t (fun a _ s => hQ a s) (fun e _ s => hE e s) p s (h Γ p hΓ c)
theorem codeC.mono {c : Code} {R R' : Result → Shared → Prop} (h : codeC M A c R s) (hR : ∀ r s, R r s → R' r s) : codeC M A c R' s :=
  fun Γ p hc hΓ hb => wpCode_mono hR (h Γ p hc hΓ hb)
theorem wpC.pure {a : α} {Q : α → Shared → Prop} (h : Q a s) : wpC M A (pure a) Q E s := .any (wpAny_pure h)
theorem wpC.bind {m : Sem α} {f : α → Sem β} {Q : β → Shared → Prop} (h : wpC M A m (fun a s' => wpC M A (f a) Q E s') E s) : wpC M A (m >>= f) Q E s := fun Γ p hΓ c => by
  rw [Sem.wp_bind']
  exact Sem.wp_mono M Γ m (fun a p' s' h' => h' Γ p' hΓ c) (fun _ _ _ h' => h') p s (h Γ p hΓ c)
/-- first a part that needs no caller -/
theorem wpC.step {m : Sem α} {f : α → Sem β} {Q : β → Shared → Prop} (h : wpAny M A m (fun a s' => wpC M A (f a) Q E s') E s) : wpC M A (m >>= f) Q E s := .bind (.any h)
theorem wpC.onRaise {m : Sem α} {k : Value → Sem Unit} {Q : α → Shared → Prop} (h : wpC M A m Q (fun e s' => wpAny M A (k e) (fun _ s'' => E e s'') E s') s) : wpC M A (m.onRaise k) Q E s := fun Γ p hΓ c => by
  rw [Sem.wp_onRaise]
  exact Sem.wp_mono M Γ m (fun _ _ _ h' => h') (fun e p' s' h' => h' Γ p' hΓ) p s (h Γ p hΓ c)
theorem wpC.holding {vs : List Value} {m : Sem α} {Q : α → Shared → Prop} (h : wpC M A m Q E s) : wpC M A (holding vs m) Q E s := fun Γ p hΓ c => by
  rw [Sem.wp_holding]; exact h Γ p hΓ c
theorem wpC.keep {vs : List Value} {m : Sem α} {Q : α → Shared → Prop} (h : wpC M A m Q E s) : wpC M A (m.keep vs) Q E s := fun Γ p hΓ c => by
  rw [Sem.wp_keep]; exact h Γ p hΓ c
theorem wpC.operate {vs : List Value} {m : Sem Value} {Q : Value → Shared → Prop} (h : wpC M A m Q E s) : wpC M A (operate vs m) Q E s := fun Γ p hΓ c => by
  rw [Sem.wp_operate]; exact h Γ p hΓ c
theorem wpC.at {pos : Pos} {m : Sem β} {Q : β → Shared → Prop} (h : wpC M A m Q E s) : wpC M A (do standAt pos; m) Q E s := .step (wpAny_standAt h)
theorem wpC.run {c : Code} {h : Option Value} {Q : Flow → Shared → Prop} (hc : codeC M (A.mark h) c (fun r s' => match r with | .ok f => Q f s' | .error e => E e s') s) (hn : h ≠ some byPass := by intro x; cases x) : wpC M A (run c h) Q E s := fun Γ p hΓ k => by
  rw [Sem.wp_run]; exact hc _ p rfl (hΓ.enter c h p hn) (called_enter k c h p)
theorem wpC.runValue {c : Code} {Q : Value → Shared → Prop} (hc : codeC M A c (fun r s' => match r with | .ok (.ret v) => Q v s' | .ok _ => False | .error e => E e s') s) : wpC M A (runValue c) Q E s := fun Γ p hΓ k => by
  rw [Sem.wp_runValue]; exact hc _ p rfl (hΓ.enter c none p (by intro x; cases x)) (called_enter k c none p)
theorem wpC.call {f : Value} {pos : List Value} {kw : List (Str × Value)} {Q : Value → Shared → Prop} (hc : codeC M A (.call f ⟨pos, kw⟩) (fun r s' => match r with | .ok (.ret v) => Q v s' | .ok _ => False | .error e => E e s') s) : wpC M A (PySem.call f pos kw) Q E s := .runValue hc
theorem codeC.tree {c : Code} {R : Result → Shared → Prop}
    (h : wpC M (A.under c) (M.den c) (fun fin s' => match fin with | .done f => R (.ok f) s' | .again c' => c'.quiet = true ∧ codeC M A c' R s') (fun e s' => R (.error e) s') s) : codeC M A c R s := fun Γ p hc hΓ hb => by
  rw [wpCode_iff_wp, hc]
  refine Sem.wp_mono M Γ _ (fun fin p' s' h' => ?_) (fun _ _ _ h' => h') p s (h Γ p (hc ▸ hΓ.in) (called_below hb))
  cases fin with
  | done f => exact h'
  | again c' => exact ⟨h'.1, h'.2 (Γ.goto c') p' rfl (hΓ.goto c') hb⟩
/-- a loop's code, turn by turn -/
theorem codeC.loop {c : Code} {R : Result → Shared → Prop} (hq : c.quiet = true) (I : Nat → Shared → Prop)
    (turn : ∀ n s, I n s → wpC M (A.under c) (M.den c) (fun fin s' => match fin with
      | .done f => R (.ok f) s'
      | .again c' => (c' = c ∧ ∃ m, m < n ∧ I m s') ∨ (c'.quiet = true ∧ codeC M A c' R s')) (fun e s' => R (.error e) s') s)
    (n : Nat) (h : I n s) : codeC M A c R s := by
  induction n using Nat.strongRecOn generalizing s with
  | ind n ih =>
    refine codeC.tree (wpC.mono (turn n s h) (fun fin s' hf => ?_) fun _ _ h' => h')
    cases fin with
    | done f => exact hf
    | again c' =>
      rcases hf with ⟨rfl, m, hm, hI⟩ | hf
      · exact ⟨hq, ih m hm hI⟩
      · exact hf
/-- where the stack is asked for -/
theorem wpC.stack {Q : List (Code × Pos) → Shared → Prop} (h : ∀ st, hasCaller st = true → Q st s) : wpC M A stack Q E s := fun Γ p _ c => by
  show Q ((Γ.code, p) :: Γ.below) s
  exact h _ c
theorem no_mark {own : List String} {st : List (Code × Pos)} (h : hasCaller st = true) : pythonCodeMadeTheCall own (st.map (·.1)) = false := by
  have e : (st.map (·.1)).any Code.isCaller = true := by
    rw [List.any_map]; exact h
  show ((!((st.map (·.1)).any Code.isCaller) && _) && _) = false
  rw [e]; rfl
theorem wpC.markTheRefusal {own : List String} {e : Value} {Q : Unit → Shared → Prop} (h : Q () s) : wpC M A (markTheRefusal own e) Q E s := by
  unfold PySem.markTheRefusal
  refine wpC.bind (wpC.stack fun st hst => ?_)
  rw [no_mark hst]
  exact wpC.pure h
end

section
variable {M : Model} {A : Around} {E : Value → Shared → Prop} {s : Shared} {env : Env}
theorem wpC.execs_cons {st : Stmt} {rest : List Stmt} {Q : Flow → Shared → Prop}
    (h : wpC M A (exec st env) (fun f s' => match f with | .next => wpC M A (execs rest env) Q E s' | f => Q f s') E s) : wpC M A (execs (st :: rest) env) Q E s := by
  rw [PySem.execs_cons]
  refine wpC.bind (wpC.mono h (fun f s' h' => ?_) fun _ _ e => e)
  cases f <;> first | exact h' | exact wpC.pure h'
theorem wpC.execs_nil {Q : Flow → Shared → Prop} (h : Q .next s) : wpC M A (execs [] env) Q E s := .pure h
theorem wpC.If {test : Expr} {body orelse : List Stmt} {pos : Pos} {Q : Flow → Shared → Prop}
    (h : wpC M A (isTrue test env (eval test env)) (fun b s₂ => if b then wpC M A (execs body env) Q E s₂ else wpC M A (execs orelse env) Q E s₂) E s) : wpC M A (exec (.If test body orelse pos) env) Q E s := by
  rw [exec_If]
  refine wpC.at (wpC.bind (wpC.mono h (fun b s' h' => ?_) fun _ _ e => e))
  cases b <;> exact h'
theorem wpC.Return {e : Expr} {pos : Pos} {Q : Flow → Shared → Prop} (h : wpC M A (eval e env) (fun v => Q (.ret v)) E s) : wpC M A (exec (.Return (some e) pos) env) Q E s := by
  rw [exec_Return_some]
  exact wpC.at (wpC.bind (wpC.mono h (fun v s' h' => wpC.pure h') fun _ _ e => e))
theorem wpC.Assign {x : Str} {pos' pos : Pos} {value : Expr} {Q : Flow → Shared → Prop}
    (h : wpC M A (eval value env) (fun v s₁ => wpAny M A (storeName env x v) (fun _ => Q .next) E s₁) E s)
    (hs : swapsWith value (some (.Name x pos')) pos.line env = Pure.pure false := by rfl) : wpC M A (exec (.Assign [.Name x pos'] value pos) env) Q E s := fun Γ p hΓ c => by
  simp only [exec_Assign_Name env x pos' value pos hs, Sem.wp_bind', Sem.wp_cmd_standAt, Sem.wp_bindName, Sem.wp_pure']
  exact Sem.wp_mono M Γ _ (fun v _ s₁ h₁ => h₁ Γ _ hΓ) (fun _ _ _ h' => h') _ _ (h Γ _ hΓ c)
theorem wpC.runOwn {c : Code} {h : Option Value} {Q : Flow → Shared → Prop}
    (hc : codeC M (A.mark h) c (fun r s' => match r with | .ok f => Q f s' | .error e => cameBackBy M A env E e s') s) (hnb : h ≠ some byPass := by intro x; cases x) : wpC M A (runOwn c env h) Q E s := by
  unfold PySem.runOwn
  exact wpC.onRaise (wpC.run hc hnb)
theorem wpC.For {target iter : Expr} {body orelse : List Stmt} {pos : Pos} {Q : Flow → Shared → Prop}
    (h : wpAny M A (eval iter env) (fun x s₁ => wpAny M A (pyIter x) (fun it s₂ =>
      codeC M A (.forLoop target it body orelse env) (fun r s' => match r with | .ok f => Q f s' | .error e => cameBackBy M A env E e s') s₂) E s₁) E s)
    (hs : ∀ x, foldedSetIterable iter env x = Pure.pure x := by intro _; rfl) : wpC M A (exec (.For target iter body orelse pos) env) Q E s := by
  rw [exec_For]
  exact wpC.at (wpC.step (wpAny_mono h (fun x s₁ h₁ => wpC.step (wpAny_of_eq (hs x) (wpC.at (wpC.step (wpAny_holding (wpAny_mono h₁ (fun it s₂ h₂ => wpC.runOwn h₂) fun _ _ e => e)))))) fun _ _ e => e))
end
end Mine
end
section
example : True := by (w_top off); trivial
open PySem PySem.W PyProof.Rows PySem.Calls
set_option Elab.async false
namespace Mine
theorem wp_of_called {M : Model} {t : Sem Fin} {R : Result → Shared → Prop} {s : Shared}
    (h : wpC M callerA t (fun fin s' => ∃ f, fin = .done f ∧ R (.ok f) s') (fun e s' => R (.error e) s') s) :
    Sem.wp M ⟨.builtin "claim.caller" {}, none, none, [], none⟩ t (Sem.finPost M ⟨.builtin "claim.caller" {}, none, none, [], none⟩ R) (fun e _ s' => R (.error e) s') default s := by
  refine Sem.wp_mono M _ t (fun fin p' s' h' => ?_) (fun _ _ _ h' => h') default s (h _ default caller_in rfl)
  obtain ⟨f, rfl, hf⟩ := h'
  exact hf
theorem callFrom_C {c : ClaimW} {tree : List Value → Sem Fin} {w : World} {s : Shared} {free : Addr → Prop} {gens : Prop} {kept : Heap → Prop} (hz : s.asleep) (hgens : s.gens = #[])
    (hspec : ∀ args, c.pre args = true → WData.layableAll args = true →
      ∀ ord : List DictEntry → List DictEntry, (∀ l, (ord l).Perm l) →
      ∃ vs s₁, layAllW c.records (classAt s.heap) w.params ord args s = some (vs, s₁) ∧
        wpC (model c.prog w) callerA (tree vs) (fun fin s' => ∃ f, fin = .done f ∧ (c.Ends s args vs s₁ (.ok f) s' ∧ s'.os = s.os ∧ AllBare s'.gens ∧ kept s'.heap))
          (fun e s' => c.Ends s args vs s₁ (.error e) s' ∧ s'.os = s.os ∧ AllBare s'.gens ∧ kept s'.heap) s₁) :
    c.CallFrom (fun vs => ⟨tree vs, .builtin "claim.caller" {}, default, []⟩) w free gens kept s := by
  intro args hpre hlay ord hord
  obtain ⟨vs, s₁, hlaid, hcode⟩ := hspec args hpre hlay ord hord
  have hal := layAllW_rest _ _ _ hlaid
  have hw := wp_of_called (R := fun r s' => (c.Ends s args vs s₁ r s' ∧ s'.os = s.os ∧ kept s'.heap) ∧ leftWithCleanup s'.gens = false)
    (wpC.mono hcode (fun fin s' ⟨f, e, h1, h2, h3, h4⟩ => ⟨f, e, ⟨h1, h2, h4⟩, leftWithCleanup_false_of_bare h3⟩) fun e s' ⟨h1, h2, h3, h4⟩ => ⟨⟨h1, h2, h4⟩, leftWithCleanup_false_of_bare h3⟩)
  obtain ⟨k, r, s'', s', hsched, hrun, hfo, hcase, hos, hkp⟩ := wp_halts_full (M := model c.prog w) (Shared.asleep_of_life hal.2.2.2 hz) hw
  obtain ⟨eh, _, _, eo, _⟩ := Shared.forget_eq hfo
  have hcase := hcase.congr eh
  rw [← eh] at hkp
  rw [← eo] at hos
  have hlife : s'.heap.life = s.heap.life := (runN_life _ _ _ hrun).trans hal.2.2.2
  refine ⟨vs, s₁, hlaid, k, _, s', hsched, ?_, (fun _ i x hx => by rw [hgens] at hx; simp at hx), hkp, by rw [hlife], Shared.rest_eq hos⟩
  rcases hcase with ⟨v, rfl, d1, d2, d3, d4, d5⟩ | ⟨e, ob, cls, rfl, d1, d2, d3, d4, d5⟩
  · exact .inl ⟨v, rfl, d1, d2, d3, fun b o y _ => d4 b o y, d5⟩
  · exact .inr ⟨e, ob, cls, rfl, d1, d2, d3, d4, fun b o y _ => d5 b o y⟩
/-- what is to be walked: the law's call, in the contexts of the claim's run -/
abbrev WalkC (q : Program) (loose : List Str) (XP : (Str → Option Value) → Heap → Prop) (YP : World → Heap → Prop) (r : RowW) (d : DefRec) (kwd : List (Str × Expr)) : Prop :=
  ∀ (w : World) (s₀ s₁ : Shared) (mg mb : Str → Option Value), Ground q loose r.records XP w s₀ mg mb s₁.heap → YP w s₁.heap → ∀ (a : Addr) (o : Obj) (pm cd doc dV kV : Value), s₁.heap.get? a = some o →
    o.data = .func { docDef d.name d.params d.body d.scope pm cd doc with defaults := dV, kwdefaults := kV } → s₁.heap.CodeRec cd d.name → Dflts mg s₁.heap d.params kwd dV kV → mg d.name = some (.ref a) → s₁.gens = #[] →
    ∀ (args : List WData) (vals : List Value) (as : List Addr), r.claim.pre args = true → WData.layableAll args = true → ReadsAllW r.records (classAt s₀.heap) s₁.heap vals args as → WellAll w.params s₁.heap vals args → (∀ a ∈ as, (a == sysModules) = false) →
      wpC (model r.prog w) callerA (PySem.call (.ref a) vals) (fun v s' => GoodWG r.claim (classAt s₀.heap) (ExcName.means s₀.heap) args s₁ (.ok (.ret v)) s')
        (fun e s' => GoodWG r.claim (classAt s₀.heap) (ExcName.means s₀.heap) args s₁ (.error e) s') s₁

theorem holds_C {r : OpenRow} {q : Program} {loose : List Str} {Xt : Shared → Bool} {XP : (Str → Option Value) → Heap → Prop} {α : Type} {Yf : Shared → α} {Ya : World → α} {YP : World → Heap → Prop} {d : DefRec} {kwd : List (Str × Expr)} {N : Nat}
    (left : LeftO r.prog q loose Xt Yf Ya N) (hY : ∀ w s, Yf s = Ya w → YP w s.heap) (hYk : ∀ w h h', YP w h → (∀ b o, h.get? b = some o → h'.get? b = some o) → YP w h')
    (hX : ∀ s, Xt s = true → XP (s.heap.nsMap mainGlobals) s.heap) (hXk : ∀ mg h h', XP mg h → (∀ b o, h.get? b = some o → h'.get? b = some o) → XP mg h')
    (hdef : defOf q r.name = some (d, kwd)) (hp : r.prog.theDef r.name = some (d.params, d.body, d.scope)) (hk : kwWritten? d.params.kwonlyargs d.params.kw_defaults = some kwd) (hRf : ∀ s, Xt s = true → RecFacts r.records s.heap) (hwr : (!r.writes || r.records.isEmpty) = true)
    (k1 : r.wellSaid = true) (ok : (chainsOk q && opensWell r.prog && (frees r.toRowW && r.within.isEmpty)) = true) (hb : r.prog.bare) (hw : r.toRowW.promised)
    (call : WalkC q loose XP YP r.toRowW d kwd) : r.Holds := by
  simp only [Bool.and_eq_true] at ok
  obtain ⟨⟨hch, o1⟩, k5, k6⟩ := ok
  obtain ⟨hsame, hu, ha, hap, hm⟩ := frees_parts k5
  have hi := ident_freeW hu ha hap
  have hwi : r.toRowW.claim.within = [] := List.isEmpty_iff.mp k6
  refine ⟨k1, hw, ⟨⟨hb, o1, by show r.toRowW.makers.map _ = []; rw [hm]; rfl⟩, hw.witness, fun w => ⟨(left.behind hX hch w).1, fun s' hs' => ?_⟩⟩⟩
  obtain ⟨s₀, hf, hg0, s, hT, hz, hgens, hg, G00, y⟩ := (left.behind (XP := fun mg h => XP mg h ∧ RecFacts r.records h) (fun s hs => ⟨hX s hs, hRf s hs⟩) hch w).2 s' hs'
  have RF := G00.X.2
  have G0 : Ground q loose [] XP w s (s.heap.nsMap mainGlobals) (s.heap.nsMap builtinsNs) s.heap := ⟨G00.T, G00.B, G00.D, G00.TE, G00.TD, G00.W, G00.X.1, G00.cls, G00.has, G00.apart, G00.once, G00.K⟩
  have G : Ground q loose r.records XP w s _ _ s.heap := RF.ground G0
  have hgens : s.gens = #[] := Array.eq_empty_of_size_eq_zero (beq_iff_eq.mp hgens)
  refine ⟨s₀, hf, hg0, s, hT, fun n hn => ?_, RF.1, RF.2.1, ?_⟩
  · obtain rfl : n = r.name := by split at hn <;> simp_all
    exact pinned_of_view hg G0 hdef hp hk
  refine callFrom_C (c := r.toRowW.claim) hz hgens fun args hpre hlay ord hord => ?_
  obtain ⟨⟨vs, s₁⟩, hlaid⟩ := Option.isSome_iff_exists.mp (layAllW_isSome (P := w.params) (ord := ord) G.has args r.args s (pre_splitW (r := r.toRowW) hpre).1)
  have keeps := layAllW_keeps _ _ _ hlaid
  have hal := layAllW_rest _ _ _ hlaid
  obtain ⟨as, hrd, hin, hold⟩ := reads_layAllW hord _ _ _ hlaid hlay s₁.heap (fun _ _ e => e)
  have L : Laid r.records w s s₁ args vs as := ⟨⟨ord, hord, hlaid⟩, hrd, hin, hold, keeps, hal.1.trans hgens, hal.2.2.1⟩
  have G₁ := G.keeps hXk keeps
  obtain ⟨a, o, pm, cd, doc, dV, kV, h1, h2, h3, h4, h5⟩ := G₁.fn hdef
  have h := call w s s₁ _ _ G₁ (hYk _ _ _ (hY w s y) keeps) a o pm cd doc dV kV h2 h3 h4 h5 (defOf_name hdef ▸ h1) L.gens args vs as hpre hlay L.reads L.well (L.low G.low)
  refine ⟨vs, s₁, hlaid, ?_⟩
  refine wpC.step (wpAny_nsGet G₁.T.g ?_)
  rw [h1]
  refine wpC.bind (wpC.mono h (fun v s' g => wpC.pure ⟨_, rfl, ?_⟩) fun e s' g => ?_)
  · have z := g.laid (c := r.toRowW.claim) hsame hwi hi L
    exact ⟨z.1, z.2.1, z.2.2, fun q => ⟨namesKept_of hT hg _ keeps g.2.1.old, noTable hwr q⟩⟩
  · have z := g.laid (c := r.toRowW.claim) hsame hwi hi L
    exact ⟨z.1, z.2.1, z.2.2, fun q => ⟨namesKept_of hT hg _ keeps g.2.1.old, noTable hwr q⟩⟩
end Mine
end
section
example : True := by (w_top off); trivial
open PySem PySem.W PyProof.Rows
namespace Mine
def hookAs : List Addr := [86, 4, 2, 3, 22, 24, 25, 26, 27, 29, 30, 32, 33, 34, 35, 36, 37, 39, 40, 42, 43, 44, 45, 46, 47, 50, 51, 52, 53, 54, 55,
  57, 58, 60, 61, 62, 63, 64, 65, 66, 68, 69, 71, 72, 73, 75, 76, 78, 79, 80, 83, 84, 85, 87, 88, 90, 91, 92, 94, 95,
  97, 98, 99, 101, 102, 104, 105, 106, 107, 108, 109, 110, 113, 116, 117, 118, 120, 121, 123, 124, 125, 127, 128, 130,
  131, 132, 135, 136, 137, 140, 141, 142, 145, 146, 147, 150, 151, 152, 154, 155, 157, 158, 159, 161, 162, 164, 165,
  166, 168, 169, 171, 172, 173, 175, 176, 178, 179, 180, 182, 183, 185, 186, 187, 190, 191]
noncomputable def hookC : Hook := kHook heapX hookAs (fun _ => by kernel_rfl)
set_option maxRecDepth 100000 in
set_option maxHeartbeats 0 in
theorem leftC : LeftO PySem.Challenge.pw_ew0023_01 lawTop.view_39 [Str.ofString "PGInterval"] (fun s => xlAt lawTop.view_39 [] s && recOk (RowW.records PySem.Challenge.rw_ew0023_01.row.toRowW) s) (Hook.obs hookC) (Hook.val hookC) 4234 :=
  LeftO.of_split "special-get-raises" (fun w => by kernel_rfl)
end Mine
end
section
example : True := by (w_top off); trivial
open PySem PySem.W PyProof.Rows
set_option Elab.async false
namespace Mine
set_option maxRecDepth 100000 in
set_option maxHeartbeats 8000000 in
theorem lawHead {d : DefRec} {kwd : List (Str × Expr)} (hdef : defOf lawTop.view_39 PySem.Challenge.rw_ew0023_01.row.name = some (d, kwd)) (hp : PySem.Challenge.rw_ew0023_01.row.prog.theDef PySem.Challenge.rw_ew0023_01.row.name = some (d.params, d.body, d.scope)) (hk : kwWritten? d.params.kwonlyargs d.params.kw_defaults = some kwd)
    (hc : WalkC lawTop.view_39 [Str.ofString "PGInterval"] (XL lawTop.view_39 []) (Hook.says hookC) PySem.Challenge.rw_ew0023_01.row.toRowW d kwd) : PySem.Challenge.rw_ew0023_01.Holds := by
  o_law
  refine holds_C (q := lawTop.view_39) (loose := [Str.ofString "PGInterval"]) (Xt := fun s => xlAt lawTop.view_39 [] s && recOk (RowW.records PySem.Challenge.rw_ew0023_01.row.toRowW) s) (XP := XL lawTop.view_39 []) (Yf := Hook.obs hookC) (Ya := Hook.val hookC) (YP := Hook.says hookC) (N := 4234) leftC (Hook.of hookC) (Hook.keeps hookC) (fun s e => xl_of s (Bool.and_eq_true_iff.mp e).1) XL.keeps hdef hp hk (fun s e => recFacts_of (Bool.and_eq_true_iff.mp e).2) (by rfl) (by assumption) (by decide +kernel) ⟨rfl, rfl, rfl, rfl, rfl, by decide +kernel⟩ ?_ hc
  w_witness2
end Mine
end
section
example : True := by (w_top off); trivial
open PySem PySem.W PyProof.Rows PySem.Calls
set_option Elab.async false
namespace Mine
section
variable {prog : Program} {w : World} {A : Around} {E : Value → Shared → Prop} {s : Shared} {h₀ : Heap} {L : Addr} {m : Str → Option Value} {env : Env}
/-- the end of a turn that leaves the ledger as it was -/
theorem compEnd_same {I C D : Addr} {s₁ : Shared} {oI oC oD : Obj} {S : List (Addr × Obj) → Prop} {rest : Value → List (Addr × Obj) → Prop} {y : Value} {h' : Heap} {tk : Nat} {news' : List (Addr × Obj)}
    (F : Fr h₀ L h' m) (N : News h₀ L h' ((I, oI) :: (C, oC) :: (D, oD) :: news')) (off : LCg.Off3 I C D news') (hS : S news') (r : rest y news') :
    LCg.CompEnd h₀ L m s₁ I oI C oC D oD S rest y { s₁ with heap := h', toks := tk } := LCg.CompEnd.intro F N news' (fun _ hp => hp) off hS r
/-- a made tuple stands in the ledger -/
def TupAt (ax : Addr) (its : Array Value) (news : List (Addr × Obj)) : Prop := ∃ o, (ax, o) ∈ news ∧ o.cls = .type "tuple" ∧ ∃ n, o.data = .seq its n
theorem TupAt.tup {h : Heap} {ax : Addr} {its : Array Value} {news : List (Addr × Obj)} (x : TupAt ax its news) (N : News h₀ L h news) : h.IsTuple ax its :=
  let ⟨o, hm, r⟩ := x; ⟨o, (N _ hm).1, r⟩
theorem tup_st {ax I : Addr} {its : Array Value} : ∀ i (h h' : Heap) (o : Obj) (nw : List (Addr × Obj)), (h.IsTupleIter I ax i ∧ h.IsTuple ax its) → h.get? I = some o → h'.get? I = some o → (∀ b o, h₀.get? b = some o → h'.get? b = some o) → News h₀ L h' nw → TupAt ax its nw → (h'.IsTupleIter I ax i ∧ h'.IsTuple ax its) :=
  fun i h h' o nw st e e' _ N S => ⟨by obtain ⟨o', q, r⟩ := st.1; rw [e] at q; cases q; exact ⟨o, e', r⟩, S.tup N⟩

def TupSrc (prog : Program) (w : World) (A : Around) (h₀ : Heap) (L : Addr) (m : Str → Option Value) (env : Env) (elt : Expr) (x : Str) (scope : Scope) (cl : List (Str × Addr)) (Fin : Shared → List Value → List (Addr × Obj) → Prop) (xv : Value) (s₁ : Shared) : Prop :=
  ∃ ax its news, xv = .ref ax ∧ A.handled = none ∧ Fr h₀ L s₁.heap m ∧ News h₀ L s₁.heap news ∧ TupAt ax its news ∧ its.size ≤ sizeLine ∧
    ∀ g, LCg.CompRest prog w A h₀ L m env elt x scope cl { s₁ with heap := g } (TupAt ax its) (fun i v => its[i]? = some v) (Fin { s₁ with heap := g }) its.size 0 [] news
theorem TupSrc.of {elt : Expr} {x : Str} {scope : Scope} {cl : List (Str × Addr)} {Fin : Shared → List Value → List (Addr × Obj) → Prop} {ax : Addr} {its : Array Value} {k : Nat} {news : List (Addr × Obj)} {s₁ : Shared}
    (hh : A.handled = none) (F : Fr h₀ L s₁.heap m) (N : News h₀ L s₁.heap news) (hm : (ax, ({ cls := .type "tuple", data := .seq its k } : Obj)) ∈ news) (hsz : its.size ≤ sizeLine)
    (h : ∀ g, LCg.CompRest prog w A h₀ L m env elt x scope cl { s₁ with heap := g } (TupAt ax its) (fun i v => its[i]? = some v) (Fin { s₁ with heap := g }) its.size 0 [] news) :
    TupSrc prog w A h₀ L m env elt x scope cl Fin (.ref ax) s₁ := ⟨ax, its, news, rfl, hh, F, N, ⟨_, hm, rfl, _, rfl⟩, hsz, h⟩

theorem assign_compTup {elt iter : Expr} {x y : Str} {px py : Pos} {scope : Scope} {cl : List (Str × Addr)} {pos spos : Pos} {Q : Flow → Shared → Prop} (F₀ : Fr h₀ L s.heap m) (hLe : env.locals = L)
    (hsw : swapsWith (.ListComp elt [⟨.Name x px, iter, [], 0⟩] scope pos) (some (.Name y py)) spos.line env = pure true)
    (hclos : closureFor scope env = pure cl) (hcell : ∀ z ∈ scope.names, z.2 ≠ .cell) (hkind : scope.kind = .function)
    (hnames : ∀ z ∈ scope.names, z.2 = .local → scope.names.lookup z.1 = some .local) (hx : scope.names.lookup x = some .local)
    (hy : env.kindOf y = some .local) (hp : (env.scope.kind == .class || (env.scope.kind == .module && env.locals != env.globals)) = false)
    (h : wpAny (model prog w) A (eval iter env) (TupSrc prog w A h₀ L m env elt x scope cl (fun s₂ => LCg.FinA h₀ L m s₂ y Q)) E s)
    (hs : ∀ x, foldedSetIterable iter env x = pure x := by intro _; rfl) :
    wpAny (model prog w) A (exec (.Assign [.Name y py] (.ListComp elt [⟨.Name x px, iter, [], 0⟩] scope pos) spos) env) Q E s := by
  subst hLe
  rw [exec_Assign_Name_used _ _ _ _ hsw]
  refine wpAny_bind (wpAny_standAt (wpAny_bind ?_))
  show wpAny _ A (do let _ ← comprehension (.ListComp elt [⟨.Name x px, iter, [], 0⟩] scope pos) scope env _ (newList []) false (eval iter env) (some (assign (.Name y py) env))) _ _ s
  refine wpAny_bind (wpAny_mono (wpAny_comprehension_free (use := some (assign (.Name y py) env)) (Q := fun _ s' => Q .next s') rfl hs hclos hkind hnames
    (wpAny_mono h (fun xv s₁ h₁ => ?_) fun _ _ e => e)) (fun _ s' hq => wpAny_pure (wpAny_pure hq)) fun _ _ e => e)
  obtain ⟨ax, its, news, rfl, hh, F, N, S, hsz, R⟩ := h₁
  have hl := S.tup N
  have hlt : ax < s₁.heap.objs.size := by obtain ⟨_, e, _⟩ := hl; exact Heap.lt_size e
  refine wpAny_pyIter_tuple hl ?_
  have up : ∀ b o, s₁.heap.get? b = some o → (s₁.heap.push { cls := .type "tuple_iterator", data := .fields #[.ref ax, .int 0 0] }).get? b = some o := fun b o e => Heap.get?_push_of_some _ e
  refine LCg.block_U (Walks.tuple hh s₁.heap.objs.size ax (Nat.ne_of_lt hlt) its) hsz (fun i h st => by obtain ⟨o, e, _⟩ := st.1; exact ⟨o, e⟩) tup_st hcell hkind hx ⟨⟨_, Heap.get?_push_size _ rfl, rfl, rfl⟩, ?_⟩ (fun b hb => ?_)
    (F.keeps up) (N.grown up) (Nat.ne_of_lt F.ns.lt) (next_is_new F) (fun p hp => Nat.ne_of_lt (Heap.lt_size (N p hp).1)) S (R _) ?_
  · obtain ⟨o, e, r⟩ := hl; exact ⟨o, up _ _ e, r⟩
  · show b < (s₁.heap.push _).objs.size
    rw [Heap.size_push]
    rcases List.mem_cons.mp hb with rfl | hb
    · exact Nat.lt_succ_self _
    · rw [List.mem_singleton.mp hb]; exact Nat.lt_succ_of_lt hlt
  · intro D C h' tk m' ys news' F' N' o1 hn hC₀ hD₀ hCL hDL hCD offC fin
    show wpAny _ A (assign (.Name y py) env (.ref D)) _ _ _
    refine wpAny_assign_Name (wpAny_storeName_local hy F'.ns (fun h₂ hn₂ hs₂ => ?_) hp)
    have hL₀ : h₀.get? env.locals = none := Heap.get?_none_of_le F'.above
    have F₂ : Fr h₀ env.locals h₂ (fun z => if z = y then some (.ref D) else m z) := ⟨hn₂, fun b o e => hs₂.extBut b o (fun q => by rw [q, hL₀] at e; cases e) (F'.keep b o e), F'.above⟩
    refine ⟨m', hn.sameBut hs₂ hCL, fun h'' hs'' => fin D h'' _ (F₂.change hs'' hCL hC₀) (fun p hp => ?_) o1⟩
    have z : h₂.get? p.1 = some p.2 := hs₂.extBut _ _ (N' p hp).2.1 (N' p hp).1
    refine ⟨hs''.extBut _ _ ?_ z, (N' p hp).2⟩
    rcases List.mem_cons.mp hp with rfl | hp
    · exact Ne.symm hCD
    · exact offC p hp
end
end Mine
end
section
example : True := by (w_top off); trivial
open PySem PySem.W PyProof.Rows PySem.Calls
set_option Elab.async false
namespace Mine
section
variable {prog : Program} {w : World} {A : Around} {E : Value → Shared → Prop} {s : Shared}
theorem item_led {value slice : PySem.Expr} {h₀ : Heap} {L l : Addr} {news : List (Addr × Obj)} {vs : List Value} {n : Nat} {k : Int} {u : Tok} {v : Value} {Q : Value → Shared → Prop} (N : News h₀ L s.heap news) (hm : (l, W.listOf vs.toArray n) ∈ news)
    (h0 : 0 ≤ k) (hhi : k < 2 ^ 63) (hx : vs[k.toNat]? = some v) (h : Q v s)
    (hs : subscripted slice false (.ref l) (.int k u) = operate [.ref l, .int k u] (getItem (.ref l) (.int k u))) :
    wpAny (model prog w) A (subscriptTail value slice (.ref l) (.int k u)) Q E s :=
  item_litK (PySem.IsL.isList (n := n) (N _ hm).1) h0 hhi hx h hs
end
/-- None, or an int -/
@[reducible] def optV : Option Int → Tok → Value
  | none, _ => .none
  | some i, t => .int i t
theorem handed_optV (o : Option Int) (t : Tok) : handedIn (optV o t) = true := by cases o <;> rfl
/-- an interval's eleven fields -/
structure Iv where
  ml : Option Int := none
  ce : Option Int := none
  de : Option Int := none
  y : Option Int := none
  mo : Option Int := none
  wk : Option Int := none
  d : Option Int := none
  h : Option Int := none
  mi : Option Int := none
  s : Option Int := none
  us : Option Int := none
abbrev ent (P : Params) (n : Str) (k : Tok) (v : Value) : DictEntry := ⟨PyData.keyHash P n, .str n k, v⟩
abbrev ivDict (P : Params) (k t : Nat → Tok) (a : Iv) : Obj := dictOf [
  ent P (Str.ofString "millennia") (k 0) (optV a.ml (t 0)), ent P (Str.ofString "centuries") (k 1) (optV a.ce (t 1)), ent P (Str.ofString "decades") (k 2) (optV a.de (t 2)),
  ent P (Str.ofString "years") (k 3) (optV a.y (t 3)), ent P (Str.ofString "months") (k 4) (optV a.mo (t 4)), ent P (Str.ofString "weeks") (k 5) (optV a.wk (t 5)),
  ent P (Str.ofString "days") (k 6) (optV a.d (t 6)), ent P (Str.ofString "hours") (k 7) (optV a.h (t 7)), ent P (Str.ofString "minutes") (k 8) (optV a.mi (t 8)),
  ent P (Str.ofString "seconds") (k 9) (optV a.s (t 9)), ent P (Str.ofString "microseconds") (k 10) (optV a.us (t 10))] 11
/-- an interval at x, its dict at dx -/
abbrev ivAt (w : World) (x dx : Addr) (k t : Nat → Tok) (a : Iv) : List (Addr × Obj) := [(x, instObj 108 dx), (dx, ivDict w.params k t a)]
abbrev ivAt2 (w : World) (x dx : Addr) (k t : Nat → Tok) (a : Iv) (x2 dx2 : Addr) (k2 t2 : Nat → Tok) (b : Iv) : List (Addr × Obj) := [(x, instObj 108 dx), (dx, ivDict w.params k t a), (x2, instObj 108 dx2), (dx2, ivDict w.params k2 t2 b)]
abbrev listR (a : Iv) (t : Nat → Tok) (n : Nat) : Obj := W.listOf #[optV a.y (t 3), optV a.mo (t 4), optV a.d (t 6), optV a.h (t 7), optV a.mi (t 8), optV a.s (t 9)] n
abbrev listX (a : Iv) (t : Nat → Tok) (n : Nat) : Obj := W.listOf #[optV a.ml (t 0), optV a.ce (t 1), optV a.de (t 2), optV a.wk (t 5), optV a.us (t 10)] n
end Mine
end
section
example : True := by (w_top off); trivial
open PySem PySem.W PyProof.Rows PySem.Calls
set_option Elab.async false
namespace Mine
theorem News.sub {g h : Heap} {L : Addr} {l all : List (Addr × Obj)} (N : News g L h all) (hs : ∀ p ∈ l, p ∈ all) : News g L h l := fun p hp => N p (hs p hp)
theorem Fr.same {g h : Heap} {L : Addr} {m : Str → Option Value} {x : Str} {v : Option Value} (F : Fr g L h m) (hx : m x = v) : Fr g L h (fun y => if y = x then v else m y) := by
  have e : (fun y => if y = x then v else m y) = m := by
    funext y
    by_cases h : y = x
    · subst h; simp [hx]
    · simp [h]
  rw [e]; exact F
section
variable {prog : Program} {w : World} {A : Around} {E : Value → Shared → Prop} {s : Shared}
theorem len_add {a b : Str} {i j : Nat} (ha : a.length ≤ i) (hb : b.length ≤ j) : (a ++ b).length ≤ i + j := by
  rw [Str.length_append]; exact Nat.add_le_add ha hb
theorem len_int {n : Int} (h : -1000000000 < n ∧ n < 1000000000) : (Str.ofString (toString n)).length ≤ 11 := by
  rw [PySem.ofString_length]; exact PySem.int_text_length_le10 (k := 10) (by decide) (by omega)
theorem add_short {x y : Str} {t u : Tok} {i j : Nat} {Q : Value → Shared → Prop} (hx : x.length ≤ i) (hy : y.length ≤ j) (hs : Nat.ble (i + j) 16777216 = true) (h : ∀ t' tk, Q (.str (x ++ y) t') { s with toks := tk }) :
    wpAny (model prog w) A (binaryOp .Add (.str x t) (.str y u)) Q E s :=
  PyProof.Rows.add_str h (Nat.le_trans (Nat.add_le_add hx hy) (PySem.sizeLine_eq ▸ Nat.le_of_ble_eq_true hs))
end
/-- the state behind a statement that may turn one text, and no more -/
def CutS (g : Heap) (L : Addr) (x : Str) (v : Str) (m : Str → Option Value) (news : List (Addr × Obj)) (s : Shared) (f : Flow) (s' : Shared) : Prop :=
  f = .next ∧ ∃ h' tk u, s' = { s with heap := h', toks := tk } ∧ Fr g L h' (fun y => if y = x then some (.str v u) else m y) ∧ News g L h' news
theorem cutStr {M : Model} {A : Around} {E : Value → Shared → Prop} {s : Shared} {t : Sem Flow} {Q : Flow → Shared → Prop} {g : Heap} {L : Addr} {m : Str → Option Value} {news : List (Addr × Obj)} (x v : Str)
    (_F : Fr g L s.heap m) (_N : News g L s.heap news)
    (h : wpAny M A t (CutS g L x v m news s) E s)
    (k : ∀ h' tk u, Fr g L h' (fun y => if y = x then some (.str v u) else m y) → News g L h' news → Q .next { s with heap := h', toks := tk }) : wpAny M A t Q E s :=
  wpAny_mono h (fun f s' ⟨e, h', tk, u, e', F', N'⟩ => by subst e e'; exact k h' tk u F' N') fun _ _ x => x
/-- a test's answer, and nothing else is turned -/
def CutB (g : Heap) (L : Addr) (c : Bool) (m : Str → Option Value) (news : List (Addr × Obj)) (s : Shared) (b : Bool) (s' : Shared) : Prop :=
  b = c ∧ ∃ h' tk, s' = { s with heap := h', toks := tk } ∧ Fr g L h' m ∧ News g L h' news
theorem cutBool {M : Model} {A : Around} {E : Value → Shared → Prop} {s : Shared} {t : Sem Bool} {Q : Bool → Shared → Prop} {g : Heap} {L : Addr} {m : Str → Option Value} {news : List (Addr × Obj)} (c : Bool)
    (_F : Fr g L s.heap m) (_N : News g L s.heap news)
    (h : wpAny M A t (CutB g L c m news s) E s)
    (k : ∀ h' tk, Fr g L h' m → News g L h' news → Q c { s with heap := h', toks := tk }) : wpAny M A t Q E s :=
  wpAny_mono h (fun f s' ⟨e, h', tk, e', F', N'⟩ => by subst e e'; exact k h' tk F' N') fun _ _ x => x
end Mine
end
section
example : True := by (w_top off); trivial
open PySem PySem.W PyProof.Rows PySem.Calls
set_option Elab.async false
namespace Mine
section
variable {prog : Program} {w : World} {A : Around} {E : Value → Shared → Prop} {s : Shared} {env : Env} {h₀ : Heap} {x : Str} {body : List Stmt} {Q : Flow → Shared → Prop}
theorem UnrPost.mono {L I : Addr} {it : Obj} {s₁ s₂ : Shared} {f : Flow} {R R' : (Str → Option Value) → List (Addr × Obj) → Prop} (h : ∀ m n, R m n → R' m n) (p : UnrPost h₀ L s₁ I it R Q f s₂) : UnrPost h₀ L s₁ I it R' Q f s₂ := by
  cases f with
  | ret v => exact p
  | brk => exact p
  | next => obtain ⟨h', tk, m', news', e, F, N, o, r⟩ := p; exact ⟨h', tk, m', news', e, F, N, o, h _ _ r⟩
  | cont => obtain ⟨h', tk, m', news', e, F, N, o, r⟩ := p; exact ⟨h', tk, m', news', e, F, N, o, h _ _ r⟩
/-- a loop over a range, by what stands between its turns -/
theorem rangeRest_of {I : Addr} {a : Int} {n : Nat} (S : Nat → (Str → Option Value) → List (Addr × Obj) → Prop)
    (turn : ∀ i m news t h tk, i < n → S i m news → Fr h₀ env.locals h (fun y => if y = x then some (.int (a + (i : Int)) t) else m y) →
      News h₀ env.locals h ((I, itR (a + ((i + 1 : Nat) : Int)) ((n : Int) - ((i + 1 : Nat) : Int))) :: news) →
      wpAny (model prog w) A (execs body env) (UnrPost h₀ env.locals { s with heap := h, toks := tk } I (itR (a + ((i + 1 : Nat) : Int)) ((n : Int) - ((i + 1 : Nat) : Int))) (S (i + 1)) Q) E { s with heap := h, toks := tk })
    (done : ∀ m news h tk, S n m news → Fr h₀ env.locals h m → News h₀ env.locals h news → Q .next { s with heap := h, toks := tk }) :
    ∀ k i m news, i + k = n → S i m news → RangeRest prog w A E h₀ env x body Q s I a n k i m news
  | 0, i, m, news, e, hS => RangeRest.zero fun h tk F N => done m news h tk (by rw [← e]; exact hS) F N
  | k + 1, i, m, news, e, hS => RangeRest.succ fun t h tk F N =>
    wpAny_mono (turn i m news t h tk (by omega) hS F N) (fun f s₂ p => UnrPost.mono (fun m' n' r => rangeRest_of S turn done k (i + 1) m' n' (by omega) r) p) fun _ _ e => e
/-- a loop over a list, by what stands between its turns -/
theorem listRest_of {I : Addr} {lp : Addr × Obj} (S : List Value → (Str → Option Value) → List (Addr × Obj) → Prop)
    (turn : ∀ v r m news it h tk, S (v :: r) m news → it.cls = .type "list_iterator" → Fr h₀ env.locals h (fun y => if y = x then some v else m y) → News h₀ env.locals h ((I, it) :: news) →
      wpAny (model prog w) A (execs body env) (UnrPost h₀ env.locals { s with heap := h, toks := tk } I it (fun m' n' => lp ∈ n' ∧ S r m' n') Q) E { s with heap := h, toks := tk })
    (done : ∀ m news h tk, S [] m news → Fr h₀ env.locals h m → News h₀ env.locals h news → Q .next { s with heap := h, toks := tk }) :
    ∀ vs m news, S vs m news → ListRest prog w A E h₀ env x body Q s I lp vs m news
  | [], m, news, hS => ListRest.zero fun h tk F N => done m news h tk hS F N
  | v :: r, m, news, hS => ListRest.succ fun it h tk hc F N =>
    wpAny_mono (turn v r m news it h tk hS hc F N) (fun f s₂ p => UnrPost.mono (fun m' n' ⟨a, b⟩ => ⟨a, listRest_of S turn done r m' n' b⟩) p) fun _ _ e => e
end
/-- a ledger with one object turned -/
def setObj : Nat → Obj → List (Addr × Obj) → List (Addr × Obj)
  | _, _, [] => []
  | 0, o, p :: r => (p.1, o) :: r
  | j + 1, o, p :: r => p :: setObj j o r
section
variable {prog : Program} {w : World} {A : Around} {E : Value → Shared → Prop} {s : Shared} {env : Env} {h₀ : Heap} {x : Str} {body : List Stmt} {Q : Flow → Shared → Prop}
theorem range_inv {r : Addr} {a₀ b₀ : Int} {t₀ u₀ v₀ : Tok} {m₀ : Str → Option Value} {news : List (Addr × Obj)} (n : Nat) (S : (Str → Option Value) → List (Addr × Obj) → Nat → (Str → Option Value) → List (Addr × Obj) → Prop)
    (hh : A.handled = none) (hr : IsRange s.heap r a₀ b₀ 1 t₀ u₀ v₀) (hsmall : Builtin.Range.small a₀ b₀ 1 = true) (hn : Builtin.Range.rangeSize a₀ b₀ 1 = (n : Int)) (F : Fr h₀ env.locals s.heap m₀) (N : News h₀ env.locals s.heap news)
    (start : S m₀ news 0 m₀ news)
    (turn : ∀ I : Addr, (∀ p ∈ news, p.1 < I) → ∀ i m news' t h tk, i < n → S m₀ news i m news' → Fr h₀ env.locals h (fun y => if y = x then some (.int (a₀ + (i : Int)) t) else m y) →
      News h₀ env.locals h ((I, itR (a₀ + ((i + 1 : Nat) : Int)) ((n : Int) - ((i + 1 : Nat) : Int))) :: news') →
      wpAny (model prog w) A (execs body env) (UnrPost h₀ env.locals { s with heap := h, toks := tk } I (itR (a₀ + ((i + 1 : Nat) : Int)) ((n : Int) - ((i + 1 : Nat) : Int))) (S m₀ news (i + 1)) Q) E { s with heap := h, toks := tk })
    (done : ∀ m news' h tk, S m₀ news n m news' → Fr h₀ env.locals h m → News h₀ env.locals h news' → Q .next { s with heap := h, toks := tk }) :
    wpAny (model prog w) A (pyIter (.ref r)) (fun it s₂ => LoopAtV prog w A h₀ env x body Q E it s₂) E s :=
  iter_rangeUnr hh hr hsmall hn F N fun I hI => rangeRest_of (S m₀ news) (fun i m news' t h tk => turn I hI i m news' t h tk) done n 0 m₀ news (Nat.zero_add n) start
theorem list_inv {ax : Addr} {lo : Obj} {vs : List Value} {nn : Nat} {m₀ : Str → Option Value} {news : List (Addr × Obj)} (S : (Str → Option Value) → List (Addr × Obj) → List Value → (Str → Option Value) → List (Addr × Obj) → Prop)
    (hh : A.handled = none) (F : Fr h₀ env.locals s.heap m₀) (N : News h₀ env.locals s.heap news) (hm : (ax, lo) ∈ news) (hc : lo.cls = .type "list") (hd : lo.data = .seq vs.toArray nn)
    (start : S m₀ news vs m₀ news)
    (turn : ∀ I : Addr, (∀ p ∈ news, p.1 < I) → ∀ v r m news' it h tk, S m₀ news (v :: r) m news' → it.cls = .type "list_iterator" → Fr h₀ env.locals h (fun y => if y = x then some v else m y) → News h₀ env.locals h ((I, it) :: news') →
      wpAny (model prog w) A (execs body env) (UnrPost h₀ env.locals { s with heap := h, toks := tk } I it (fun m' n' => (ax, lo) ∈ n' ∧ S m₀ news r m' n') Q) E { s with heap := h, toks := tk })
    (done : ∀ m news' h tk, S m₀ news [] m news' → Fr h₀ env.locals h m → News h₀ env.locals h news' → Q .next { s with heap := h, toks := tk }) :
    wpAny (model prog w) A (pyIter (.ref ax)) (fun it s₂ => LoopAtV prog w A h₀ env x body Q E it s₂) E s :=
  iter_listUnr hh F N hm hc hd fun I hI => listRest_of (S m₀ news) (fun v r m news' it h tk => turn I hI v r m news' it h tk) done vs m₀ news start
end
theorem strValues_push (l : List (Str × Tok)) (x : Str) (t : Tok) : (strValues l).toArray.push (.str x t) = (strValues (l ++ [(x, t)])).toArray := by
  simp [strValues]
theorem strV_fits {l : List (Str × Tok)} (h : l.length ≤ 100) : (strValues l).toArray.size ≤ sizeLine := by
  rw [PySem.sizeLine_eq]; simp only [strValues, List.size_toArray, List.length_map]; omega
theorem map_as3 {m₀ : Str → Option Value} {a b c : Str} {va : Option Value} (h : m₀ a = va) : ∀ y, m₀ y = if y = a then va else if y = b then m₀ b else if y = c then m₀ c else m₀ y := by
  intro y
  by_cases h1 : y = a
  · subst h1; simp [h]
  · by_cases h2 : y = b
    · subst h2; simp [h1]
    · by_cases h3 : y = c
      · subst h3; simp [h1, h2]
      · simp [h1, h2, h3]
theorem map_z {m₀ : Str → Option Value} {a b c : Str} {va u1 u2 v : Option Value} (h1 : a ≠ c) (h2 : b ≠ c) : ∀ y, (if y = c then v else if y = a then va else if y = b then u1 else if y = c then u2 else m₀ y) = if y = a then va else if y = b then u1 else if y = c then v else m₀ y := by
  intro y
  by_cases h3 : y = c
  · subst h3; simp [Ne.symm h1, Ne.symm h2]
  · simp [h3]
theorem map_nz {m₀ : Str → Option Value} {a b c : Str} {va va' u1 u1' u2 v : Option Value} : ∀ y, (if y = a then va' else if y = b then u1' else if y = c then v else if y = a then va else if y = b then u1 else if y = c then u2 else m₀ y) = if y = a then va' else if y = b then u1' else if y = c then v else m₀ y := by
  intro y
  by_cases h1 : y = a
  · simp [h1]
  · by_cases h2 : y = b
    · simp [h1, h2]
    · by_cases h3 : y = c
      · simp [h1, h2, h3]
      · simp [h1, h2, h3]
theorem joinOk_few {sep : Str} {ts : List Str} {n : Nat} (hn : ts.length ≤ 40) (ht : ∀ x ∈ ts, x.length ≤ 1000) (hs : sep.length ≤ 10) : JoinOk sep ts = true := by
  refine joinOk_of ?_
  have h1 : (ts.map (·.length)).sum ≤ ts.length * 1000 := by
    clear hn
    induction ts with
    | nil => exact Nat.le_refl _
    | cons x r ih =>
      simp only [List.map_cons, List.sum_cons, List.length_cons]
      have := ih fun y hy => ht y (.tail _ hy)
      have := ht x (.head _)
      omega
  have h2 : ts.length * sep.length ≤ ts.length * 10 := Nat.mul_le_mul_left _ hs
  omega
theorem len_join {sep : Str} {ts : List Str} {k : Nat} (ht : ∀ x ∈ ts, x.length ≤ k) : (Txt.join sep ts).length ≤ ts.length * (k + sep.length) := by
  have h0 : Txt.join sep ts = Str.join sep ts := StrLaws.glued_eq_join sep ts
  rw [h0]
  refine Nat.le_trans (StrLaws.join_length_le sep ts) ?_
  have h1 : (ts.map (·.length)).sum ≤ ts.length * k := by
    clear h0
    induction ts with
    | nil => simp
    | cons x r ih =>
      simp only [List.map_cons, List.sum_cons, List.length_cons]
      have := ih fun y hy => ht y (.tail _ hy)
      have := ht x (.head _)
      rw [Nat.succ_mul]
      omega
  rw [Nat.mul_add]
  omega
section
variable {prog : Program} {w : World} {A : Around} {E : Value → Shared → Prop} {s : Shared}
/-- join, of a made list of few short texts -/
theorem join_led {h₀ : Heap} {L D : Addr} {news : List (Addr × Obj)} {l : List (Str × Tok)} {n : Nat} {x : Str} {t : Tok} {Q : Value → Shared → Prop} (N : News h₀ L s.heap news) (hm : (D, W.listOf (strValues l).toArray n) ∈ news)
    (hn : l.length ≤ 40) (ht : ∀ y ∈ l.map (·.1), y.length ≤ 1000) (hs : x.length ≤ 10)
    (h : ∀ t' k, (Txt.join x (l.map (·.1))).length ≤ 50000 → Q (.str (Txt.join x (l.map (·.1))) t') { s with toks := k }) : wpAny (model prog w) A (call (.builtin "str.join") [.str x t, .ref D]) Q E s := by
  have hl : (Txt.join x (l.map (·.1))).length ≤ 50000 := by
    refine Nat.le_trans (len_join ht) ?_
    rw [List.length_map]
    have : l.length * (1000 + x.length) ≤ 40 * 1010 := Nat.mul_le_mul hn (by omega)
    omega
  exact SC.join (PySem.IsL.isList (n := n) (N _ hm).1) rfl (joinOk_few (n := 0) (by rw [List.length_map]; exact hn) ht hs) fun t' k => h t' k hl
theorem join_led3 {h₀ : Heap} {L D : Addr} {news : List (Addr × Obj)} {a b c : Str} {u v z : Tok} {n : Nat} {x : Str} {t : Tok} {Q : Value → Shared → Prop} (N : News h₀ L s.heap news) (hm : (D, W.listOf #[.str a u, .str b v, .str c z] n) ∈ news)
    (ha : a.length ≤ 1000) (hb : b.length ≤ 1000) (hc : c.length ≤ 1000) (hs : x.length ≤ 10)
    (h : ∀ t' k, (Txt.join x [a, b, c]).length ≤ 50000 → Q (.str (Txt.join x [a, b, c]) t') { s with toks := k }) : wpAny (model prog w) A (call (.builtin "str.join") [.str x t, .ref D]) Q E s :=
  join_led (l := [(a, u), (b, v), (c, z)]) N hm (by simp) (by
    intro y hy
    simp only [List.map_cons, List.map_nil, List.mem_cons, List.not_mem_nil, or_false] at hy
    rcases hy with rfl | rfl | rfl <;> assumption) hs h
end
section
variable {prog : Program} {w : World} {A : Around} {E : Value → Shared → Prop} {s : Shared}
/-- a made list against an empty one -/
theorem eq_nil {h₀ : Heap} {L l l2 : Addr} {news : List (Addr × Obj)} {vs : Array Value} {n n2 : Nat} {Q : Value → Shared → Prop} (hu : A.units < cLine) (N : News h₀ L s.heap news) (hm : (l, W.listOf vs n) ∈ news) (hm2 : (l2, W.listOf #[] n2) ∈ news)
    (h : Q (.bool (vs.size == 0)) s) : wpAny (model prog w) A (compareOp .Eq (.ref l) (.ref l2)) Q E s := by
  have h1 : s.heap.IsList l vs := PySem.IsL.isList (n := n) (N _ hm).1
  have h2 : s.heap.IsList l2 #[] := PySem.IsL.isList (n := n2) (N _ hm2).1
  by_cases hz : vs.size = 0
  · refine PySem.SeqAt.eq_listAt (e := fun _ => true) h1 h2 (by rw [hz]; rfl) hu (fun j hj => absurd hj (by omega)) ?_
    rw [hz] at h ⊢
    exact h
  · have e : (vs.size == 0) = false := beq_false_of_ne hz
    refine PySem.SeqAt.eq_list_lengthsAt h1 h2 (by show (vs.size != 0) = true; simp [hz]) hu ?_
    rw [e] at h
    exact h
end
end Mine
end
section
example : True := by (w_top off); trivial
open PySem PySem.W PyProof.Rows PySem.Calls
set_option Elab.async false
namespace Mine
section
variable {prog : Program} {w : World} {A : Around} {E : Value → Shared → Prop} {s : Shared} {h₀ : Heap} {L : Addr} {m : Str → Option Value} {news : List (Addr × Obj)}
/-- a value, and nothing else is turned -/
def CutV (g : Heap) (L : Addr) (P : Value → Prop) (m : Str → Option Value) (news : List (Addr × Obj)) (s : Shared) (v : Value) (s' : Shared) : Prop :=
  P v ∧ ∃ h' tk, s' = { s with heap := h', toks := tk } ∧ Fr g L h' m ∧ News g L h' news
theorem cutVal {M : Model} {A : Around} {E : Value → Shared → Prop} {s : Shared} {t : Sem Value} {Q : Value → Shared → Prop} {g : Heap} {L : Addr} {m : Str → Option Value} {news : List (Addr × Obj)} (P : Value → Prop)
    (_F : Fr g L s.heap m) (_N : News g L s.heap news)
    (h : wpAny M A t (CutV g L P m news s) E s)
    (k : ∀ v h' tk, P v → Fr g L h' m → News g L h' news → Q v { s with heap := h', toks := tk }) : wpAny M A t Q E s :=
  wpAny_mono h (fun v s' ⟨p, h', tk, e', F', N'⟩ => by subst e'; exact k v h' tk p F' N') fun _ _ x => x
/-- a new object, and nothing else is turned -/
def CutN (g : Heap) (L : Addr) (P : Obj → Prop) (m : Str → Option Value) (news : List (Addr × Obj)) (s : Shared) (v : Value) (s' : Shared) : Prop :=
  ∃ D o, v = .ref D ∧ P o ∧ (∀ p ∈ news, p.1 < D) ∧ ∃ h' tk, s' = { s with heap := h', toks := tk } ∧ Fr g L h' m ∧ News g L h' ((D, o) :: news)
theorem cutNew {M : Model} {A : Around} {E : Value → Shared → Prop} {s : Shared} {t : Sem Value} {Q : Value → Shared → Prop} {g : Heap} {L : Addr} {m : Str → Option Value} {news : List (Addr × Obj)} (P : Obj → Prop)
    (_F : Fr g L s.heap m) (_N : News g L s.heap news)
    (h : wpAny M A t (CutN g L P m news s) E s)
    (k : ∀ D o h' tk, P o → (∀ p ∈ news, p.1 < D) → Fr g L h' m → News g L h' ((D, o) :: news) → Q (.ref D) { s with heap := h', toks := tk }) : wpAny M A t Q E s :=
  wpAny_mono h (fun _ s' ⟨D, o, ev, p, lt, h', tk, e', F', N'⟩ => by subst ev; subst e'; exact k D o h' tk p lt F' N') fun _ _ x => x
/-- a list that stands in the heap enters the ledger -/
theorem news_isList {h : Heap} {D : Addr} {its : Array Value} (F : Fr h₀ L h m) (N : News h₀ L h news) (h0 : h₀.get? D = none) (hl : h.IsList D its) :
    ∃ o n, News h₀ L h ((D, o) :: news) ∧ o.cls = .type "list" ∧ o.data = .seq its n := by
  obtain ⟨o, ho, hc, n, hd⟩ := hl
  refine ⟨o, n, fun p hp => ?_, hc, hd⟩
  rcases List.mem_cons.mp hp with rfl | hp
  · refine ⟨ho, fun e => ?_, h0⟩
    have e : D = L := e
    obtain ⟨oL, es, ep, hL, hLd, _⟩ := F.ns
    rw [← e] at hL
    have ho : h.get? D = some o := ho
    rw [ho] at hL
    cases hL
    have hd : o.data = .seq its n := hd
    rw [hd] at hLd
    cases hLd
  · exact N p hp
theorem isList_any {h : Heap} {D : Addr} {o : Obj} {its : Array Value} {n : Nat} (N : News h₀ L h news) (hm : (D, o) ∈ news) (hc : o.cls = .type "list") (hd : o.data = .seq its n) : h.IsList D its :=
  ⟨o, (N _ hm).1, hc, n, hd⟩
/-- a list of the ledger against an empty one -/
theorem eq_nil_any {l l2 : Addr} {o : Obj} {vs : Array Value} {n n2 : Nat} {Q : Value → Shared → Prop} (hu : A.units < cLine) (N : News h₀ L s.heap news) (hm : (l, o) ∈ news) (hc : o.cls = .type "list") (hd : o.data = .seq vs n) (hm2 : (l2, W.listOf #[] n2) ∈ news)
    (h : Q (.bool (vs.size == 0)) s) : wpAny (model prog w) A (compareOp .Eq (.ref l) (.ref l2)) Q E s := by
  have h1 : s.heap.IsList l vs := isList_any N hm hc hd
  have h2 : s.heap.IsList l2 #[] := PySem.IsL.isList (n := n2) (N _ hm2).1
  by_cases hz : vs.size = 0
  · refine PySem.SeqAt.eq_listAt (e := fun _ => true) h1 h2 (by rw [hz]; rfl) hu (fun j hj => absurd hj (by omega)) ?_
    rw [hz] at h ⊢
    exact h
  · have e : (vs.size == 0) = false := beq_false_of_ne hz
    refine PySem.SeqAt.eq_list_lengthsAt h1 h2 (by show (vs.size != 0) = true; simp [hz]) hu ?_
    rw [e] at h
    exact h
theorem eq_nil_cons {l l2 : Addr} {o : Obj} {v : Value} {r : List Value} {n n2 : Nat} {Q : Value → Shared → Prop} (hu : A.units < cLine) (N : News h₀ L s.heap news) (hm : (l, o) ∈ news) (hc : o.cls = .type "list") (hd : o.data = .seq (v :: r).toArray n) (hm2 : (l2, W.listOf #[] n2) ∈ news)
    (h : Q (.bool false) s) : wpAny (model prog w) A (compareOp .Eq (.ref l) (.ref l2)) Q E s :=
  eq_nil_any hu N hm hc hd hm2 (by rw [show ((v :: r).toArray.size == 0) = false from by simp]; exact h)
/-- an item of a list of the ledger -/
theorem item_any {value slice : PySem.Expr} {l : Addr} {o : Obj} {vs : List Value} {n : Nat} {k : Int} {u : Tok} {v : Value} {Q : Value → Shared → Prop} (N : News h₀ L s.heap news) (hm : (l, o) ∈ news) (hc : o.cls = .type "list") (hd : o.data = .seq vs.toArray n)
    (h0 : 0 ≤ k) (hhi : k < 2 ^ 63) (hx : vs[k.toNat]? = some v) (h : Q v s)
    (hs : subscripted slice false (.ref l) (.int k u) = operate [.ref l, .int k u] (getItem (.ref l) (.int k u))) :
    wpAny (model prog w) A (subscriptTail value slice (.ref l) (.int k u)) Q E s :=
  item_litK (isList_any N hm hc hd) h0 hhi hx h hs
/-- the i-th of six -/
def pick6 {α : Type} (i : Nat) (a b c d e f : α) : α := match i with | 0 => a | 1 => b | 2 => c | 3 => d | 4 => e | _ => f
def pick3 {α : Type} (i : Nat) (a b c : α) : α := match i with | 0 => a | 1 => b | _ => c
theorem item_int6 {value slice : PySem.Expr} {l : Addr} {a b c d e f : Int} {t0 t1 t2 t3 t4 t5 : Tok} {n : Nat} {k : Int} {u : Tok} {Q : Value → Shared → Prop} (N : News h₀ L s.heap news) (hm : (l, W.listOf #[.int a t0, .int b t1, .int c t2, .int d t3, .int e t4, .int f t5] n) ∈ news)
    (i : Nat) (hk : k = (i : Int)) (hi : i < 6) (h : Q (.int (pick6 i a b c d e f) (pick6 i t0 t1 t2 t3 t4 t5)) s)
    (hs : subscripted slice false (.ref l) (.int k u) = operate [.ref l, .int k u] (getItem (.ref l) (.int k u))) :
    wpAny (model prog w) A (subscriptTail value slice (.ref l) (.int k u)) Q E s := by
  refine item_led (v := .int (pick6 i a b c d e f) (pick6 i t0 t1 t2 t3 t4 t5)) N hm (by omega) (by omega) ?_ h hs
  subst hk
  have : i = 0 ∨ i = 1 ∨ i = 2 ∨ i = 3 ∨ i = 4 ∨ i = 5 := by omega
  rcases this with rfl | rfl | rfl | rfl | rfl | rfl <;> rfl
theorem item_str6 {value slice : PySem.Expr} {l : Addr} {a b c d e f : Str} {t0 t1 t2 t3 t4 t5 : Tok} {n : Nat} {k : Int} {u : Tok} {Q : Value → Shared → Prop} (N : News h₀ L s.heap news) (hm : (l, W.listOf #[.str a t0, .str b t1, .str c t2, .str d t3, .str e t4, .str f t5] n) ∈ news)
    (i : Nat) (hk : k = (i : Int)) (hi : i < 6) (h : Q (.str (pick6 i a b c d e f) (pick6 i t0 t1 t2 t3 t4 t5)) s)
    (hs : subscripted slice false (.ref l) (.int k u) = operate [.ref l, .int k u] (getItem (.ref l) (.int k u))) :
    wpAny (model prog w) A (subscriptTail value slice (.ref l) (.int k u)) Q E s := by
  refine item_led (v := .str (pick6 i a b c d e f) (pick6 i t0 t1 t2 t3 t4 t5)) N hm (by omega) (by omega) ?_ h hs
  subst hk
  have : i = 0 ∨ i = 1 ∨ i = 2 ∨ i = 3 ∨ i = 4 ∨ i = 5 := by omega
  rcases this with rfl | rfl | rfl | rfl | rfl | rfl <;> rfl
theorem pick6_all {α : Type} {i : Nat} {a b c d e f : α} {P : α → Prop} (ha : P a) (hb : P b) (hc : P c) (hd : P d) (he : P e) (hf : P f) : P (pick6 i a b c d e f) := by
  unfold pick6; split <;> assumption
theorem map2_as {m₀ : Str → Option Value} {a b : Str} : ∀ y, m₀ y = if y = a then m₀ a else if y = b then m₀ b else m₀ y := by
  intro y
  by_cases h1 : y = a
  · subst h1; simp
  · by_cases h2 : y = b
    · subst h2; simp [h1]
    · simp [h1, h2]
theorem map2_z {m₀ : Str → Option Value} {a b : Str} {u1 u2 v : Option Value} (h : a ≠ b) : ∀ y, (if y = b then v else if y = a then u1 else if y = b then u2 else m₀ y) = if y = a then u1 else if y = b then v else m₀ y := by
  intro y
  by_cases h1 : y = b
  · subst h1; simp [Ne.symm h]
  · simp [h1]
theorem map2_nz {m₀ : Str → Option Value} {a b : Str} {u1 u1' u2 v : Option Value} : ∀ y, (if y = a then u1' else if y = b then v else if y = a then u1 else if y = b then u2 else m₀ y) = if y = a then u1' else if y = b then v else m₀ y := by
  intro y
  by_cases h1 : y = a
  · simp [h1]
  · by_cases h2 : y = b
    · simp [h1, h2]
    · simp [h1, h2]
theorem strV_fits1 {l : List (Str × Tok)} {v : Value} (h : l.length ≤ 100) : ((strValues l).toArray.push v).size ≤ sizeLine := by
  rw [PySem.sizeLine_eq]; simp only [strValues, List.size_toArray, Array.size_push, List.length_map]; omega
theorem strValues_push2 (l : List (Str × Tok)) (x y : Str) (t u : Tok) : ((strValues l).toArray.push (.str x t)).push (.str y u) = (strValues (l ++ [(x, t), (y, u)])).toArray := by
  simp [strValues]
theorem strValues_app (l : List (Str × Tok)) (x : Str) (t : Tok) : strValues l ++ [Value.str x t] = strValues (l ++ [(x, t)]) := by
  simp [strValues]
theorem join_p1 {L D : Addr} {news : List (Addr × Obj)} {a : Str} {u : Tok} {n : Nat} {x : Str} {t : Tok} {Q : Value → Shared → Prop} (N : News h₀ L s.heap news) (hm : (D, W.listOf ((#[] : Array Value).push (.str a u)) n) ∈ news)
    (ha : a.length ≤ 1000) (hs : x.length ≤ 10) (h : ∀ t' k, (Txt.join x [a]).length ≤ 50000 → Q (.str (Txt.join x [a]) t') { s with toks := k }) : wpAny (model prog w) A (call (.builtin "str.join") [.str x t, .ref D]) Q E s :=
  join_led (l := [(a, u)]) N hm (by simp) (by
    intro y hy
    simp only [List.map_cons, List.map_nil, List.mem_cons, List.not_mem_nil, or_false] at hy
    rcases hy with rfl; assumption) hs h
theorem join_p2 {L D : Addr} {news : List (Addr × Obj)} {a b : Str} {u v : Tok} {n : Nat} {x : Str} {t : Tok} {Q : Value → Shared → Prop} (N : News h₀ L s.heap news) (hm : (D, W.listOf (((#[] : Array Value).push (.str a u)).push (.str b v)) n) ∈ news)
    (ha : a.length ≤ 1000) (hb : b.length ≤ 1000) (hs : x.length ≤ 10) (h : ∀ t' k, (Txt.join x [a, b]).length ≤ 50000 → Q (.str (Txt.join x [a, b]) t') { s with toks := k }) : wpAny (model prog w) A (call (.builtin "str.join") [.str x t, .ref D]) Q E s :=
  join_led (l := [(a, u), (b, v)]) N hm (by simp) (by
    intro y hy
    simp only [List.map_cons, List.map_nil, List.mem_cons, List.not_mem_nil, or_false] at hy
    rcases hy with rfl | rfl <;> assumption) hs h
theorem join_p3 {L D : Addr} {news : List (Addr × Obj)} {a b c : Str} {u v z : Tok} {n : Nat} {x : Str} {t : Tok} {Q : Value → Shared → Prop} (N : News h₀ L s.heap news) (hm : (D, W.listOf ((((#[] : Array Value).push (.str a u)).push (.str b v)).push (.str c z)) n) ∈ news)
    (ha : a.length ≤ 1000) (hb : b.length ≤ 1000) (hc : c.length ≤ 1000) (hs : x.length ≤ 10) (h : ∀ t' k, (Txt.join x [a, b, c]).length ≤ 50000 → Q (.str (Txt.join x [a, b, c]) t') { s with toks := k }) : wpAny (model prog w) A (call (.builtin "str.join") [.str x t, .ref D]) Q E s :=
  join_led (l := [(a, u), (b, v), (c, z)]) N hm (by simp) (by
    intro y hy
    simp only [List.map_cons, List.map_nil, List.mem_cons, List.not_mem_nil, or_false] at hy
    rcases hy with rfl | rfl | rfl <;> assumption) hs h
/-- two lists of the ledger, one behind the other -/
theorem add_led {a b : Addr} {l1 l2 : List Value} {n1 n2 : Nat} {Q : Value → Shared → Prop} (F : Fr h₀ L s.heap m) (N : News h₀ L s.heap news) (ha : (a, W.listOf l1.toArray n1) ∈ news) (hb : (b, W.listOf l2.toArray n2) ∈ news)
    (hz : l1.length + l2.length ≤ 1000) (h : ∀ D h', Fr h₀ L h' m → News h₀ L h' ((D, W.listOf (l1 ++ l2).toArray 0) :: news) → (∀ p ∈ news, p.1 < D) → Q (.ref D) { s with heap := h' }) :
    wpAny (model prog w) A (binaryOp .Add (.ref a) (.ref b)) Q E s :=
  add_lists F N (PySem.IsL.isList (n := n1) (N _ ha).1) (PySem.IsL.isList (n := n2) (N _ hb).1) (fun h' F' N' => h _ h' F' N' fun p hp => Heap.lt_size (N p hp).1) (Nat.le_trans hz (PySem.sizeLine_eq ▸ by decide))
end
end Mine
end
section
example : True := by (w_top off); trivial
open PySem PySem.W PyProof.Rows
set_option Elab.async false
namespace Mine
example (w : World) : (∀ h, (lawTop.heap_39 w.params).In h → PySem.Challenge.rw_ew0023_01 = PySem.Challenge.rw_ew0023_01) := by k_fill; intros; rfl
local macro_rules | `(tactic| k_room) => `(tactic| ktr_room)
local macro_rules | `(tactic| walk_at "mine enter") => `(tactic| (rename BindHint _ => bh; unfold Meets; intro loose mean mg mb dp un gd cn sn sg sc sm a ccd cl outer A₀ base h₀ L m s Q E news B F X N ha T hd hu ret; refine wpAny_call ?_; k_dflt (first
  | (refine' enterM (by assumption) B F X N ha T ?kA ?kF ?kK ?k6 ?k7 ?k8 ?k9 ?kB ret ?_ ?c2 ?c3 ?c4 ?c5; (case kA => exact rfl); (case kF => exact rfl); (case kK => exact rfl); (case k6 => k_is); (case k7 => k_is); (case k8 => k_room); (case k9 => first | exact BindsTo.of_eq rfl | exact binds_K (Frag.In.keeps X (Fr.keep F)) rfl (by k_is) rfl rfl rfl); (case c5 => decide); (case kB => exact locs rfl); (case c2 => exact rfl); (case c3 => exact rfl); (case c4 => exact rfl); k_whole; clear B F X N ha T ret bh; intro g' L' h' F' N' l1 B' X' T'; (try k_lt l1); (try dsimp only); (try k_fold))
  | (refine' enterC (by assumption) B F X N ha T ?kA ?kF ?kK ?k6 ?k7 ?k8 ?k9 ?kB ?kD ret ?_ ?c2 ?c3 ?c4; (case kA => exact rfl); (case kF => exact rfl); (case kK => exact rfl); (case k6 => k_is); (case k7 => k_is); (case k8 => k_room); (case k9 => first | exact BindsTo.of_eq rfl | exact binds_K (Frag.In.keeps X (Fr.keep F)) rfl (by k_is) rfl rfl rfl); (case kB => exact rfl); (case kD => decide +kernel); (case c2 => exact rfl); (case c3 => exact rfl); (case c4 => exact rfl); k_whole; clear B F X N ha T ret bh; intro g' L' h' tk' cells' F' N' Y' l1 B' X' T'; (try k_lt l1); k_cells Y'; (try simp only [List.cons_append, List.nil_append] at N'); (try dsimp only); (try k_fold)))))
local macro_rules | `(tactic| walk_at "exec Assign cons ListComp") => `(tactic| (k_here; (with_reducible show wpAny _ _ (exec (Stmt.Assign _ (Expr.ListComp _ [⟨_, Expr.Tuple _ _ _, _, _⟩] _ _) _) _) _ _ _); k_dflt (refine assign_compTup (F₀ := by k_asm) (by rfl) (by with_unfolding_all rfl) (by with_unfolding_all rfl) (by decide) (by rfl) (by decide) (by rfl) (by rfl) (by rfl) ?_)))
local macro_rules | `(tactic| walk_at "TupSrc") => `(tactic| (k_here; k_dflt (refine TupSrc.of (by rfl) (by k_asm) (by k_asm) (by k_mem) (by first | size_fits | exact Nat.le_of_ble_eq_true rfl) ?_); intro g'; lcg_lit))
local macro_rules | `(tactic| lcg_src) => `(tactic| exact ⟨_, by k_mem, rfl, _, rfl⟩)
local macro_rules | `(tactic| walk_at "CompEnd") => `(tactic| (k_here; k_dflt (refine compEnd_same (by assumption) (by assumption) (by (simp only [LCg.Off3, and_true]; assumption)) (by lcg_src) ?_)))
local macro_rules | `(tactic| k_handed) => `(tactic| exact handed_optV _ _)
local macro_rules | `(tactic| walk_at "mine sub") => `(tactic| first | exact List.forall_mem_nil _ | (refine List.forall_mem_cons.mpr ⟨by k_mem, ?_⟩; walk_at "mine sub"))
local macro_rules | `(tactic| walk_at "mine off1") => `(tactic| first | exact List.forall_mem_nil _ | (refine List.forall_mem_cons.mpr ⟨by k_ne, ?_⟩; walk_at "mine off1"))
local macro_rules | `(tactic| walk_at "mine off") => `(tactic| first | exact List.forall_mem_nil _ | (refine List.forall_mem_cons.mpr ⟨?a, ?b⟩; (case a => walk_at "mine off1"); (case b => walk_at "mine off")))

local macro_rules | `(tactic| walk_at "mine done") => `(tactic| first | exact Done.intro (by assumption) (by assumption) ⟨_, rfl, rfl⟩ (by walk_at "mine sub") (by walk_at "mine sub") (by walk_at "mine off") | exact Done.intro (by assumption) (by assumption) ⟨_, _, rfl, rfl⟩ (by walk_at "mine sub") (by walk_at "mine sub") (by walk_at "mine off") | exact Done.intro (by assumption) (by assumption) ⟨_, _, _, rfl, rfl⟩ (by walk_at "mine sub") (by walk_at "mine sub") (by walk_at "mine off") | exact Done.intro (by assumption) (by assumption) ⟨_, _, _, _, rfl, rfl⟩ (by walk_at "mine sub") (by walk_at "mine sub") (by walk_at "mine off") | exact Done.intro (by assumption) (by assumption) ⟨_, _, _, _, _, rfl, rfl⟩ (by walk_at "mine sub") (by walk_at "mine sub") (by walk_at "mine off") | exact Done.intro (by assumption) (by assumption) ⟨_, _, _, _, _, _, rfl, rfl⟩ (by walk_at "mine sub") (by walk_at "mine sub") (by walk_at "mine off") | exact Done.intro (by assumption) (by assumption) ⟨_, _, _, _, _, _, _, rfl, rfl⟩ (by walk_at "mine sub") (by walk_at "mine sub") (by walk_at "mine off") | exact Done.intro (by assumption) (by assumption) ⟨_, _, _, _, _, _, _, _, rfl, rfl⟩ (by walk_at "mine sub") (by walk_at "mine sub") (by walk_at "mine off") | exact Done.intro (by assumption) (by assumption) ⟨_, _, _, _, _, _, _, _, _, rfl, rfl⟩ (by walk_at "mine sub") (by walk_at "mine sub") (by walk_at "mine off") | exact Done.intro (by assumption) (by assumption) ⟨_, _, _, _, _, _, _, _, _, _, rfl, rfl⟩ (by walk_at "mine sub") (by walk_at "mine sub") (by walk_at "mine off") | exact Done.intro (by assumption) (by assumption) ⟨_, _, _, _, _, _, _, _, _, _, _, rfl, rfl⟩ (by walk_at "mine sub") (by walk_at "mine sub") (by walk_at "mine off") | exact Done.intro (by assumption) (by assumption) ⟨_, _, _, _, _, _, _, _, _, _, _, _, rfl, rfl⟩ (by walk_at "mine sub") (by walk_at "mine sub") (by walk_at "mine off") | exact Done.intro (by assumption) (by assumption) ⟨_, _, _, _, _, _, _, _, _, _, _, _, _, rfl, rfl⟩ (by walk_at "mine sub") (by walk_at "mine sub") (by walk_at "mine off"))
local macro_rules | `(tactic| walk_at "mine steps") => `(tactic| repeat' (first | (k_unfold; (try dsimp only)) | walk1 | (dsimp only; walk1) | fail "no step"))
local macro_rules | `(tactic| walk_at "subscriptTail Name Constant ref int") => `(tactic| (k_here; k_dflt (refine' item_led ?k0 ?km ?k2 ?k3 ?k4 ?_ ?k6; (case k0 => k_asm); (case km => k_mem); (case k2 => decide); (case k3 => decide); (case k4 => exact rfl); (case k6 => with_unfolding_all rfl); k_whole)))
local macro_rules | `(tactic| walk_at "subscriptTail Name Name ref int") => `(tactic| (k_here; k_dflt (refine' item_led ?k0 ?km ?k2 ?k3 ?k4 ?_ ?k6; (case k0 => k_asm); (case km => k_mem); (case k2 => decide); (case k3 => decide); (case k4 => exact rfl); (case k6 => with_unfolding_all rfl); k_whole)))
local macro_rules | `(tactic| walk_at "mine to if") => `(tactic| repeat ((fail_if_success (with_reducible show wpAny _ _ (exec (Stmt.If _ _ _ _) _) _ _ _)); (first | walk1 | (k_unfold; (try dsimp only)) | (dsimp only; walk1))))
local macro_rules | `(tactic| walk_at "mine to cmp") => `(tactic| repeat ((fail_if_success (with_reducible show wpAny _ _ (exec (Stmt.If (Expr.Compare _ _ _ _) _ _ _) _) _ _ _)); (first | walk1 | (k_unfold; (try dsimp only)) | (dsimp only; walk1))))
local macro_rules | `(tactic| walk_at "mine cutS end") => `(tactic| exact ⟨rfl, _, _, _, rfl, (by first | assumption | exact Fr.same (by assumption) (by rfl)), (by first | assumption | exact News.sub (by assumption) (by walk_at "mine sub"))⟩)
local macro_rules | `(tactic| walk_at "mine len") => `(tactic| first | with_reducible assumption | (with_reducible refine' len_int ?a; (case a => omega)) | (with_reducible refine' len_add ?a ?b; (case a => walk_at "mine len"); (case b => walk_at "mine len")) | with_reducible exact Nat.le_refl _)
local macro_rules | `(tactic| walk_at "binaryOp Add str str") => `(tactic| (k_here; (with_reducible show wpAny _ _ (binaryOp Operator.Add (Value.str _ _) (Value.str _ _)) _ _ _); (refine' add_short ?a ?b ?c ?_; (case a => walk_at "mine len"); (case b => walk_at "mine len"); (case c => k_dflt exact rfl)); intro _ _))
local macro_rules | `(tactic| walk_at "eval Name") => `(tactic| ((with_reducible refine' ld ?F ?hv ?_ ?hk ?hl ?hd); (case F => first | with_reducible assumption | k_dflt assumption); (case hv => k_dflt exact rfl); (case hk => k_dflt exact rfl); (case hl => k_dflt exact rfl); (case hd => decide)))
local macro_rules | `(tactic| walk_at "mine to iter") => `(tactic| repeat ((fail_if_success (with_reducible show wpAny _ _ (pyIter _) _ _ _)); (first | walk1 | (k_unfold; (try dsimp only)) | (dsimp only; walk1))))
local macro_rules | `(tactic| size_fits) => `(tactic| exact strV_fits (by omega))
local macro_rules | `(tactic| walk_at "mine cutV end") => `(tactic| exact ⟨⟨_, rfl⟩, _, _, rfl, by assumption, by first | assumption | exact News.sub (by assumption) (by walk_at "mine sub")⟩)
local macro_rules | `(tactic| walk_at "mine to ifexp") => `(tactic| repeat ((fail_if_success (with_reducible show wpAny _ _ (eval (Expr.IfExp _ _ _ _) _) _ _ _)); (first | walk1 | (k_unfold; (try dsimp only)) | (dsimp only; walk1))))
local macro_rules | `(tactic| walk_at "mine tidy") => `(tactic| repeat (first | (with_reducible rename LCg.NsObj _ _ => q; clear q) | (with_reducible rename (_ ≠ _ ∧ _ ≠ _ ∧ _ ≠ _) => q; clear q) | (with_reducible rename ((_ ≠ _ ∧ _ ≠ _ ∧ _ ≠ _) ∧ _) => q; clear q) | (with_reducible rename (_[_]? = some _) => q; clear q) | (with_reducible rename (_ ≠ _ ∧ _) => q; clear q)))
local macro_rules | `(tactic| walk_at "mine lt") => `(tactic| first | exact List.forall_mem_nil _ | (refine List.forall_mem_cons.mpr ⟨by (show @LT.lt Nat _ _ _; omega), ?_⟩; walk_at "mine lt"))
local macro_rules | `(tactic| walk_at "mine cutB end") => `(tactic| refine ⟨?_, _, _, rfl, (by assumption), (by first | assumption | exact News.sub (by assumption) (by walk_at "mine sub"))⟩)
def two (n : Int) : Str := (if n < 10 then Str.ofString "0" else Str.ofString "") ++ Str.ofString (toString n)
set_option maxRecDepth 100000 in
set_option maxHeartbeats 8000000 in
theorem two_spec (w : World) (n : Int) (tn : Tok) (hn : 0 ≤ n ∧ n < 100) :
  Meets w 5 (.ref 124) [.int n tn] [] [] fun v new => new = [] ∧ ∃ t, v = .str (two n) t := by
  have bh : BindHint [(Str.ofString "number", .int n tn)] := ⟨trivial⟩
  walk_at "mine enter"
  k_steps
  · have e : two n = Str.ofString "0" ++ Str.ofString (toString n) := by rw [two, if_pos (by assumption)]
    refine Done.intro (new := []) (by assumption) (by assumption) ?_ (fun _ h => nomatch h) (fun _ h => nomatch h) (fun _ h => nomatch h)
    exact ⟨rfl, _, by rw [e]⟩
  · have e : two n = Str.ofString "" ++ Str.ofString (toString n) := by rw [two, if_neg (by assumption)]
    refine Done.intro (new := []) (by assumption) (by assumption) ?_ (fun _ h => nomatch h) (fun _ h => nomatch h) (fun _ h => nomatch h)
    exact ⟨rfl, _, by rw [e]⟩

structure Fld where
  y : Int
  mo : Int
  d : Int
  h : Int
  mi : Int
  s : Int
def seedOf (cell : Int) : Int := (if cell < 0 then -cell else cell).fmod 2073600000
def sgOf (cell k : Int) : Int := 1 - 2 * (((seedOf cell).fdiv 259200000).fdiv k).fmod 2
def fieldsOf (cell : Int) : Fld where
  y := sgOf cell 1 * (seedOf cell).fmod 5
  mo := sgOf cell 1 * ((seedOf cell).fdiv 5).fmod 12
  d := sgOf cell 2 * ((seedOf cell).fdiv 60).fmod 40
  h := sgOf cell 4 * ((seedOf cell).fdiv 2400).fmod 30
  mi := sgOf cell 4 * ((seedOf cell).fdiv 72000).fmod 60
  s := sgOf cell 4 * ((seedOf cell).fdiv 4320000).fmod 60
/-- what the law's fields keep -/
structure FOk (f : Fld) : Prop where
  y : -4 ≤ f.y ∧ f.y ≤ 4
  mo : -11 ≤ f.mo ∧ f.mo ≤ 11
  d : -39 ≤ f.d ∧ f.d ≤ 39
  h : -29 ≤ f.h ∧ f.h ≤ 29
  mi : -59 ≤ f.mi ∧ f.mi ≤ 59
  s : -59 ≤ f.s ∧ f.s ≤ 59
  ym : (0 ≤ f.y ∧ 0 ≤ f.mo) ∨ (f.y ≤ 0 ∧ f.mo ≤ 0)
  hms : (0 ≤ f.h ∧ 0 ≤ f.mi ∧ 0 ≤ f.s) ∨ (f.h ≤ 0 ∧ f.mi ≤ 0 ∧ f.s ≤ 0)
abbrev fobj (f : Fld) (t0 t1 t2 t3 t4 t5 : Tok) (n : Nat) : Obj := W.listOf #[.int f.y t0, .int f.mo t1, .int f.d t2, .int f.h t3, .int f.mi t4, .int f.s t5] n

set_option maxRecDepth 100000 in
set_option maxHeartbeats 8000000 in
theorem fields_spec (w : World) (cell : Int) (tn : Tok) :
  Meets w 5 (.ref 117) [.int cell tn] [] [] fun v new => ∃ l t0 t1 t2 t3 t4 t5 n, v = .ref l ∧ new = [(l, fobj (fieldsOf cell) t0 t1 t2 t3 t4 t5 n)] := by
  have bh : BindHint [(Str.ofString "cell", .int cell tn)] := ⟨trivial⟩
  walk_at "mine enter"
  k_steps
  exact Done.intro (by assumption) (by assumption) ⟨_, _, _, _, _, _, _, _, rfl, rfl⟩ (by intro p hp; rw [List.mem_singleton.mp hp]; k_mem) (by simp) (by simp)

end Mine
end
section
example : True := by (w_top off); trivial
open PySem PySem.W PyProof.Rows
set_option Elab.async false
namespace Mine
local macro_rules | `(tactic| walk_at "mine pad0") => `(tactic| skip)
example (w : World) : (∀ h, (lawTop.heap_39 w.params).In h → PySem.Challenge.rw_ew0023_01 = PySem.Challenge.rw_ew0023_01) := by k_fill; intros; rfl
local macro_rules | `(tactic| k_room) => `(tactic| ktr_room)
local macro_rules | `(tactic| walk_at "mine enter") => `(tactic| (rename BindHint _ => bh; unfold Meets; intro loose mean mg mb dp un gd cn sn sg sc sm a ccd cl outer A₀ base h₀ L m s Q E news B F X N ha T hd hu ret; refine wpAny_call ?_; k_dflt (first
  | (refine' enterM (by assumption) B F X N ha T ?kA ?kF ?kK ?k6 ?k7 ?k8 ?k9 ?kB ret ?_ ?c2 ?c3 ?c4 ?c5; (case kA => exact rfl); (case kF => exact rfl); (case kK => exact rfl); (case k6 => k_is); (case k7 => k_is); (case k8 => k_room); (case k9 => first | exact BindsTo.of_eq rfl | exact binds_K (Frag.In.keeps X (Fr.keep F)) rfl (by k_is) rfl rfl rfl); (case c5 => decide); (case kB => exact locs rfl); (case c2 => exact rfl); (case c3 => exact rfl); (case c4 => exact rfl); k_whole; clear B F X N ha T ret bh; intro g' L' h' F' N' l1 B' X' T'; (try k_lt l1); (try dsimp only); (try k_fold))
  | (refine' enterC (by assumption) B F X N ha T ?kA ?kF ?kK ?k6 ?k7 ?k8 ?k9 ?kB ?kD ret ?_ ?c2 ?c3 ?c4; (case kA => exact rfl); (case kF => exact rfl); (case kK => exact rfl); (case k6 => k_is); (case k7 => k_is); (case k8 => k_room); (case k9 => first | exact BindsTo.of_eq rfl | exact binds_K (Frag.In.keeps X (Fr.keep F)) rfl (by k_is) rfl rfl rfl); (case kB => exact rfl); (case kD => decide +kernel); (case c2 => exact rfl); (case c3 => exact rfl); (case c4 => exact rfl); k_whole; clear B F X N ha T ret bh; intro g' L' h' tk' cells' F' N' Y' l1 B' X' T'; (try k_lt l1); k_cells Y'; (try simp only [List.cons_append, List.nil_append] at N'); (try dsimp only); (try k_fold)))))
local macro_rules | `(tactic| walk_at "exec Assign cons ListComp") => `(tactic| (k_here; (with_reducible show wpAny _ _ (exec (Stmt.Assign _ (Expr.ListComp _ [⟨_, Expr.Tuple _ _ _, _, _⟩] _ _) _) _) _ _ _); k_dflt (refine assign_compTup (F₀ := by k_asm) (by rfl) (by with_unfolding_all rfl) (by with_unfolding_all rfl) (by decide) (by rfl) (by decide) (by rfl) (by rfl) (by rfl) ?_)))
local macro_rules | `(tactic| walk_at "TupSrc") => `(tactic| (k_here; k_dflt (refine TupSrc.of (by rfl) (by k_asm) (by k_asm) (by k_mem) (by first | size_fits | exact Nat.le_of_ble_eq_true rfl) ?_); intro g'; lcg_lit))
local macro_rules | `(tactic| lcg_src) => `(tactic| exact ⟨_, by k_mem, rfl, _, rfl⟩)
local macro_rules | `(tactic| walk_at "CompEnd") => `(tactic| (k_here; k_dflt (refine compEnd_same (by assumption) (by assumption) (by (simp only [LCg.Off3, and_true]; assumption)) (by lcg_src) ?_)))
local macro_rules | `(tactic| k_handed) => `(tactic| exact handed_optV _ _)
local macro_rules | `(tactic| walk_at "mine sub") => `(tactic| first | exact List.forall_mem_nil _ | (refine List.forall_mem_cons.mpr ⟨by k_mem, ?_⟩; walk_at "mine sub"))
local macro_rules | `(tactic| walk_at "mine off1") => `(tactic| first | exact List.forall_mem_nil _ | (refine List.forall_mem_cons.mpr ⟨by k_ne, ?_⟩; walk_at "mine off1"))
local macro_rules | `(tactic| walk_at "mine off") => `(tactic| first | exact List.forall_mem_nil _ | (refine List.forall_mem_cons.mpr ⟨?a, ?b⟩; (case a => walk_at "mine off1"); (case b => walk_at "mine off")))

local macro_rules | `(tactic| walk_at "mine done") => `(tactic| first | exact Done.intro (by assumption) (by assumption) ⟨_, rfl, rfl⟩ (by walk_at "mine sub") (by walk_at "mine sub") (by walk_at "mine off") | exact Done.intro (by assumption) (by assumption) ⟨_, _, rfl, rfl⟩ (by walk_at "mine sub") (by walk_at "mine sub") (by walk_at "mine off") | exact Done.intro (by assumption) (by assumption) ⟨_, _, _, rfl, rfl⟩ (by walk_at "mine sub") (by walk_at "mine sub") (by walk_at "mine off") | exact Done.intro (by assumption) (by assumption) ⟨_, _, _, _, rfl, rfl⟩ (by walk_at "mine sub") (by walk_at "mine sub") (by walk_at "mine off") | exact Done.intro (by assumption) (by assumption) ⟨_, _, _, _, _, rfl, rfl⟩ (by walk_at "mine sub") (by walk_at "mine sub") (by walk_at "mine off") | exact Done.intro (by assumption) (by assumption) ⟨_, _, _, _, _, _, rfl, rfl⟩ (by walk_at "mine sub") (by walk_at "mine sub") (by walk_at "mine off") | exact Done.intro (by assumption) (by assumption) ⟨_, _, _, _, _, _, _, rfl, rfl⟩ (by walk_at "mine sub") (by walk_at "mine sub") (by walk_at "mine off") | exact Done.intro (by assumption) (by assumption) ⟨_, _, _, _, _, _, _, _, rfl, rfl⟩ (by walk_at "mine sub") (by walk_at "mine sub") (by walk_at "mine off") | exact Done.intro (by assumption) (by assumption) ⟨_, _, _, _, _, _, _, _, _, rfl, rfl⟩ (by walk_at "mine sub") (by walk_at "mine sub") (by walk_at "mine off") | exact Done.intro (by assumption) (by assumption) ⟨_, _, _, _, _, _, _, _, _, _, rfl, rfl⟩ (by walk_at "mine sub") (by walk_at "mine sub") (by walk_at "mine off") | exact Done.intro (by assumption) (by assumption) ⟨_, _, _, _, _, _, _, _, _, _, _, rfl, rfl⟩ (by walk_at "mine sub") (by walk_at "mine sub") (by walk_at "mine off") | exact Done.intro (by assumption) (by assumption) ⟨_, _, _, _, _, _, _, _, _, _, _, _, rfl, rfl⟩ (by walk_at "mine sub") (by walk_at "mine sub") (by walk_at "mine off") | exact Done.intro (by assumption) (by assumption) ⟨_, _, _, _, _, _, _, _, _, _, _, _, _, rfl, rfl⟩ (by walk_at "mine sub") (by walk_at "mine sub") (by walk_at "mine off"))
local macro_rules | `(tactic| walk_at "mine steps") => `(tactic| repeat' (first | (k_unfold; (try dsimp only)) | walk1 | (dsimp only; walk1) | fail "no step"))
local macro_rules | `(tactic| walk_at "subscriptTail Name Constant ref int") => `(tactic| (k_here; k_dflt (refine' item_led ?k0 ?km ?k2 ?k3 ?k4 ?_ ?k6; (case k0 => k_asm); (case km => k_mem); (case k2 => decide); (case k3 => decide); (case k4 => exact rfl); (case k6 => with_unfolding_all rfl); k_whole)))
local macro_rules | `(tactic| walk_at "subscriptTail Name Name ref int") => `(tactic| (k_here; k_dflt (refine' item_led ?k0 ?km ?k2 ?k3 ?k4 ?_ ?k6; (case k0 => k_asm); (case km => k_mem); (case k2 => decide); (case k3 => decide); (case k4 => exact rfl); (case k6 => with_unfolding_all rfl); k_whole)))
local macro_rules | `(tactic| walk_at "mine to if") => `(tactic| repeat ((fail_if_success (with_reducible show wpAny _ _ (exec (Stmt.If _ _ _ _) _) _ _ _)); (first | walk1 | (k_unfold; (try dsimp only)) | (dsimp only; walk1))))
local macro_rules | `(tactic| walk_at "mine to cmp") => `(tactic| repeat ((fail_if_success (with_reducible show wpAny _ _ (exec (Stmt.If (Expr.Compare _ _ _ _) _ _ _) _) _ _ _)); (first | walk1 | (k_unfold; (try dsimp only)) | (dsimp only; walk1))))
local macro_rules | `(tactic| walk_at "mine cutS end") => `(tactic| exact ⟨rfl, _, _, _, rfl, (by first | assumption | exact Fr.same (by assumption) (by rfl)), (by first | assumption | exact News.sub (by assumption) (by walk_at "mine sub"))⟩)
local macro_rules | `(tactic| walk_at "mine len") => `(tactic| first | with_reducible assumption | (with_reducible refine' len_int ?a; (case a => omega)) | (with_reducible refine' len_add ?a ?b; (case a => walk_at "mine len"); (case b => walk_at "mine len")) | with_reducible exact Nat.le_refl _)
local macro_rules | `(tactic| walk_at "binaryOp Add str str") => `(tactic| (k_here; (with_reducible show wpAny _ _ (binaryOp Operator.Add (Value.str _ _) (Value.str _ _)) _ _ _); (refine' add_short ?a ?b ?c ?_; (case a => walk_at "mine len"); (case b => walk_at "mine len"); (case c => k_dflt exact rfl)); intro _ _))
local macro_rules | `(tactic| walk_at "eval Name") => `(tactic| ((with_reducible refine' ld ?F ?hv ?_ ?hk ?hl ?hd); (case F => first | with_reducible assumption | k_dflt assumption); (case hv => k_dflt exact rfl); (case hk => k_dflt exact rfl); (case hl => k_dflt exact rfl); (case hd => decide)))
local macro_rules | `(tactic| walk_at "mine to iter") => `(tactic| repeat ((fail_if_success (with_reducible show wpAny _ _ (pyIter _) _ _ _)); (first | walk1 | (k_unfold; (try dsimp only)) | (dsimp only; walk1))))
local macro_rules | `(tactic| size_fits) => `(tactic| exact strV_fits (by omega))
local macro_rules | `(tactic| walk_at "mine cutV end") => `(tactic| exact ⟨⟨_, rfl⟩, _, _, rfl, by assumption, by first | assumption | exact News.sub (by assumption) (by walk_at "mine sub")⟩)
local macro_rules | `(tactic| walk_at "mine to ifexp") => `(tactic| repeat ((fail_if_success (with_reducible show wpAny _ _ (eval (Expr.IfExp _ _ _ _) _) _ _ _)); (first | walk1 | (k_unfold; (try dsimp only)) | (dsimp only; walk1))))
local macro_rules | `(tactic| walk_at "mine tidy") => `(tactic| repeat (first | (with_reducible rename LCg.NsObj _ _ => q; clear q) | (with_reducible rename (_ ≠ _ ∧ _ ≠ _ ∧ _ ≠ _) => q; clear q) | (with_reducible rename ((_ ≠ _ ∧ _ ≠ _ ∧ _ ≠ _) ∧ _) => q; clear q) | (with_reducible rename (_[_]? = some _) => q; clear q) | (with_reducible rename (_ ≠ _ ∧ _) => q; clear q)))
local macro_rules | `(tactic| walk_at "mine lt") => `(tactic| first | exact List.forall_mem_nil _ | (refine List.forall_mem_cons.mpr ⟨by (show @LT.lt Nat _ _ _; omega), ?_⟩; walk_at "mine lt"))
local macro_rules | `(tactic| walk_at "mine cutB end") => `(tactic| refine ⟨?_, _, _, rfl, (by assumption), (by first | assumption | exact News.sub (by assumption) (by walk_at "mine sub"))⟩)
set_option maxRecDepth 100000 in
set_option maxHeartbeats 8000000 in
theorem read_spec (w : World) (x dx : Addr) (k t : Nat → Tok) (a : Iv) :
  Meets w 5 (.ref 158) [.ref x] [] (ivAt w x dx k t a) fun v new => ∃ l n, v = .ref l ∧ new = [(l, listR a t n)] := by
  have bh : BindHint [(Str.ofString "thing", .ref x)] := ⟨trivial⟩
  walk_at "mine enter"
  k_steps
  walk_at "mine done"
set_option maxRecDepth 100000 in
set_option maxHeartbeats 8000000 in
theorem rest_spec (w : World) (x dx : Addr) (k t : Nat → Tok) (a : Iv) :
  Meets w 5 (.ref 165) [.ref x] [] (ivAt w x dx k t a) fun v new => ∃ l n, v = .ref l ∧ new = [(l, listX a t n)] := by
  have bh : BindHint [(Str.ofString "thing", .ref x)] := ⟨trivial⟩
  walk_at "mine enter"
  k_steps
  walk_at "mine done"
def wholeOf (f : Fld) : Int × Int × Int := (12 * f.y + f.mo, f.d, 3600 * f.h + 60 * f.mi + f.s)
abbrev listW (z : Int × Int × Int) (t0 t1 t2 : Tok) (n : Nat) : Obj := W.listOf #[.int z.1 t0, .int z.2.1 t1, .int z.2.2 t2] n
set_option maxRecDepth 100000 in
set_option maxHeartbeats 8000000 in
theorem whole_spec (w : World) (x : Addr) (f : Fld) (t0 t1 t2 t3 t4 t5 : Tok) (n : Nat) :
  Meets w 5 (.ref 172) [.ref x] [] [(x, fobj f t0 t1 t2 t3 t4 t5 n)] fun v new => ∃ l u0 u1 u2 n', v = .ref l ∧ new = [(l, listW (wholeOf f) u0 u1 u2 n')] := by
  have bh : BindHint [(Str.ofString "fields", .ref x)] := ⟨trivial⟩
  walk_at "mine enter"
  k_steps
  walk_at "mine done"

end Mine
end
section
example : True := by (w_top off); trivial
open PySem PySem.W PyProof.Rows
set_option Elab.async false
namespace Mine
local macro_rules | `(tactic| walk_at "mine pad0") => `(tactic| skip)
local macro_rules | `(tactic| walk_at "mine pad1") => `(tactic| skip)
example (w : World) : (∀ h, (lawTop.heap_39 w.params).In h → PySem.Challenge.rw_ew0023_01 = PySem.Challenge.rw_ew0023_01) := by k_fill; intros; rfl
local macro_rules | `(tactic| k_room) => `(tactic| ktr_room)
local macro_rules | `(tactic| walk_at "mine enter") => `(tactic| (rename BindHint _ => bh; unfold Meets; intro loose mean mg mb dp un gd cn sn sg sc sm a ccd cl outer A₀ base h₀ L m s Q E news B F X N ha T hd hu ret; refine wpAny_call ?_; k_dflt (first
  | (refine' enterM (by assumption) B F X N ha T ?kA ?kF ?kK ?k6 ?k7 ?k8 ?k9 ?kB ret ?_ ?c2 ?c3 ?c4 ?c5; (case kA => exact rfl); (case kF => exact rfl); (case kK => exact rfl); (case k6 => k_is); (case k7 => k_is); (case k8 => k_room); (case k9 => first | exact BindsTo.of_eq rfl | exact binds_K (Frag.In.keeps X (Fr.keep F)) rfl (by k_is) rfl rfl rfl); (case c5 => decide); (case kB => exact locs rfl); (case c2 => exact rfl); (case c3 => exact rfl); (case c4 => exact rfl); k_whole; clear B F X N ha T ret bh; intro g' L' h' F' N' l1 B' X' T'; (try k_lt l1); (try dsimp only); (try k_fold))
  | (refine' enterC (by assumption) B F X N ha T ?kA ?kF ?kK ?k6 ?k7 ?k8 ?k9 ?kB ?kD ret ?_ ?c2 ?c3 ?c4; (case kA => exact rfl); (case kF => exact rfl); (case kK => exact rfl); (case k6 => k_is); (case k7 => k_is); (case k8 => k_room); (case k9 => first | exact BindsTo.of_eq rfl | exact binds_K (Frag.In.keeps X (Fr.keep F)) rfl (by k_is) rfl rfl rfl); (case kB => exact rfl); (case kD => decide +kernel); (case c2 => exact rfl); (case c3 => exact rfl); (case c4 => exact rfl); k_whole; clear B F X N ha T ret bh; intro g' L' h' tk' cells' F' N' Y' l1 B' X' T'; (try k_lt l1); k_cells Y'; (try simp only [List.cons_append, List.nil_append] at N'); (try dsimp only); (try k_fold)))))
local macro_rules | `(tactic| walk_at "exec Assign cons ListComp") => `(tactic| (k_here; (with_reducible show wpAny _ _ (exec (Stmt.Assign _ (Expr.ListComp _ [⟨_, Expr.Tuple _ _ _, _, _⟩] _ _) _) _) _ _ _); k_dflt (refine assign_compTup (F₀ := by k_asm) (by rfl) (by with_unfolding_all rfl) (by with_unfolding_all rfl) (by decide) (by rfl) (by decide) (by rfl) (by rfl) (by rfl) ?_)))
local macro_rules | `(tactic| walk_at "TupSrc") => `(tactic| (k_here; k_dflt (refine TupSrc.of (by rfl) (by k_asm) (by k_asm) (by k_mem) (by first | size_fits | exact Nat.le_of_ble_eq_true rfl) ?_); intro g'; lcg_lit))
local macro_rules | `(tactic| lcg_src) => `(tactic| exact ⟨_, by k_mem, rfl, _, rfl⟩)
local macro_rules | `(tactic| walk_at "CompEnd") => `(tactic| (k_here; k_dflt (refine compEnd_same (by assumption) (by assumption) (by (simp only [LCg.Off3, and_true]; assumption)) (by lcg_src) ?_)))
local macro_rules | `(tactic| k_handed) => `(tactic| exact handed_optV _ _)
local macro_rules | `(tactic| walk_at "mine sub") => `(tactic| first | exact List.forall_mem_nil _ | (refine List.forall_mem_cons.mpr ⟨by k_mem, ?_⟩; walk_at "mine sub"))
local macro_rules | `(tactic| walk_at "mine off1") => `(tactic| first | exact List.forall_mem_nil _ | (refine List.forall_mem_cons.mpr ⟨by k_ne, ?_⟩; walk_at "mine off1"))
local macro_rules | `(tactic| walk_at "mine off") => `(tactic| first | exact List.forall_mem_nil _ | (refine List.forall_mem_cons.mpr ⟨?a, ?b⟩; (case a => walk_at "mine off1"); (case b => walk_at "mine off")))

local macro_rules | `(tactic| walk_at "mine done") => `(tactic| first | exact Done.intro (by assumption) (by assumption) ⟨_, rfl, rfl⟩ (by walk_at "mine sub") (by walk_at "mine sub") (by walk_at "mine off") | exact Done.intro (by assumption) (by assumption) ⟨_, _, rfl, rfl⟩ (by walk_at "mine sub") (by walk_at "mine sub") (by walk_at "mine off") | exact Done.intro (by assumption) (by assumption) ⟨_, _, _, rfl, rfl⟩ (by walk_at "mine sub") (by walk_at "mine sub") (by walk_at "mine off") | exact Done.intro (by assumption) (by assumption) ⟨_, _, _, _, rfl, rfl⟩ (by walk_at "mine sub") (by walk_at "mine sub") (by walk_at "mine off") | exact Done.intro (by assumption) (by assumption) ⟨_, _, _, _, _, rfl, rfl⟩ (by walk_at "mine sub") (by walk_at "mine sub") (by walk_at "mine off") | exact Done.intro (by assumption) (by assumption) ⟨_, _, _, _, _, _, rfl, rfl⟩ (by walk_at "mine sub") (by walk_at "mine sub") (by walk_at "mine off") | exact Done.intro (by assumption) (by assumption) ⟨_, _, _, _, _, _, _, rfl, rfl⟩ (by walk_at "mine sub") (by walk_at "mine sub") (by walk_at "mine off") | exact Done.intro (by assumption) (by assumption) ⟨_, _, _, _, _, _, _, _, rfl, rfl⟩ (by walk_at "mine sub") (by walk_at "mine sub") (by walk_at "mine off") | exact Done.intro (by assumption) (by assumption) ⟨_, _, _, _, _, _, _, _, _, rfl, rfl⟩ (by walk_at "mine sub") (by walk_at "mine sub") (by walk_at "mine off") | exact Done.intro (by assumption) (by assumption) ⟨_, _, _, _, _, _, _, _, _, _, rfl, rfl⟩ (by walk_at "mine sub") (by walk_at "mine sub") (by walk_at "mine off") | exact Done.intro (by assumption) (by assumption) ⟨_, _, _, _, _, _, _, _, _, _, _, rfl, rfl⟩ (by walk_at "mine sub") (by walk_at "mine sub") (by walk_at "mine off") | exact Done.intro (by assumption) (by assumption) ⟨_, _, _, _, _, _, _, _, _, _, _, _, rfl, rfl⟩ (by walk_at "mine sub") (by walk_at "mine sub") (by walk_at "mine off") | exact Done.intro (by assumption) (by assumption) ⟨_, _, _, _, _, _, _, _, _, _, _, _, _, rfl, rfl⟩ (by walk_at "mine sub") (by walk_at "mine sub") (by walk_at "mine off"))
local macro_rules | `(tactic| walk_at "mine steps") => `(tactic| repeat' (first | (k_unfold; (try dsimp only)) | walk1 | (dsimp only; walk1) | fail "no step"))
local macro_rules | `(tactic| walk_at "subscriptTail Name Constant ref int") => `(tactic| (k_here; k_dflt (refine' item_led ?k0 ?km ?k2 ?k3 ?k4 ?_ ?k6; (case k0 => k_asm); (case km => k_mem); (case k2 => decide); (case k3 => decide); (case k4 => exact rfl); (case k6 => with_unfolding_all rfl); k_whole)))
local macro_rules | `(tactic| walk_at "subscriptTail Name Name ref int") => `(tactic| (k_here; k_dflt (refine' item_led ?k0 ?km ?k2 ?k3 ?k4 ?_ ?k6; (case k0 => k_asm); (case km => k_mem); (case k2 => decide); (case k3 => decide); (case k4 => exact rfl); (case k6 => with_unfolding_all rfl); k_whole)))
local macro_rules | `(tactic| walk_at "mine to if") => `(tactic| repeat ((fail_if_success (with_reducible show wpAny _ _ (exec (Stmt.If _ _ _ _) _) _ _ _)); (first | walk1 | (k_unfold; (try dsimp only)) | (dsimp only; walk1))))
local macro_rules | `(tactic| walk_at "mine to cmp") => `(tactic| repeat ((fail_if_success (with_reducible show wpAny _ _ (exec (Stmt.If (Expr.Compare _ _ _ _) _ _ _) _) _ _ _)); (first | walk1 | (k_unfold; (try dsimp only)) | (dsimp only; walk1))))
local macro_rules | `(tactic| walk_at "mine cutS end") => `(tactic| exact ⟨rfl, _, _, _, rfl, (by first | assumption | exact Fr.same (by assumption) (by rfl)), (by first | assumption | exact News.sub (by assumption) (by walk_at "mine sub"))⟩)
local macro_rules | `(tactic| walk_at "mine len") => `(tactic| first | with_reducible assumption | (with_reducible refine' len_int ?a; (case a => omega)) | (with_reducible refine' len_add ?a ?b; (case a => walk_at "mine len"); (case b => walk_at "mine len")) | with_reducible exact Nat.le_refl _)
local macro_rules | `(tactic| walk_at "binaryOp Add str str") => `(tactic| (k_here; (with_reducible show wpAny _ _ (binaryOp Operator.Add (Value.str _ _) (Value.str _ _)) _ _ _); (refine' add_short ?a ?b ?c ?_; (case a => walk_at "mine len"); (case b => walk_at "mine len"); (case c => k_dflt exact rfl)); intro _ _))
local macro_rules | `(tactic| walk_at "eval Name") => `(tactic| ((with_reducible refine' ld ?F ?hv ?_ ?hk ?hl ?hd); (case F => first | with_reducible assumption | k_dflt assumption); (case hv => k_dflt exact rfl); (case hk => k_dflt exact rfl); (case hl => k_dflt exact rfl); (case hd => decide)))
local macro_rules | `(tactic| walk_at "mine to iter") => `(tactic| repeat ((fail_if_success (with_reducible show wpAny _ _ (pyIter _) _ _ _)); (first | walk1 | (k_unfold; (try dsimp only)) | (dsimp only; walk1))))
local macro_rules | `(tactic| size_fits) => `(tactic| exact strV_fits (by omega))
local macro_rules | `(tactic| walk_at "mine cutV end") => `(tactic| exact ⟨⟨_, rfl⟩, _, _, rfl, by assumption, by first | assumption | exact News.sub (by assumption) (by walk_at "mine sub")⟩)
local macro_rules | `(tactic| walk_at "mine to ifexp") => `(tactic| repeat ((fail_if_success (with_reducible show wpAny _ _ (eval (Expr.IfExp _ _ _ _) _) _ _ _)); (first | walk1 | (k_unfold; (try dsimp only)) | (dsimp only; walk1))))
local macro_rules | `(tactic| walk_at "mine tidy") => `(tactic| repeat (first | (with_reducible rename LCg.NsObj _ _ => q; clear q) | (with_reducible rename (_ ≠ _ ∧ _ ≠ _ ∧ _ ≠ _) => q; clear q) | (with_reducible rename ((_ ≠ _ ∧ _ ≠ _ ∧ _ ≠ _) ∧ _) => q; clear q) | (with_reducible rename (_[_]? = some _) => q; clear q) | (with_reducible rename (_ ≠ _ ∧ _) => q; clear q)))
local macro_rules | `(tactic| walk_at "mine lt") => `(tactic| first | exact List.forall_mem_nil _ | (refine List.forall_mem_cons.mpr ⟨by (show @LT.lt Nat _ _ _; omega), ?_⟩; walk_at "mine lt"))
local macro_rules | `(tactic| walk_at "mine cutB end") => `(tactic| refine ⟨?_, _, _, rfl, (by assumption), (by first | assumption | exact News.sub (by assumption) (by walk_at "mine sub"))⟩)
local macro_rules | `(tactic| k_lt $h:ident) => `(tactic| (replace $h := topOf_le $h; try simp only [topOf] at $h:ident))
local macro_rules | `(tactic| k_all) => `(tactic| exact off_topOf (by omega))
abbrev initArgs (x : Addr) (v0 v1 v2 v3 v4 v5 v6 v7 v8 v9 v10 : Value) : List (Str × Value) := [(Str.ofString "self", .ref x), (Str.ofString "millennia", v0), (Str.ofString "centuries", v1), (Str.ofString "decades", v2), (Str.ofString "years", v3), (Str.ofString "months", v4), (Str.ofString "weeks", v5), (Str.ofString "days", v6), (Str.ofString "hours", v7), (Str.ofString "minutes", v8), (Str.ofString "seconds", v9), (Str.ofString "microseconds", v10)]
abbrev madeDict (P : Params) (k : Nat → Tok) (v0 v1 v2 v3 v4 v5 v6 v7 v8 v9 v10 : Value) : Obj := dictOf [
  ent P (Str.ofString "millennia") (k 0) v0, ent P (Str.ofString "centuries") (k 1) v1, ent P (Str.ofString "decades") (k 2) v2,
  ent P (Str.ofString "years") (k 3) v3, ent P (Str.ofString "months") (k 4) v4, ent P (Str.ofString "weeks") (k 5) v5,
  ent P (Str.ofString "days") (k 6) v6, ent P (Str.ofString "hours") (k 7) v7, ent P (Str.ofString "minutes") (k 8) v8,
  ent P (Str.ofString "seconds") (k 9) v9, ent P (Str.ofString "microseconds") (k 10) v10] 11
/-- the constructor's arguments meet its parameters so -/
def InitBinds (w : World) (pos : List Value) (kw : List (Str × Value)) (v0 v1 v2 v3 v4 v5 v6 v7 v8 v9 v10 : Value) : Prop :=
  ∀ (s : Shared) (x : Addr) (oc : Value) (od : Option Addr) (fd : FuncData) (osl : Array (Option Value)), (lawTop.heap_39 w.params).In s.heap → List.lookup 72 (lawTop.heap_39 w.params) = some ⟨oc, od, .func fd, osl⟩ →
    BindsTo s fd ⟨.ref x :: pos, kw⟩ (initArgs x v0 v1 v2 v3 v4 v5 v6 v7 v8 v9 v10)
set_option maxRecDepth 100000 in
set_option maxHeartbeats 8000000 in
theorem make_spec (w : World) (pos : List Value) (kw : List (Str × Value)) (v0 v1 v2 v3 v4 v5 v6 v7 v8 v9 v10 : Value) (hb : InitBinds w pos kw v0 v1 v2 v3 v4 v5 v6 v7 v8 v9 v10) :
  Meets w 5 (.ref 108) pos kw [] fun v new => ∃ x dx, ∃ k : Nat → Tok, v = .ref x ∧ new = [(x, instObj 108 dx), (dx, madeDict w.params k v0 v1 v2 v3 v4 v5 v6 v7 v8 v9 v10)] := by
  unfold Meets; intro loose mean mg mb dp un gd cn sn sg sc sm a ccd cl outer A₀ base h₀ L m s Q E news B F X N ha T hd hu ret
  k_dflt (refine' call_cls ?k1 ?k2 ?k3 ?k4 ?k5 ?k6 ?_; (case k1 => k_asm); (case k2 => k_asm); (case k3 => k_asm); (case k4 => k_is); (case k5 => k_is); (case k6 => k_is); k_whole; intro x' d' h' F' N' l1 l2; (try k_lt l1); (try k_lt2 l2))
  k_dflt (refine' code_def (binds := initArgs x' v0 v1 v2 v3 v4 v5 v6 v7 v8 v9 v10) ?k1 ?k2 ?k3 ?k4 ?k5 ?kA ?kF ?kK ?k6 ?k7 ?k8 ?k9 ?kB ?_ ?c2 ?c3 ?c4 ?c5; (case kA => exact rfl); (case kF => exact rfl); (case kK => exact rfl); (case k1 => k_asm); (case k2 => exact F'); (case k3 => k_asm); (case k4 => exact N'); (case k5 => k_asm); (case k6 => k_is); (case k7 => k_is); (case k8 => k_room); (case k9 => exact hb _ _ _ _ _ _ (Frag.In.keeps X (Fr.keep F')) (by k_is)); (case c5 => decide); (case kB => exact locs rfl); (case c2 => exact rfl); (case c3 => exact rfl); (case c4 => exact rfl))
  clear hb B F N ha F' N' hu hd X T
  intro g' L' h' FG' F' N' B' X' T'
  try dsimp only
  k_steps
  refine leaveK_ (by assumption) (by assumption) (fun kF kN => ?_)
  refine ⟨rfl, ?_⟩
  exact ret _ [_, _] _ _ ⟨_, _, (fun i => ([_, _, _, _, _, _, _, _, _, _, _] : List Tok).getD i 0), rfl, rfl⟩ kF kN
    (List.forall_mem_cons.mpr ⟨off_topOf (by dsimp only; omega), List.forall_mem_cons.mpr ⟨off_topOf (by dsimp only; omega), List.forall_mem_nil _⟩⟩)

end Mine
end
section
example : True := by (w_top off); trivial
open PySem PySem.W PyProof.Rows
set_option Elab.async false
namespace Mine
local macro_rules | `(tactic| walk_at "mine pad0") => `(tactic| skip)
local macro_rules | `(tactic| walk_at "mine pad1") => `(tactic| skip)
local macro_rules | `(tactic| walk_at "mine pad2") => `(tactic| skip)
example (w : World) : (∀ h, (lawTop.heap_39 w.params).In h → PySem.Challenge.rw_ew0023_01 = PySem.Challenge.rw_ew0023_01) := by k_fill; intros; rfl
local macro_rules | `(tactic| k_room) => `(tactic| ktr_room)
local macro_rules | `(tactic| walk_at "mine enter") => `(tactic| (rename BindHint _ => bh; unfold Meets; intro loose mean mg mb dp un gd cn sn sg sc sm a ccd cl outer A₀ base h₀ L m s Q E news B F X N ha T hd hu ret; refine wpAny_call ?_; k_dflt (first
  | (refine' enterM (by assumption) B F X N ha T ?kA ?kF ?kK ?k6 ?k7 ?k8 ?k9 ?kB ret ?_ ?c2 ?c3 ?c4 ?c5; (case kA => exact rfl); (case kF => exact rfl); (case kK => exact rfl); (case k6 => k_is); (case k7 => k_is); (case k8 => k_room); (case k9 => first | exact BindsTo.of_eq rfl | exact binds_K (Frag.In.keeps X (Fr.keep F)) rfl (by k_is) rfl rfl rfl); (case c5 => decide); (case kB => exact locs rfl); (case c2 => exact rfl); (case c3 => exact rfl); (case c4 => exact rfl); k_whole; clear B F X N ha T ret bh; intro g' L' h' F' N' l1 B' X' T'; (try k_lt l1); (try dsimp only); (try k_fold))
  | (refine' enterC (by assumption) B F X N ha T ?kA ?kF ?kK ?k6 ?k7 ?k8 ?k9 ?kB ?kD ret ?_ ?c2 ?c3 ?c4; (case kA => exact rfl); (case kF => exact rfl); (case kK => exact rfl); (case k6 => k_is); (case k7 => k_is); (case k8 => k_room); (case k9 => first | exact BindsTo.of_eq rfl | exact binds_K (Frag.In.keeps X (Fr.keep F)) rfl (by k_is) rfl rfl rfl); (case kB => exact rfl); (case kD => decide +kernel); (case c2 => exact rfl); (case c3 => exact rfl); (case c4 => exact rfl); k_whole; clear B F X N ha T ret bh; intro g' L' h' tk' cells' F' N' Y' l1 B' X' T'; (try k_lt l1); k_cells Y'; (try simp only [List.cons_append, List.nil_append] at N'); (try dsimp only); (try k_fold)))))
local macro_rules | `(tactic| walk_at "exec Assign cons ListComp") => `(tactic| (k_here; (with_reducible show wpAny _ _ (exec (Stmt.Assign _ (Expr.ListComp _ [⟨_, Expr.Tuple _ _ _, _, _⟩] _ _) _) _) _ _ _); k_dflt (refine assign_compTup (F₀ := by k_asm) (by rfl) (by with_unfolding_all rfl) (by with_unfolding_all rfl) (by decide) (by rfl) (by decide) (by rfl) (by rfl) (by rfl) ?_)))
local macro_rules | `(tactic| walk_at "TupSrc") => `(tactic| (k_here; k_dflt (refine TupSrc.of (by rfl) (by k_asm) (by k_asm) (by k_mem) (by first | size_fits | exact Nat.le_of_ble_eq_true rfl) ?_); intro g'; lcg_lit))
local macro_rules | `(tactic| lcg_src) => `(tactic| exact ⟨_, by k_mem, rfl, _, rfl⟩)
local macro_rules | `(tactic| walk_at "CompEnd") => `(tactic| (k_here; k_dflt (refine compEnd_same (by assumption) (by assumption) (by (simp only [LCg.Off3, and_true]; assumption)) (by lcg_src) ?_)))
local macro_rules | `(tactic| k_handed) => `(tactic| exact handed_optV _ _)
local macro_rules | `(tactic| walk_at "mine sub") => `(tactic| first | exact List.forall_mem_nil _ | (refine List.forall_mem_cons.mpr ⟨by k_mem, ?_⟩; walk_at "mine sub"))
local macro_rules | `(tactic| walk_at "mine off1") => `(tactic| first | exact List.forall_mem_nil _ | (refine List.forall_mem_cons.mpr ⟨by k_ne, ?_⟩; walk_at "mine off1"))
local macro_rules | `(tactic| walk_at "mine off") => `(tactic| first | exact List.forall_mem_nil _ | (refine List.forall_mem_cons.mpr ⟨?a, ?b⟩; (case a => walk_at "mine off1"); (case b => walk_at "mine off")))

local macro_rules | `(tactic| walk_at "mine done") => `(tactic| first | exact Done.intro (by assumption) (by assumption) ⟨_, rfl, rfl⟩ (by walk_at "mine sub") (by walk_at "mine sub") (by walk_at "mine off") | exact Done.intro (by assumption) (by assumption) ⟨_, _, rfl, rfl⟩ (by walk_at "mine sub") (by walk_at "mine sub") (by walk_at "mine off") | exact Done.intro (by assumption) (by assumption) ⟨_, _, _, rfl, rfl⟩ (by walk_at "mine sub") (by walk_at "mine sub") (by walk_at "mine off") | exact Done.intro (by assumption) (by assumption) ⟨_, _, _, _, rfl, rfl⟩ (by walk_at "mine sub") (by walk_at "mine sub") (by walk_at "mine off") | exact Done.intro (by assumption) (by assumption) ⟨_, _, _, _, _, rfl, rfl⟩ (by walk_at "mine sub") (by walk_at "mine sub") (by walk_at "mine off") | exact Done.intro (by assumption) (by assumption) ⟨_, _, _, _, _, _, rfl, rfl⟩ (by walk_at "mine sub") (by walk_at "mine sub") (by walk_at "mine off") | exact Done.intro (by assumption) (by assumption) ⟨_, _, _, _, _, _, _, rfl, rfl⟩ (by walk_at "mine sub") (by walk_at "mine sub") (by walk_at "mine off") | exact Done.intro (by assumption) (by assumption) ⟨_, _, _, _, _, _, _, _, rfl, rfl⟩ (by walk_at "mine sub") (by walk_at "mine sub") (by walk_at "mine off") | exact Done.intro (by assumption) (by assumption) ⟨_, _, _, _, _, _, _, _, _, rfl, rfl⟩ (by walk_at "mine sub") (by walk_at "mine sub") (by walk_at "mine off") | exact Done.intro (by assumption) (by assumption) ⟨_, _, _, _, _, _, _, _, _, _, rfl, rfl⟩ (by walk_at "mine sub") (by walk_at "mine sub") (by walk_at "mine off") | exact Done.intro (by assumption) (by assumption) ⟨_, _, _, _, _, _, _, _, _, _, _, rfl, rfl⟩ (by walk_at "mine sub") (by walk_at "mine sub") (by walk_at "mine off") | exact Done.intro (by assumption) (by assumption) ⟨_, _, _, _, _, _, _, _, _, _, _, _, rfl, rfl⟩ (by walk_at "mine sub") (by walk_at "mine sub") (by walk_at "mine off") | exact Done.intro (by assumption) (by assumption) ⟨_, _, _, _, _, _, _, _, _, _, _, _, _, rfl, rfl⟩ (by walk_at "mine sub") (by walk_at "mine sub") (by walk_at "mine off"))
local macro_rules | `(tactic| walk_at "mine steps") => `(tactic| repeat' (first | (k_unfold; (try dsimp only)) | walk1 | (dsimp only; walk1) | fail "no step"))
local macro_rules | `(tactic| walk_at "subscriptTail Name Constant ref int") => `(tactic| (k_here; k_dflt (refine' item_led ?k0 ?km ?k2 ?k3 ?k4 ?_ ?k6; (case k0 => k_asm); (case km => k_mem); (case k2 => decide); (case k3 => decide); (case k4 => exact rfl); (case k6 => with_unfolding_all rfl); k_whole)))
local macro_rules | `(tactic| walk_at "subscriptTail Name Name ref int") => `(tactic| (k_here; k_dflt (refine' item_led ?k0 ?km ?k2 ?k3 ?k4 ?_ ?k6; (case k0 => k_asm); (case km => k_mem); (case k2 => decide); (case k3 => decide); (case k4 => exact rfl); (case k6 => with_unfolding_all rfl); k_whole)))
local macro_rules | `(tactic| walk_at "mine to if") => `(tactic| repeat ((fail_if_success (with_reducible show wpAny _ _ (exec (Stmt.If _ _ _ _) _) _ _ _)); (first | walk1 | (k_unfold; (try dsimp only)) | (dsimp only; walk1))))
local macro_rules | `(tactic| walk_at "mine to cmp") => `(tactic| repeat ((fail_if_success (with_reducible show wpAny _ _ (exec (Stmt.If (Expr.Compare _ _ _ _) _ _ _) _) _ _ _)); (first | walk1 | (k_unfold; (try dsimp only)) | (dsimp only; walk1))))
local macro_rules | `(tactic| walk_at "mine cutS end") => `(tactic| exact ⟨rfl, _, _, _, rfl, (by first | assumption | exact Fr.same (by assumption) (by rfl)), (by first | assumption | exact News.sub (by assumption) (by walk_at "mine sub"))⟩)
local macro_rules | `(tactic| walk_at "mine len") => `(tactic| first | with_reducible assumption | (with_reducible refine' len_int ?a; (case a => omega)) | (with_reducible refine' len_add ?a ?b; (case a => walk_at "mine len"); (case b => walk_at "mine len")) | with_reducible exact Nat.le_refl _)
local macro_rules | `(tactic| walk_at "binaryOp Add str str") => `(tactic| (k_here; (with_reducible show wpAny _ _ (binaryOp Operator.Add (Value.str _ _) (Value.str _ _)) _ _ _); (refine' add_short ?a ?b ?c ?_; (case a => walk_at "mine len"); (case b => walk_at "mine len"); (case c => k_dflt exact rfl)); intro _ _))
local macro_rules | `(tactic| walk_at "eval Name") => `(tactic| ((with_reducible refine' ld ?F ?hv ?_ ?hk ?hl ?hd); (case F => first | with_reducible assumption | k_dflt assumption); (case hv => k_dflt exact rfl); (case hk => k_dflt exact rfl); (case hl => k_dflt exact rfl); (case hd => decide)))
local macro_rules | `(tactic| walk_at "mine to iter") => `(tactic| repeat ((fail_if_success (with_reducible show wpAny _ _ (pyIter _) _ _ _)); (first | walk1 | (k_unfold; (try dsimp only)) | (dsimp only; walk1))))
local macro_rules | `(tactic| size_fits) => `(tactic| exact strV_fits (by omega))
local macro_rules | `(tactic| walk_at "mine cutV end") => `(tactic| exact ⟨⟨_, rfl⟩, _, _, rfl, by assumption, by first | assumption | exact News.sub (by assumption) (by walk_at "mine sub")⟩)
local macro_rules | `(tactic| walk_at "mine to ifexp") => `(tactic| repeat ((fail_if_success (with_reducible show wpAny _ _ (eval (Expr.IfExp _ _ _ _) _) _ _ _)); (first | walk1 | (k_unfold; (try dsimp only)) | (dsimp only; walk1))))
local macro_rules | `(tactic| walk_at "mine tidy") => `(tactic| repeat (first | (with_reducible rename LCg.NsObj _ _ => q; clear q) | (with_reducible rename (_ ≠ _ ∧ _ ≠ _ ∧ _ ≠ _) => q; clear q) | (with_reducible rename ((_ ≠ _ ∧ _ ≠ _ ∧ _ ≠ _) ∧ _) => q; clear q) | (with_reducible rename (_[_]? = some _) => q; clear q) | (with_reducible rename (_ ≠ _ ∧ _) => q; clear q)))
local macro_rules | `(tactic| walk_at "mine lt") => `(tactic| first | exact List.forall_mem_nil _ | (refine List.forall_mem_cons.mpr ⟨by (show @LT.lt Nat _ _ _; omega), ?_⟩; walk_at "mine lt"))
local macro_rules | `(tactic| walk_at "mine cutB end") => `(tactic| refine ⟨?_, _, _, rfl, (by assumption), (by first | assumption | exact News.sub (by assumption) (by walk_at "mine sub"))⟩)
theorem forIn_slots {f : Str × Value → List (Str × Value) × List (Str × Value) → Sem (ForInStep (List (Str × Value) × List (Str × Value)))} :
    ∀ (kw slots : List (Str × Value)), (kw.map (·.1)).Nodup → (∀ p ∈ kw, slots.lookup p.1 = none) → (∀ p ∈ kw, ∀ sl : List (Str × Value), sl.lookup p.1 = none → f p (sl, []) = pure (.yield (sl ++ [p], []))) →
      forIn kw (slots, []) f = pure (slots ++ kw, [])
  | [], slots, _, _, _ => by rw [List.forIn_nil, List.append_nil]
  | p :: r, slots, hn, hs, hf => by
    rw [List.forIn_cons, hf p (.head _) slots (hs p (.head _))]
    show forIn r (slots ++ [p], []) f = _
    rw [List.map_cons, List.nodup_cons] at hn
    rw [forIn_slots r (slots ++ [p]) hn.2 (fun q hq => ?_) fun q hq => hf q (.tail _ hq), List.append_assoc]
    · rfl
    · rw [List.lookup_append, hs q (.tail _ hq)]
      have : q.1 ≠ p.1 := fun e => hn.1 (e ▸ List.mem_map_of_mem hq)
      simp [List.lookup_cons, this]
theorem forIn_dflt {f : Str × Value → List (Str × Value) → Sem (ForInStep (List (Str × Value)))} (hf : ∀ p (sl : List (Str × Value)), f p sl = if (sl.lookup p.1).isNone = true then pure (.yield (sl ++ [p])) else pure (.yield sl)) :
    ∀ (names : List Str) (slots : List (Str × Value)), ∃ sl, forIn (names.map fun n => (n, Value.none)) slots f = pure sl ∧ (∀ n, sl.lookup n = (slots.lookup n).or (if n ∈ names then some .none else none))
  | [], slots => ⟨slots, by rw [List.map_nil, List.forIn_nil], fun n => by simp⟩
  | n :: r, slots => by
    rw [List.map_cons, List.forIn_cons, hf]
    by_cases h : (List.lookup n slots).isNone = true
    · rw [if_pos h]
      obtain ⟨sl, e, hl⟩ := forIn_dflt hf r (slots ++ [(n, Value.none)])
      refine ⟨sl, e, fun k => ?_⟩
      rw [hl, List.lookup_append]
      by_cases hk : k = n
      · subst hk
        rw [Option.isNone_iff_eq_none] at h
        simp [h, List.lookup_cons]
      · simp [List.lookup_cons, beq_false_of_ne hk, hk]
    · rw [if_neg h]
      obtain ⟨sl, e, hl⟩ := forIn_dflt hf r slots
      refine ⟨sl, e, fun k => ?_⟩
      rw [hl]
      by_cases hk : k = n
      · subst hk
        obtain ⟨v, hv⟩ : ∃ v, List.lookup k slots = some v := by
          cases q : List.lookup k slots with
          | none => rw [q] at h; exact absurd rfl h
          | some v => exact ⟨v, rfl⟩
        simp [hv]
      · simp [hk]
theorem filterMap_lookup {sl : List (Str × Value)} {g : Str → Value} : ∀ (names : List Str), (∀ n ∈ names, sl.lookup n = some (g n)) → names.filterMap (fun n => (sl.lookup n).map (n, ·)) = names.map fun n => (n, g n)
  | [], _ => rfl
  | n :: r, h => by
    rw [List.filterMap_cons, h n (.head _), List.map_cons]
    show (n, g n) :: _ = _
    rw [filterMap_lookup r fun k hk => h k (.tail _ hk)]
theorem binds_kw {s : Shared} {fd : FuncData} {x : Addr} {kw : List (Str × Value)} {T : Addr} {o : Obj} {self : Str} {names : List Str} {m : Nat}
    (hp : fd.params.posonlyargs = []) (ha : fd.params.args.map (·.arg) = self :: names) (hko : fd.params.kwonlyargs = []) (hv : fd.params.vararg = none) (hkw : fd.params.kwarg = none)
    (hd : fd.defaults = .ref T) (ho : s.heap.get? T = some o) (hs : o.data = .seq (names.map fun _ => Value.none).toArray m)
    (hk : ∀ p ∈ kw, p.1 ∈ names) (hn : (kw.map (·.1)).Nodup) (hself : self ∉ names) :
    BindsTo s fd ⟨[.ref x], kw⟩ ((self, .ref x) :: names.map fun n => (n, (kw.lookup n).getD .none)) := by
  intro M A E Q hq
  unfold bindArgs
  simp only [hp, ha, hko, hv, hkw, hd, List.map_nil, List.nil_append, List.append_nil]
  have hz : (self :: names).zip [Value.ref x] = [(self, .ref x)] := by cases names <;> rfl
  rw [hz]
  have hne : ∀ p ∈ kw, p.1 ≠ self := fun p hp e => hself (e ▸ hk p hp)
  rw [forIn_slots kw _ hn (fun p hp => by simp [List.lookup_cons, beq_false_of_ne (hne p hp)]) (fun p hp sl hl => by
    have hc : (self :: names).contains p.1 = true := by simp [hk p hp]
    rw [hc, hl]; rfl)]
  refine wpAny_bind (wpAny_pure ?_)
  dsimp only
  refine wpAny_bind (wpAny_seqItems ho hs ?_)
  have hlen : (List.map (fun _ => Value.none) names).length = names.length := List.length_map _
  simp only [Option.getD_some, List.length_cons, List.length_nil, hlen, Nat.zero_add]
  rw [if_neg (by simp)]
  have e1 : names.length - (names.length + 1) = 0 := by omega
  have e2 : names.length + 1 - names.length = 1 := by omega
  simp only [e1, List.drop_zero, hlen, e2, List.drop_succ_cons, List.take_succ_cons, List.take_zero]
  rw [if_neg (by simp [List.filter, List.lookup_cons])]
  have hzip : names.zip (List.map (fun _ => Value.none) names) = names.map fun n => (n, Value.none) := by
    clear hk hself hq ha hs hlen e1 e2 hz
    induction names with
    | nil => rfl
    | cons n r ih => simp [ih]
  rw [hzip]
  refine wpAny_bind ?_
  refine Eq.mpr (congrArg (fun z => wpAny M A z _ E s) (forIn_dflt (fun p sl => rfl) names ([(self, Value.ref x)] ++ kw)).choose_spec.1) ?_
  have hl := (forIn_dflt (f := fun x __s => if (List.lookup x.fst __s).isNone = true then pure (ForInStep.yield (__s ++ [(x.fst, x.snd)])) else pure (ForInStep.yield __s)) (fun p sl => rfl) names ([(self, Value.ref x)] ++ kw)).choose_spec.2
  revert hl
  generalize (forIn_dflt (f := fun x __s => if (List.lookup x.fst __s).isNone = true then pure (ForInStep.yield (__s ++ [(x.fst, x.snd)])) else pure (ForInStep.yield __s)) (fun p sl => rfl) names ([(self, Value.ref x)] ++ kw)).choose = sl
  intro hl
  refine wpAny_pure ?_
  refine wpAny_bind ?_
  rw [List.forIn_nil]
  refine wpAny_pure ?_
  rw [if_neg (by simp)]
  refine wpAny_pure ?_
  have h0 : sl.lookup self = some (.ref x) := by rw [hl]; simp
  have h1 : ∀ n ∈ names, sl.lookup n = some ((kw.lookup n).getD .none) := fun n hm => by
    have hne : n ≠ self := fun e => hself (e ▸ hm)
    rw [hl]
    cases q : kw.lookup n <;> simp [List.lookup_cons, beq_false_of_ne hne, hm, q]
  rw [List.filterMap_cons, h0, filterMap_lookup names h1]
  exact hq
theorem ib_of {α : Type} {l : Option α} {o o' : α} {P : Prop} (h1 : l = some o) (h2 : l = some o') (h : o = o' → P) : P := h (Option.some.inj (h1.symm.trans h2))
def kwNames : List Str := [Str.ofString "millennia", Str.ofString "centuries", Str.ofString "decades", Str.ofString "years", Str.ofString "months", Str.ofString "weeks", Str.ofString "days", Str.ofString "hours", Str.ofString "minutes", Str.ofString "seconds", Str.ofString "microseconds"]
set_option maxRecDepth 100000 in
set_option maxHeartbeats 8000000 in
theorem ib_pos (w : World) (v0 v1 v2 v3 v4 v5 v6 v7 v8 v9 v10 : Value) : InitBinds w [v0, v1, v2, v3, v4, v5, v6, v7, v8, v9, v10] [] v0 v1 v2 v3 v4 v5 v6 v7 v8 v9 v10 := by
  intro s x oc od fd osl X ho
  refine' ib_of ?a ho fun e => ?_
  (case a => k_is)
  cases e
  exact binds_K X rfl (by k_is) rfl rfl rfl
set_option maxRecDepth 100000 in
set_option maxHeartbeats 8000000 in
theorem ib_kw (w : World) (kw : List (Str × Value)) (hk : ∀ p ∈ kw, p.1 ∈ kwNames) (hn : (kw.map (·.1)).Nodup) :
    InitBinds w [] kw ((kw.lookup (Str.ofString "millennia")).getD .none) ((kw.lookup (Str.ofString "centuries")).getD .none) ((kw.lookup (Str.ofString "decades")).getD .none) ((kw.lookup (Str.ofString "years")).getD .none) ((kw.lookup (Str.ofString "months")).getD .none) ((kw.lookup (Str.ofString "weeks")).getD .none) ((kw.lookup (Str.ofString "days")).getD .none) ((kw.lookup (Str.ofString "hours")).getD .none) ((kw.lookup (Str.ofString "minutes")).getD .none) ((kw.lookup (Str.ofString "seconds")).getD .none) ((kw.lookup (Str.ofString "microseconds")).getD .none) := by
  intro s x oc od fd osl X ho
  refine' ib_of ?a ho fun e => ?_
  (case a => k_is)
  cases e
  exact binds_kw (names := kwNames) (self := Str.ofString "self") rfl rfl rfl rfl rfl rfl (X _ _ (by k_is)) rfl hk hn (by decide)
set_option maxRecDepth 100000 in
theorem ib_wd (w : World) (a b : Value) : InitBinds w [] [(Str.ofString "weeks", a), (Str.ofString "days", b)] .none .none .none .none .none a b .none .none .none .none :=
  ib_kw w [(Str.ofString "weeks", a), (Str.ofString "days", b)] (by simp only [List.forall_mem_cons]; exact ⟨by decide, by decide, List.forall_mem_nil _⟩) (by show ([Str.ofString "weeks", Str.ofString "days"] : List Str).Nodup; decide)
set_option maxRecDepth 100000 in
theorem ib_d (w : World) (a : Value) : InitBinds w [] [(Str.ofString "days", a)] .none .none .none .none .none .none a .none .none .none .none :=
  ib_kw w [(Str.ofString "days", a)] (by simp only [List.forall_mem_cons]; exact ⟨by decide, List.forall_mem_nil _⟩) (by show ([Str.ofString "days"] : List Str).Nodup; decide)
set_option maxRecDepth 100000 in
theorem ib_mds (w : World) (a b c : Value) : InitBinds w [] [(Str.ofString "months", a), (Str.ofString "days", b), (Str.ofString "seconds", c)] .none .none .none .none a .none b .none .none c .none :=
  ib_kw w [(Str.ofString "months", a), (Str.ofString "days", b), (Str.ofString "seconds", c)] (by simp only [List.forall_mem_cons]; exact ⟨by decide, by decide, by decide, List.forall_mem_nil _⟩) (by show ([Str.ofString "months", Str.ofString "days", Str.ofString "seconds"] : List Str).Nodup; decide)

end Mine
end
section
example : True := by (w_top off); trivial
open PySem PySem.W PyProof.Rows
set_option Elab.async false
namespace Mine
local macro_rules | `(tactic| walk_at "mine pad0") => `(tactic| skip)
local macro_rules | `(tactic| walk_at "mine pad1") => `(tactic| skip)
local macro_rules | `(tactic| walk_at "mine pad2") => `(tactic| skip)
example (w : World) : (∀ h, (lawTop.heap_39 w.params).In h → PySem.Challenge.rw_ew0023_01 = PySem.Challenge.rw_ew0023_01) := by k_fill; intros; rfl
local macro_rules | `(tactic| k_room) => `(tactic| ktr_room)
local macro_rules | `(tactic| walk_at "mine enter") => `(tactic| (rename BindHint _ => bh; unfold Meets; intro loose mean mg mb dp un gd cn sn sg sc sm a ccd cl outer A₀ base h₀ L m s Q E news B F X N ha T hd hu ret; refine wpAny_call ?_; k_dflt (first
  | (refine' enterM (by assumption) B F X N ha T ?kA ?kF ?kK ?k6 ?k7 ?k8 ?k9 ?kB ret ?_ ?c2 ?c3 ?c4 ?c5; (case kA => exact rfl); (case kF => exact rfl); (case kK => exact rfl); (case k6 => k_is); (case k7 => k_is); (case k8 => k_room); (case k9 => first | exact BindsTo.of_eq rfl | exact binds_K (Frag.In.keeps X (Fr.keep F)) rfl (by k_is) rfl rfl rfl); (case c5 => decide); (case kB => exact locs rfl); (case c2 => exact rfl); (case c3 => exact rfl); (case c4 => exact rfl); k_whole; clear B F X N ha T ret bh; intro g' L' h' F' N' l1 B' X' T'; (try k_lt l1); (try dsimp only); (try k_fold))
  | (refine' enterC (by assumption) B F X N ha T ?kA ?kF ?kK ?k6 ?k7 ?k8 ?k9 ?kB ?kD ret ?_ ?c2 ?c3 ?c4; (case kA => exact rfl); (case kF => exact rfl); (case kK => exact rfl); (case k6 => k_is); (case k7 => k_is); (case k8 => k_room); (case k9 => first | exact BindsTo.of_eq rfl | exact binds_K (Frag.In.keeps X (Fr.keep F)) rfl (by k_is) rfl rfl rfl); (case kB => exact rfl); (case kD => decide +kernel); (case c2 => exact rfl); (case c3 => exact rfl); (case c4 => exact rfl); k_whole; clear B F X N ha T ret bh; intro g' L' h' tk' cells' F' N' Y' l1 B' X' T'; (try k_lt l1); k_cells Y'; (try simp only [List.cons_append, List.nil_append] at N'); (try dsimp only); (try k_fold)))))
local macro_rules | `(tactic| walk_at "exec Assign cons ListComp") => `(tactic| (k_here; (with_reducible show wpAny _ _ (exec (Stmt.Assign _ (Expr.ListComp _ [⟨_, Expr.Tuple _ _ _, _, _⟩] _ _) _) _) _ _ _); k_dflt (refine assign_compTup (F₀ := by k_asm) (by rfl) (by with_unfolding_all rfl) (by with_unfolding_all rfl) (by decide) (by rfl) (by decide) (by rfl) (by rfl) (by rfl) ?_)))
local macro_rules | `(tactic| walk_at "TupSrc") => `(tactic| (k_here; k_dflt (refine TupSrc.of (by rfl) (by k_asm) (by k_asm) (by k_mem) (by first | size_fits | exact Nat.le_of_ble_eq_true rfl) ?_); intro g'; lcg_lit))
local macro_rules | `(tactic| lcg_src) => `(tactic| exact ⟨_, by k_mem, rfl, _, rfl⟩)
local macro_rules | `(tactic| walk_at "CompEnd") => `(tactic| (k_here; k_dflt (refine compEnd_same (by assumption) (by assumption) (by (simp only [LCg.Off3, and_true]; assumption)) (by lcg_src) ?_)))
local macro_rules | `(tactic| k_handed) => `(tactic| exact handed_optV _ _)
local macro_rules | `(tactic| walk_at "mine sub") => `(tactic| first | exact List.forall_mem_nil _ | (refine List.forall_mem_cons.mpr ⟨by k_mem, ?_⟩; walk_at "mine sub"))
local macro_rules | `(tactic| walk_at "mine off1") => `(tactic| first | exact List.forall_mem_nil _ | (refine List.forall_mem_cons.mpr ⟨by k_ne, ?_⟩; walk_at "mine off1"))
local macro_rules | `(tactic| walk_at "mine off") => `(tactic| first | exact List.forall_mem_nil _ | (refine List.forall_mem_cons.mpr ⟨?a, ?b⟩; (case a => walk_at "mine off1"); (case b => walk_at "mine off")))

local macro_rules | `(tactic| walk_at "mine done") => `(tactic| first | exact Done.intro (by assumption) (by assumption) ⟨_, rfl, rfl⟩ (by walk_at "mine sub") (by walk_at "mine sub") (by walk_at "mine off") | exact Done.intro (by assumption) (by assumption) ⟨_, _, rfl, rfl⟩ (by walk_at "mine sub") (by walk_at "mine sub") (by walk_at "mine off") | exact Done.intro (by assumption) (by assumption) ⟨_, _, _, rfl, rfl⟩ (by walk_at "mine sub") (by walk_at "mine sub") (by walk_at "mine off") | exact Done.intro (by assumption) (by assumption) ⟨_, _, _, _, rfl, rfl⟩ (by walk_at "mine sub") (by walk_at "mine sub") (by walk_at "mine off") | exact Done.intro (by assumption) (by assumption) ⟨_, _, _, _, _, rfl, rfl⟩ (by walk_at "mine sub") (by walk_at "mine sub") (by walk_at "mine off") | exact Done.intro (by assumption) (by assumption) ⟨_, _, _, _, _, _, rfl, rfl⟩ (by walk_at "mine sub") (by walk_at "mine sub") (by walk_at "mine off") | exact Done.intro (by assumption) (by assumption) ⟨_, _, _, _, _, _, _, rfl, rfl⟩ (by walk_at "mine sub") (by walk_at "mine sub") (by walk_at "mine off") | exact Done.intro (by assumption) (by assumption) ⟨_, _, _, _, _, _, _, _, rfl, rfl⟩ (by walk_at "mine sub") (by walk_at "mine sub") (by walk_at "mine off") | exact Done.intro (by assumption) (by assumption) ⟨_, _, _, _, _, _, _, _, _, rfl, rfl⟩ (by walk_at "mine sub") (by walk_at "mine sub") (by walk_at "mine off") | exact Done.intro (by assumption) (by assumption) ⟨_, _, _, _, _, _, _, _, _, _, rfl, rfl⟩ (by walk_at "mine sub") (by walk_at "mine sub") (by walk_at "mine off") | exact Done.intro (by assumption) (by assumption) ⟨_, _, _, _, _, _, _, _, _, _, _, rfl, rfl⟩ (by walk_at "mine sub") (by walk_at "mine sub") (by walk_at "mine off") | exact Done.intro (by assumption) (by assumption) ⟨_, _, _, _, _, _, _, _, _, _, _, _, rfl, rfl⟩ (by walk_at "mine sub") (by walk_at "mine sub") (by walk_at "mine off") | exact Done.intro (by assumption) (by assumption) ⟨_, _, _, _, _, _, _, _, _, _, _, _, _, rfl, rfl⟩ (by walk_at "mine sub") (by walk_at "mine sub") (by walk_at "mine off"))
local macro_rules | `(tactic| walk_at "mine steps") => `(tactic| repeat' (first | (k_unfold; (try dsimp only)) | walk1 | (dsimp only; walk1) | fail "no step"))
local macro_rules | `(tactic| walk_at "subscriptTail Name Constant ref int") => `(tactic| (k_here; k_dflt (refine' item_led ?k0 ?km ?k2 ?k3 ?k4 ?_ ?k6; (case k0 => k_asm); (case km => k_mem); (case k2 => decide); (case k3 => decide); (case k4 => exact rfl); (case k6 => with_unfolding_all rfl); k_whole)))
local macro_rules | `(tactic| walk_at "subscriptTail Name Name ref int") => `(tactic| (k_here; k_dflt (refine' item_led ?k0 ?km ?k2 ?k3 ?k4 ?_ ?k6; (case k0 => k_asm); (case km => k_mem); (case k2 => decide); (case k3 => decide); (case k4 => exact rfl); (case k6 => with_unfolding_all rfl); k_whole)))
local macro_rules | `(tactic| walk_at "mine to if") => `(tactic| repeat ((fail_if_success (with_reducible show wpAny _ _ (exec (Stmt.If _ _ _ _) _) _ _ _)); (first | walk1 | (k_unfold; (try dsimp only)) | (dsimp only; walk1))))
local macro_rules | `(tactic| walk_at "mine to cmp") => `(tactic| repeat ((fail_if_success (with_reducible show wpAny _ _ (exec (Stmt.If (Expr.Compare _ _ _ _) _ _ _) _) _ _ _)); (first | walk1 | (k_unfold; (try dsimp only)) | (dsimp only; walk1))))
local macro_rules | `(tactic| walk_at "mine cutS end") => `(tactic| exact ⟨rfl, _, _, _, rfl, (by first | assumption | exact Fr.same (by assumption) (by rfl)), (by first | assumption | exact News.sub (by assumption) (by walk_at "mine sub"))⟩)
local macro_rules | `(tactic| walk_at "mine len") => `(tactic| first | with_reducible assumption | (with_reducible refine' len_int ?a; (case a => omega)) | (with_reducible refine' len_add ?a ?b; (case a => walk_at "mine len"); (case b => walk_at "mine len")) | with_reducible exact Nat.le_refl _)
local macro_rules | `(tactic| walk_at "binaryOp Add str str") => `(tactic| (k_here; (with_reducible show wpAny _ _ (binaryOp Operator.Add (Value.str _ _) (Value.str _ _)) _ _ _); (refine' add_short ?a ?b ?c ?_; (case a => walk_at "mine len"); (case b => walk_at "mine len"); (case c => k_dflt exact rfl)); intro _ _))
local macro_rules | `(tactic| walk_at "eval Name") => `(tactic| ((with_reducible refine' ld ?F ?hv ?_ ?hk ?hl ?hd); (case F => first | with_reducible assumption | k_dflt assumption); (case hv => k_dflt exact rfl); (case hk => k_dflt exact rfl); (case hl => k_dflt exact rfl); (case hd => decide)))
local macro_rules | `(tactic| walk_at "mine to iter") => `(tactic| repeat ((fail_if_success (with_reducible show wpAny _ _ (pyIter _) _ _ _)); (first | walk1 | (k_unfold; (try dsimp only)) | (dsimp only; walk1))))
local macro_rules | `(tactic| size_fits) => `(tactic| exact strV_fits (by omega))
local macro_rules | `(tactic| walk_at "mine cutV end") => `(tactic| exact ⟨⟨_, rfl⟩, _, _, rfl, by assumption, by first | assumption | exact News.sub (by assumption) (by walk_at "mine sub")⟩)
local macro_rules | `(tactic| walk_at "mine to ifexp") => `(tactic| repeat ((fail_if_success (with_reducible show wpAny _ _ (eval (Expr.IfExp _ _ _ _) _) _ _ _)); (first | walk1 | (k_unfold; (try dsimp only)) | (dsimp only; walk1))))
local macro_rules | `(tactic| walk_at "mine tidy") => `(tactic| repeat (first | (with_reducible rename LCg.NsObj _ _ => q; clear q) | (with_reducible rename (_ ≠ _ ∧ _ ≠ _ ∧ _ ≠ _) => q; clear q) | (with_reducible rename ((_ ≠ _ ∧ _ ≠ _ ∧ _ ≠ _) ∧ _) => q; clear q) | (with_reducible rename (_[_]? = some _) => q; clear q) | (with_reducible rename (_ ≠ _ ∧ _) => q; clear q)))
local macro_rules | `(tactic| walk_at "mine lt") => `(tactic| first | exact List.forall_mem_nil _ | (refine List.forall_mem_cons.mpr ⟨by (show @LT.lt Nat _ _ _; omega), ?_⟩; walk_at "mine lt"))
local macro_rules | `(tactic| walk_at "mine cutB end") => `(tactic| refine ⟨?_, _, _, rfl, (by assumption), (by first | assumption | exact News.sub (by assumption) (by walk_at "mine sub"))⟩)
local macro_rules | `(tactic| walk_at "call ref") => `(tactic| (k_here; k_dflt (refine' Meets.use (make_spec _ _ _ _ _ _ _ _ _ _ _ _ _ _ ?hb) ?k1 ?k2 ?k3 ?k4 ?ka ?k5 ?kd ?ku ?_; (case k1 => k_asm); (case k2 => k_asm); (case k3 => k_asm); (case k4 => k_asm); (case ka => walk_at "mine sub"); (case hb => first | exact ib_mds _ _ _ _ | exact ib_wd _ _ _ | exact ib_d _ _ | exact ib_pos _ _ _ _ _ _ _ _ _ _ _ _); (case k5 => k_asm); (case kd => ktr_room); (case ku => ktr_units)); intro v' new' h' tk' hP F' N' hne'; obtain ⟨x', dx', k', e1', e2'⟩ := hP; subst e1' e2'; (try simp only [List.cons_append, List.nil_append] at N'); replace hne' := offA_of hne'; simp only [OffA, OffL, and_true, true_and] at hne'; skip; k_sweep))
theorem made_iv (P : Params) (k : Nat → Tok) (M D S : Int) (u0 u1 u2 : Tok) : madeDict P k .none .none .none .none (.int M u0) .none (.int D u1) .none .none (.int S u2) .none =
    ivDict P k (fun i => if i = 4 then u0 else if i = 6 then u1 else u2) { mo := some M, d := some D, s := some S } := rfl
/-- an int, and what a field adds to it where it is told -/
def addO (a : Int) : Option Int → Int
  | none => a
  | some i => a + i
theorem Fr.squash {g h : Heap} {L : Addr} {m : Str → Option Value} {x : Str} {u v : Option Value} (F : Fr g L h (fun y => if y = x then u else if y = x then v else m y)) : Fr g L h (fun y => if y = x then u else m y) := by
  have e : (fun y => if y = x then u else if y = x then v else m y) = fun y => if y = x then u else m y := by
    funext y
    by_cases h : y = x <;> simp [h]
  rw [← e]; exact F
def CutI (g : Heap) (L : Addr) (x : Str) (v : Int) (m : Str → Option Value) (news : List (Addr × Obj)) (s : Shared) (f : Flow) (s' : Shared) : Prop :=
  f = .next ∧ ∃ h' tk u, s' = { s with heap := h', toks := tk } ∧ Fr g L h' (fun y => if y = x then some (.int v u) else m y) ∧ News g L h' news
theorem cutInt {M : Model} {A : Around} {E : Value → Shared → Prop} {s : Shared} {t : Sem Flow} {Q : Flow → Shared → Prop} {g : Heap} {L : Addr} {m : Str → Option Value} {x : Str} {u0 : Option Value} {news : List (Addr × Obj)} (v : Int)
    (_F : Fr g L s.heap (fun y => if y = x then u0 else m y)) (_N : News g L s.heap news)
    (h : wpAny M A t (CutI g L x v m news s) E s)
    (k : ∀ h' tk u, Fr g L h' (fun y => if y = x then some (.int v u) else m y) → News g L h' news → Q .next { s with heap := h', toks := tk }) : wpAny M A t Q E s :=
  wpAny_mono h (fun f s' ⟨e, h', tk, u, e', F', N'⟩ => by subst e e'; exact k h' tk u F' N') fun _ _ x => x
local macro_rules | `(tactic| walk_at "mine to if") => `(tactic| repeat ((fail_if_success (with_reducible show wpAny _ _ (exec (Stmt.If _ _ _ _) _) _ _ _)); (first | walk1 | (k_unfold; (try dsimp only)) | (dsimp only; walk1))))
local macro_rules | `(tactic| walk_at "mine cut end") => `(tactic| first | exact ⟨rfl, _, _, _, rfl, Fr.squash (by assumption), by assumption⟩ | exact ⟨rfl, _, _, _, rfl, by assumption, by assumption⟩)
local macro_rules | `(tactic| walk_at "mine cut next") => `(tactic| (intro h' tk' u' F' N'; k_sweep; walk_at "mine to if"))
/-- what normalize gives: months, days, seconds -/
def nrm (a : Iv) : Int × Int × Int := (addO (addO 0 a.mo) (a.y.map (· * 12)), addO (addO 0 a.d) (a.wk.map (· * 7)), addO (addO (addO 0 (a.h.map (· * 60 * 60))) (a.mi.map (· * 60))) a.s)
abbrev nrmIv (z : Int × Int × Int) : Iv := { mo := some z.1, d := some z.2.1, s := some z.2.2 }
set_option maxRecDepth 100000 in
set_option maxHeartbeats 8000000 in
theorem norm_spec (w : World) (x dx : Addr) (k t : Nat → Tok) (a : Iv) (hus : a.us = none) :
  Meets w 7 (.ref 98) [.ref x] [] (ivAt w x dx k t a) fun v new => ∃ x' dx', ∃ k' t' : Nat → Tok, v = .ref x' ∧
    new = ivAt w x' dx' k' t' (nrmIv (nrm a)) := by
  obtain ⟨ml, ce, de, y, mo, wk, d, h, mi, s, us⟩ := a
  cases hus
  have bh : BindHint [(Str.ofString "self", .ref x)] := ⟨trivial⟩
  walk_at "mine enter"
  walk_at "mine to if"
  refine cutInt (addO 0 mo) (by assumption) (by assumption) ?_ ?_
  · cases mo <;> (walk_at "mine steps"; walk_at "mine cut end")
  walk_at "mine cut next"
  refine cutInt (addO (addO 0 mo) (y.map (· * 12))) (by assumption) (by assumption) ?_ ?_
  · cases y <;> (walk_at "mine steps"; walk_at "mine cut end")
  walk_at "mine cut next"
  refine cutInt (addO 0 d) (by assumption) (by assumption) ?_ ?_
  · cases d <;> (walk_at "mine steps"; walk_at "mine cut end")
  walk_at "mine cut next"
  refine cutInt (addO (addO 0 d) (wk.map (· * 7))) (by assumption) (by assumption) ?_ ?_
  · cases wk <;> (walk_at "mine steps"; walk_at "mine cut end")
  walk_at "mine cut next"
  refine cutInt (addO 0 (h.map (· * 60 * 60))) (by assumption) (by assumption) ?_ ?_
  · cases h <;> (walk_at "mine steps"; walk_at "mine cut end")
  walk_at "mine cut next"
  refine cutInt (addO (addO 0 (h.map (· * 60 * 60))) (mi.map (· * 60))) (by assumption) (by assumption) ?_ ?_
  · cases mi <;> (walk_at "mine steps"; walk_at "mine cut end")
  walk_at "mine cut next"
  refine cutInt (addO (addO (addO 0 (h.map (· * 60 * 60))) (mi.map (· * 60))) s) (by assumption) (by assumption) ?_ ?_
  · cases s <;> (walk_at "mine steps"; walk_at "mine cut end")
  intro h' tk' u' F' N'
  k_sweep
  walk_at "mine steps"
  (rename News _ _ _ _ => hN); rw [made_iv] at hN
  exact Done.intro (by assumption) (by assumption) ⟨_, _, _, _, rfl, rfl⟩ (by walk_at "mine sub") (by walk_at "mine sub") (by walk_at "mine off")

end Mine
end
section
example : True := by (w_top off); trivial
open PySem PySem.W PyProof.Rows
set_option Elab.async false
namespace Mine
local macro_rules | `(tactic| walk_at "mine pad0") => `(tactic| skip)
local macro_rules | `(tactic| walk_at "mine pad1") => `(tactic| skip)
local macro_rules | `(tactic| walk_at "mine pad2") => `(tactic| skip)
local macro_rules | `(tactic| walk_at "mine pad3") => `(tactic| skip)
example (w : World) : (∀ h, (lawTop.heap_39 w.params).In h → PySem.Challenge.rw_ew0023_01 = PySem.Challenge.rw_ew0023_01) := by k_fill; intros; rfl
local macro_rules | `(tactic| k_room) => `(tactic| ktr_room)
local macro_rules | `(tactic| walk_at "mine enter") => `(tactic| (rename BindHint _ => bh; unfold Meets; intro loose mean mg mb dp un gd cn sn sg sc sm a ccd cl outer A₀ base h₀ L m s Q E news B F X N ha T hd hu ret; refine wpAny_call ?_; k_dflt (first
  | (refine' enterM (by assumption) B F X N ha T ?kA ?kF ?kK ?k6 ?k7 ?k8 ?k9 ?kB ret ?_ ?c2 ?c3 ?c4 ?c5; (case kA => exact rfl); (case kF => exact rfl); (case kK => exact rfl); (case k6 => k_is); (case k7 => k_is); (case k8 => k_room); (case k9 => first | exact BindsTo.of_eq rfl | exact binds_K (Frag.In.keeps X (Fr.keep F)) rfl (by k_is) rfl rfl rfl); (case c5 => decide); (case kB => exact locs rfl); (case c2 => exact rfl); (case c3 => exact rfl); (case c4 => exact rfl); k_whole; clear B F X N ha T ret bh; intro g' L' h' F' N' l1 B' X' T'; (try k_lt l1); (try dsimp only); (try k_fold))
  | (refine' enterC (by assumption) B F X N ha T ?kA ?kF ?kK ?k6 ?k7 ?k8 ?k9 ?kB ?kD ret ?_ ?c2 ?c3 ?c4; (case kA => exact rfl); (case kF => exact rfl); (case kK => exact rfl); (case k6 => k_is); (case k7 => k_is); (case k8 => k_room); (case k9 => first | exact BindsTo.of_eq rfl | exact binds_K (Frag.In.keeps X (Fr.keep F)) rfl (by k_is) rfl rfl rfl); (case kB => exact rfl); (case kD => decide +kernel); (case c2 => exact rfl); (case c3 => exact rfl); (case c4 => exact rfl); k_whole; clear B F X N ha T ret bh; intro g' L' h' tk' cells' F' N' Y' l1 B' X' T'; (try k_lt l1); k_cells Y'; (try simp only [List.cons_append, List.nil_append] at N'); (try dsimp only); (try k_fold)))))
local macro_rules | `(tactic| walk_at "exec Assign cons ListComp") => `(tactic| (k_here; (with_reducible show wpAny _ _ (exec (Stmt.Assign _ (Expr.ListComp _ [⟨_, Expr.Tuple _ _ _, _, _⟩] _ _) _) _) _ _ _); k_dflt (refine assign_compTup (F₀ := by k_asm) (by rfl) (by with_unfolding_all rfl) (by with_unfolding_all rfl) (by decide) (by rfl) (by decide) (by rfl) (by rfl) (by rfl) ?_)))
local macro_rules | `(tactic| walk_at "TupSrc") => `(tactic| (k_here; k_dflt (refine TupSrc.of (by rfl) (by k_asm) (by k_asm) (by k_mem) (by first | size_fits | exact Nat.le_of_ble_eq_true rfl) ?_); intro g'; lcg_lit))
local macro_rules | `(tactic| lcg_src) => `(tactic| exact ⟨_, by k_mem, rfl, _, rfl⟩)
local macro_rules | `(tactic| walk_at "CompEnd") => `(tactic| (k_here; k_dflt (refine compEnd_same (by assumption) (by assumption) (by (simp only [LCg.Off3, and_true]; assumption)) (by lcg_src) ?_)))
local macro_rules | `(tactic| k_handed) => `(tactic| exact handed_optV _ _)
local macro_rules | `(tactic| walk_at "mine sub") => `(tactic| first | exact List.forall_mem_nil _ | (refine List.forall_mem_cons.mpr ⟨by k_mem, ?_⟩; walk_at "mine sub"))
local macro_rules | `(tactic| walk_at "mine off1") => `(tactic| first | exact List.forall_mem_nil _ | (refine List.forall_mem_cons.mpr ⟨by k_ne, ?_⟩; walk_at "mine off1"))
local macro_rules | `(tactic| walk_at "mine off") => `(tactic| first | exact List.forall_mem_nil _ | (refine List.forall_mem_cons.mpr ⟨?a, ?b⟩; (case a => walk_at "mine off1"); (case b => walk_at "mine off")))

local macro_rules | `(tactic| walk_at "mine done") => `(tactic| first | exact Done.intro (by assumption) (by assumption) ⟨_, rfl, rfl⟩ (by walk_at "mine sub") (by walk_at "mine sub") (by walk_at "mine off") | exact Done.intro (by assumption) (by assumption) ⟨_, _, rfl, rfl⟩ (by walk_at "mine sub") (by walk_at "mine sub") (by walk_at "mine off") | exact Done.intro (by assumption) (by assumption) ⟨_, _, _, rfl, rfl⟩ (by walk_at "mine sub") (by walk_at "mine sub") (by walk_at "mine off") | exact Done.intro (by assumption) (by assumption) ⟨_, _, _, _, rfl, rfl⟩ (by walk_at "mine sub") (by walk_at "mine sub") (by walk_at "mine off") | exact Done.intro (by assumption) (by assumption) ⟨_, _, _, _, _, rfl, rfl⟩ (by walk_at "mine sub") (by walk_at "mine sub") (by walk_at "mine off") | exact Done.intro (by assumption) (by assumption) ⟨_, _, _, _, _, _, rfl, rfl⟩ (by walk_at "mine sub") (by walk_at "mine sub") (by walk_at "mine off") | exact Done.intro (by assumption) (by assumption) ⟨_, _, _, _, _, _, _, rfl, rfl⟩ (by walk_at "mine sub") (by walk_at "mine sub") (by walk_at "mine off") | exact Done.intro (by assumption) (by assumption) ⟨_, _, _, _, _, _, _, _, rfl, rfl⟩ (by walk_at "mine sub") (by walk_at "mine sub") (by walk_at "mine off") | exact Done.intro (by assumption) (by assumption) ⟨_, _, _, _, _, _, _, _, _, rfl, rfl⟩ (by walk_at "mine sub") (by walk_at "mine sub") (by walk_at "mine off") | exact Done.intro (by assumption) (by assumption) ⟨_, _, _, _, _, _, _, _, _, _, rfl, rfl⟩ (by walk_at "mine sub") (by walk_at "mine sub") (by walk_at "mine off") | exact Done.intro (by assumption) (by assumption) ⟨_, _, _, _, _, _, _, _, _, _, _, rfl, rfl⟩ (by walk_at "mine sub") (by walk_at "mine sub") (by walk_at "mine off") | exact Done.intro (by assumption) (by assumption) ⟨_, _, _, _, _, _, _, _, _, _, _, _, rfl, rfl⟩ (by walk_at "mine sub") (by walk_at "mine sub") (by walk_at "mine off") | exact Done.intro (by assumption) (by assumption) ⟨_, _, _, _, _, _, _, _, _, _, _, _, _, rfl, rfl⟩ (by walk_at "mine sub") (by walk_at "mine sub") (by walk_at "mine off"))
local macro_rules | `(tactic| walk_at "mine steps") => `(tactic| repeat' (first | (k_unfold; (try dsimp only)) | walk1 | (dsimp only; walk1) | fail "no step"))
local macro_rules | `(tactic| walk_at "subscriptTail Name Constant ref int") => `(tactic| (k_here; k_dflt (refine' item_led ?k0 ?km ?k2 ?k3 ?k4 ?_ ?k6; (case k0 => k_asm); (case km => k_mem); (case k2 => decide); (case k3 => decide); (case k4 => exact rfl); (case k6 => with_unfolding_all rfl); k_whole)))
local macro_rules | `(tactic| walk_at "subscriptTail Name Name ref int") => `(tactic| (k_here; k_dflt (refine' item_led ?k0 ?km ?k2 ?k3 ?k4 ?_ ?k6; (case k0 => k_asm); (case km => k_mem); (case k2 => decide); (case k3 => decide); (case k4 => exact rfl); (case k6 => with_unfolding_all rfl); k_whole)))
local macro_rules | `(tactic| walk_at "mine to if") => `(tactic| repeat ((fail_if_success (with_reducible show wpAny _ _ (exec (Stmt.If _ _ _ _) _) _ _ _)); (first | walk1 | (k_unfold; (try dsimp only)) | (dsimp only; walk1))))
local macro_rules | `(tactic| walk_at "mine to cmp") => `(tactic| repeat ((fail_if_success (with_reducible show wpAny _ _ (exec (Stmt.If (Expr.Compare _ _ _ _) _ _ _) _) _ _ _)); (first | walk1 | (k_unfold; (try dsimp only)) | (dsimp only; walk1))))
local macro_rules | `(tactic| walk_at "mine cutS end") => `(tactic| exact ⟨rfl, _, _, _, rfl, (by first | assumption | exact Fr.same (by assumption) (by rfl)), (by first | assumption | exact News.sub (by assumption) (by walk_at "mine sub"))⟩)
local macro_rules | `(tactic| walk_at "mine len") => `(tactic| first | with_reducible assumption | (with_reducible refine' len_int ?a; (case a => omega)) | (with_reducible refine' len_add ?a ?b; (case a => walk_at "mine len"); (case b => walk_at "mine len")) | with_reducible exact Nat.le_refl _)
local macro_rules | `(tactic| walk_at "binaryOp Add str str") => `(tactic| (k_here; (with_reducible show wpAny _ _ (binaryOp Operator.Add (Value.str _ _) (Value.str _ _)) _ _ _); (refine' add_short ?a ?b ?c ?_; (case a => walk_at "mine len"); (case b => walk_at "mine len"); (case c => k_dflt exact rfl)); intro _ _))
local macro_rules | `(tactic| walk_at "eval Name") => `(tactic| ((with_reducible refine' ld ?F ?hv ?_ ?hk ?hl ?hd); (case F => first | with_reducible assumption | k_dflt assumption); (case hv => k_dflt exact rfl); (case hk => k_dflt exact rfl); (case hl => k_dflt exact rfl); (case hd => decide)))
local macro_rules | `(tactic| walk_at "mine to iter") => `(tactic| repeat ((fail_if_success (with_reducible show wpAny _ _ (pyIter _) _ _ _)); (first | walk1 | (k_unfold; (try dsimp only)) | (dsimp only; walk1))))
local macro_rules | `(tactic| size_fits) => `(tactic| exact strV_fits (by omega))
local macro_rules | `(tactic| walk_at "mine cutV end") => `(tactic| exact ⟨⟨_, rfl⟩, _, _, rfl, by assumption, by first | assumption | exact News.sub (by assumption) (by walk_at "mine sub")⟩)
local macro_rules | `(tactic| walk_at "mine to ifexp") => `(tactic| repeat ((fail_if_success (with_reducible show wpAny _ _ (eval (Expr.IfExp _ _ _ _) _) _ _ _)); (first | walk1 | (k_unfold; (try dsimp only)) | (dsimp only; walk1))))
local macro_rules | `(tactic| walk_at "mine tidy") => `(tactic| repeat (first | (with_reducible rename LCg.NsObj _ _ => q; clear q) | (with_reducible rename (_ ≠ _ ∧ _ ≠ _ ∧ _ ≠ _) => q; clear q) | (with_reducible rename ((_ ≠ _ ∧ _ ≠ _ ∧ _ ≠ _) ∧ _) => q; clear q) | (with_reducible rename (_[_]? = some _) => q; clear q) | (with_reducible rename (_ ≠ _ ∧ _) => q; clear q)))
local macro_rules | `(tactic| walk_at "mine lt") => `(tactic| first | exact List.forall_mem_nil _ | (refine List.forall_mem_cons.mpr ⟨by (show @LT.lt Nat _ _ _; omega), ?_⟩; walk_at "mine lt"))
local macro_rules | `(tactic| walk_at "mine cutB end") => `(tactic| refine ⟨?_, _, _, rfl, (by assumption), (by first | assumption | exact News.sub (by assumption) (by walk_at "mine sub"))⟩)
local macro_rules | `(tactic| walk_at "call ref") => `(tactic| (k_here; k_dflt (refine' Meets.use (norm_spec _ _ _ _ _ _ ?hs) ?k1 ?k2 ?k3 ?k4 ?ka ?k5 ?kd ?ku ?_; (case k1 => k_asm); (case k2 => k_asm); (case k3 => k_asm); (case k4 => k_asm); (case ka => walk_at "mine sub"); (case hs => first | exact rfl | assumption); (case k5 => k_asm); (case kd => ktr_room); (case ku => ktr_units)); intro v' new' h' tk' hP F' N' hne'; obtain ⟨x', dx', k', t', e1', e2'⟩ := hP; subst e1' e2'; (try simp only [List.cons_append, List.nil_append] at N'); replace hne' := offA_of hne'; simp only [OffA, OffL, and_true, true_and] at hne'; skip; k_sweep))
theorem eq3 {p q : Int × Int × Int} (h1 : p.1 = q.1) (h2 : p.2.1 = q.2.1) : (p.2.2 == q.2.2) = decide (p = q) := by
  rw [Bool.eq_iff_iff]; simp [Prod.ext_iff, h1, h2]
theorem eq3b {p q : Int × Int × Int} (h1 : p.1 = q.1) (h2 : p.2.1 ≠ q.2.1) : (p.2.1 == q.2.1) = decide (p = q) := by
  rw [Bool.eq_iff_iff]; simp [Prod.ext_iff, h1, h2]
theorem eq3c {p q : Int × Int × Int} (h1 : p.1 ≠ q.1) : (p.1 == q.1) = decide (p = q) := by
  rw [Bool.eq_iff_iff]; simp [Prod.ext_iff, h1]
set_option maxRecDepth 100000 in
set_option maxHeartbeats 8000000 in
theorem eq_spec (w : World) (x dx x2 dx2 : Addr) (k t k2 t2 : Nat → Tok) (a b : Iv) (ha : a.us = none) (hb : b.us = none) :
  Meets w 9 (.ref 105) [.ref x, .ref x2] [] (ivAt2 w x dx k t a x2 dx2 k2 t2 b) fun v new => v = .bool (decide (nrm a = nrm b)) ∧ new = [] := by
  have bh : BindHint [(Str.ofString "self", .ref x), (Str.ofString "other", .ref x2)] := ⟨trivial⟩
  walk_at "mine enter"
  walk_at "mine steps"
  all_goals (dsimp only; refine Done.intro (new := []) (by assumption) (by assumption) ⟨?_, rfl⟩ (fun _ h => nomatch h) (by walk_at "mine sub") (fun _ h => nomatch h); refine congrArg Value.bool ?_; first | exact eq3 (by assumption) (by assumption) | exact eq3b (by assumption) (by assumption) | exact eq3c (by assumption))

end Mine
end
section
example : True := by (w_top off); trivial
open PySem PySem.W PyProof.Rows
set_option Elab.async false
namespace Mine
example (w : World) : (∀ h, (lawTop.heap_39 w.params).In h → PySem.Challenge.rw_ew0023_01 = PySem.Challenge.rw_ew0023_01) := by k_fill; intros; rfl
local macro_rules | `(tactic| k_room) => `(tactic| ktr_room)
local macro_rules | `(tactic| walk_at "mine enter") => `(tactic| (rename BindHint _ => bh; unfold Meets; intro loose mean mg mb dp un gd cn sn sg sc sm a ccd cl outer A₀ base h₀ L m s Q E news B F X N ha T hd hu ret; refine wpAny_call ?_; k_dflt (first
  | (refine' enterM (by assumption) B F X N ha T ?kA ?kF ?kK ?k6 ?k7 ?k8 ?k9 ?kB ret ?_ ?c2 ?c3 ?c4 ?c5; (case kA => exact rfl); (case kF => exact rfl); (case kK => exact rfl); (case k6 => k_is); (case k7 => k_is); (case k8 => k_room); (case k9 => first | exact BindsTo.of_eq rfl | exact binds_K (Frag.In.keeps X (Fr.keep F)) rfl (by k_is) rfl rfl rfl); (case c5 => decide); (case kB => exact locs rfl); (case c2 => exact rfl); (case c3 => exact rfl); (case c4 => exact rfl); k_whole; clear B F X N ha T ret bh; intro g' L' h' F' N' l1 B' X' T'; (try k_lt l1); (try dsimp only); (try k_fold))
  | (refine' enterC (by assumption) B F X N ha T ?kA ?kF ?kK ?k6 ?k7 ?k8 ?k9 ?kB ?kD ret ?_ ?c2 ?c3 ?c4; (case kA => exact rfl); (case kF => exact rfl); (case kK => exact rfl); (case k6 => k_is); (case k7 => k_is); (case k8 => k_room); (case k9 => first | exact BindsTo.of_eq rfl | exact binds_K (Frag.In.keeps X (Fr.keep F)) rfl (by k_is) rfl rfl rfl); (case kB => exact rfl); (case kD => decide +kernel); (case c2 => exact rfl); (case c3 => exact rfl); (case c4 => exact rfl); k_whole; clear B F X N ha T ret bh; intro g' L' h' tk' cells' F' N' Y' l1 B' X' T'; (try k_lt l1); k_cells Y'; (try simp only [List.cons_append, List.nil_append] at N'); (try dsimp only); (try k_fold)))))
local macro_rules | `(tactic| walk_at "exec Assign cons ListComp") => `(tactic| (k_here; (with_reducible show wpAny _ _ (exec (Stmt.Assign _ (Expr.ListComp _ [⟨_, Expr.Tuple _ _ _, _, _⟩] _ _) _) _) _ _ _); k_dflt (refine assign_compTup (F₀ := by k_asm) (by rfl) (by with_unfolding_all rfl) (by with_unfolding_all rfl) (by decide) (by rfl) (by decide) (by rfl) (by rfl) (by rfl) ?_)))
local macro_rules | `(tactic| walk_at "TupSrc") => `(tactic| (k_here; k_dflt (refine TupSrc.of (by rfl) (by k_asm) (by k_asm) (by k_mem) (by first | size_fits | exact Nat.le_of_ble_eq_true rfl) ?_); intro g'; lcg_lit))
local macro_rules | `(tactic| lcg_src) => `(tactic| exact ⟨_, by k_mem, rfl, _, rfl⟩)
local macro_rules | `(tactic| walk_at "CompEnd") => `(tactic| (k_here; k_dflt (refine compEnd_same (by assumption) (by assumption) (by (simp only [LCg.Off3, and_true]; assumption)) (by lcg_src) ?_)))
local macro_rules | `(tactic| k_handed) => `(tactic| exact handed_optV _ _)
local macro_rules | `(tactic| walk_at "mine sub") => `(tactic| first | exact List.forall_mem_nil _ | (refine List.forall_mem_cons.mpr ⟨by k_mem, ?_⟩; walk_at "mine sub"))
local macro_rules | `(tactic| walk_at "mine off1") => `(tactic| first | exact List.forall_mem_nil _ | (refine List.forall_mem_cons.mpr ⟨by k_ne, ?_⟩; walk_at "mine off1"))
local macro_rules | `(tactic| walk_at "mine off") => `(tactic| first | exact List.forall_mem_nil _ | (refine List.forall_mem_cons.mpr ⟨?a, ?b⟩; (case a => walk_at "mine off1"); (case b => walk_at "mine off")))

local macro_rules | `(tactic| walk_at "mine done") => `(tactic| first | exact Done.intro (by assumption) (by assumption) ⟨_, rfl, rfl⟩ (by walk_at "mine sub") (by walk_at "mine sub") (by walk_at "mine off") | exact Done.intro (by assumption) (by assumption) ⟨_, _, rfl, rfl⟩ (by walk_at "mine sub") (by walk_at "mine sub") (by walk_at "mine off") | exact Done.intro (by assumption) (by assumption) ⟨_, _, _, rfl, rfl⟩ (by walk_at "mine sub") (by walk_at "mine sub") (by walk_at "mine off") | exact Done.intro (by assumption) (by assumption) ⟨_, _, _, _, rfl, rfl⟩ (by walk_at "mine sub") (by walk_at "mine sub") (by walk_at "mine off") | exact Done.intro (by assumption) (by assumption) ⟨_, _, _, _, _, rfl, rfl⟩ (by walk_at "mine sub") (by walk_at "mine sub") (by walk_at "mine off") | exact Done.intro (by assumption) (by assumption) ⟨_, _, _, _, _, _, rfl, rfl⟩ (by walk_at "mine sub") (by walk_at "mine sub") (by walk_at "mine off") | exact Done.intro (by assumption) (by assumption) ⟨_, _, _, _, _, _, _, rfl, rfl⟩ (by walk_at "mine sub") (by walk_at "mine sub") (by walk_at "mine off") | exact Done.intro (by assumption) (by assumption) ⟨_, _, _, _, _, _, _, _, rfl, rfl⟩ (by walk_at "mine sub") (by walk_at "mine sub") (by walk_at "mine off") | exact Done.intro (by assumption) (by assumption) ⟨_, _, _, _, _, _, _, _, _, rfl, rfl⟩ (by walk_at "mine sub") (by walk_at "mine sub") (by walk_at "mine off") | exact Done.intro (by assumption) (by assumption) ⟨_, _, _, _, _, _, _, _, _, _, rfl, rfl⟩ (by walk_at "mine sub") (by walk_at "mine sub") (by walk_at "mine off") | exact Done.intro (by assumption) (by assumption) ⟨_, _, _, _, _, _, _, _, _, _, _, rfl, rfl⟩ (by walk_at "mine sub") (by walk_at "mine sub") (by walk_at "mine off") | exact Done.intro (by assumption) (by assumption) ⟨_, _, _, _, _, _, _, _, _, _, _, _, rfl, rfl⟩ (by walk_at "mine sub") (by walk_at "mine sub") (by walk_at "mine off") | exact Done.intro (by assumption) (by assumption) ⟨_, _, _, _, _, _, _, _, _, _, _, _, _, rfl, rfl⟩ (by walk_at "mine sub") (by walk_at "mine sub") (by walk_at "mine off"))
local macro_rules | `(tactic| walk_at "mine steps") => `(tactic| repeat' (first | (k_unfold; (try dsimp only)) | walk1 | (dsimp only; walk1) | fail "no step"))
local macro_rules | `(tactic| walk_at "subscriptTail Name Constant ref int") => `(tactic| (k_here; k_dflt (refine' item_led ?k0 ?km ?k2 ?k3 ?k4 ?_ ?k6; (case k0 => k_asm); (case km => k_mem); (case k2 => decide); (case k3 => decide); (case k4 => exact rfl); (case k6 => with_unfolding_all rfl); k_whole)))
local macro_rules | `(tactic| walk_at "subscriptTail Name Name ref int") => `(tactic| (k_here; k_dflt (refine' item_led ?k0 ?km ?k2 ?k3 ?k4 ?_ ?k6; (case k0 => k_asm); (case km => k_mem); (case k2 => decide); (case k3 => decide); (case k4 => exact rfl); (case k6 => with_unfolding_all rfl); k_whole)))
local macro_rules | `(tactic| walk_at "mine to if") => `(tactic| repeat ((fail_if_success (with_reducible show wpAny _ _ (exec (Stmt.If _ _ _ _) _) _ _ _)); (first | walk1 | (k_unfold; (try dsimp only)) | (dsimp only; walk1))))
local macro_rules | `(tactic| walk_at "mine to cmp") => `(tactic| repeat ((fail_if_success (with_reducible show wpAny _ _ (exec (Stmt.If (Expr.Compare _ _ _ _) _ _ _) _) _ _ _)); (first | walk1 | (k_unfold; (try dsimp only)) | (dsimp only; walk1))))
local macro_rules | `(tactic| walk_at "mine cutS end") => `(tactic| exact ⟨rfl, _, _, _, rfl, (by first | assumption | exact Fr.same (by assumption) (by rfl)), (by first | assumption | exact News.sub (by assumption) (by walk_at "mine sub"))⟩)
local macro_rules | `(tactic| walk_at "mine len") => `(tactic| first | with_reducible assumption | (with_reducible refine' len_int ?a; (case a => omega)) | (with_reducible refine' len_add ?a ?b; (case a => walk_at "mine len"); (case b => walk_at "mine len")) | with_reducible exact Nat.le_refl _)
local macro_rules | `(tactic| walk_at "binaryOp Add str str") => `(tactic| (k_here; (with_reducible show wpAny _ _ (binaryOp Operator.Add (Value.str _ _) (Value.str _ _)) _ _ _); (refine' add_short ?a ?b ?c ?_; (case a => walk_at "mine len"); (case b => walk_at "mine len"); (case c => k_dflt exact rfl)); intro _ _))
local macro_rules | `(tactic| walk_at "eval Name") => `(tactic| ((with_reducible refine' ld ?F ?hv ?_ ?hk ?hl ?hd); (case F => first | with_reducible assumption | k_dflt assumption); (case hv => k_dflt exact rfl); (case hk => k_dflt exact rfl); (case hl => k_dflt exact rfl); (case hd => decide)))
local macro_rules | `(tactic| walk_at "mine to iter") => `(tactic| repeat ((fail_if_success (with_reducible show wpAny _ _ (pyIter _) _ _ _)); (first | walk1 | (k_unfold; (try dsimp only)) | (dsimp only; walk1))))
local macro_rules | `(tactic| size_fits) => `(tactic| exact strV_fits (by omega))
local macro_rules | `(tactic| walk_at "mine cutV end") => `(tactic| exact ⟨⟨_, rfl⟩, _, _, rfl, by assumption, by first | assumption | exact News.sub (by assumption) (by walk_at "mine sub")⟩)
local macro_rules | `(tactic| walk_at "mine to ifexp") => `(tactic| repeat ((fail_if_success (with_reducible show wpAny _ _ (eval (Expr.IfExp _ _ _ _) _) _ _ _)); (first | walk1 | (k_unfold; (try dsimp only)) | (dsimp only; walk1))))
local macro_rules | `(tactic| walk_at "mine tidy") => `(tactic| repeat (first | (with_reducible rename LCg.NsObj _ _ => q; clear q) | (with_reducible rename (_ ≠ _ ∧ _ ≠ _ ∧ _ ≠ _) => q; clear q) | (with_reducible rename ((_ ≠ _ ∧ _ ≠ _ ∧ _ ≠ _) ∧ _) => q; clear q) | (with_reducible rename (_[_]? = some _) => q; clear q) | (with_reducible rename (_ ≠ _ ∧ _) => q; clear q)))
local macro_rules | `(tactic| walk_at "mine lt") => `(tactic| first | exact List.forall_mem_nil _ | (refine List.forall_mem_cons.mpr ⟨by (show @LT.lt Nat _ _ _; omega), ?_⟩; walk_at "mine lt"))
local macro_rules | `(tactic| walk_at "mine cutB end") => `(tactic| refine ⟨?_, _, _, rfl, (by assumption), (by first | assumption | exact News.sub (by assumption) (by walk_at "mine sub"))⟩)

def isoAdd (found : Str) (n : Int) (c : Str) : Str := if n ≠ 0 then found ++ Str.ofString (toString n) ++ c else found
def isoT (f : Fld) (found : Str) : Str := if [f.h, f.mi, f.s] = [0, 0, 0] then found else found ++ Str.ofString "T"
def iso1 (f : Fld) : Str := isoAdd (Str.ofString "P") f.y (Str.ofString "Y")
def iso2 (f : Fld) : Str := isoAdd (iso1 f) f.mo (Str.ofString "M")
def iso3 (f : Fld) : Str := isoAdd (iso2 f) f.d (Str.ofString "D")
def iso4 (f : Fld) : Str := isoAdd (isoT f (iso3 f)) f.h (Str.ofString "H")
def iso5 (f : Fld) : Str := isoAdd (iso4 f) f.mi (Str.ofString "M")
def iso6 (f : Fld) : Str := isoAdd (iso5 f) f.s (Str.ofString "S")
def isoText (f : Fld) : Str := if (iso6 f != Str.ofString "P") = true then iso6 f else Str.ofString "PT0S"
theorem isoAdd_len {x c : Str} {n : Int} {i : Nat} (hn : -1000 < n ∧ n < 1000) (hx : x.length ≤ i) (hc : c.length ≤ 1) : (isoAdd x n c).length ≤ i + 12 := by
  unfold isoAdd
  split
  · exact Nat.le_trans (len_add (len_add hx (len_int (by omega))) hc) (by omega)
  · omega
theorem isoT_len (f : Fld) {x : Str} {i : Nat} (hx : x.length ≤ i) : (isoT f x).length ≤ i + 1 := by
  unfold isoT
  split
  · omega
  · exact len_add hx (by decide)
theorem iso1_len (f : Fld) (h : FOk f) : (iso1 f).length ≤ 13 := by obtain ⟨hy, hmo, hd, hh, hmi, hs, hym, hhms⟩ := h; exact isoAdd_len (i := 1) (by omega) (by decide) (by decide)
theorem iso2_len (f : Fld) (h : FOk f) : (iso2 f).length ≤ 25 := by have := iso1_len f h; obtain ⟨hy, hmo, hd, hh, hmi, hs, hym, hhms⟩ := h; exact isoAdd_len (i := 13) (by omega) this (by decide)
theorem iso3_len (f : Fld) (h : FOk f) : (iso3 f).length ≤ 37 := by have := iso2_len f h; obtain ⟨hy, hmo, hd, hh, hmi, hs, hym, hhms⟩ := h; exact isoAdd_len (i := 25) (by omega) this (by decide)
theorem iso4_len (f : Fld) (h : FOk f) : (iso4 f).length ≤ 50 := by have := isoT_len f (iso3_len f h); obtain ⟨hy, hmo, hd, hh, hmi, hs, hym, hhms⟩ := h; exact isoAdd_len (i := 38) (by omega) this (by decide)
theorem iso5_len (f : Fld) (h : FOk f) : (iso5 f).length ≤ 62 := by have := iso4_len f h; obtain ⟨hy, hmo, hd, hh, hmi, hs, hym, hhms⟩ := h; exact isoAdd_len (i := 50) (by omega) this (by decide)
theorem iso6_len (f : Fld) (h : FOk f) : (iso6 f).length ≤ 74 := by have := iso5_len f h; obtain ⟨hy, hmo, hd, hh, hmi, hs, hym, hhms⟩ := h; exact isoAdd_len (i := 62) (by omega) this (by decide)
set_option maxRecDepth 100000 in
set_option maxHeartbeats 8000000 in
theorem iso_spec (w : World) (x : Addr) (f : Fld) (hf : FOk f) (t0 t1 t2 t3 t4 t5 : Tok) (n : Nat) :
  Meets w 5 (.ref 131) [.ref x] [] [(x, fobj f t0 t1 t2 t3 t4 t5 n)] fun v new => new = [] ∧ ∃ t, v = .str (isoText f) t := by
  obtain ⟨hy, hmo, hd, hh, hmi, hs, hym, hhms⟩ := hf
  have bh : BindHint [(Str.ofString "fields", .ref x)] := ⟨trivial⟩
  walk_at "mine enter"
  walk_at "mine to cmp"
  refine cutStr (Str.ofString "found") (iso1 f) (by assumption) (by assumption) ?_ ?_
  · walk_at "mine steps"
    · rw [iso1, isoAdd, if_pos (by assumption)]; walk_at "mine cutS end"
    · rw [iso1, isoAdd, if_neg (not_not_intro (by assumption))]; walk_at "mine cutS end"
  intro h' tk' u' F' N'
  k_sweep
  have hl1 := iso1_len f ⟨hy, hmo, hd, hh, hmi, hs, hym, hhms⟩
  walk_at "mine to cmp"
  refine cutStr (Str.ofString "found") (iso2 f) (by assumption) (by assumption) ?_ ?_
  · walk_at "mine steps"
    · rw [iso2, isoAdd, if_pos (by assumption)]; walk_at "mine cutS end"
    · rw [iso2, isoAdd, if_neg (not_not_intro (by assumption))]; walk_at "mine cutS end"
  intro h' tk' u' F' N'
  k_sweep
  have hl2 := iso2_len f ⟨hy, hmo, hd, hh, hmi, hs, hym, hhms⟩
  walk_at "mine to cmp"
  refine cutStr (Str.ofString "found") (iso3 f) (by assumption) (by assumption) ?_ ?_
  · walk_at "mine steps"
    · rw [iso3, isoAdd, if_pos (by assumption)]; walk_at "mine cutS end"
    · rw [iso3, isoAdd, if_neg (not_not_intro (by assumption))]; walk_at "mine cutS end"
  intro h' tk' u' F' N'
  k_sweep
  have hl3 := iso3_len f ⟨hy, hmo, hd, hh, hmi, hs, hym, hhms⟩
  walk_at "mine to if"
  refine cutStr (Str.ofString "found") (isoT f (iso3 f)) (by assumption) (by assumption) ?_ ?_
  · walk_at "mine steps"
    · rw [isoT, if_pos (by assumption)]; walk_at "mine cutS end"
    · rw [isoT, if_neg (by assumption)]; walk_at "mine cutS end"
  intro h' tk' u' F' N'
  k_sweep
  have hlT := isoT_len f (iso3_len f ⟨hy, hmo, hd, hh, hmi, hs, hym, hhms⟩)
  walk_at "mine to cmp"
  refine cutStr (Str.ofString "found") (iso4 f) (by assumption) (by assumption) ?_ ?_
  · walk_at "mine steps"
    · rw [iso4, isoAdd, if_pos (by assumption)]; walk_at "mine cutS end"
    · rw [iso4, isoAdd, if_neg (not_not_intro (by assumption))]; walk_at "mine cutS end"
  intro h' tk' u' F' N'
  k_sweep
  have hl4 := iso4_len f ⟨hy, hmo, hd, hh, hmi, hs, hym, hhms⟩
  walk_at "mine to cmp"
  refine cutStr (Str.ofString "found") (iso5 f) (by assumption) (by assumption) ?_ ?_
  · walk_at "mine steps"
    · rw [iso5, isoAdd, if_pos (by assumption)]; walk_at "mine cutS end"
    · rw [iso5, isoAdd, if_neg (not_not_intro (by assumption))]; walk_at "mine cutS end"
  intro h' tk' u' F' N'
  k_sweep
  have hl5 := iso5_len f ⟨hy, hmo, hd, hh, hmi, hs, hym, hhms⟩
  walk_at "mine to cmp"
  refine cutStr (Str.ofString "found") (iso6 f) (by assumption) (by assumption) ?_ ?_
  · walk_at "mine steps"
    · rw [iso6, isoAdd, if_pos (by assumption)]; walk_at "mine cutS end"
    · rw [iso6, isoAdd, if_neg (not_not_intro (by assumption))]; walk_at "mine cutS end"
  intro h' tk' u' F' N'
  k_sweep
  have hl6 := iso6_len f ⟨hy, hmo, hd, hh, hmi, hs, hym, hhms⟩

  walk_at "mine steps"
  · dsimp only
    rw [isoText, if_pos (by assumption)]
    exact Done.intro (new := []) (by assumption) (by assumption) ⟨rfl, _, rfl⟩ (fun _ h => nomatch h) (by walk_at "mine sub") (fun _ h => nomatch h)
  · dsimp only
    rw [isoText, if_neg (by first | assumption | (simp only [Bool.not_eq_true]; assumption))]
    exact Done.intro (new := []) (by assumption) (by assumption) ⟨rfl, _, rfl⟩ (fun _ h => nomatch h) (by walk_at "mine sub") (fun _ h => nomatch h)

end Mine
end
section
example : True := by (w_top off); trivial
open PySem PySem.W PyProof.Rows
set_option Elab.async false
namespace Mine
local macro_rules | `(tactic| walk_at "mine pad0") => `(tactic| skip)
local macro_rules | `(tactic| walk_at "mine pad1") => `(tactic| skip)
local macro_rules | `(tactic| walk_at "mine pad2") => `(tactic| skip)
local macro_rules | `(tactic| walk_at "mine pad3") => `(tactic| skip)
local macro_rules | `(tactic| walk_at "mine pad4") => `(tactic| skip)
example (w : World) : (∀ h, (lawTop.heap_39 w.params).In h → PySem.Challenge.rw_ew0023_01 = PySem.Challenge.rw_ew0023_01) := by k_fill; intros; rfl
local macro_rules | `(tactic| k_room) => `(tactic| ktr_room)
local macro_rules | `(tactic| walk_at "mine enter") => `(tactic| (rename BindHint _ => bh; unfold Meets; intro loose mean mg mb dp un gd cn sn sg sc sm a ccd cl outer A₀ base h₀ L m s Q E news B F X N ha T hd hu ret; refine wpAny_call ?_; k_dflt (first
  | (refine' enterM (by assumption) B F X N ha T ?kA ?kF ?kK ?k6 ?k7 ?k8 ?k9 ?kB ret ?_ ?c2 ?c3 ?c4 ?c5; (case kA => exact rfl); (case kF => exact rfl); (case kK => exact rfl); (case k6 => k_is); (case k7 => k_is); (case k8 => k_room); (case k9 => first | exact BindsTo.of_eq rfl | exact binds_K (Frag.In.keeps X (Fr.keep F)) rfl (by k_is) rfl rfl rfl); (case c5 => decide); (case kB => exact locs rfl); (case c2 => exact rfl); (case c3 => exact rfl); (case c4 => exact rfl); k_whole; clear B F X N ha T ret bh; intro g' L' h' F' N' l1 B' X' T'; (try k_lt l1); (try dsimp only); (try k_fold))
  | (refine' enterC (by assumption) B F X N ha T ?kA ?kF ?kK ?k6 ?k7 ?k8 ?k9 ?kB ?kD ret ?_ ?c2 ?c3 ?c4; (case kA => exact rfl); (case kF => exact rfl); (case kK => exact rfl); (case k6 => k_is); (case k7 => k_is); (case k8 => k_room); (case k9 => first | exact BindsTo.of_eq rfl | exact binds_K (Frag.In.keeps X (Fr.keep F)) rfl (by k_is) rfl rfl rfl); (case kB => exact rfl); (case kD => decide +kernel); (case c2 => exact rfl); (case c3 => exact rfl); (case c4 => exact rfl); k_whole; clear B F X N ha T ret bh; intro g' L' h' tk' cells' F' N' Y' l1 B' X' T'; (try k_lt l1); k_cells Y'; (try simp only [List.cons_append, List.nil_append] at N'); (try dsimp only); (try k_fold)))))
local macro_rules | `(tactic| walk_at "exec Assign cons ListComp") => `(tactic| (k_here; (with_reducible show wpAny _ _ (exec (Stmt.Assign _ (Expr.ListComp _ [⟨_, Expr.Tuple _ _ _, _, _⟩] _ _) _) _) _ _ _); k_dflt (refine assign_compTup (F₀ := by k_asm) (by rfl) (by with_unfolding_all rfl) (by with_unfolding_all rfl) (by decide) (by rfl) (by decide) (by rfl) (by rfl) (by rfl) ?_)))
local macro_rules | `(tactic| walk_at "TupSrc") => `(tactic| (k_here; k_dflt (refine TupSrc.of (by rfl) (by k_asm) (by k_asm) (by k_mem) (by first | size_fits | exact Nat.le_of_ble_eq_true rfl) ?_); intro g'; lcg_lit))
local macro_rules | `(tactic| lcg_src) => `(tactic| exact ⟨_, by k_mem, rfl, _, rfl⟩)
local macro_rules | `(tactic| walk_at "CompEnd") => `(tactic| (k_here; k_dflt (refine compEnd_same (by assumption) (by assumption) (by (simp only [LCg.Off3, and_true]; assumption)) (by lcg_src) ?_)))
local macro_rules | `(tactic| k_handed) => `(tactic| exact handed_optV _ _)
local macro_rules | `(tactic| walk_at "mine sub") => `(tactic| first | exact List.forall_mem_nil _ | (refine List.forall_mem_cons.mpr ⟨by k_mem, ?_⟩; walk_at "mine sub"))
local macro_rules | `(tactic| walk_at "mine off1") => `(tactic| first | exact List.forall_mem_nil _ | (refine List.forall_mem_cons.mpr ⟨by k_ne, ?_⟩; walk_at "mine off1"))
local macro_rules | `(tactic| walk_at "mine off") => `(tactic| first | exact List.forall_mem_nil _ | (refine List.forall_mem_cons.mpr ⟨?a, ?b⟩; (case a => walk_at "mine off1"); (case b => walk_at "mine off")))

local macro_rules | `(tactic| walk_at "mine done") => `(tactic| first | exact Done.intro (by assumption) (by assumption) ⟨_, rfl, rfl⟩ (by walk_at "mine sub") (by walk_at "mine sub") (by walk_at "mine off") | exact Done.intro (by assumption) (by assumption) ⟨_, _, rfl, rfl⟩ (by walk_at "mine sub") (by walk_at "mine sub") (by walk_at "mine off") | exact Done.intro (by assumption) (by assumption) ⟨_, _, _, rfl, rfl⟩ (by walk_at "mine sub") (by walk_at "mine sub") (by walk_at "mine off") | exact Done.intro (by assumption) (by assumption) ⟨_, _, _, _, rfl, rfl⟩ (by walk_at "mine sub") (by walk_at "mine sub") (by walk_at "mine off") | exact Done.intro (by assumption) (by assumption) ⟨_, _, _, _, _, rfl, rfl⟩ (by walk_at "mine sub") (by walk_at "mine sub") (by walk_at "mine off") | exact Done.intro (by assumption) (by assumption) ⟨_, _, _, _, _, _, rfl, rfl⟩ (by walk_at "mine sub") (by walk_at "mine sub") (by walk_at "mine off") | exact Done.intro (by assumption) (by assumption) ⟨_, _, _, _, _, _, _, rfl, rfl⟩ (by walk_at "mine sub") (by walk_at "mine sub") (by walk_at "mine off") | exact Done.intro (by assumption) (by assumption) ⟨_, _, _, _, _, _, _, _, rfl, rfl⟩ (by walk_at "mine sub") (by walk_at "mine sub") (by walk_at "mine off") | exact Done.intro (by assumption) (by assumption) ⟨_, _, _, _, _, _, _, _, _, rfl, rfl⟩ (by walk_at "mine sub") (by walk_at "mine sub") (by walk_at "mine off") | exact Done.intro (by assumption) (by assumption) ⟨_, _, _, _, _, _, _, _, _, _, rfl, rfl⟩ (by walk_at "mine sub") (by walk_at "mine sub") (by walk_at "mine off") | exact Done.intro (by assumption) (by assumption) ⟨_, _, _, _, _, _, _, _, _, _, _, rfl, rfl⟩ (by walk_at "mine sub") (by walk_at "mine sub") (by walk_at "mine off") | exact Done.intro (by assumption) (by assumption) ⟨_, _, _, _, _, _, _, _, _, _, _, _, rfl, rfl⟩ (by walk_at "mine sub") (by walk_at "mine sub") (by walk_at "mine off") | exact Done.intro (by assumption) (by assumption) ⟨_, _, _, _, _, _, _, _, _, _, _, _, _, rfl, rfl⟩ (by walk_at "mine sub") (by walk_at "mine sub") (by walk_at "mine off"))
local macro_rules | `(tactic| walk_at "mine steps") => `(tactic| repeat' (first | (k_unfold; (try dsimp only)) | walk1 | (dsimp only; walk1) | fail "no step"))
local macro_rules | `(tactic| walk_at "subscriptTail Name Constant ref int") => `(tactic| (k_here; k_dflt (refine' item_led ?k0 ?km ?k2 ?k3 ?k4 ?_ ?k6; (case k0 => k_asm); (case km => k_mem); (case k2 => decide); (case k3 => decide); (case k4 => exact rfl); (case k6 => with_unfolding_all rfl); k_whole)))
local macro_rules | `(tactic| walk_at "subscriptTail Name Name ref int") => `(tactic| (k_here; k_dflt (refine' item_led ?k0 ?km ?k2 ?k3 ?k4 ?_ ?k6; (case k0 => k_asm); (case km => k_mem); (case k2 => decide); (case k3 => decide); (case k4 => exact rfl); (case k6 => with_unfolding_all rfl); k_whole)))
local macro_rules | `(tactic| walk_at "mine to if") => `(tactic| repeat ((fail_if_success (with_reducible show wpAny _ _ (exec (Stmt.If _ _ _ _) _) _ _ _)); (first | walk1 | (k_unfold; (try dsimp only)) | (dsimp only; walk1))))
local macro_rules | `(tactic| walk_at "mine to cmp") => `(tactic| repeat ((fail_if_success (with_reducible show wpAny _ _ (exec (Stmt.If (Expr.Compare _ _ _ _) _ _ _) _) _ _ _)); (first | walk1 | (k_unfold; (try dsimp only)) | (dsimp only; walk1))))
local macro_rules | `(tactic| walk_at "mine cutS end") => `(tactic| exact ⟨rfl, _, _, _, rfl, (by first | assumption | exact Fr.same (by assumption) (by rfl)), (by first | assumption | exact News.sub (by assumption) (by walk_at "mine sub"))⟩)
local macro_rules | `(tactic| walk_at "mine len") => `(tactic| first | with_reducible assumption | (with_reducible refine' len_int ?a; (case a => omega)) | (with_reducible refine' len_add ?a ?b; (case a => walk_at "mine len"); (case b => walk_at "mine len")) | with_reducible exact Nat.le_refl _)
local macro_rules | `(tactic| walk_at "binaryOp Add str str") => `(tactic| (k_here; (with_reducible show wpAny _ _ (binaryOp Operator.Add (Value.str _ _) (Value.str _ _)) _ _ _); (refine' add_short ?a ?b ?c ?_; (case a => walk_at "mine len"); (case b => walk_at "mine len"); (case c => k_dflt exact rfl)); intro _ _))
local macro_rules | `(tactic| walk_at "eval Name") => `(tactic| ((with_reducible refine' ld ?F ?hv ?_ ?hk ?hl ?hd); (case F => first | with_reducible assumption | k_dflt assumption); (case hv => k_dflt exact rfl); (case hk => k_dflt exact rfl); (case hl => k_dflt exact rfl); (case hd => decide)))
local macro_rules | `(tactic| walk_at "mine to iter") => `(tactic| repeat ((fail_if_success (with_reducible show wpAny _ _ (pyIter _) _ _ _)); (first | walk1 | (k_unfold; (try dsimp only)) | (dsimp only; walk1))))
local macro_rules | `(tactic| size_fits) => `(tactic| exact strV_fits (by omega))
local macro_rules | `(tactic| walk_at "mine cutV end") => `(tactic| exact ⟨⟨_, rfl⟩, _, _, rfl, by assumption, by first | assumption | exact News.sub (by assumption) (by walk_at "mine sub")⟩)
local macro_rules | `(tactic| walk_at "mine to ifexp") => `(tactic| repeat ((fail_if_success (with_reducible show wpAny _ _ (eval (Expr.IfExp _ _ _ _) _) _ _ _)); (first | walk1 | (k_unfold; (try dsimp only)) | (dsimp only; walk1))))
local macro_rules | `(tactic| walk_at "mine tidy") => `(tactic| repeat (first | (with_reducible rename LCg.NsObj _ _ => q; clear q) | (with_reducible rename (_ ≠ _ ∧ _ ≠ _ ∧ _ ≠ _) => q; clear q) | (with_reducible rename ((_ ≠ _ ∧ _ ≠ _ ∧ _ ≠ _) ∧ _) => q; clear q) | (with_reducible rename (_[_]? = some _) => q; clear q) | (with_reducible rename (_ ≠ _ ∧ _) => q; clear q)))
local macro_rules | `(tactic| walk_at "mine lt") => `(tactic| first | exact List.forall_mem_nil _ | (refine List.forall_mem_cons.mpr ⟨by (show @LT.lt Nat _ _ _; omega), ?_⟩; walk_at "mine lt"))
local macro_rules | `(tactic| walk_at "mine cutB end") => `(tactic| refine ⟨?_, _, _, rfl, (by assumption), (by first | assumption | exact News.sub (by assumption) (by walk_at "mine sub"))⟩)
local macro_rules | `(tactic| walk_at "call ref") => `(tactic| (k_here; k_dflt (refine' Meets.use (two_spec _ _ _ ?hn) ?k1 ?k2 ?k3 ?k4 ?ka ?k5 ?kd ?ku ?_; (case k1 => k_asm); (case k2 => k_asm); (case k3 => k_asm); (case k4 => k_asm); (case ka => walk_at "mine sub"); (case hn => first | omega | assumption); (case k5 => k_asm); (case kd => ktr_room); (case ku => ktr_units)); intro v' new' h' tk' hP F' N' hne'; obtain ⟨e2', t', e1'⟩ := hP; subst e1' e2'; (try simp only [List.cons_append, List.nil_append] at N'); replace hne' := offA_of hne'; simp only [OffA, OffL, and_true, true_and] at hne'; skip; k_sweep))
/-- one part of the postgres text: its words so far, whether the last part was below nought -/
def pgAdd (W : List Str × Bool) (n : Int) (one many : Str) : List Str × Bool :=
  if n ≠ 0 then (W.1 ++ [(if W.2 = true ∧ 0 < n then Str.ofString "+" else Str.ofString "") ++ Str.ofString (toString n) ++ Str.ofString " " ++ (if n = 1 then one else many)], decide (n < 0)) else W
def pgW : Nat → Fld → List Str × Bool
  | 0, _ => ([], false)
  | 1, f => pgAdd ([], false) f.y (Str.ofString "year") (Str.ofString "years")
  | 2, f => pgAdd (pgAdd ([], false) f.y (Str.ofString "year") (Str.ofString "years")) f.mo (Str.ofString "mon") (Str.ofString "mons")
  | _, f => pgAdd (pgAdd (pgAdd ([], false) f.y (Str.ofString "year") (Str.ofString "years")) f.mo (Str.ofString "mon") (Str.ofString "mons")) f.d (Str.ofString "day") (Str.ofString "days")
def absI (n : Int) : Int := if n < 0 then -n else n
def pgSign (f : Fld) (b : Bool) : Str := if f.h < 0 ∨ f.mi < 0 ∨ f.s < 0 then Str.ofString "-" else if b = true then Str.ofString "+" else Str.ofString ""
theorem pgSign_len (f : Fld) (b : Bool) : (pgSign f b).length ≤ 1 := by
  unfold pgSign
  split
  · decide
  · split <;> decide
theorem two_len (n : Int) (h : 0 ≤ n ∧ n < 100) : (two n).length ≤ 12 := by
  unfold two
  split
  · exact len_add (i := 1) (j := 11) (by decide) (len_int (by omega))
  · exact len_add (i := 1) (j := 11) (by decide) (len_int (by omega))
def timeText (f : Fld) (b : Bool) : Str := pgSign f b ++ Txt.join (Str.ofString ":") [two (absI f.h), two (absI f.mi), two (absI f.s)]
theorem timeText_len (f : Fld) (b : Bool) (h : FOk f) : (timeText f b).length ≤ 100 := by
  obtain ⟨hy, hmo, hd, hh, hmi, hs, hym, hhms⟩ := h
  unfold timeText
  have q1 := two_len (absI f.h) (by unfold absI; split <;> omega)
  have q2 := two_len (absI f.mi) (by unfold absI; split <;> omega)
  have q3 := two_len (absI f.s) (by unfold absI; split <;> omega)
  refine Nat.le_trans (len_add (i := 1) (j := 39) (pgSign_len f b) (len_join (k := 12) ?_)) (by decide)
  intro x hx
  simp only [List.mem_cons, List.not_mem_nil, or_false] at hx
  rcases hx with rfl | rfl | rfl <;> assumption
def pgTold (f : Fld) (ws : List Str) : Bool := decide (¬ [f.h, f.mi, f.s] = [0, 0, 0] ∨ ws = [])
theorem pgTold_nil {f : Fld} {ws : List Str} {l : List (Str × Tok)} (hl : l.map (·.1) = ws) (_h : [f.h, f.mi, f.s] = [0, 0, 0]) (h2 : ((strValues l).toArray.size == 0) = true) : pgTold f ws = true := by
  have : l = [] := by
    cases l with
    | nil => rfl
    | cons a r => simp [strValues] at h2
  subst this
  exact decide_eq_true (Or.inr hl.symm)
theorem pgTold_cons {f : Fld} {ws : List Str} {l : List (Str × Tok)} (hl : l.map (·.1) = ws) (h : [f.h, f.mi, f.s] = [0, 0, 0]) (h2 : ((strValues l).toArray.size == 0) = false) : pgTold f ws = false := by
  refine decide_eq_false (not_or.mpr ⟨fun q => q h, fun q => ?_⟩)
  rw [← hl, List.map_eq_nil_iff] at q
  subst q
  simp [strValues] at h2
theorem pgTold_time {f : Fld} {ws : List Str} (h : ¬ [f.h, f.mi, f.s] = [0, 0, 0]) : pgTold f ws = true := decide_eq_true (Or.inl h)
def pgWords (f : Fld) : List Str := if pgTold f (pgW 3 f).1 = true then (pgW 3 f).1 ++ [timeText f (pgW 3 f).2] else (pgW 3 f).1
def pgText (f : Fld) : Str := Txt.join (Str.ofString " ") (pgWords f)
theorem pgAdd_len {W : List Str × Bool} {n : Int} {one many : Str} (hn : -1000 < n ∧ n < 1000) (h1 : one.length ≤ 10) (h2 : many.length ≤ 10) (h : ∀ x ∈ W.1, x.length ≤ 100) : ∀ x ∈ (pgAdd W n one many).1, x.length ≤ 100 := by
  unfold pgAdd
  split
  · intro x hx
    rcases List.mem_append.mp hx with hx | hx
    · exact h x hx
    · rw [List.mem_singleton.mp hx]
      refine Nat.le_trans (len_add (i := 1 + 11 + 1) (j := 10) (len_add (len_add ?_ (len_int (by omega))) (by decide)) ?_) (by decide)
      · split <;> decide
      · split
        · exact h1
        · exact h2
  · exact h
theorem pgW_len (f : Fld) (h : FOk f) : ∀ x ∈ (pgW 3 f).1, x.length ≤ 100 := by
  obtain ⟨hy, hmo, hd, hh, hmi, hs, hym, hhms⟩ := h
  exact pgAdd_len (by omega) (by decide) (by decide) (pgAdd_len (by omega) (by decide) (by decide) (pgAdd_len (by omega) (by decide) (by decide) (fun _ h => nomatch h)))
/-- between the turns of the postgres text's loop -/
def PgS (f : Fld) (m₀ : Str → Option Value) (news₀ : List (Addr × Obj)) (i : Nat) (m : Str → Option Value) (news : List (Addr × Obj)) : Prop :=
  ∃ vs l n u1 u2, (∀ y, m y = if y = Str.ofString "is_below" then some (.bool (pgW i f).2) else if y = Str.ofString "plus" then u1 else if y = Str.ofString "k" then u2 else m₀ y) ∧
    (∀ p ∈ setObj 2 (W.listOf vs n) news₀, p ∈ news) ∧ vs = (strValues l).toArray ∧ l.map (·.1) = (pgW i f).1 ∧ l.length ≤ i
theorem item_str3 {prog : Program} {w : World} {A : Around} {E : Value → Shared → Prop} {s : Shared} {h₀ : Heap} {L : Addr} {news : List (Addr × Obj)} {value slice : PySem.Expr} {l : Addr} {a b c : Str} {t0 t1 t2 : Tok} {n : Nat} {k : Int} {u : Tok} {Q : Value → Shared → Prop} (N : News h₀ L s.heap news) (hm : (l, W.listOf #[.str a t0, .str b t1, .str c t2] n) ∈ news)
    (i : Nat) (hk : k = (i : Int)) (hi : i < 3) (h : Q (.str (pick3 i a b c) (pick3 i t0 t1 t2)) s)
    (hs : subscripted slice false (.ref l) (.int k u) = operate [.ref l, .int k u] (getItem (.ref l) (.int k u))) :
    wpAny (model prog w) A (subscriptTail value slice (.ref l) (.int k u)) Q E s := by
  refine item_led (v := .str (pick3 i a b c) (pick3 i t0 t1 t2)) N hm (by omega) (by omega) ?_ h hs
  subst hk
  have : i = 0 ∨ i = 1 ∨ i = 2 := by omega
  rcases this with rfl | rfl | rfl <;> rfl
local macro_rules | `(tactic| walk_at "subscriptTail Name Name ref int") => `(tactic| (k_here; k_dflt (refine' item_int6 ?k0 ?km _ (Int.zero_add _) ?hi ?_ ?k6; (case k0 => k_asm); (case km => k_mem); (case hi => assumption); (case k6 => with_unfolding_all rfl))))
local macro_rules | `(tactic| walk_at "subscriptTail") => `(tactic| (k_here; (with_reducible show wpAny _ _ (subscriptTail (Expr.IfExp _ _ _ _) _ _ _) _ _ _); k_dflt (refine' item_str3 ?k0 ?km _ (Int.zero_add _) ?hi ?_ ?k6; (case k0 => k_asm); (case km => k_mem); (case hi => assumption); (case k6 => with_unfolding_all rfl))))
set_option maxRecDepth 100000 in
set_option maxHeartbeats 8000000 in
theorem pg_spec (w : World) (x : Addr) (f : Fld) (hf : FOk f) (t0 t1 t2 t3 t4 t5 : Tok) (n : Nat) :
  Meets w 9 (.ref 136) [.ref x] [] [(x, fobj f t0 t1 t2 t3 t4 t5 n)] fun v new => new = [] ∧ ∃ t, v = .str (pgText f) t := by
  have hf0 := hf
  obtain ⟨hy, hmo, hd, hh, hmi, hs, hym, hhms⟩ := hf
  have bh : BindHint [(Str.ofString "fields", .ref x)] := ⟨trivial⟩
  walk_at "mine enter"
  repeat ((fail_if_success (with_reducible show wpAny _ _ (pyIter _) _ _ _)); (first | walk1 | (k_unfold; (try dsimp only)) | (dsimp only; walk1)))
  refine range_inv 3 (PgS f) rfl (by assumption) (by decide) (by decide) (by assumption) (by assumption) ?_ ?_ ?_
  · exact ⟨_, [], 0, _, _, map_as3 rfl, (by walk_at "mine sub"), rfl, rfl, Nat.le_refl _⟩
  · intro I hI i m news' t h tk hi hS F' N'
    obtain ⟨vs, l, nn, u1, u2, hm, hsub, rfl, hl, hlen⟩ := hS
    have hm' := funext hm
    subst hm'
    clear hm
    simp only [setObj] at hsub
    replace N' := News.sub N' (List.forall_mem_cons.mpr ⟨List.Mem.head _, fun p hp => List.Mem.tail _ (hsub p hp)⟩)
    clear hsub
    replace hI := allLt_of hI
    simp only [AllLt, and_true] at hI
    have hi3 : i = 0 ∨ i = 1 ∨ i = 2 := by omega
    have hi6 : i < 6 := by omega
    have e : pgW (i + 1) f = pgAdd (pgW i f) (pick6 i f.y f.mo f.d f.h f.mi f.s) (pick3 i (Str.ofString "year") (Str.ofString "mon") (Str.ofString "day")) (pick3 i (Str.ofString "years") (Str.ofString "mons") (Str.ofString "days")) := by
      rcases hi3 with rfl | rfl | rfl <;> rfl
    have hz : -60 < pick6 i f.y f.mo f.d f.h f.mi f.s ∧ pick6 i f.y f.mo f.d f.h f.mi f.s < 60 := pick6_all (P := fun z => -60 < z ∧ z < 60) (by omega) (by omega) (by omega) (by omega) (by omega) (by omega)
    have ho : (pick3 i (Str.ofString "year") (Str.ofString "mon") (Str.ofString "day")).length ≤ 10 := by rcases hi3 with rfl | rfl | rfl <;> decide
    have hm3 : (pick3 i (Str.ofString "years") (Str.ofString "mons") (Str.ofString "days")).length ≤ 10 := by rcases hi3 with rfl | rfl | rfl <;> decide
    generalize pgW i f = W at *
    obtain ⟨ws, bl⟩ := W
    have hl' : l.map (·.1) = ws := hl
    cases bl <;> (walk_at "mine steps"; all_goals (show PgS f _ _ (i + 1) _ _; rw [PgS, e, pgAdd]; first
      | (rw [if_pos (by assumption)]; refine ⟨_, l ++ [(_, _)], _, _, _, map_nz, by walk_at "mine sub", strValues_push _ _ _, ?_, by rw [List.length_append]; simp only [List.length_cons, List.length_nil]; omega⟩; first | (exfalso; omega; done) | simp [hl', *])
      | (rw [if_neg (not_not_intro (by assumption))]; exact ⟨_, l, _, _, _, map_z (by decide) (by decide), by walk_at "mine sub", rfl, hl', by omega⟩)))
  · intro m news' h tk hS F' N'
    obtain ⟨vs, l, nn, u1, u2, hm, hsub, rfl, hl, hlen⟩ := hS
    have hm' := funext hm
    subst hm'
    clear hm
    simp only [setObj] at hsub
    replace N' := News.sub N' hsub
    clear hsub
    have hws := pgW_len f hf0
    generalize hWe : pgW 3 f = W at *
    obtain ⟨ws, bl⟩ := W
    have hl' : l.map (·.1) = ws := hl
    try dsimp only
    walk_at "mine to if"
    refine wpAny_If (cutBool (pgTold f ws) (by assumption) (by assumption) ?_ ?_)
    · repeat ((fail_if_success (with_reducible show wpAny _ _ (compareOp CmpOp.Eq _ _) _ _ _)); walk1)
      · refine eq_nil (by ktr_units) (by assumption) (by k_mem) (by k_mem) ?_
        walk_at "mine steps"
        · walk_at "mine cutB end"
          exact (pgTold_nil hl' ‹_› ‹_›).symm
        · walk_at "mine cutB end"
          exact (pgTold_cons hl' ‹_› ‹_›).symm
      · walk_at "mine steps"
        walk_at "mine cutB end"
        exact (pgTold_time ‹_›).symm
    intro h' tk' F' N'
    k_sweep
    by_cases hc : pgTold f ws = true
    · rw [if_pos hc]
      repeat ((fail_if_success (with_reducible show wpAny _ _ (exec (Stmt.Assign _ _ _) _) _ _ _)); walk1)
      refine cutStr (Str.ofString "sign") (pgSign f bl) (by assumption) (by assumption) ?_ ?_
      · walk_at "mine steps"
        · rw [pgSign, if_pos (by omega)]; walk_at "mine cutS end"
        · rw [pgSign, if_neg (by omega), if_pos (by assumption)]; walk_at "mine cutS end"
        · rw [pgSign, if_neg (by omega), if_neg (by simp_all)]; walk_at "mine cutS end"
      intro h' tk' u' F' N'
      k_sweep
      have hsg := pgSign_len f bl
      walk_at "mine steps"
      have q1 := two_len (absI f.h) (by unfold absI; split <;> omega)
      have q2 := two_len (absI f.mi) (by unfold absI; split <;> omega)
      have q3 := two_len (absI f.s) (by unfold absI; split <;> omega)
      refine join_led3 (a := two (absI f.h)) (b := two (absI f.mi)) (c := two (absI f.s)) (by assumption) (by k_mem) (by omega) (by omega) (by omega) (by decide) ?_
      intro t' k' hj
      walk_at "mine steps"
      (rename News _ _ _ _ => hN)
      rw [strValues_push] at hN
      refine join_led (l := l ++ [(timeText f bl, _)]) hN (by k_mem) (by simp; omega) (by
        rw [List.map_append, hl']
        intro y hy
        rcases List.mem_append.mp hy with hy | hy
        · exact Nat.le_trans (hws y hy) (by decide)
        · rw [List.mem_singleton.mp hy]; exact Nat.le_trans (timeText_len f bl hf0) (by decide)) (by decide) ?_
      intro t' k' hj
      have e : pgText f = Txt.join (Str.ofString " ") (ws ++ [timeText f bl]) := by
        rw [pgText, pgWords, hWe, if_pos hc]
      rw [e]
      simp only [List.map_append, hl', List.map_cons, List.map_nil]
      walk_at "mine steps"
      exact Done.intro (new := []) (by assumption) (by assumption) ⟨rfl, _, rfl⟩ (fun _ h => nomatch h) (by walk_at "mine sub") (fun _ h => nomatch h)
    · rw [if_neg hc]
      walk_at "mine steps"
      refine join_led (by assumption) (by k_mem) (by omega) (by rw [hl']; intro y hy; exact Nat.le_trans (hws y hy) (by decide)) (by decide) ?_
      intro t' k' hj
      have e : pgText f = Txt.join (Str.ofString " ") (l.map (·.1)) := by
        rw [pgText, pgWords, hWe, if_neg hc, hl']
      rw [e]
      walk_at "mine steps"
      exact Done.intro (new := []) (by assumption) (by assumption) ⟨rfl, _, rfl⟩ (fun _ h => nomatch h) (by walk_at "mine sub") (fun _ h => nomatch h)

end Mine
end
section
example : True := by (w_top off); trivial
open PySem PySem.W PyProof.Rows
set_option Elab.async false
namespace Mine
local macro_rules | `(tactic| walk_at "mine pad0") => `(tactic| skip)
local macro_rules | `(tactic| walk_at "mine pad1") => `(tactic| skip)
local macro_rules | `(tactic| walk_at "mine pad2") => `(tactic| skip)
local macro_rules | `(tactic| walk_at "mine pad3") => `(tactic| skip)
local macro_rules | `(tactic| walk_at "mine pad4") => `(tactic| skip)
local macro_rules | `(tactic| walk_at "mine pad5") => `(tactic| skip)
local macro_rules | `(tactic| walk_at "mine pad6") => `(tactic| skip)
local macro_rules | `(tactic| walk_at "mine pad7") => `(tactic| skip)
local macro_rules | `(tactic| walk_at "mine pad8") => `(tactic| skip)
example (w : World) : (∀ h, (lawTop.heap_39 w.params).In h → PySem.Challenge.rw_ew0023_01 = PySem.Challenge.rw_ew0023_01) := by k_fill; intros; rfl
local macro_rules | `(tactic| k_room) => `(tactic| ktr_room)
local macro_rules | `(tactic| walk_at "mine enter") => `(tactic| (rename BindHint _ => bh; unfold Meets; intro loose mean mg mb dp un gd cn sn sg sc sm a ccd cl outer A₀ base h₀ L m s Q E news B F X N ha T hd hu ret; refine wpAny_call ?_; k_dflt (first
  | (refine' enterM (by assumption) B F X N ha T ?kA ?kF ?kK ?k6 ?k7 ?k8 ?k9 ?kB ret ?_ ?c2 ?c3 ?c4 ?c5; (case kA => exact rfl); (case kF => exact rfl); (case kK => exact rfl); (case k6 => k_is); (case k7 => k_is); (case k8 => k_room); (case k9 => first | exact BindsTo.of_eq rfl | exact binds_K (Frag.In.keeps X (Fr.keep F)) rfl (by k_is) rfl rfl rfl); (case c5 => decide); (case kB => exact locs rfl); (case c2 => exact rfl); (case c3 => exact rfl); (case c4 => exact rfl); k_whole; clear B F X N ha T ret bh; intro g' L' h' F' N' l1 B' X' T'; (try k_lt l1); (try dsimp only); (try k_fold))
  | (refine' enterC (by assumption) B F X N ha T ?kA ?kF ?kK ?k6 ?k7 ?k8 ?k9 ?kB ?kD ret ?_ ?c2 ?c3 ?c4; (case kA => exact rfl); (case kF => exact rfl); (case kK => exact rfl); (case k6 => k_is); (case k7 => k_is); (case k8 => k_room); (case k9 => first | exact BindsTo.of_eq rfl | exact binds_K (Frag.In.keeps X (Fr.keep F)) rfl (by k_is) rfl rfl rfl); (case kB => exact rfl); (case kD => decide +kernel); (case c2 => exact rfl); (case c3 => exact rfl); (case c4 => exact rfl); k_whole; clear B F X N ha T ret bh; intro g' L' h' tk' cells' F' N' Y' l1 B' X' T'; (try k_lt l1); k_cells Y'; (try simp only [List.cons_append, List.nil_append] at N'); (try dsimp only); (try k_fold)))))
local macro_rules | `(tactic| walk_at "exec Assign cons ListComp") => `(tactic| (k_here; (with_reducible show wpAny _ _ (exec (Stmt.Assign _ (Expr.ListComp _ [⟨_, Expr.Tuple _ _ _, _, _⟩] _ _) _) _) _ _ _); k_dflt (refine assign_compTup (F₀ := by k_asm) (by rfl) (by with_unfolding_all rfl) (by with_unfolding_all rfl) (by decide) (by rfl) (by decide) (by rfl) (by rfl) (by rfl) ?_)))
local macro_rules | `(tactic| walk_at "TupSrc") => `(tactic| (k_here; k_dflt (refine TupSrc.of (by rfl) (by k_asm) (by k_asm) (by k_mem) (by first | size_fits | exact Nat.le_of_ble_eq_true rfl) ?_); intro g'; lcg_lit))
local macro_rules | `(tactic| lcg_src) => `(tactic| exact ⟨_, by k_mem, rfl, _, rfl⟩)
local macro_rules | `(tactic| walk_at "CompEnd") => `(tactic| (k_here; k_dflt (refine compEnd_same (by assumption) (by assumption) (by (simp only [LCg.Off3, and_true]; assumption)) (by lcg_src) ?_)))
local macro_rules | `(tactic| k_handed) => `(tactic| exact handed_optV _ _)
local macro_rules | `(tactic| walk_at "mine sub") => `(tactic| first | exact List.forall_mem_nil _ | (refine List.forall_mem_cons.mpr ⟨by k_mem, ?_⟩; walk_at "mine sub"))
local macro_rules | `(tactic| walk_at "mine off1") => `(tactic| first | exact List.forall_mem_nil _ | (refine List.forall_mem_cons.mpr ⟨by k_ne, ?_⟩; walk_at "mine off1"))
local macro_rules | `(tactic| walk_at "mine off") => `(tactic| first | exact List.forall_mem_nil _ | (refine List.forall_mem_cons.mpr ⟨?a, ?b⟩; (case a => walk_at "mine off1"); (case b => walk_at "mine off")))

local macro_rules | `(tactic| walk_at "mine done") => `(tactic| first | exact Done.intro (by assumption) (by assumption) ⟨_, rfl, rfl⟩ (by walk_at "mine sub") (by walk_at "mine sub") (by walk_at "mine off") | exact Done.intro (by assumption) (by assumption) ⟨_, _, rfl, rfl⟩ (by walk_at "mine sub") (by walk_at "mine sub") (by walk_at "mine off") | exact Done.intro (by assumption) (by assumption) ⟨_, _, _, rfl, rfl⟩ (by walk_at "mine sub") (by walk_at "mine sub") (by walk_at "mine off") | exact Done.intro (by assumption) (by assumption) ⟨_, _, _, _, rfl, rfl⟩ (by walk_at "mine sub") (by walk_at "mine sub") (by walk_at "mine off") | exact Done.intro (by assumption) (by assumption) ⟨_, _, _, _, _, rfl, rfl⟩ (by walk_at "mine sub") (by walk_at "mine sub") (by walk_at "mine off") | exact Done.intro (by assumption) (by assumption) ⟨_, _, _, _, _, _, rfl, rfl⟩ (by walk_at "mine sub") (by walk_at "mine sub") (by walk_at "mine off") | exact Done.intro (by assumption) (by assumption) ⟨_, _, _, _, _, _, _, rfl, rfl⟩ (by walk_at "mine sub") (by walk_at "mine sub") (by walk_at "mine off") | exact Done.intro (by assumption) (by assumption) ⟨_, _, _, _, _, _, _, _, rfl, rfl⟩ (by walk_at "mine sub") (by walk_at "mine sub") (by walk_at "mine off") | exact Done.intro (by assumption) (by assumption) ⟨_, _, _, _, _, _, _, _, _, rfl, rfl⟩ (by walk_at "mine sub") (by walk_at "mine sub") (by walk_at "mine off") | exact Done.intro (by assumption) (by assumption) ⟨_, _, _, _, _, _, _, _, _, _, rfl, rfl⟩ (by walk_at "mine sub") (by walk_at "mine sub") (by walk_at "mine off") | exact Done.intro (by assumption) (by assumption) ⟨_, _, _, _, _, _, _, _, _, _, _, rfl, rfl⟩ (by walk_at "mine sub") (by walk_at "mine sub") (by walk_at "mine off") | exact Done.intro (by assumption) (by assumption) ⟨_, _, _, _, _, _, _, _, _, _, _, _, rfl, rfl⟩ (by walk_at "mine sub") (by walk_at "mine sub") (by walk_at "mine off") | exact Done.intro (by assumption) (by assumption) ⟨_, _, _, _, _, _, _, _, _, _, _, _, _, rfl, rfl⟩ (by walk_at "mine sub") (by walk_at "mine sub") (by walk_at "mine off"))
local macro_rules | `(tactic| walk_at "mine steps") => `(tactic| repeat' (first | (k_unfold; (try dsimp only)) | walk1 | (dsimp only; walk1) | fail "no step"))
local macro_rules | `(tactic| walk_at "subscriptTail Name Constant ref int") => `(tactic| (k_here; k_dflt (refine' item_led ?k0 ?km ?k2 ?k3 ?k4 ?_ ?k6; (case k0 => k_asm); (case km => k_mem); (case k2 => decide); (case k3 => decide); (case k4 => exact rfl); (case k6 => with_unfolding_all rfl); k_whole)))
local macro_rules | `(tactic| walk_at "subscriptTail Name Name ref int") => `(tactic| (k_here; k_dflt (refine' item_led ?k0 ?km ?k2 ?k3 ?k4 ?_ ?k6; (case k0 => k_asm); (case km => k_mem); (case k2 => decide); (case k3 => decide); (case k4 => exact rfl); (case k6 => with_unfolding_all rfl); k_whole)))
local macro_rules | `(tactic| walk_at "mine to if") => `(tactic| repeat ((fail_if_success (with_reducible show wpAny _ _ (exec (Stmt.If _ _ _ _) _) _ _ _)); (first | walk1 | (k_unfold; (try dsimp only)) | (dsimp only; walk1))))
local macro_rules | `(tactic| walk_at "mine to cmp") => `(tactic| repeat ((fail_if_success (with_reducible show wpAny _ _ (exec (Stmt.If (Expr.Compare _ _ _ _) _ _ _) _) _ _ _)); (first | walk1 | (k_unfold; (try dsimp only)) | (dsimp only; walk1))))
local macro_rules | `(tactic| walk_at "mine cutS end") => `(tactic| exact ⟨rfl, _, _, _, rfl, (by first | assumption | exact Fr.same (by assumption) (by rfl)), (by first | assumption | exact News.sub (by assumption) (by walk_at "mine sub"))⟩)
local macro_rules | `(tactic| walk_at "mine len") => `(tactic| first | with_reducible assumption | (with_reducible refine' len_int ?a; (case a => omega)) | (with_reducible refine' len_add ?a ?b; (case a => walk_at "mine len"); (case b => walk_at "mine len")) | with_reducible exact Nat.le_refl _)
local macro_rules | `(tactic| walk_at "binaryOp Add str str") => `(tactic| (k_here; (with_reducible show wpAny _ _ (binaryOp Operator.Add (Value.str _ _) (Value.str _ _)) _ _ _); (refine' add_short ?a ?b ?c ?_; (case a => walk_at "mine len"); (case b => walk_at "mine len"); (case c => k_dflt exact rfl)); intro _ _))
local macro_rules | `(tactic| walk_at "eval Name") => `(tactic| ((with_reducible refine' ld ?F ?hv ?_ ?hk ?hl ?hd); (case F => first | with_reducible assumption | k_dflt assumption); (case hv => k_dflt exact rfl); (case hk => k_dflt exact rfl); (case hl => k_dflt exact rfl); (case hd => decide)))
local macro_rules | `(tactic| walk_at "mine to iter") => `(tactic| repeat ((fail_if_success (with_reducible show wpAny _ _ (pyIter _) _ _ _)); (first | walk1 | (k_unfold; (try dsimp only)) | (dsimp only; walk1))))
local macro_rules | `(tactic| size_fits) => `(tactic| exact strV_fits (by omega))
local macro_rules | `(tactic| walk_at "mine cutV end") => `(tactic| exact ⟨⟨_, rfl⟩, _, _, rfl, by assumption, by first | assumption | exact News.sub (by assumption) (by walk_at "mine sub")⟩)
local macro_rules | `(tactic| walk_at "mine to ifexp") => `(tactic| repeat ((fail_if_success (with_reducible show wpAny _ _ (eval (Expr.IfExp _ _ _ _) _) _ _ _)); (first | walk1 | (k_unfold; (try dsimp only)) | (dsimp only; walk1))))
local macro_rules | `(tactic| walk_at "mine tidy") => `(tactic| repeat (first | (with_reducible rename LCg.NsObj _ _ => q; clear q) | (with_reducible rename (_ ≠ _ ∧ _ ≠ _ ∧ _ ≠ _) => q; clear q) | (with_reducible rename ((_ ≠ _ ∧ _ ≠ _ ∧ _ ≠ _) ∧ _) => q; clear q) | (with_reducible rename (_[_]? = some _) => q; clear q) | (with_reducible rename (_ ≠ _ ∧ _) => q; clear q)))
local macro_rules | `(tactic| walk_at "mine lt") => `(tactic| first | exact List.forall_mem_nil _ | (refine List.forall_mem_cons.mpr ⟨by (show @LT.lt Nat _ _ _; omega), ?_⟩; walk_at "mine lt"))
local macro_rules | `(tactic| walk_at "mine cutB end") => `(tactic| refine ⟨?_, _, _, rfl, (by assumption), (by first | assumption | exact News.sub (by assumption) (by walk_at "mine sub"))⟩)
def vbFirst (f : Fld) : List Int := List.filter (fun a' => a' != 0) [f.y, f.mo, f.d, f.h, f.mi, f.s]
def vbTurn (f : Fld) : Int := match vbFirst f with | [] => 1 | a :: _ => if a < 0 then -1 else 1
def fget (f : Fld) (i : Nat) : Int := pick6 i f.y f.mo f.d f.h f.mi f.s
def vbOne (i : Nat) : Str := pick6 i (Str.ofString "year") (Str.ofString "mon") (Str.ofString "day") (Str.ofString "hour") (Str.ofString "minute") (Str.ofString "second")
def vbMany (i : Nat) : Str := pick6 i (Str.ofString "years") (Str.ofString "mons") (Str.ofString "days") (Str.ofString "hours") (Str.ofString "mins") (Str.ofString "secs")
def vbW (f : Fld) : Nat → List Str
  | 0 => [Str.ofString "@"]
  | i + 1 => if fget f i ≠ 0 then vbW f i ++ [Str.ofString (toString (vbTurn f * fget f i)), if vbTurn f * fget f i = 1 then vbOne i else vbMany i] else vbW f i
def vbText (f : Fld) : Str := if vbFirst f = [] then Str.ofString "@ 0" else Txt.join (Str.ofString " ") (vbW f 6 ++ (if vbTurn f < 0 then [Str.ofString "ago"] else []))
theorem carried_ints {vs : List Value} {ns : List Int} (h : CarriedAll vs (ns.map PyData.int)) : IntsAre vs ns := by
  have := CarriedAll.intsOf (f := id) h
  simpa using this
theorem fget_bd (f : Fld) (h : FOk f) (i : Nat) : -60 < fget f i ∧ fget f i < 60 := by
  obtain ⟨hy, hmo, hd, hh, hmi, hs, hym, hhms⟩ := h
  exact pick6_all (P := fun z => -60 < z ∧ z < 60) (by omega) (by omega) (by omega) (by omega) (by omega) (by omega)
theorem vbTurn_or (f : Fld) : vbTurn f = 1 ∨ vbTurn f = -1 := by
  unfold vbTurn
  split
  · exact Or.inl rfl
  · split
    · exact Or.inr rfl
    · exact Or.inl rfl
theorem vbW_len (f : Fld) (h : FOk f) : ∀ i, ∀ x ∈ vbW f i, x.length ≤ 100
  | 0 => by
    intro x hx
    rw [List.mem_singleton.mp hx]; decide
  | i + 1 => by
    intro x hx
    have hb := fget_bd f h i
    unfold vbW at hx
    split at hx
    · rcases List.mem_append.mp hx with hx | hx
      · exact vbW_len f h i x hx
      · have ht := vbTurn_or f
        rcases List.mem_cons.mp hx with rfl | hx
        · exact Nat.le_trans (len_int (by rcases ht with e | e <;> rw [e] <;> omega)) (by decide)
        · rw [List.mem_singleton.mp hx]
          split
          · exact pick6_all (P := fun z : Str => z.length ≤ 100) (by decide) (by decide) (by decide) (by decide) (by decide) (by decide)
          · exact pick6_all (P := fun z : Str => z.length ≤ 100) (by decide) (by decide) (by decide) (by decide) (by decide) (by decide)
    · exact vbW_len f h i x hx
/-- between the turns of the verbose text's loop -/
def VbS (f : Fld) (m₀ : Str → Option Value) (news₀ : List (Addr × Obj)) (i : Nat) (m : Str → Option Value) (news : List (Addr × Obj)) : Prop :=
  ∃ vs l n u1 u2, (∀ y, m y = if y = Str.ofString "shown" then u1 else if y = Str.ofString "k" then u2 else m₀ y) ∧
    (∀ p ∈ setObj 1 (W.listOf vs n) news₀, p ∈ news) ∧ vs = (strValues l).toArray ∧ l.map (·.1) = vbW f i ∧ l.length ≤ 1 + 2 * i
local macro_rules | `(tactic| walk_at "subscriptTail Name Constant ref int") => `(tactic| (k_here; (with_reducible refine' item_any ?k0 ?km ?kc ?kd ?k2 ?k3 ?k4 ?_ ?k6); (case k0 => k_asm); (case km => k_mem); (case kc => assumption); (case kd => assumption); (case k2 => decide); (case k3 => decide); (case k4 => exact rfl); (case k6 => with_unfolding_all rfl)))
local macro_rules | `(tactic| walk_at "subscriptTail Name Name ref int") => `(tactic| (k_here; k_dflt (refine' item_int6 ?k0 ?km _ (Int.zero_add _) ?hi ?_ ?k6; (case k0 => k_asm); (case km => k_mem); (case hi => assumption); (case k6 => with_unfolding_all rfl))))
local macro_rules | `(tactic| walk_at "subscriptTail") => `(tactic| (k_here; (with_reducible show wpAny _ _ (subscriptTail (Expr.IfExp _ _ _ _) _ _ _) _ _ _); k_dflt (refine' item_str6 ?k0 ?km _ (Int.zero_add _) ?hi ?_ ?k6; (case k0 => k_asm); (case km => k_mem); (case hi => assumption); (case k6 => with_unfolding_all rfl))))
local macro_rules | `(tactic| size_fits) => `(tactic| exact strV_fits1 (by omega))
local macro_rules | `(tactic| walk_at "binaryOp Add ref ref") => `(tactic| (k_here; k_dflt (refine' add_led ?F ?N ?a ?b ?z ?_; (case F => k_asm); (case N => k_asm); (case a => k_mem); (case b => k_mem); (case z => (simp only [List.length_cons, List.length_nil, strValues, List.length_map]; omega))); intro D' h' F' N' l1; (try k_lt l1); (try k_sweep)))
set_option maxRecDepth 100000 in
set_option maxHeartbeats 8000000 in
theorem vb_spec (w : World) (x : Addr) (f : Fld) (hf : FOk f) (t0 t1 t2 t3 t4 t5 : Tok) (n : Nat) :
  Meets w 5 (.ref 141) [.ref x] [] [(x, fobj f t0 t1 t2 t3 t4 t5 n)] fun v new => new = [] ∧ ∃ t, v = .str (vbText f) t := by
  have hf0 := hf
  obtain ⟨hy, hmo, hd, hh, hmi, hs, hym, hhms⟩ := hf
  have bh : BindHint [(Str.ofString "fields", .ref x)] := ⟨trivial⟩
  walk_at "mine enter"
  walk_at "mine to if"
  with_reducible rename CarriedAll _ _ => hc'
  have hI := carried_ints hc'
  with_reducible rename (Heap.get? _ _ = none) => hD0
  with_reducible rename (Heap.IsList _ _ (List.toArray _)) => hD
  obtain ⟨o, on, N', hoc, hod⟩ := news_isList (by assumption) (by assumption) hD0 hD
  clear hc' hD0 hD
  generalize hns : List.filter (fun a' => a' != 0) [f.y, f.mo, f.d, f.h, f.mi, f.s] = ns at *
  k_sweep
  cases ns with
  | nil =>
    cases hI
    repeat ((fail_if_success (with_reducible show wpAny _ _ (compareOp CmpOp.Eq _ _) _ _ _)); (first | walk1 | (k_unfold; (try dsimp only)) | (dsimp only; walk1)))
    refine eq_nil_any (by ktr_units) (by assumption) (by k_mem) hoc hod (by k_mem) ?_
    have e : vbText f = Str.ofString "@ 0" := by rw [vbText, if_pos (show vbFirst f = [] from hns)]
    rw [e]
    walk_at "mine steps"
    dsimp only
    exact Done.intro (new := []) (by assumption) (by assumption) ⟨rfl, _, rfl⟩ (fun _ h => nomatch h) (by walk_at "mine sub") (fun _ h => nomatch h)
  | cons a r =>
    cases hI
    repeat ((fail_if_success (with_reducible show wpAny _ _ (compareOp CmpOp.Eq _ _) _ _ _)); (first | walk1 | (k_unfold; (try dsimp only)) | (dsimp only; walk1)))
    refine eq_nil_cons (by ktr_units) (by assumption) (by k_mem) hoc hod (by k_mem) ?_
    repeat ((fail_if_success (with_reducible show wpAny _ _ (eval (Expr.IfExp _ _ _ _) _) _ _ _)); (first | walk1 | (k_unfold; (try dsimp only)) | (dsimp only; walk1)))
    refine cutVal (fun v => ∃ t, v = .int (vbTurn f) t) (by assumption) (by assumption) ?_ ?_
    · have e : vbTurn f = if a < 0 then -1 else 1 := by rw [vbTurn, show vbFirst f = a :: r from hns]
      walk_at "mine steps"
      · rw [e, if_pos (by assumption)]
        exact ⟨⟨_, rfl⟩, _, _, rfl, by assumption, by first | assumption | exact News.sub (by assumption) (by walk_at "mine sub")⟩
      · rw [e, if_neg (by omega)]
        exact ⟨⟨_, rfl⟩, _, _, rfl, by assumption, by first | assumption | exact News.sub (by assumption) (by walk_at "mine sub")⟩
    intro v h' tk' ⟨tv, hv⟩ F' N'
    subst hv
    k_sweep
    repeat ((fail_if_success (with_reducible show wpAny _ _ (pyIter _) _ _ _)); (first | walk1 | (k_unfold; (try dsimp only)) | (dsimp only; walk1)))
    refine range_inv 6 (VbS f) rfl (by assumption) (by decide) (by decide) (by assumption) (by assumption) ?_ ?_ ?_
    · exact ⟨_, [(Str.ofString "@", _)], 0, _, _, map2_as, (by walk_at "mine sub"), rfl, rfl, Nat.le_refl _⟩
    · intro I hI i m news' t h tk hi hS F' N'
      obtain ⟨vs, l, nn, u1, u2, hm, hsub, rfl, hl, hlen⟩ := hS
      have hm' := funext hm
      subst hm'
      clear hm
      simp only [setObj] at hsub
      replace N' := News.sub N' (List.forall_mem_cons.mpr ⟨List.Mem.head _, fun p hp => List.Mem.tail _ (hsub p hp)⟩)
      clear hsub
      replace hI := allLt_of hI
      simp only [AllLt, and_true] at hI
      have hg := fget_bd f hf0 i
      have ht := vbTurn_or f
      have e0 : pick6 i f.y f.mo f.d f.h f.mi f.s = fget f i := rfl
      have hz : -60 < vbTurn f * pick6 i f.y f.mo f.d f.h f.mi f.s ∧ vbTurn f * pick6 i f.y f.mo f.d f.h f.mi f.s < 60 := by
        rw [e0]
        rcases ht with e | e <;> rw [e] <;> omega
      walk_at "mine steps"
      · have e1 : vbW f (i + 1) = vbW f i ++ [Str.ofString (toString (vbTurn f * pick6 i f.y f.mo f.d f.h f.mi f.s)), vbOne i] := by
          rw [vbW, ← e0, if_pos (by assumption), if_pos (by assumption)]
        show VbS f _ _ (i + 1) _ _
        refine ⟨_, l ++ [(_, _), (_, _)], _, _, _, map2_nz, by walk_at "mine sub", strValues_push2 _ _ _ _ _, by rw [List.map_append, hl, e1]; rfl, by rw [List.length_append]; simp only [List.length_cons, List.length_nil]; omega⟩
      · have e1 : vbW f (i + 1) = vbW f i ++ [Str.ofString (toString (vbTurn f * pick6 i f.y f.mo f.d f.h f.mi f.s)), vbMany i] := by
          rw [vbW, ← e0, if_pos (by assumption), if_neg (by assumption)]
        show VbS f _ _ (i + 1) _ _
        refine ⟨_, l ++ [(_, _), (_, _)], _, _, _, map2_nz, by walk_at "mine sub", strValues_push2 _ _ _ _ _, by rw [List.map_append, hl, e1]; rfl, by rw [List.length_append]; simp only [List.length_cons, List.length_nil]; omega⟩
      · have e1 : vbW f (i + 1) = vbW f i := by rw [vbW, ← e0, if_neg (not_not_intro (by assumption))]
        show VbS f _ _ (i + 1) _ _
        exact ⟨_, l, _, _, _, map2_z (by decide), by walk_at "mine sub", rfl, by rw [e1]; exact hl, by omega⟩
    · intro m news' h' tk hS F' N'
      obtain ⟨vs, l, nn, u1, u2, hm, hsub, rfl, hl, hlen⟩ := hS
      have hm' := funext hm
      subst hm'
      clear hm
      simp only [setObj] at hsub
      replace N' := News.sub N' hsub
      clear hsub
      have hws := vbW_len f hf0 6
      have hne : ¬ vbFirst f = [] := by rw [vbFirst, hns]; exact List.cons_ne_nil _ _
      walk_at "mine steps"
      · have e : vbText f = Txt.join (Str.ofString " ") (vbW f 6 ++ [Str.ofString "ago"]) := by rw [vbText, if_neg hne, if_pos (by assumption)]
        (rename News _ _ _ _ => hN)
        rw [strValues_app] at hN
        refine join_led (l := l ++ [(Str.ofString "ago", _)]) hN (by k_mem) (by simp; omega) (by
          rw [List.map_append, hl]
          intro y hy
          rcases List.mem_append.mp hy with hy | hy
          · exact Nat.le_trans (hws y hy) (by decide)
          · rw [List.mem_singleton.mp hy]; exact (by decide : (Str.ofString "ago").length ≤ 1000)) (by decide) ?_
        intro t' k' hj
        rw [e]
        simp only [List.map_append, hl, List.map_cons, List.map_nil]
        exact Done.intro (new := []) (by assumption) (by assumption) ⟨rfl, _, rfl⟩ (fun _ h => nomatch h) (by walk_at "mine sub") (fun _ h => nomatch h)
      · have e : vbText f = Txt.join (Str.ofString " ") (vbW f 6) := by rw [vbText, if_neg hne, if_neg (by omega), List.append_nil]
        (rename News _ _ _ _ => hN)
        rw [List.append_nil] at hN
        refine join_led hN (by k_mem) (by omega) (by rw [hl]; intro y hy; exact Nat.le_trans (hws y hy) (by decide)) (by decide) ?_
        intro t' k' hj
        rw [e, ← hl]
        exact Done.intro (new := []) (by assumption) (by assumption) ⟨rfl, _, rfl⟩ (fun _ h => nomatch h) (by walk_at "mine sub") (fun _ h => nomatch h)

end Mine
end
section
example : True := by (w_top off); trivial
open PySem PySem.W PyProof.Rows
set_option Elab.async false
namespace Mine
example (w : World) : (∀ h, (lawTop.heap_39 w.params).In h → PySem.Challenge.rw_ew0023_01 = PySem.Challenge.rw_ew0023_01) := by k_fill; intros; rfl
local macro_rules | `(tactic| k_room) => `(tactic| ktr_room)
local macro_rules | `(tactic| walk_at "mine enter") => `(tactic| (rename BindHint _ => bh; unfold Meets; intro loose mean mg mb dp un gd cn sn sg sc sm a ccd cl outer A₀ base h₀ L m s Q E news B F X N ha T hd hu ret; refine wpAny_call ?_; k_dflt (first
  | (refine' enterM (by assumption) B F X N ha T ?kA ?kF ?kK ?k6 ?k7 ?k8 ?k9 ?kB ret ?_ ?c2 ?c3 ?c4 ?c5; (case kA => exact rfl); (case kF => exact rfl); (case kK => exact rfl); (case k6 => k_is); (case k7 => k_is); (case k8 => k_room); (case k9 => first | exact BindsTo.of_eq rfl | exact binds_K (Frag.In.keeps X (Fr.keep F)) rfl (by k_is) rfl rfl rfl); (case c5 => decide); (case kB => exact locs rfl); (case c2 => exact rfl); (case c3 => exact rfl); (case c4 => exact rfl); k_whole; clear B F X N ha T ret bh; intro g' L' h' F' N' l1 B' X' T'; (try k_lt l1); (try dsimp only); (try k_fold))
  | (refine' enterC (by assumption) B F X N ha T ?kA ?kF ?kK ?k6 ?k7 ?k8 ?k9 ?kB ?kD ret ?_ ?c2 ?c3 ?c4; (case kA => exact rfl); (case kF => exact rfl); (case kK => exact rfl); (case k6 => k_is); (case k7 => k_is); (case k8 => k_room); (case k9 => first | exact BindsTo.of_eq rfl | exact binds_K (Frag.In.keeps X (Fr.keep F)) rfl (by k_is) rfl rfl rfl); (case kB => exact rfl); (case kD => decide +kernel); (case c2 => exact rfl); (case c3 => exact rfl); (case c4 => exact rfl); k_whole; clear B F X N ha T ret bh; intro g' L' h' tk' cells' F' N' Y' l1 B' X' T'; (try k_lt l1); k_cells Y'; (try simp only [List.cons_append, List.nil_append] at N'); (try dsimp only); (try k_fold)))))
local macro_rules | `(tactic| walk_at "exec Assign cons ListComp") => `(tactic| (k_here; (with_reducible show wpAny _ _ (exec (Stmt.Assign _ (Expr.ListComp _ [⟨_, Expr.Tuple _ _ _, _, _⟩] _ _) _) _) _ _ _); k_dflt (refine assign_compTup (F₀ := by k_asm) (by rfl) (by with_unfolding_all rfl) (by with_unfolding_all rfl) (by decide) (by rfl) (by decide) (by rfl) (by rfl) (by rfl) ?_)))
local macro_rules | `(tactic| walk_at "TupSrc") => `(tactic| (k_here; k_dflt (refine TupSrc.of (by rfl) (by k_asm) (by k_asm) (by k_mem) (by first | size_fits | exact Nat.le_of_ble_eq_true rfl) ?_); intro g'; lcg_lit))
local macro_rules | `(tactic| lcg_src) => `(tactic| exact ⟨_, by k_mem, rfl, _, rfl⟩)
local macro_rules | `(tactic| walk_at "CompEnd") => `(tactic| (k_here; k_dflt (refine compEnd_same (by assumption) (by assumption) (by (simp only [LCg.Off3, and_true]; assumption)) (by lcg_src) ?_)))
local macro_rules | `(tactic| k_handed) => `(tactic| exact handed_optV _ _)
local macro_rules | `(tactic| walk_at "mine sub") => `(tactic| first | exact List.forall_mem_nil _ | (refine List.forall_mem_cons.mpr ⟨by k_mem, ?_⟩; walk_at "mine sub"))
local macro_rules | `(tactic| walk_at "mine off1") => `(tactic| first | exact List.forall_mem_nil _ | (refine List.forall_mem_cons.mpr ⟨by k_ne, ?_⟩; walk_at "mine off1"))
local macro_rules | `(tactic| walk_at "mine off") => `(tactic| first | exact List.forall_mem_nil _ | (refine List.forall_mem_cons.mpr ⟨?a, ?b⟩; (case a => walk_at "mine off1"); (case b => walk_at "mine off")))

local macro_rules | `(tactic| walk_at "mine done") => `(tactic| first | exact Done.intro (by assumption) (by assumption) ⟨_, rfl, rfl⟩ (by walk_at "mine sub") (by walk_at "mine sub") (by walk_at "mine off") | exact Done.intro (by assumption) (by assumption) ⟨_, _, rfl, rfl⟩ (by walk_at "mine sub") (by walk_at "mine sub") (by walk_at "mine off") | exact Done.intro (by assumption) (by assumption) ⟨_, _, _, rfl, rfl⟩ (by walk_at "mine sub") (by walk_at "mine sub") (by walk_at "mine off") | exact Done.intro (by assumption) (by assumption) ⟨_, _, _, _, rfl, rfl⟩ (by walk_at "mine sub") (by walk_at "mine sub") (by walk_at "mine off") | exact Done.intro (by assumption) (by assumption) ⟨_, _, _, _, _, rfl, rfl⟩ (by walk_at "mine sub") (by walk_at "mine sub") (by walk_at "mine off") | exact Done.intro (by assumption) (by assumption) ⟨_, _, _, _, _, _, rfl, rfl⟩ (by walk_at "mine sub") (by walk_at "mine sub") (by walk_at "mine off") | exact Done.intro (by assumption) (by assumption) ⟨_, _, _, _, _, _, _, rfl, rfl⟩ (by walk_at "mine sub") (by walk_at "mine sub") (by walk_at "mine off") | exact Done.intro (by assumption) (by assumption) ⟨_, _, _, _, _, _, _, _, rfl, rfl⟩ (by walk_at "mine sub") (by walk_at "mine sub") (by walk_at "mine off") | exact Done.intro (by assumption) (by assumption) ⟨_, _, _, _, _, _, _, _, _, rfl, rfl⟩ (by walk_at "mine sub") (by walk_at "mine sub") (by walk_at "mine off") | exact Done.intro (by assumption) (by assumption) ⟨_, _, _, _, _, _, _, _, _, _, rfl, rfl⟩ (by walk_at "mine sub") (by walk_at "mine sub") (by walk_at "mine off") | exact Done.intro (by assumption) (by assumption) ⟨_, _, _, _, _, _, _, _, _, _, _, rfl, rfl⟩ (by walk_at "mine sub") (by walk_at "mine sub") (by walk_at "mine off") | exact Done.intro (by assumption) (by assumption) ⟨_, _, _, _, _, _, _, _, _, _, _, _, rfl, rfl⟩ (by walk_at "mine sub") (by walk_at "mine sub") (by walk_at "mine off") | exact Done.intro (by assumption) (by assumption) ⟨_, _, _, _, _, _, _, _, _, _, _, _, _, rfl, rfl⟩ (by walk_at "mine sub") (by walk_at "mine sub") (by walk_at "mine off"))
local macro_rules | `(tactic| walk_at "mine steps") => `(tactic| repeat' (first | (k_unfold; (try dsimp only)) | walk1 | (dsimp only; walk1) | fail "no step"))
local macro_rules | `(tactic| walk_at "subscriptTail Name Constant ref int") => `(tactic| (k_here; k_dflt (refine' item_led ?k0 ?km ?k2 ?k3 ?k4 ?_ ?k6; (case k0 => k_asm); (case km => k_mem); (case k2 => decide); (case k3 => decide); (case k4 => exact rfl); (case k6 => with_unfolding_all rfl); k_whole)))
local macro_rules | `(tactic| walk_at "subscriptTail Name Name ref int") => `(tactic| (k_here; k_dflt (refine' item_led ?k0 ?km ?k2 ?k3 ?k4 ?_ ?k6; (case k0 => k_asm); (case km => k_mem); (case k2 => decide); (case k3 => decide); (case k4 => exact rfl); (case k6 => with_unfolding_all rfl); k_whole)))
local macro_rules | `(tactic| walk_at "mine to if") => `(tactic| repeat ((fail_if_success (with_reducible show wpAny _ _ (exec (Stmt.If _ _ _ _) _) _ _ _)); (first | walk1 | (k_unfold; (try dsimp only)) | (dsimp only; walk1))))
local macro_rules | `(tactic| walk_at "mine to cmp") => `(tactic| repeat ((fail_if_success (with_reducible show wpAny _ _ (exec (Stmt.If (Expr.Compare _ _ _ _) _ _ _) _) _ _ _)); (first | walk1 | (k_unfold; (try dsimp only)) | (dsimp only; walk1))))
local macro_rules | `(tactic| walk_at "mine cutS end") => `(tactic| exact ⟨rfl, _, _, _, rfl, (by first | assumption | exact Fr.same (by assumption) (by rfl)), (by first | assumption | exact News.sub (by assumption) (by walk_at "mine sub"))⟩)
local macro_rules | `(tactic| walk_at "mine len") => `(tactic| first | with_reducible assumption | (with_reducible refine' len_int ?a; (case a => omega)) | (with_reducible refine' len_add ?a ?b; (case a => walk_at "mine len"); (case b => walk_at "mine len")) | with_reducible exact Nat.le_refl _)
local macro_rules | `(tactic| walk_at "binaryOp Add str str") => `(tactic| (k_here; (with_reducible show wpAny _ _ (binaryOp Operator.Add (Value.str _ _) (Value.str _ _)) _ _ _); (refine' add_short ?a ?b ?c ?_; (case a => walk_at "mine len"); (case b => walk_at "mine len"); (case c => k_dflt exact rfl)); intro _ _))
local macro_rules | `(tactic| walk_at "eval Name") => `(tactic| ((with_reducible refine' ld ?F ?hv ?_ ?hk ?hl ?hd); (case F => first | with_reducible assumption | k_dflt assumption); (case hv => k_dflt exact rfl); (case hk => k_dflt exact rfl); (case hl => k_dflt exact rfl); (case hd => decide)))
local macro_rules | `(tactic| walk_at "mine to iter") => `(tactic| repeat ((fail_if_success (with_reducible show wpAny _ _ (pyIter _) _ _ _)); (first | walk1 | (k_unfold; (try dsimp only)) | (dsimp only; walk1))))
local macro_rules | `(tactic| size_fits) => `(tactic| exact strV_fits (by omega))
local macro_rules | `(tactic| walk_at "mine cutV end") => `(tactic| exact ⟨⟨_, rfl⟩, _, _, rfl, by assumption, by first | assumption | exact News.sub (by assumption) (by walk_at "mine sub")⟩)
local macro_rules | `(tactic| walk_at "mine to ifexp") => `(tactic| repeat ((fail_if_success (with_reducible show wpAny _ _ (eval (Expr.IfExp _ _ _ _) _) _ _ _)); (first | walk1 | (k_unfold; (try dsimp only)) | (dsimp only; walk1))))
local macro_rules | `(tactic| walk_at "mine tidy") => `(tactic| repeat (first | (with_reducible rename LCg.NsObj _ _ => q; clear q) | (with_reducible rename (_ ≠ _ ∧ _ ≠ _ ∧ _ ≠ _) => q; clear q) | (with_reducible rename ((_ ≠ _ ∧ _ ≠ _ ∧ _ ≠ _) ∧ _) => q; clear q) | (with_reducible rename (_[_]? = some _) => q; clear q) | (with_reducible rename (_ ≠ _ ∧ _) => q; clear q)))
local macro_rules | `(tactic| walk_at "mine lt") => `(tactic| first | exact List.forall_mem_nil _ | (refine List.forall_mem_cons.mpr ⟨by (show @LT.lt Nat _ _ _; omega), ?_⟩; walk_at "mine lt"))
local macro_rules | `(tactic| walk_at "mine cutB end") => `(tactic| refine ⟨?_, _, _, rfl, (by assumption), (by first | assumption | exact News.sub (by assumption) (by walk_at "mine sub"))⟩)
local macro_rules | `(tactic| walk_at "call ref") => `(tactic| (k_here; k_dflt (refine' Meets.use (two_spec _ _ _ ?hn) ?k1 ?k2 ?k3 ?k4 ?ka ?k5 ?kd ?ku ?_; (case k1 => k_asm); (case k2 => k_asm); (case k3 => k_asm); (case k4 => k_asm); (case ka => walk_at "mine sub"); (case hn => first | omega | assumption); (case k5 => k_asm); (case kd => ktr_room); (case ku => ktr_units)); intro v' new' h' tk' hP F' N' hne'; obtain ⟨e2', t', e1'⟩ := hP; subst e1' e2'; (try simp only [List.cons_append, List.nil_append] at N'); replace hne' := offA_of hne'; simp only [OffA, OffL, and_true, true_and] at hne'; skip; k_sweep))
def stPlus (f : Fld) : Str := if f.y < 0 ∨ f.mo < 0 ∨ f.d < 0 ∨ f.h < 0 ∨ f.mi < 0 ∨ f.s < 0 then Str.ofString "+" else Str.ofString ""
def stSign1 (f : Fld) : Str := if f.y < 0 ∨ f.mo < 0 then Str.ofString "-" else stPlus f
def stSign2 (f : Fld) : Str := if f.d < 0 then Str.ofString "-" else stPlus f
def stSign3 (f : Fld) : Str := if f.h < 0 ∨ f.mi < 0 ∨ f.s < 0 then Str.ofString "-" else stPlus f
def stW1 (f : Fld) : Str := stSign1 f ++ Str.ofString (toString (absI f.y)) ++ Str.ofString "-" ++ Str.ofString (toString (absI f.mo))
def stW2 (f : Fld) : Str := stSign2 f ++ Str.ofString (toString (absI f.d))
def stW3 (f : Fld) : Str := stSign3 f ++ Str.ofString (toString (absI f.h)) ++ Str.ofString ":" ++ two (absI f.mi) ++ Str.ofString ":" ++ two (absI f.s)
def stText (f : Fld) : Str := Txt.join (Str.ofString " ") ((if [f.y, f.mo] = [0, 0] then [] else [stW1 f]) ++ (if [f.d, f.h, f.mi, f.s] = [0, 0, 0, 0] then [] else [stW2 f, stW3 f]))
theorem stPlus_len (f : Fld) : (stPlus f).length ≤ 1 := by unfold stPlus; split <;> decide
theorem stSign1_len (f : Fld) : (stSign1 f).length ≤ 1 := by unfold stSign1; split; decide; exact stPlus_len f
theorem stSign2_len (f : Fld) : (stSign2 f).length ≤ 1 := by unfold stSign2; split; decide; exact stPlus_len f
theorem stSign3_len (f : Fld) : (stSign3 f).length ≤ 1 := by unfold stSign3; split; decide; exact stPlus_len f
set_option maxRecDepth 100000 in
set_option maxHeartbeats 8000000 in
theorem st_spec (w : World) (x : Addr) (f : Fld) (hf : FOk f) (t0 t1 t2 t3 t4 t5 : Tok) (n : Nat) :
  Meets w 9 (.ref 146) [.ref x] [] [(x, fobj f t0 t1 t2 t3 t4 t5 n)] fun v new => new = [] ∧ ∃ t, v = .str (stText f) t := by
  have hf0 := hf
  obtain ⟨hy, hmo, hd, hh, hmi, hs, hym, hhms⟩ := hf
  have bh : BindHint [(Str.ofString "fields", .ref x)] := ⟨trivial⟩
  walk_at "mine enter"
  walk_at "mine to ifexp"
  refine cutVal (fun v => ∃ t, v = .str (stPlus f) t) (by assumption) (by assumption) ?_ ?_
  · walk_at "mine steps"
    · rw [stPlus, if_pos (by omega)]; walk_at "mine cutV end"
    · rw [stPlus, if_neg (by omega)]; walk_at "mine cutV end"
  intro v h' tk' ⟨tv, hv⟩ F' N'
  subst hv
  k_sweep
  walk_at "mine to ifexp"
  refine cutVal (fun v => ∃ t, v = .str (stSign1 f) t) (by assumption) (by assumption) ?_ ?_
  · walk_at "mine steps"
    · rw [stSign1, if_pos (by omega)]; walk_at "mine cutV end"
    · rw [stSign1, if_neg (by omega)]; walk_at "mine cutV end"
  intro v h' tk' ⟨tv1, hv⟩ F' N'
  subst hv
  k_sweep
  walk1
  walk_at "mine to ifexp"
  refine cutVal (fun v => ∃ t, v = .str (stSign2 f) t) (by assumption) (by assumption) ?_ ?_
  · walk_at "mine steps"
    · rw [stSign2, if_pos (by omega)]; walk_at "mine cutV end"
    · rw [stSign2, if_neg (by omega)]; walk_at "mine cutV end"
  intro v h' tk' ⟨tv2, hv⟩ F' N'
  subst hv
  k_sweep
  walk1
  walk_at "mine to ifexp"
  refine cutVal (fun v => ∃ t, v = .str (stSign3 f) t) (by assumption) (by assumption) ?_ ?_
  · walk_at "mine steps"
    · rw [stSign3, if_pos (by omega)]; walk_at "mine cutV end"
    · rw [stSign3, if_neg (by omega)]; walk_at "mine cutV end"
  intro v h' tk' ⟨tv3, hv⟩ F' N'
  subst hv
  k_sweep
  walk1
  iterate 5 (first | walk1 | (k_unfold; (try dsimp only)) | (dsimp only; walk1))
  walk_at "mine tidy"
  walk_at "mine to if"
  walk_at "mine tidy"
  have e0 : ∀ z : Int, (if z < 0 then -z else z) = absI z := fun _ => rfl
  (rename News _ _ _ _ => hN)
  simp only [e0] at hN
  clear e0
  have ha0 : 0 ≤ absI f.y ∧ absI f.y < 100 := by unfold absI; split <;> omega
  have ha1 : 0 ≤ absI f.mo ∧ absI f.mo < 100 := by unfold absI; split <;> omega
  have ha2 : 0 ≤ absI f.d ∧ absI f.d < 100 := by unfold absI; split <;> omega
  have ha3 : 0 ≤ absI f.h ∧ absI f.h < 100 := by unfold absI; split <;> omega
  have ha4 : 0 ≤ absI f.mi ∧ absI f.mi < 100 := by unfold absI; split <;> omega
  have ha5 : 0 ≤ absI f.s ∧ absI f.s < 100 := by unfold absI; split <;> omega
  have hs1 := stSign1_len f
  have hs2 := stSign2_len f
  have hs3 := stSign3_len f
  have q1 := two_len _ ha4
  have q2 := two_len _ ha5
  have hw1 : (stSign1 f ++ Str.ofString (toString (absI f.y)) ++ Str.ofString "-" ++ Str.ofString (toString (absI f.mo))).length ≤ 1000 := Nat.le_trans (len_add (i := 13) (j := 11) (len_add (i := 12) (j := 1) (len_add (i := 1) (j := 11) hs1 (len_int (by omega))) (by decide)) (len_int (by omega))) (by decide)
  have hw2 : (stSign2 f ++ Str.ofString (toString (absI f.d))).length ≤ 1000 := Nat.le_trans (len_add (i := 1) (j := 11) hs2 (len_int (by omega))) (by decide)
  have hw3 : (stSign3 f ++ Str.ofString (toString (absI f.h)) ++ Str.ofString ":" ++ two (absI f.mi) ++ Str.ofString ":" ++ two (absI f.s)).length ≤ 1000 := Nat.le_trans (len_add (i := 26) (j := 12) (len_add (i := 25) (j := 1) (len_add (i := 13) (j := 12) (len_add (i := 12) (j := 1) (len_add (i := 1) (j := 11) hs3 (len_int (by omega))) (by decide)) q1) (by decide)) q2) (by decide)
  walk_at "mine steps"
  · have e : stText f = Txt.join (Str.ofString " ") [] := by rw [stText, if_pos (by assumption), if_pos (by assumption)]; rfl
    rw [e]
    exact Done.intro (new := []) (by assumption) (by assumption) ⟨rfl, _, rfl⟩ (fun _ h => nomatch h) (by walk_at "mine sub") (fun _ h => nomatch h)
  · have e : stText f = Txt.join (Str.ofString " ") [stW2 f, stW3 f] := by rw [stText, if_pos (by assumption), if_neg (by assumption)]; rfl
    refine join_p2 (by assumption) (by k_mem) hw2 hw3 (by decide) ?_
    intro t' k' hj
    rw [e]
    exact Done.intro (new := []) (by assumption) (by assumption) ⟨rfl, _, rfl⟩ (fun _ h => nomatch h) (by walk_at "mine sub") (fun _ h => nomatch h)
  · have e : stText f = Txt.join (Str.ofString " ") [stW1 f] := by rw [stText, if_neg (by assumption), if_pos (by assumption)]; rfl
    refine join_p1 (by assumption) (by k_mem) hw1 (by decide) ?_
    intro t' k' hj
    rw [e]
    exact Done.intro (new := []) (by assumption) (by assumption) ⟨rfl, _, rfl⟩ (fun _ h => nomatch h) (by walk_at "mine sub") (fun _ h => nomatch h)
  · have e : stText f = Txt.join (Str.ofString " ") [stW1 f, stW2 f, stW3 f] := by rw [stText, if_neg (by assumption), if_neg (by assumption)]; rfl
    refine join_p3 (by assumption) (by k_mem) hw1 hw2 hw3 (by decide) ?_
    intro t' k' hj
    rw [e]
    exact Done.intro (new := []) (by assumption) (by assumption) ⟨rfl, _, rfl⟩ (fun _ h => nomatch h) (by walk_at "mine sub") (fun _ h => nomatch h)

end Mine
end
section
example : True := by (w_top off); trivial
open PySem PySem.W PyProof.Rows PySem.Calls
set_option Elab.async false
namespace Mine
theorem map_cons_of {α β : Type} {l : List (α × β)} {a : α} {r : List α} (e : l.map (·.1) = a :: r) : ∃ t l', l = (a, t) :: l' ∧ l'.map (·.1) = r := by
  cases l with
  | nil => cases e
  | cons p q =>
    obtain ⟨x, y⟩ := p
    simp only [List.map_cons, List.cons.injEq] at e
    exact ⟨y, q, by rw [e.1], e.2⟩
theorem map_nil_of {α β : Type} {l : List (α × β)} (e : l.map (·.1) = []) : l = [] := List.map_eq_nil_iff.mp e
/-- of a ledger, what stands at these places -/
theorem News.pick {g h : Heap} {L : Addr} {l : List (Addr × Obj)} (is : List Nat) (N : News g L h l) : News g L h (is.filterMap fun i => l[i]?) := fun p hp => by
  obtain ⟨i, _, e⟩ := List.mem_filterMap.mp hp
  exact N p (List.mem_of_getElem? e)
section
variable {prog : Program} {w : World} {A : Around} {E : Value → Shared → Prop} {s : Shared} {h₀ : Heap} {L : Addr} {m : Str → Option Value} {news : List (Addr × Obj)} {x y : Str} {t u : Tok} {Q : Value → Shared → Prop}
theorem split_w1 {a : Str} (hF : Fr h₀ L s.heap m) (hN : News h₀ L s.heap news) (hw : Txt.words x = [a]) (hz : x.length ≤ 1000)
    (h : ∀ D ta h' k, Fr h₀ L h' m → News h₀ L h' ((D, W.listOf #[.str a ta] 0) :: news) → (∀ p ∈ news, p.1 < D) → Q (.ref D) { s with heap := h', toks := k }) :
    wpAny (model prog w) A (call (.builtin "str.split") [.str x t]) Q E s := by
  refine KSpl.split0 hF hN (fun D l h' k e _ F N lt => ?_) (by rw [PySem.sizeLine_eq]; omega)
  obtain ⟨ta, l1, rfl, e1⟩ := map_cons_of (e.trans hw)
  cases map_nil_of e1
  exact h D ta h' k F N lt
theorem split_w2 {a b : Str} (hF : Fr h₀ L s.heap m) (hN : News h₀ L s.heap news) (hw : Txt.words x = [a, b]) (hz : x.length ≤ 1000)
    (h : ∀ D ta tb h' k, Fr h₀ L h' m → News h₀ L h' ((D, W.listOf #[.str a ta, .str b tb] 0) :: news) → (∀ p ∈ news, p.1 < D) → Q (.ref D) { s with heap := h', toks := k }) :
    wpAny (model prog w) A (call (.builtin "str.split") [.str x t]) Q E s := by
  refine KSpl.split0 hF hN (fun D l h' k e _ F N lt => ?_) (by rw [PySem.sizeLine_eq]; omega)
  obtain ⟨ta, l1, rfl, e1⟩ := map_cons_of (e.trans hw)
  obtain ⟨tb, l2, rfl, e2⟩ := map_cons_of e1
  cases map_nil_of e2
  exact h D ta tb h' k F N lt
theorem split_w3 {a b c : Str} (hF : Fr h₀ L s.heap m) (hN : News h₀ L s.heap news) (hw : Txt.words x = [a, b, c]) (hz : x.length ≤ 1000)
    (h : ∀ D ta tb tc h' k, Fr h₀ L h' m → News h₀ L h' ((D, W.listOf #[.str a ta, .str b tb, .str c tc] 0) :: news) → (∀ p ∈ news, p.1 < D) → Q (.ref D) { s with heap := h', toks := k }) :
    wpAny (model prog w) A (call (.builtin "str.split") [.str x t]) Q E s := by
  refine KSpl.split0 hF hN (fun D l h' k e _ F N lt => ?_) (by rw [PySem.sizeLine_eq]; omega)
  obtain ⟨ta, l1, rfl, e1⟩ := map_cons_of (e.trans hw)
  obtain ⟨tb, l2, rfl, e2⟩ := map_cons_of e1
  obtain ⟨tc, l3, rfl, e3⟩ := map_cons_of e2
  cases map_nil_of e3
  exact h D ta tb tc h' k F N lt
theorem split_ws {ws : List Str} (hF : Fr h₀ L s.heap m) (hN : News h₀ L s.heap news) (hw : Txt.words x = ws) (hz : x.length ≤ 1000)
    (h : ∀ D (l : List (Str × Tok)) h' k, l.map (·.1) = ws → Fr h₀ L h' m → News h₀ L h' ((D, W.listOf (strValues l).toArray 0) :: news) → (∀ p ∈ news, p.1 < D) → Q (.ref D) { s with heap := h', toks := k }) :
    wpAny (model prog w) A (call (.builtin "str.split") [.str x t]) Q E s :=
  KSpl.split0 hF hN (fun D l h' k e _ F N lt => h D l h' k (e.trans hw) F N lt) (by rw [PySem.sizeLine_eq]; omega)
theorem split_p2 {a b : Str} (hF : Fr h₀ L s.heap m) (hN : News h₀ L s.heap news) (hw : Txt.split x y = [a, b]) (hy : (y.length == 0) = false) (hz : x.length ≤ 1000)
    (h : ∀ D ta tb h' k, Fr h₀ L h' m → News h₀ L h' ((D, W.listOf #[.str a ta, .str b tb] 0) :: news) → (∀ p ∈ news, p.1 < D) → Q (.ref D) { s with heap := h', toks := k }) :
    wpAny (model prog w) A (call (.builtin "str.split") [.str x t, .str y u]) Q E s := by
  refine KSpl.split1 hF hN hy (fun D l h' k e _ F N lt => ?_) (by rw [PySem.sizeLine_eq]; omega)
  obtain ⟨ta, l1, rfl, e1⟩ := map_cons_of (e.trans hw)
  obtain ⟨tb, l2, rfl, e2⟩ := map_cons_of e1
  cases map_nil_of e2
  exact h D ta tb h' k F N lt
theorem split_p3 {a b c : Str} (hF : Fr h₀ L s.heap m) (hN : News h₀ L s.heap news) (hw : Txt.split x y = [a, b, c]) (hy : (y.length == 0) = false) (hz : x.length ≤ 1000)
    (h : ∀ D ta tb tc h' k, Fr h₀ L h' m → News h₀ L h' ((D, W.listOf #[.str a ta, .str b tb, .str c tc] 0) :: news) → (∀ p ∈ news, p.1 < D) → Q (.ref D) { s with heap := h', toks := k }) :
    wpAny (model prog w) A (call (.builtin "str.split") [.str x t, .str y u]) Q E s := by
  refine KSpl.split1 hF hN hy (fun D l h' k e _ F N lt => ?_) (by rw [PySem.sizeLine_eq]; omega)
  obtain ⟨ta, l1, rfl, e1⟩ := map_cons_of (e.trans hw)
  obtain ⟨tb, l2, rfl, e2⟩ := map_cons_of e1
  obtain ⟨tc, l3, rfl, e3⟩ := map_cons_of e2
  cases map_nil_of e3
  exact h D ta tb tc h' k F N lt
end
end Mine
end
section
example : True := by (w_top off); trivial
open PySem PySem.W PyProof.Rows PySem.Calls
set_option Elab.async false
namespace Mine
section
variable {prog : Program} {w : World} {K : Type} [DecidableEq K] {knd : KeyKind prog w K} {A : Around} {E : Value → Shared → Prop} {s : Shared}
theorem stored_new {kvs : List (K × Value)} {k : K} {v : Value} (h : k ∉ kvs.map (·.1)) : stored kvs k v = kvs ++ [(k, v)] := by
  unfold stored
  rw [if_neg]
  rw [List.any_eq_true]
  rintro ⟨p, hp, e⟩
  exact h (of_decide_eq_true e ▸ List.mem_map_of_mem hp)
/-- an entry put into a dict that does not hold its key -/
theorem wpAny_dictPut_new {d : Addr} {kvs : List (K × Value)} {k : K} {key v : Value} {Q : Unit → Shared → Prop} (hkey : knd.is k key = true) (hm : s.heap.DictOf knd d kvs) (hnot : k ∉ kvs.map (·.1)) (hsz : kvs.length ≤ 1000)
    (hQ : ∀ h', h'.DictOf knd d (kvs ++ [(k, v)]) → Heap.SameBut d s.heap h' → Q () { s with heap := h' }) :
    wpAny (model prog w) A (do
      if (← dictFind d key (knd.hash k)).isSome then rule "dict.merge.duplicate-key"; raiseNew (← newExc (.type "KeyError") [key])
      dictPut d (knd.hash k) key v) Q E s := by
  obtain ⟨o, es, ep, ho, hc, hd, hk, hp, hn⟩ := hm
  have hes : es.size ≤ sizeLine := by
    have e1 := hp.length; have e2 : es.toList.length = es.size := by simp
    have : sizeLine = 16777216 := PySem.sizeLine_eq
    omega
  have hidx : (es.findIdx? fun e => knd.is k e.key) = none := by
    have e1 : (es.findIdx? fun e => knd.is k e.key) = kvs.findIdx? fun kv => decide (kv.1 = k) := by
      rw [← hp.findIdx k]; obtain ⟨l⟩ := es; simp
    rw [e1, List.findIdx?_eq_none_iff]
    intro p hp
    exact decide_eq_false fun e => hnot (e ▸ List.mem_map_of_mem hp)
  refine wpAny_bind (wpAny_dictFind_of hkey ho hd hk ?_)
  rw [hidx]
  show wpAny _ _ (if (none : Option Nat).isSome = true then _ else _) _ _ _
  rw [if_neg (by simp)]
  first
    | refine wpAny_bind (wpAny_pure ?_)
    | skip
  unfold dictPut
  refine wpAny_bind (wpAny_dictFind_of hkey ho hd hk ?_)
  rw [hidx]
  refine wpAny_updateDictKeys (hz := hes) ho hd (hQ _ ⟨_, _, ep + 1, Heap.get?_update_self _ ho (Obj.isFreed_of_dict (Obj.data_mapDictKeys hd _)),
      hc.mapDictKeys _, Obj.data_mapDictKeys hd _, hk.push hkey _, ?_, ?_⟩ (Heap.SameBut.update ..))
  · have := hp.append hkey (knd.hash k) v
    obtain ⟨l⟩ := es
    simpa using this
  · rw [List.map_append, List.nodup_append]
    refine ⟨hn, by simp, ?_⟩
    intro a ha b hb
    simp only [List.map_cons, List.map_nil, List.mem_singleton] at hb
    subst hb
    exact fun e => hnot (e ▸ ha)
/-- a dict that is spread, read into an empty one, item by item -/
theorem wpAny_mergeMapping {d o : Addr} {more : List (K × Value)} {Q : Unit → Shared → Prop} (hdo : d ≠ o) (hoS : (o == sysModules) = false)
    (hd : s.heap.DictOf knd d []) (ho : s.heap.DictOf knd o more) (hsz : more.length ≤ 1000)
    (hQ : ∀ h', h'.DictOf knd d more → Heap.SameBut d s.heap h' → Q () { s with heap := h' }) :
    wpAny (model prog w) A (mergeMapping d (.ref o) true) Q E s := by
  obtain ⟨od, esd, epd, hod, hcd, hdd, hkd, hpd, hnd⟩ := id hd
  obtain ⟨oo, eso, epo, hoo, hco, hdo', hko, hpo, hno⟩ := id ho
  have hlen : more.length = eso.size := by rw [← hpo.length]; simp
  unfold mergeMapping
  refine wpAny_bind (wpAny_isInstance ho.typeIs isSubtype_dict_dict ?_)
  simp only [if_true]
  refine wpAny_bind (wpAny_specialOf ho.typeIs F.slot_dict_iter.lookup ?_)
  refine wpAny_bind (wpAny_pure ?_)
  simp only [beq_self_eq_true]
  rw [if_neg (by rw [hoS]; exact Bool.false_ne_true)]
  refine wpAny_bind (wpAny_dictEntries hod hdd ?_)
  have hemp : esd.isEmpty = true := by
    have := hpd.length
    obtain ⟨l⟩ := esd
    simpa using this
  rw [if_pos hemp]
  refine wpAny_bind (wpAny_dictEntries hoo hdo' ?_)
  have hloop : ∀ {f : DictEntry → PUnit → Sem (ForInStep PUnit)}, (∀ e ∈ eso, f e PUnit.unit = pure (ForInStep.yield PUnit.unit)) → forIn eso PUnit.unit f = pure PUnit.unit := by
    intro f hf
    rw [← Array.forIn_toList]
    exact forIn_yield_id _ fun e he c => hf e (Array.mem_toList_iff.mp he)
  refine wpAny_bind (wpAny_of_eq (hloop fun e he => ?_) ?_)
  · obtain ⟨k, hkey, _⟩ := hko e he
    have hb := knd.byValue k _ hkey
    cases hq : e.key <;> first | rfl | (rw [hq] at hb; exact absurd hb Bool.false_ne_true)
  refine wpAny_bind (wpAny_dictEntries hoo hdo' (wpAny_bind (wpAny_dictEpoch hoo hdo' (wpAny_bind ?_))))
  refine wpAny_forIn_list _
      (fun rest _ s' => ∃ h' i, s' = { s with heap := h' } ∧ rest = List.range' i (eso.size - i) ∧ i ≤ eso.size ∧ h'.DictOf knd d (more.take i) ∧ h'.get? o = some oo ∧ Heap.SameBut d s.heap h')
      _ ?_ ?_ _ _ ⟨s.heap, 0, rfl, by rw [List.range_eq_range', Nat.sub_zero], Nat.zero_le _, by simpa using hd, hoo, Heap.SameBut.refl _ _⟩
  · rintro x rest b s' ⟨h', i, rfl, hr, hi, hd', hoo', hs'⟩
    have hlt : i < eso.size := by
      rcases Nat.lt_or_ge i eso.size with h | h
      · exact h
      · rw [Nat.sub_eq_zero_of_le h] at hr; simp at hr
    obtain ⟨rfl, hrest⟩ : x = i ∧ rest = List.range' (i + 1) (eso.size - (i + 1)) := by
      have e : eso.size - i = (eso.size - (i + 1)) + 1 := by omega
      rw [e, List.range'_succ] at hr
      injection hr with h1 h2
      exact ⟨h1, h2⟩
    refine wpAny_bind (wpAny_dictEntries hoo' hdo' ?_)
    rw [Array.getElem?_eq_getElem hlt]
    obtain ⟨kv, hkv⟩ : ∃ kv, more[x]? = some kv := ⟨more[x]'(by rw [hlen]; exact hlt), List.getElem?_eq_getElem _⟩
    obtain ⟨k, v⟩ := kv
    obtain ⟨hkey, hval⟩ := hpo.get? (e := eso[x]) (by simp [hlt]) hkv
    obtain ⟨k', hkey', hhash⟩ := hko eso[x] (Array.getElem_mem hlt)
    obtain rfl : k' = k := knd.inj _ _ _ hkey' hkey
    dsimp only
    rw [hhash, hval]
    have hnot : k' ∉ (more.take x).map (·.1) := by
      intro hm
      obtain ⟨q, hq, e⟩ := List.mem_map.mp hm
      obtain ⟨j, hj, hjq⟩ := List.getElem_of_mem hq
      have hjx : j < x := by rw [List.length_take] at hj; omega
      have hjq' : more[j]? = some q := by rw [← hjq, List.getElem_take, List.getElem?_eq_getElem]
      have hn' := List.pairwise_iff_getElem.mp hno
      have hjl : j < more.length := by omega
      have hxl : x < more.length := by omega
      have := hn' j x (by rw [List.length_map]; exact hjl) (by rw [List.length_map]; exact hxl) hjx
      rw [List.getElem_map, List.getElem_map] at this
      rw [List.getElem?_eq_getElem hjl] at hjq'
      rw [List.getElem?_eq_getElem hxl] at hkv
      rw [Option.some.inj hjq', Option.some.inj hkv] at this
      exact this e
    refine wpAny_bind (wpAny_holding (wpAny_dictPut_new hkey hd' hnot (by rw [List.length_take]; omega) fun h'' hd'' hs'' => ?_))
    have hoo'' : h''.get? o = some oo := (hs''.2 o (Ne.symm hdo)).trans hoo'
    refine wpAny_bind (wpAny_dictEpoch hoo'' hdo' ?_)
    rw [if_neg (by simp)]
    refine wpAny_pure ⟨h'', x + 1, rfl, hrest, hlt, ?_, hoo'', hs'.trans hs''⟩
    have : more.take (x + 1) = more.take x ++ [(k', v)] := by
      rw [List.take_add_one, hkv]; rfl
    rw [this]; exact hd''
  · rintro b s' ⟨h', i, rfl, hr, hi, hd', hoo', hs'⟩
    have hin : i = eso.size := by
      rcases Nat.lt_or_ge i eso.size with h | h
      · have e : eso.size - i = (eso.size - (i + 1)) + 1 := by omega
        rw [e, List.range'_succ] at hr; exact nomatch hr
      · exact Nat.le_antisymm hi h
    refine wpAny_pure (hQ h' ?_ hs')
    rw [hin, ← hlen, List.take_length] at hd'; exact hd'
end
section
variable {prog : Program} {w : World} {A : Around} {E : Value → Shared → Prop} {s : Shared}
theorem forIn_kw {f : DictEntry → List (Str × Value) → Sem (ForInStep (List (Str × Value)))} (hf : ∀ hs x t v kw, f ⟨hs, .str x t, v⟩ kw = pure (.yield (kw ++ [(x, v)]))) :
    ∀ (es : List DictEntry) (kvs : List (Str × Value)) (kw : List (Str × Value)), Pairs (strKind prog w) es kvs → forIn es kw f = pure (kw ++ kvs)
  | [], kvs, kw, h => by
    have : kvs = [] := List.length_eq_zero_iff.mp (by rw [← h.length]; rfl)
    subst this
    rw [List.forIn_nil, List.append_nil]
  | e :: r, kvs, kw, h => by
    cases h with
    | cons hk hv hr =>
      rename_i kv kvs
      obtain ⟨hh, key, val⟩ := e
      obtain ⟨k, v⟩ := kv
      have hk' : key.isStrOf k = true := hk
      cases key with
      | str x t =>
        have hx : x = k := by simpa [Value.isStrOf] using hk'
        subst hx
        rw [List.forIn_cons, hf]
        show forIn r _ f = _
        rw [forIn_kw hf r kvs _ hr, List.append_assoc]
        have hv' : val = v := hv
        rw [hv']; rfl
      | _ => exact absurd hk' (by simp [Value.isStrOf])
theorem wpAny_keywordsIn {f : Value} {d : Addr} {kvs : List (Str × Value)} {Q : List (Str × Value) → Shared → Prop} (hd : s.heap.DictOf (strKind prog w) d kvs) (h : Q kvs s) : wpAny (model prog w) A (keywordsIn f d) Q E s := by
  obtain ⟨o, es, ep, ho, hc, hdat, hk, hp, hn⟩ := hd
  unfold keywordsIn
  refine wpAny_bind (wpAny_dictEntries ho hdat ?_)
  refine wpAny_bind ?_
  rw [← Array.forIn_toList]
  refine wpAny_of_eq (forIn_kw (prog := prog) (w := w) (fun hs x t v kw => rfl) es.toList kvs [] hp) ?_
  rw [List.nil_append]
  exact wpAny_pure h
/-- the arguments of `f(**d)` -/
theorem args_spread {f : Value} {x : Sem Value} {pos : Pos} {Q : Args → Shared → Prop}
    (h : wpAny (model prog w) A x (fun v s₁ => ∃ o kvs, v = .ref o ∧ s.heap.objs.size ≠ o ∧ (o == sysModules) = false ∧ s₁.heap.DictOf (strKind prog w) o kvs ∧ s₁.heap.DictOf (strKind prog w) s.heap.objs.size [] ∧ kvs.length ≤ 1000 ∧
      ∀ h', Heap.SameBut s.heap.objs.size s₁.heap h' → Q ⟨[], kvs⟩ { s₁ with heap := h' }) E { s with heap := s.heap.push { cls := .type "dict", data := .dict #[] } }) :
    wpAny (model prog w) A (evalArgs f true [] [(none, (do let v ← x; standAt pos; pure v))]) Q E s := by
  unfold evalArgs
  show wpAny (model prog w) A (spliced [] >>= _) Q E s
  refine wpAny_bind (Calls.spliced_nil ?_)
  refine wpAny_bind (wpAny_pure ?_)
  refine wpAny_holding ?_
  rw [if_neg (by simp)]
  refine wpAny_bind ?_
  unfold mergedKeywords
  refine wpAny_bind (wpAny_alloc ?_)
  refine wpAny_bind (wpAny_holding ?_)
  show wpAny _ _ (forIn [((none : Option Str), (do let v ← x; standAt pos; pure v))] ([] : List (Str × Sem Value)) _ >>= _) _ _ _
  refine wpAny_bind ?_
  rw [List.forIn_cons]
  refine wpAny_bind (wpAny_bind (wpAny_pure ?_))
  refine wpAny_bind (wpAny_bind (wpAny_mono h (fun v s₁ h₁ => wpAny_bind (wpAny_standAt (wpAny_pure ?_))) fun _ _ e => e))
  obtain ⟨o, kvs, rfl, hne, hoS, ho, hd, hz, q⟩ := h₁
  refine wpAny_bind (wpAny_onRaise (wpAny_holding (wpAny_tryCatch (wpAny_onRaise (wpAny_mergeMapping hne hoS hd ho hz fun h' hd' hs' => ?_)))))
  refine wpAny_pure ?_
  dsimp only
  rw [List.forIn_nil]
  refine wpAny_pure (wpAny_pure (wpAny_pure ?_))
  refine wpAny_bind (wpAny_pure ?_)
  refine wpAny_bind (wpAny_holding (wpAny_keywordsIn hd' ?_))
  exact wpAny_pure (q h' hs')
theorem call_spread {K : Frag} {f : Value} {x : Sem Value} {pos : Pos} {Q : Value → Shared → Prop} (hk : keepIn K f = true)
    (h : wpAny (model prog w) A x (fun v s₁ => ∃ o kvs, v = .ref o ∧ s.heap.objs.size ≠ o ∧ (o == sysModules) = false ∧ s₁.heap.DictOf (strKind prog w) o kvs ∧ s₁.heap.DictOf (strKind prog w) s.heap.objs.size [] ∧ kvs.length ≤ 1000 ∧
      ∀ h', Heap.SameBut s.heap.objs.size s₁.heap h' → K.In h' ∧ wpAny (model prog w) A (call f [] kvs) Q E { s₁ with heap := h' }) E { s with heap := s.heap.push { cls := .type "dict", data := .dict #[] } }) :
    wpAny (model prog w) A (callWith pos f [] [] [(none, (do let v ← x; standAt pos; pure v))]) Q E s := by
  unfold callWith
  refine wpAny_bind (wpAny_holding (args_spread (wpAny_mono h (fun v s₁ h₁ => ?_) fun _ _ e => e)))
  obtain ⟨o, kvs, rfl, hne, hoS, ho, hd, hz, q⟩ := h₁
  refine ⟨o, kvs, rfl, hne, hoS, ho, hd, hz, fun h' hs' => ?_⟩
  obtain ⟨X, q⟩ := q h' hs'
  refine wpAny_bind (wpAny_standAt ?_)
  obtain ⟨k, hk', L⟩ := keeps_K (M := model prog w) hk h' X
  show wpAny _ _ (keeperOf f >>= _) _ _ _
  refine wpAny_bind (Looks.here (s := { s₁ with heap := h' }) L ?_)
  have tail : ∀ {t : Sem Value}, wpAny (model prog w) A t Q E { s₁ with heap := h' } → wpAny (model prog w) A (t >>= fun r => holding [r] point >>= fun _ => pure r) Q E { s₁ with heap := h' } :=
    fun ht => wpAny_bind (wpAny_mono ht (fun r s₂ hr => wpAny_bind (wpAny_holding (wpAny_point (wpAny_pure hr)))) fun _ _ x => x)
  have marked (mk : Value) : wpAny (model prog w) A (callMarked mk f ([] ++ []) kvs) Q E { s₁ with heap := h' } := by unfold callMarked; exact Calls.wpAny_keep q
  rcases hk' with rfl | rfl | rfl <;> first | exact tail (marked _) | exact tail (wpAny_operating q)
/-- `f(**d)`, d a name of the frame that holds a dict of the ledger -/
theorem call_spread_led {K : Frag} {f : Value} {env : Env} {h₀ : Heap} {L o : Addr} {ob : Obj} {m : Str → Option Value} {news : List (Addr × Obj)} {kvs : List (Str × Value)} {y : Str} {p pos : Pos} {kw : List Keyword} {Q : Value → Shared → Prop}
    (hkw : backToKw pos (keywordEach kw env) = [(none, (do let v ← eval (.Name y p) env; standAt pos; pure v))]) (hk : keepIn K f = true) (X : K.In h₀)
    (F : Fr h₀ env.locals s.heap m) (N : News h₀ env.locals s.heap news) (hm : (o, ob) ∈ news) (hy : m y = some (.ref o)) (hky : env.kindOf y = some .local) (hd : (y == ("__debug__" : Str)) = false) (hf : env.scope.kind = .function)
    (lo : (o == sysModules) = false) (D : ob.IsDictOf (strKind prog w) kvs) (hz : kvs.length ≤ 1000)
    (h : ∀ h', Fr h₀ env.locals h' m → News h₀ env.locals h' news → wpAny (model prog w) A (call f [] kvs) Q E { s with heap := h' }) :
    wpAny (model prog w) A (callWith pos f [] (backTo pos (starEach [] env)) (backToKw pos (keywordEach kw env))) Q E s := by
  rw [hkw]
  refine call_spread hk ?_
  have up : ∀ b x, s.heap.get? b = some x → (s.heap.push { cls := .type "dict", data := .dict #[] }).get? b = some x := fun b x e => Heap.get?_push_of_some _ e
  have hlt : o < s.heap.objs.size := Heap.lt_size (N _ hm).1
  refine wpAny_Name (wpAny_loadName_local hf hky (F.push _).ns hy ?_) hd
  refine ⟨o, kvs, rfl, Nat.ne_of_gt hlt, lo, (kda_dict N hm D).push _, Heap.DictOf.new _, hz, fun h' hs' => ?_⟩
  have F' : Fr h₀ env.locals h' m := F.filled hs'
  exact ⟨X.keeps F'.keep, h h' F' fun p hp => ⟨(hs'.2 _ (Nat.ne_of_lt (Heap.lt_size (N p hp).1))).trans (up _ _ (N p hp).1), (N p hp).2⟩⟩
end
end Mine
end
section
example : True := by (w_top off); trivial
open PySem PySem.W PyProof.Rows PySem.Calls
set_option Elab.async false
namespace Mine
inductive All2 {α β : Type} (R : α → β → Prop) : List α → List β → Prop
  | nil : All2 R [] []
  | cons {a : α} {b : β} {l : List α} {r : List β} : R a b → All2 R l r → All2 R (a :: l) (b :: r)
/-- a dict's entries, told as names and ints -/
abbrev KI : List (Str × Value) → List (Str × Int) → Prop := All2 fun p q => p.1 = q.1 ∧ ∃ t, p.2 = .int q.2 t
theorem KI.keys : ∀ {kvs : List (Str × Value)} {es : List (Str × Int)}, KI kvs es → kvs.map (·.1) = es.map (·.1)
  | _, _, .nil => rfl
  | _, _, .cons h r => by rw [List.map_cons, List.map_cons, h.1, KI.keys r]
theorem KI.length {kvs : List (Str × Value)} {es : List (Str × Int)} (h : KI kvs es) : kvs.length = es.length := by
  have := congrArg List.length h.keys
  simpa using this
theorem KI.lookup (n : Str) : ∀ {kvs : List (Str × Value)} {es : List (Str × Int)}, KI kvs es → ∃ t, (kvs.lookup n).getD .none = optV (es.lookup n) t
  | _, _, .nil => ⟨0, rfl⟩
  | _, _, .cons (a := p) (b := q) h r => by
    obtain ⟨e, t, hv⟩ := h
    obtain ⟨pn, pv⟩ := p
    obtain ⟨qn, qv⟩ := q
    cases e
    cases hv
    by_cases hn : n = pn
    · subst hn
      exact ⟨t, by simp [List.lookup_cons]⟩
    · obtain ⟨t, e⟩ := KI.lookup n r
      exact ⟨t, by simpa [List.lookup_cons, beq_false_of_ne hn] using e⟩
/-- the answer is an interval made of these fields -/
abbrev ReadsTo (w : World) (a : Iv) (v : Value) (new : List (Addr × Obj)) : Prop := ∃ x dx, ∃ k t : Nat → Tok, v = .ref x ∧ new = ivAt w x dx k t a
def ivOf (es : List (Str × Int)) : Iv where
  ml := es.lookup (Str.ofString "millennia")
  ce := es.lookup (Str.ofString "centuries")
  de := es.lookup (Str.ofString "decades")
  y := es.lookup (Str.ofString "years")
  mo := es.lookup (Str.ofString "months")
  wk := es.lookup (Str.ofString "weeks")
  d := es.lookup (Str.ofString "days")
  h := es.lookup (Str.ofString "hours")
  mi := es.lookup (Str.ofString "minutes")
  s := es.lookup (Str.ofString "seconds")
  us := es.lookup (Str.ofString "microseconds")
theorem make_kw (w : World) (kvs : List (Str × Value)) (es : List (Str × Int)) (hI : KI kvs es) (hk : ∀ p ∈ es, p.1 ∈ kwNames) (hn : (kvs.map (·.1)).Nodup) :
  Meets w 5 (.ref 108) [] kvs [] fun v new => ∃ x dx, ∃ k t : Nat → Tok, v = .ref x ∧ new = ivAt w x dx k t (ivOf es) := by
  have hk' : ∀ p ∈ kvs, p.1 ∈ kwNames := by
    intro p hp
    have : p.1 ∈ es.map (·.1) := hI.keys ▸ List.mem_map_of_mem hp
    obtain ⟨q, hq, e⟩ := List.mem_map.mp this
    exact e ▸ hk q hq
  have M := make_spec w [] kvs _ _ _ _ _ _ _ _ _ _ _ (ib_kw w kvs hk' hn)
  obtain ⟨t0, e0⟩ := hI.lookup (Str.ofString "millennia")
  obtain ⟨t1, e1⟩ := hI.lookup (Str.ofString "centuries")
  obtain ⟨t2, e2⟩ := hI.lookup (Str.ofString "decades")
  obtain ⟨t3, e3⟩ := hI.lookup (Str.ofString "years")
  obtain ⟨t4, e4⟩ := hI.lookup (Str.ofString "months")
  obtain ⟨t5, e5⟩ := hI.lookup (Str.ofString "weeks")
  obtain ⟨t6, e6⟩ := hI.lookup (Str.ofString "days")
  obtain ⟨t7, e7⟩ := hI.lookup (Str.ofString "hours")
  obtain ⟨t8, e8⟩ := hI.lookup (Str.ofString "minutes")
  obtain ⟨t9, e9⟩ := hI.lookup (Str.ofString "seconds")
  obtain ⟨t10, e10⟩ := hI.lookup (Str.ofString "microseconds")
  rw [e0, e1, e2, e3, e4, e5, e6, e7, e8, e9, e10] at M
  unfold Meets at M ⊢
  intro loose mean mg mb dp un gd cn sn sg sc sm a ccd cl outer A₀ base h₀ L m s Q E news B F X N ha T hd hu ret
  refine M loose mean mg mb dp un gd cn sn sg sc sm a ccd cl outer A₀ base h₀ L m s Q E news B F X N ha T hd hu fun v new h' tk' hP F' N' hne => ?_
  obtain ⟨x, dx, k, rfl, rfl⟩ := hP
  exact ret _ _ h' tk' ⟨x, dx, k, (fun i => ([t0, t1, t2, t3, t4, t5, t6, t7, t8, t9, t10] : List Tok).getD i 0), rfl, rfl⟩ F' N' hne
theorem keep108 (w : World) : keepIn (lawTop.heap_39 w.params) (.ref 108) = true := by
  exact rfl
/-- `cls(**d)`, d a name of the frame that holds a dict of the ledger -/
theorem spread_iv {w : World} {kvs : List (Str × Value)} {es : List (Str × Int)} {loose : List Str} {mean : ExcName → Option Value} {mg mb : Str → Option Value} {dp un : Nat} {gd : Option (List Code)} {cn : Str} {sn : List (Str × NameKind)} {sg sc : Bool} {sm : List (Str × Const)}
    {a : Addr} {ccd : Value} {cl : List (Str × Addr)} {outer : List Env} {A₀ : Around} {base h₀ : Heap} {m : Str → Option Value} {s : Shared} {Q E : Value → Shared → Prop} {news : List (Addr × Obj)}
    {env : Env} {L o : Addr} {ob : Obj} {y : Str} {p pos : Pos} {kw : List Keyword}
    (hL : env.locals = L) (hI : KI kvs es) (hk : ∀ p ∈ es, p.1 ∈ kwNames) (hz : es.length ≤ 1000)
    (B : Below A₀ base outer h₀) (F : Fr h₀ L s.heap m) (X : (lawTop.heap_39 w.params).In h₀) (N : News h₀ L s.heap news) (T : Top lawTop.view_39 loose mean mg mb h₀)
    (hd : dp + 5 < recursionLimit) (hu : un + 20 * 5 < cLine)
    (hkw : backToKw pos (keywordEach kw env) = [(none, (do let v ← eval (.Name y p) env; standAt pos; pure v))])
    (hm : (o, ob) ∈ news) (hy : m y = some (.ref o)) (hky : env.kindOf y = some .local) (hdb : (y == ("__debug__" : Str)) = false) (hf : env.scope.kind = .function)
    (lo : (o == sysModules) = false) (D : ob.IsDictOf (strKind pg w) kvs)
    (r : ∀ x dx k t h' tk', Fr h₀ L h' m → News h₀ L h' (ivAt w x dx k t (ivOf es) ++ news) → (∀ q ∈ ivAt w x dx k t (ivOf es), ∀ p ∈ news, @Ne Nat p.1 q.1) → Q (.ref x) { s with heap := h', toks := tk' }) :
    wpAny (model pg w) (ktrTop dp un gd cn ⟨.function, sn, sg, sc, sm⟩ L a ccd cl outer) (callWith pos (.ref 108) [] (backTo pos (starEach [] env)) (backToKw pos (keywordEach kw env))) Q E s := by
  subst hL
  have hn : (kvs.map (·.1)).Nodup := by obtain ⟨_, _, _, _, _, _, hn⟩ := D; exact hn
  refine call_spread_led (L := env.locals) hkw (keep108 w) X F N hm hy hky hdb hf lo D (by rw [hI.length]; exact hz) fun h' F' N' => ?_
  refine Meets.use (make_kw w kvs es hI hk hn) B (s := { s with heap := h' }) F' X N' (fun _ h => nomatch h) T hd hu fun v new h'' tk' hP F'' N'' hne => ?_
  obtain ⟨x, dx, k, t, rfl, rfl⟩ := hP
  exact r x dx k t h'' tk' F'' N'' hne
/-- an entry put under its name -/
def putI (es : List (Str × Int)) (k : Str) (v : Int) : List (Str × Int) :=
  if es.any (fun p => decide (p.1 = k)) then es.map fun p => if p.1 = k then (p.1, v) else p else es ++ [(k, v)]
theorem All2.append {α β : Type} {R : α → β → Prop} {a : α} {b : β} : ∀ {l : List α} {r : List β}, All2 R l r → R a b → All2 R (l ++ [a]) (r ++ [b])
  | _, _, .nil, h => .cons h .nil
  | _, _, .cons h r, h' => .cons h (All2.append r h')
theorem KI.any (k : Str) : ∀ {kvs : List (Str × Value)} {es : List (Str × Int)}, KI kvs es → kvs.any (fun p => decide (p.1 = k)) = es.any (fun p => decide (p.1 = k))
  | _, _, .nil => rfl
  | _, _, .cons h r => by rw [List.any_cons, List.any_cons, h.1, KI.any k r]
theorem KI.map (k : Str) (v : Int) (t : Tok) : ∀ {kvs : List (Str × Value)} {es : List (Str × Int)}, KI kvs es → KI (kvs.map fun p => if p.1 = k then (p.1, .int v t) else p) (es.map fun p => if p.1 = k then (p.1, v) else p)
  | _, _, .nil => .nil
  | _, _, .cons (a := p) (b := q) h r => by
    refine .cons ?_ (KI.map k v t r)
    dsimp only
    by_cases e : p.1 = k
    · rw [if_pos e, if_pos (h.1 ▸ e)]; exact ⟨h.1, t, rfl⟩
    · rw [if_neg e, if_neg (h.1 ▸ e)]; exact h
theorem KI.put {kvs : List (Str × Value)} {es : List (Str × Int)} {k : Str} {v : Int} {t : Tok} (h : KI kvs es) : KI (stored kvs k (.int v t)) (putI es k v) := by
  unfold stored putI
  rw [KI.any k h]
  split
  · exact KI.map k v t h
  · exact h.append ⟨rfl, t, rfl⟩
theorem putI_mem {es : List (Str × Int)} {k : Str} {v : Int} (h : ∀ p ∈ es, p.1 ∈ kwNames) (hk : k ∈ kwNames) : ∀ p ∈ putI es k v, p.1 ∈ kwNames := by
  unfold putI
  split
  · intro p hp
    obtain ⟨q, hq, rfl⟩ := List.mem_map.mp hp
    split
    · exact h q hq
    · exact h q hq
  · intro p hp
    rcases List.mem_append.mp hp with hp | hp
    · exact h p hp
    · rw [List.mem_singleton.mp hp]; exact hk
theorem putI_len (es : List (Str × Int)) (k : Str) (v : Int) : (putI es k v).length ≤ es.length + 1 := by
  unfold putI
  split
  · simp
  · simp
theorem lookup_append_new {es : List (Str × Int)} {k : Str} {v : Int} (n : Str) (h : es.any (fun p => decide (p.1 = k)) = false) : (es ++ [(k, v)]).lookup n = if n = k then some v else es.lookup n := by
  induction es with
  | nil =>
    by_cases e : n = k
    · subst e; simp
    · simp [List.lookup_cons, beq_false_of_ne e, e]
  | cons p r ih =>
    obtain ⟨pn, pv⟩ := p
    rw [List.any_cons, Bool.or_eq_false_iff] at h
    have hne : pn ≠ k := of_decide_eq_false h.1
    rw [List.cons_append, List.lookup_cons, List.lookup_cons, ih h.2]
    by_cases e : n = pn
    · subst e; simp [hne]
    · simp [beq_false_of_ne e]
theorem lookup_map_put (es : List (Str × Int)) (k : Str) (v : Int) (n : Str) (h : es.any (fun p => decide (p.1 = k)) = true) : (es.map fun p => if p.1 = k then (p.1, v) else p).lookup n = if n = k then some v else es.lookup n := by
  induction es with
  | nil => simp at h
  | cons p r ih =>
    obtain ⟨pn, pv⟩ := p
    rw [List.map_cons]
    by_cases e : pn = k
    · subst e
      rw [if_pos rfl]
      by_cases hn : n = pn
      · subst hn; simp
      · rw [List.lookup_cons, List.lookup_cons, beq_false_of_ne hn, if_neg hn]
        dsimp only
        clear ih h
        induction r with
        | nil => rfl
        | cons q r ih =>
          obtain ⟨qn, qv⟩ := q
          rw [List.map_cons, List.lookup_cons]
          by_cases e2 : qn = pn
          · subst e2; rw [if_pos rfl, List.lookup_cons, beq_false_of_ne hn]; exact ih
          · rw [if_neg e2, List.lookup_cons, ih]
    · rw [if_neg e]
      rw [List.any_cons, decide_eq_false e, Bool.false_or] at h
      rw [List.lookup_cons, List.lookup_cons, ih h]
      by_cases hn : n = pn
      · subst hn; simp [e]
      · rw [beq_false_of_ne hn]
theorem lookup_putI (es : List (Str × Int)) (k : Str) (v : Int) (n : Str) : (putI es k v).lookup n = if n = k then some v else es.lookup n := by
  unfold putI
  split
  · exact lookup_map_put es k v n ‹_›
  · exact lookup_append_new n ((Bool.not_eq_true _).mp ‹_›)
end Mine
end
section
example : True := by (w_top off); trivial
open PySem PySem.W PyProof.Rows PySem.Calls
set_option Elab.async false
namespace Mine
section
variable {prog : Program} {w : World} {A : Around} {E : Value → Shared → Prop} {R : Result → Shared → Prop} {s : Shared}
theorem codeC.func {body : List Stmt} {env : Env}
    (h : wpC (model prog w) (A.deeper env) (execs body env) (fun f s' => R (.ok (.ret (match f with | .ret v => v | _ => .none))) s') (fun e s' => wpAny (model prog w) (A.deeper env) (leaving env e) (fun _ s'' => R (.error e) s'') (fun e' s'' => R (.error e') s'') s') s) :
    codeC (model prog w) A (.func body env) R s := by
  refine codeC.tree ?_
  show wpC _ (A.deeper env) (do point; match ← (execs body env).onRaise (leaving env) with | .ret v => ret v | _ => ret .none) _ _ s
  refine wpC.step (wpAny_point (wpC.bind (wpC.onRaise (wpC.mono h (fun f s' h' => ?_) fun _ _ e => e))))
  cases f <;> exact wpC.pure h'
theorem codeC.call_function {a : Addr} {args : Args} {o : Obj} {fd : FuncData} {body : List Stmt} (hroom : A.depth < recursionLimit) (ho : s.heap.get? a = some o)
    (hd' : o.data = .func fd) (hco : fd.scope.isCoroutine = false) (hgen : fd.scope.isGenerator = false) (hbody : fd.body = .stmts body) (hcd : s.heap.CodeRec fd.code fd.qualname)
    (h : wpAny (model prog w) A.in1 (bindArgs fd args) (fun binds s₁ =>
      wpAny (model prog w) A.in1 (newFunctionEnv fd.scope fd.globals fd.closure binds (fd.qualname ++ ".<locals>.") (some a) fd.code none fd.builtins)
        (fun env s₂ => s₂.heap.NoLimit ∧ codeC (model prog w) A (.func body env) R s₂) (fun e s' => R (.error e) s') s₁) (fun e s' => R (.error e) s') s) :
    codeC (model prog w) A (.call (.ref a) args) R s := by
  refine codeC.tree ?_
  show wpC _ A.in1 (callAny (.ref a) args) _ _ s
  simp only [callAny]
  refine wpC.step (wpAny_load ho ?_)
  obtain ⟨c, oc, vs, tq, hc, hoc, hdc, hq⟩ := hcd
  simp only [hd', callFunction, hco, hgen, hbody, hc]
  rw [hc] at h
  refine wpC.step (m := field (.ref c) 1) (wpAny_field hoc hdc hq (wpC.step (wpAny_pure ?_)))
  exact wpC.step (wpAny_mono h (fun binds s₁ h₁ => wpC.step (wpAny_mono h₁ (fun env s₂ h₂ => wpC.step (wpAny_enterFrame h₂.1 hroom (wpC.pure ⟨rfl, h₂.2⟩))) fun _ _ e => e)) fun _ _ e => e)
theorem codeC.call_def {a : Addr} {o : Obj} {fd : FuncData} {body : List Stmt} {args : Args} {binds : List (Str × Value)}
    (hroom : A.depth < recursionLimit) (ho : s.heap.get? a = some o) (hdata : o.data = .func fd) (hlim : s.heap.NoLimit) (hcd : s.heap.CodeRec fd.code fd.qualname)
    (hbody : fd.body = .stmts body) (hbind : BindsTo s fd args binds) (hcell : ∀ x ∈ fd.scope.names, x.2 ≠ .cell) (hloc : ∀ x ∈ binds, fd.scope.names.lookup x.1 = some .local)
    (h : ∀ h₀, h₀.Ns s.heap.objs.size (fun x => binds.reverse.lookup x) → (∀ b o, s.heap.get? b = some o → h₀.get? b = some o) →
      wpC (model prog w) (A.deeper (callEnv fd s.heap.objs.size a)) (execs body (callEnv fd s.heap.objs.size a)) (fun f s' => R (.ok (.ret (match f with | .ret v => v | _ => .none))) s')
        (fun e s' => wpAny (model prog w) (A.deeper (callEnv fd s.heap.objs.size a)) (leaving (callEnv fd s.heap.objs.size a) e) (fun _ s'' => R (.error e) s'') (fun e' s'' => R (.error e') s'') s')
        { s with heap := h₀, toks := s.toks + binds.length })
    (hco : fd.scope.isCoroutine = false) (hgen : fd.scope.isGenerator = false) (hk : fd.scope.kind = .function) : codeC (model prog w) A (.call (.ref a) args) R s := by
  refine codeC.call_function hroom ho hdata hco hgen hbody hcd (hbind _ _ _ _ ?_)
  refine wpAny_newFunctionEnv hcell hloc (fun h₀ hns₀ hsb₀ => ⟨hlim.fresh _ hsb₀, codeC.func (h h₀ hns₀ fun b o e => ?_)⟩) hk
  exact hsb₀.extBut b o (Nat.ne_of_lt (Heap.lt_size e)) (Heap.get?_push_of_some _ e)
theorem codeC.method {p : Addr} {f self : Value} {pos : List Value} {kw : List (Str × Value)} (ho : s.heap.get? p = some (methodObj f self))
    (h : codeC (model prog w) A (.call f ⟨self :: pos, kw⟩) R s) : codeC (model prog w) A (.call (.ref p) ⟨pos, kw⟩) R s := by
  obtain ⟨hh, g, dr, t, os⟩ := s
  refine codeC.tree ?_
  show wpC _ _ (callAny (.ref p) _) _ _ _
  dsimp only at ho
  simp only [callAny]
  refine wpC.step (wpAny_load ho ?_)
  cases f <;> exact wpC.pure ⟨rfl, h⟩
/-- a call whose callee is a def or a class, or a bound method -/
theorem wpC.callWith {f : Value} {first : List Value} {pos : Pos} {Q : Value → Shared → Prop} {P : Heap → Prop} {args : List (Bool × Sem Value)} {keywords : List (Option Str × Sem Value)} (hplain : (args.any (·.1) || keywords.any (·.1.isNone)) = false)
    (hk : ∀ h, P h → ∃ k, (k = Keeper.frame ∨ k = Keeper.machine ∨ k = Keeper.boundFrame) ∧ Looks (model prog w) h (keeperOf f) k)
    (h : wpAny (model prog w) A (evalArgs f true args keywords) (fun a s₁ => P s₁.heap ∧ wpC (model prog w) A (PySem.call f (first ++ a.pos) a.kw) Q E s₁) E s) : wpC (model prog w) A (PySem.callWith pos f first args keywords) Q E s := by
  unfold PySem.callWith
  refine wpC.step (wpAny_holding (wpAny_mono h (fun a s₁ h₁ => wpC.at ?_) fun _ _ x => x))
  obtain ⟨k, hk', L⟩ := hk _ h₁.1
  simp only [hplain]
  refine wpC.step (L.here ?_)
  have tail : ∀ {t : Sem Value}, wpC (model prog w) A t Q E s₁ → wpC (model prog w) A (t >>= fun r => PySem.holding [r] PySem.point >>= fun _ => Pure.pure r) Q E s₁ :=
    fun ht => wpC.bind (wpC.mono ht (fun r s₂ hr => wpC.step (wpAny_holding (wpAny_point (wpC.pure hr)))) fun _ _ x => x)
  have marked (mk : Value) : wpC (model prog w) A (callMarked mk f (first ++ a.pos) a.kw) Q E s₁ := by
    unfold callMarked; exact wpC.keep h₁.2
  rcases hk' with rfl | rfl | rfl <;> dsimp only <;> first | exact tail h₁.2 | (split <;> first | exact tail h₁.2 | exact tail (marked _))
theorem wpC.methodCall {env : Env} {o : Expr} {name : Str} {apos pos : Pos} {args : List Expr} {kws : List Keyword} {pl : Sem Bool} {Q : Value → Shared → Prop}
    (h : wpAny (model prog w) A (eval o env) (fun ov s₁ => wpAny (model prog w) A (getMethod ov name pl) (fun fx s₂ => wpC (model prog w) A (PySem.callWith pos fx.1 fx.2 (backTo pos (starEach args env)) (backToKw pos (keywordEach kws env))) Q E s₂) E s₁) E s)
    (he : eval (.Call (.Attribute o name apos) args kws pos) env = (do
      let ov ← eval o env
      standAt apos.atName
      let (f, first) ← PySem.holding [ov] (getMethod ov name pl)
      PySem.callWith pos f first (backTo pos (starEach args env)) (backToKw pos (keywordEach kws env))) := by rfl) :
    wpC (model prog w) A (eval (.Call (.Attribute o name apos) args kws pos) env) Q E s := by
  rw [he]
  exact wpC.step (wpAny_mono h (fun ov s₁ h₁ => wpC.at (wpC.step (wpAny_holding (wpAny_mono h₁ (fun fx s₂ h₂ => h₂) fun _ _ x => x)))) fun _ _ x => x)
theorem wpC.nameCall {env : Env} {id : Str} {p pos : Pos} {args : List Expr} {kws : List Keyword} {Q : Value → Shared → Prop}
    (h : wpAny (model prog w) A (eval (.Name id p) env) (fun f s₁ => wpC (model prog w) A (PySem.callWith pos f [] (backTo pos (starEach args env)) (backToKw pos (keywordEach kws env))) Q E s₁) E s) :
    wpC (model prog w) A (eval (.Call (.Name id p) args kws pos) env) Q E s := by
  rw [arm_eval_Call_Name']
  exact wpC.step h
end
end Mine
end
section
example : True := by (w_top off); trivial
open PySem PySem.W PyProof.Rows PySem.Calls
set_option Elab.async false
namespace Mine
/-- the frames' addresses -/
abbrev framesOf (l : List Env) : List Addr := l.filterMap (·.frame)
/-- the ground of a frame whose callers' frames may be turned (an exception was noted in them) -/
structure Ground3 (w : World) (A₀ : Around) (base : Heap) (outer : List Env) (loose : List Str) (mean : ExcName → Option Value) (mg mb : Str → Option Value) (h₀ : Heap) : Prop where
  B : Below A₀ base outer h₀
  X : (lawTop.heap_39 w.params).In h₀
  T : Top lawTop.view_39 loose mean mg mb h₀
  XB : (lawTop.heap_39 w.params).In base
  TB : Top lawTop.view_39 loose mean mg mb base
  D : KtsDicts (framesOf outer) h₀
/-- what a body leaves behind, its ground turned -/
def DoneT (fs : List Addr) (args : List (Addr × Obj)) (P : Value → List (Addr × Obj) → Prop) (g : Heap) (s : Shared) (v : Value) (s' : Shared) : Prop :=
  ∃ g', KtsTurn fs g g' ∧ Done args P g' s v s'
theorem Done.toT {fs : List Addr} {args : List (Addr × Obj)} {P : Value → List (Addr × Obj) → Prop} {g : Heap} {s : Shared} {v : Value} {s' : Shared} (D : Done args P g s v s') : DoneT fs args P g s v s' := ⟨g, .refl, D⟩

/-- as Meets, in the claim's own contexts, and the frames below may be turned -/
def MeetsT (w : World) (d : Nat) (f : Value) (vals : List Value) (kw : List (Str × Value)) (args : List (Addr × Obj)) (P : Value → List (Addr × Obj) → Prop) : Prop :=
  ∀ (loose : List Str) (mean : ExcName → Option Value) (mg mb : Str → Option Value) (dp un : Nat) (gd : Option (List Code)) (cn : Str) (sn : List (Str × NameKind)) (sg sc : Bool) (sm : List (Str × Const))
    (a : Addr) (ccd : Value) (cl : List (Str × Addr)) (outer : List Env) (A₀ : Around) (base h₀ : Heap) (L : Addr) (m : Str → Option Value) (s : Shared) (Q : Value → Shared → Prop) (news : List (Addr × Obj)),
    Ground3 w A₀ base outer loose mean mg mb h₀ → Fr h₀ L s.heap m → News h₀ L s.heap news → (∀ p ∈ args, p ∈ news) →
    dp + d < recursionLimit → un + 20 * d < cLine →
    (∀ v new h' tk' h₀', KtsTurn (framesOf outer) h₀ h₀' → P v new → Ground3 w A₀ base outer loose mean mg mb h₀' → Fr h₀' L h' m → News h₀' L h' (new ++ news) → (∀ q ∈ new, ∀ p ∈ news, @Ne Nat p.1 q.1) → Q v { s with heap := h', toks := tk' }) →
    codeC (model pg w) (ktrTop dp un gd cn ⟨.function, sn, sg, sc, sm⟩ L a ccd cl outer) (.call f ⟨vals, kw⟩) (fun r s' => match r with | .ok (.ret v) => Q v s' | _ => False) s

theorem MeetsT.call {w : World} {d : Nat} {f : Value} {vals : List Value} {kw : List (Str × Value)} {args news : List (Addr × Obj)} {P : Value → List (Addr × Obj) → Prop} (h : MeetsT w d f vals kw args P)
    {loose : List Str} {mean : ExcName → Option Value} {mg mb : Str → Option Value} {dp un : Nat} {gd : Option (List Code)} {cn : Str} {sn : List (Str × NameKind)} {sg sc : Bool} {sm : List (Str × Const)}
    {a : Addr} {ccd : Value} {cl : List (Str × Addr)} {outer : List Env} {A₀ : Around} {base h₀ : Heap} {L : Addr} {m : Str → Option Value} {s : Shared} {Q E : Value → Shared → Prop}
    (G : Ground3 w A₀ base outer loose mean mg mb h₀) (F : Fr h₀ L s.heap m) (N : News h₀ L s.heap news) (ha : ∀ p ∈ args, p ∈ news)
    (hd : dp + d < recursionLimit) (hu : un + 20 * d < cLine)
    (r : ∀ v new h' tk' h₀', KtsTurn (framesOf outer) h₀ h₀' → P v new → Ground3 w A₀ base outer loose mean mg mb h₀' → Fr h₀' L h' m → News h₀' L h' (new ++ news) → (∀ q ∈ new, ∀ p ∈ news, @Ne Nat p.1 q.1) → Q v { s with heap := h', toks := tk' }) :
    wpC (model pg w) (ktrTop dp un gd cn ⟨.function, sn, sg, sc, sm⟩ L a ccd cl outer) (PySem.call f vals kw) Q E s :=
  wpC.call (codeC.mono (h _ _ _ _ _ _ _ _ _ _ _ _ _ _ _ _ _ _ _ _ _ _ _ _ G F N ha hd hu r) fun q s' x => by
    cases q with
    | error e => exact x.elim
    | ok f => cases f <;> first | exact x | exact x.elim)

/-- a contract that turns nothing is one that may -/
theorem Meets.toT {w : World} {d : Nat} {f : Value} {vals : List Value} {kw : List (Str × Value)} {args : List (Addr × Obj)} {P : Value → List (Addr × Obj) → Prop}
    (h : ∀ (loose : List Str) (mean : ExcName → Option Value) (mg mb : Str → Option Value) (dp un : Nat) (gd : Option (List Code)) (cn : Str) (sn : List (Str × NameKind)) (sg sc : Bool) (sm : List (Str × Const))
    (a : Addr) (ccd : Value) (cl : List (Str × Addr)) (outer : List Env) (A₀ : Around) (base h₀ : Heap) (L : Addr) (m : Str → Option Value) (s : Shared) (Q : Value → Shared → Prop) (news : List (Addr × Obj)),
    Below A₀ base outer h₀ → Fr h₀ L s.heap m → (lawTop.heap_39 w.params).In h₀ → News h₀ L s.heap news → (∀ p ∈ args, p ∈ news) → Top lawTop.view_39 loose mean mg mb h₀ →
    dp + d < recursionLimit → un + 20 * d < cLine →
    (∀ v new h' tk', P v new → Fr h₀ L h' m → News h₀ L h' (new ++ news) → (∀ q ∈ new, ∀ p ∈ news, @Ne Nat p.1 q.1) → Q v { s with heap := h', toks := tk' }) →
    codeAny (model pg w) (ktrTop dp un gd cn ⟨.function, sn, sg, sc, sm⟩ L a ccd cl outer) (.call f ⟨vals, kw⟩) (fun r s' => match r with | .ok (.ret v) => Q v s' | _ => False) s) : MeetsT w d f vals kw args P := by
  unfold MeetsT
  intro loose mean mg mb dp un gd cn sn sg sc sm a ccd cl outer A₀ base h₀ L m s Q news G F N ha hd hu r
  exact codeC.any (h _ _ _ _ _ _ _ _ _ _ _ _ _ _ _ _ _ _ _ _ _ _ _ _ G.B F G.X N ha G.T hd hu fun v new h' tk' hp F' N' hn => r v new h' tk' h₀ .refl hp G F' N' hn)

section
variable {w : World} {A₀ A : Around} {s : Shared} {base h₀ : Heap} {outer : List Env} {L : Addr} {m : Str → Option Value} {env : Env} {news args : List (Addr × Obj)}
  {loose : List Str} {mean : ExcName → Option Value} {mg mb : Str → Option Value}
theorem mem_frames {b : Addr} (hf : env.frame = some L) (hm : b ∈ framesOf (env :: outer)) : b = L ∨ b ∈ framesOf outer := by
  obtain ⟨e, he, hb⟩ := List.mem_filterMap.mp hm
  rcases List.mem_cons.mp he with rfl | he
  · rw [hf] at hb; exact .inl (Option.some.inj hb).symm
  · exact .inr (List.mem_filterMap.mpr ⟨e, he, hb⟩)
/-- the ground of a called frame -/
theorem ground_in (G : Ground3 w A₀ base outer loose mean mg mb h₀) (F : Fr h₀ L s.heap m) (N : News h₀ L s.heap news) (ha : ∀ p ∈ args, p ∈ news) (hA : A.frames = some (env :: outer)) (hf : env.frame = some L) (hke : env.scope.kind = .function) :
    Ground3 w A base (env :: outer) loose mean mg mb (hideAll s.heap (args.map (fun x : Addr × Obj => x.1))) := by
  have Na : News h₀ L s.heap args := fun p hp => N p (ha p hp)
  obtain ⟨_, BG, st, _⟩ := groundX (R := fun _ _ => True) G.B F Na hA hf hke
  refine ⟨BG, G.X.keeps st, G.T.keeps st, G.XB, G.TB, fun b hb => ?_⟩
  rcases mem_frames hf hb with rfl | hb
  · obtain ⟨oL, es, ep, hL, hLd, _⟩ := F.ns
    refine ⟨oL, es, ep, hideAll_get _ hL fun q => ?_, hLd⟩
    obtain ⟨p, hp, e⟩ := List.mem_map.mp q
    exact (Na p hp).2.1 e
  · obtain ⟨o, es, n, ho, hd⟩ := G.D b hb
    exact ⟨o, es, n, st b o ho, hd⟩
/-- and back again -/
theorem done_backT {P : Value → List (Addr × Obj) → Prop} {s₁ : Shared} {v : Value} {s' : Shared} (G : Ground3 w A₀ base outer loose mean mg mb h₀) (F : Fr h₀ L s.heap m) (N : News h₀ L s.heap news) (ha : ∀ p ∈ args, p ∈ news) (hf : env.frame = some L)
    (D : DoneT (framesOf (env :: outer)) args P (hideAll s.heap (args.map (fun x : Addr × Obj => x.1))) s₁ v s') :
    ∃ new h' tk h₀', s' = { s₁ with heap := h', toks := tk } ∧ KtsTurn (framesOf outer) h₀ h₀' ∧ P v new ∧ Ground3 w A₀ base outer loose mean mg mb h₀' ∧ Fr h₀' L h' m ∧ News h₀' L h' (new ++ news) ∧ (∀ q ∈ new, ∀ p ∈ news, @Ne Nat p.1 q.1) := by
  obtain ⟨g', TT, L', m', all, new, h', tk, rfl, F', N', hp, hn, hA, hd⟩ := D
  have Na : News h₀ L s.heap args := fun p hp => N p (ha p hp)
  have nm : ∀ b o, h₀.get? b = some o → b ∉ args.map (fun x : Addr × Obj => x.1) := fun b o e q => by
    obtain ⟨p, hp, rfl⟩ := List.mem_map.mp q
    rw [(Na p hp).2.2] at e; cases e
  have st : h₀.StaysIn (hideAll s.heap (args.map (fun x : Addr × Obj => x.1))) := fun b o e => hideAll_get _ (F.keep b o e) (nm b o e)
  obtain ⟨oL, es, ep, hL, hLd, hLk, hLf⟩ := F.ns
  have nL : L ∉ args.map (fun x : Addr × Obj => x.1) := fun q => by
    obtain ⟨p, hp, e⟩ := List.mem_map.mp q
    exact (Na p hp).2.1 e
  have hLg := hideAll_get (args.map (fun x : Addr × Obj => x.1)) hL nL
  have nL₀ : h₀.get? L = none := kts_self F
  obtain ⟨sl, hs⟩ := TT.up hLg
  obtain ⟨T₁, S₁⟩ := kts_turn_at (h := h') (fs := framesOf outer) (g := h₀)
    (fun b hb => by
      obtain ⟨_, o, ho', _⟩ := G.B.frames.mem hb
      exact ⟨o, ho'⟩)
    (fun b o e nmem => F'.keep b o (TT.other b o (st b o e) fun q => by
      rcases mem_frames hf q with z | z
      · rw [z, nL₀] at e; cases e
      · exact nmem z))
    (fun b o e _ => by
      obtain ⟨sl', hs'⟩ := TT.up (st b o e)
      exact ⟨sl', F'.keep _ _ hs'⟩)
  have B₃ : Below A₀ base outer (ktsHeap h' (framesOf outer) h₀) := ⟨G.B.stack, fun b o e => T₁.other b o (G.B.stays b o e) (fun hm => by
    rw [(G.B.frames.mem hm).1] at e
    cases e), G.B.frames.of_keeps fun b o e _ => by
    obtain ⟨sl', hs'⟩ := T₁.up e
    exact ⟨_, hs', rfl⟩⟩
  have hnone : ∀ p ∈ all, h₀.get? p.1 = none := fun p hp => by
    cases q : h₀.get? p.1 with
    | none => rfl
    | some o =>
      obtain ⟨sl', hs'⟩ := TT.up (st _ _ q)
      have := (N' p hp).2.2
      rw [hs'] at this; cases this
  have hnL : ∀ p ∈ all, p.1 ≠ L := fun p hp q => by
    have := (N' p hp).2.2
    rw [q, hs] at this; cases this
  have hnew : ∀ p ∈ news, p.1 ∉ args.map (fun x : Addr × Obj => x.1) → g'.get? p.1 = some p.2 := fun p hp hm =>
    TT.other _ _ (hideAll_get _ (N p hp).1 hm) fun q => by
      rcases mem_frames hf q with z | z
      · exact (N p hp).2.1 z
      · obtain ⟨_, o, ho, _⟩ := G.B.frames.mem z
        rw [(N p hp).2.2] at ho; cases ho
  refine ⟨new, h', tk, _, rfl, T₁, hp, ⟨B₃, G.XB.keeps B₃.stays, G.TB.keeps B₃.stays, G.XB, G.TB, G.D.turn T₁⟩, ⟨⟨_, es, ep, F'.keep _ _ hs, hLd, hLk, hLf⟩, S₁, by rw [T₁.size]; exact F.above⟩, fun p hp => ?_, fun q hq p hp => ?_⟩
  · rcases List.mem_append.mp hp with hp | hp
    · exact ⟨(N' p (hn p hp)).1, hnL p (hn p hp), T₁.none_ _ (hnone p (hn p hp))⟩
    · refine ⟨?_, (N p hp).2.1, T₁.none_ _ (N p hp).2.2⟩
      by_cases hm : p.1 ∈ args.map (fun x : Addr × Obj => x.1)
      · obtain ⟨q, hq, e⟩ := List.mem_map.mp hm
        have e2 := (N q (ha q hq)).1
        rw [e, (N p hp).1] at e2
        have x := (N' q (hA q hq)).1
        rw [e] at x
        rw [x, e2]
      · exact F'.keep _ _ (hnew p hp hm)
  · by_cases hm : p.1 ∈ args.map (fun x : Addr × Obj => x.1)
    · obtain ⟨r, hr, e⟩ := List.mem_map.mp hm
      rw [← e]
      exact hd q hq r hr
    · intro e
      have x := (N' q (hn q hq)).2.2
      rw [← e, hnew p hp hm] at x
      cases x

variable {P : Value → List (Addr × Obj) → Prop} {Q : Value → Shared → Prop}
  {name qual : Str} {params : Arguments} {body : List Stmt} {scope : Scope} {dV kV doc pm cdv ct oc : Value} {an od : Option Addr} {osl : Array (Option Value)} {f : Addr} {vals : Args} {binds : List (Str × Value)}
theorem enterT (bh : BindHint binds) (G : Ground3 w A₀ base outer loose mean mg mb h₀) (F : Fr h₀ L s.heap m) (N : News h₀ L s.heap news) (ha : ∀ p ∈ args, p ∈ news) (hA : A.frames = some (env :: outer)) (hf : env.frame = some L) (hke : env.scope.kind = .function)
    (ho : List.lookup f (lawTop.heap_39 w.params) = some ⟨oc, od, .func (fnOf name qual params body scope dV kV doc pm an cdv ct), osl⟩) (hcd : codeIn (lawTop.heap_39 w.params) cdv qual = true) (hroom : A.depth < recursionLimit)
    (hbind : BindsTo s (fnOf name qual params body scope dV kV doc pm an cdv ct) vals binds) (hloc : ∀ y ∈ binds, scope.names.lookup y.1 = some .local)
    (ret : ∀ v new h' tk' h₀', KtsTurn (framesOf outer) h₀ h₀' → P v new → Ground3 w A₀ base outer loose mean mg mb h₀' → Fr h₀' L h' m → News h₀' L h' (new ++ news) → (∀ q ∈ new, ∀ p ∈ news, @Ne Nat p.1 q.1) → Q v { s with heap := h', toks := tk' })
    (h : ∀ g L' h₁, Fr g L' h₁ (fun y => binds.reverse.lookup y) → News g L' h₁ args → (∀ p ∈ args, p.1 < L') → Ground3 w A base (env :: outer) loose mean mg mb g →
      wpC (model pg w) (A.deeper (envOf qual scope L' f cdv)) (execs body (envOf qual scope L' f cdv))
        (fun fl s' => DoneT (framesOf (env :: outer)) args P g s (match fl with | .ret v => v | _ => .none) s') (fun _ _ => False)
        { s with heap := h₁, toks := s.toks + binds.length })
    (hco : scope.isCoroutine = false) (hgen : scope.isGenerator = false) (hk : scope.kind = .function)
    (hcell : ∀ x ∈ scope.names, x.2 ≠ .cell) : codeC (model pg w) A (.call (.ref f) vals) (fun r s' => match r with | .ok (.ret v) => Q v s' | _ => False) s := by
  have Na : News h₀ L s.heap args := fun p hp => N p (ha p hp)
  have XS : (lawTop.heap_39 w.params).In s.heap := G.X.keeps F.keep
  refine codeC.call_def (fd := fnOf name qual params body scope dV kV doc pm an cdv ct) (body := body) (binds := binds) hroom (XS _ _ ho) rfl (G.T.nolimit.keeps F.keep) (codeRec_of XS hcd) rfl hbind hcell hloc (fun h₁ hns hk₁ => ?_) hco hgen hk
  refine wpC.mono (h (hideAll s.heap (args.map (fun x : Addr × Obj => x.1))) s.heap.objs.size h₁ ⟨hns, fun b o e => hk₁ b o (of_hideAll _ e), Nat.le_of_eq (hideAll_size _ _)⟩
    (fun p hp => ⟨hk₁ _ _ (Na p hp).1, Nat.ne_of_lt (Heap.lt_size (Na p hp).1), hideAll_none _ (List.mem_map_of_mem hp)⟩) (fun p hp => Heap.lt_size (Na p hp).1) (ground_in G F N ha hA hf hke)) (fun fl s' D => ?_) fun _ _ y => y.elim
  obtain ⟨new, h', tk, h₀', rfl, hT, hp, G', F', N', hd⟩ := done_backT G F N ha hf D
  exact ret _ new h' tk h₀' hT hp G' F' N' hd
end
end Mine
end
section
example : True := by (w_top off); trivial
open PySem PySem.W PyProof.Rows PySem.Calls PySem.NumText
set_option Elab.async false
set_option maxRecDepth 100000
namespace Mine
section
variable {prog : Program} {w : World} {A : Around} {E : Value → Shared → Prop} {s : Shared}
theorem codeC_builtin {R : Result → Shared → Prop} {id : String} {args : Args} {b : Builtin} (hb : entryFor table id = some b)
    (h : wpC (model prog w) (A.under (.builtin id args)) (b args) (fun fin s' => match fin with | .done f => R (.ok f) s' | .again c' => c'.quiet = true ∧ codeC (model prog w) A c' R s') (fun e s' => R (.error e) s') s) :
    codeC (model prog w) A (.builtin id args) R s := by
  refine codeC.tree ?_
  show wpC _ _ (match entryFor table id with | some b => b args | none => unsupported ((withoutEnding? id "#data").getD id)) _ _ s
  rw [hb]; exact h
theorem codeC_call_builtin {R : Result → Shared → Prop} {id : String} {args : Args} {b : Builtin} (hq : plainId id = true) (hb : entryFor table id = some b) (hc : checkBuiltinCall id args = pure ())
    (h : wpC (model prog w) A.in1 (b args) (fun fin s' => match fin with | .done f => R (.ok f) s' | .again c' => c'.quiet = true ∧ codeC (model prog w) A c' R s') (fun e s' => R (.error e) s') s) :
    codeC (model prog w) A (.call (.builtin id) args) R s := by
  refine codeC.tree ?_
  show wpC _ _ (do checkBuiltinCall id args; again (.builtin id args)) _ _ s
  rw [hc, pure_bind]
  exact wpC.pure ⟨plainId_quiet hq args, codeC_builtin hb (by rw [Around.under_plainId hq args]; exact h)⟩
theorem type_call_int (x : Value) : ∃ k : Value → Sem Fin, Builtin.«type.__call__» ⟨[.type "int", x], []⟩ = (PySem.holding [.builtin "int.__new__"] (PySem.call (.builtin "int.__new__") [.type "int", x] []) >>= k) := by
  unfold Builtin.«type.__call__»
  dsimp only
  rw [if_neg (by rw [F.called_int.notType]; exact Bool.false_ne_true), if_neg (by rw [F.called_int.canCreate]; exact Bool.false_ne_true), F.typeCall_int_1, pure_bind, F.mro_int, pure_bind, if_neg (by simp), F.called_int.made, pure_bind]
  dsimp only
  rw [pure_bind]
  exact ⟨_, rfl⟩
/-- int(x), where int.__new__ raises -/
theorem int_call_raises {x : Value} {Q : Value → Shared → Prop}
    (h : wpC (model prog w) A.in1.in1 (Builtin.«int.__new__» ⟨[.type "int", x], []⟩) (fun _ _ => False) E s) : wpC (model prog w) A (PySem.call (.type "int") [x]) Q E s := by
  refine wpC.call (codeC.tree ?_)
  show wpC _ _ (callAny (.type "int") _) _ _ _
  refine wpC.pure ⟨Code.quiet_builtin _ (by decide +kernel), codeC_builtin F.entry_type_call ?_⟩
  rw [Around.under_plain (weight_type_call_type "int" [x] []) rfl]
  obtain ⟨k, e⟩ := type_call_int x
  show wpC _ _ (Builtin.«type.__call__» ⟨[.type "int", x], []⟩) _ _ _
  rw [e]
  refine wpC.bind (wpC.holding (wpC.call (codeC_call_builtin F.called_int.plain F.entry_int_new (F.newCall_int_1 x) ?_)))
  exact wpC.mono h (fun _ _ y => False.elim y) fun _ _ y => y
theorem isType_int : isType (.type "int") = pure true := rfl
theorem int_from_object {x : Str} {u : Tok} {Q : Value → Shared → Prop} (h : wpC (model prog w) A ((int_private% "intFromText") (.str x u) (numTextOf x) 10) Q E s) :
    wpC (model prog w) A ((int_private% "intFromObject") (.str x u)) Q E s := by
  have f4 := W.KIN.str_int
  have f5 := W.KIN.str_idx
  have f7 := W.KIN.str_trunc
  have f6 : typeOf (.str x u) = pure (.type "str") := rfl
  have hT : s.TypeIs (.str x u) "str" := rfl
  refine wpC.step (m := callSpecial? (.str x u) "__int__") ?_
  unfold callSpecial?
  refine wpAny_bind (wpAny_specialOf hT f4 (wpAny_pure ?_))
  dsimp only
  refine wpC.step (wpAny_specialOf hT f5 ?_)
  rw [if_neg (by simp)]
  refine wpC.step (wpAny_specialOf hT f7 ?_)
  dsimp only
  refine wpC.step (m := (int_private% "numeralText?") (.str x u)) ?_
  refine wpAny_bind (m := asStr? (.str x u)) (wpAny_pure ?_)
  exact wpAny_pure h
theorem int_new_refused {x : Str} {u : Tok} {Q : Fin → Shared → Prop} (h : wpC (model prog w) A ((int_private% "intFromText") (.str x u) (numTextOf x) 10) (fun _ _ => False) E s) : wpC (model prog w) A (Builtin.«int.__new__» ⟨[.type "int", .str x u], []⟩) Q E s := by
  unfold Builtin.«int.__new__»
  dsimp only
  rw [isType_int, pure_bind, if_neg (by decide), F.conv_sub_int, pure_bind, if_neg (by decide), F.madeHere_int, pure_bind]
  rw [if_neg (by simp), if_neg (by simp), List.forIn_nil, pure_bind]
  dsimp only [List.head?_cons, List.getElem?_cons_succ, List.getElem?_nil, List.head?_nil, Option.map_none]
  exact wpC.bind (wpC.mono (int_from_object h) (fun _ _ y => False.elim y) fun _ _ y => y)
theorem wpC_pos {α : Type} {c : Prop} [Decidable c] {a b : Sem α} {Q : α → Shared → Prop} (hc : c) (h : wpC (model prog w) A a Q E s) : wpC (model prog w) A (if c then a else b) Q E s := by rw [if_pos hc]; exact h
set_option maxHeartbeats 8000000 in
/-- the refusal, once the text is seen to be no number -/
theorem refuses {x : Str} {u : Tok} {Q : Value → Shared → Prop} (hx : x.length ≤ 640) (hrp : (reprText x).length ≤ 10000) (hh : A.handled = none) (h : ∀ h' tk e, Heap.NewExc s.heap h' e "ValueError" → E (.ref e) { s with heap := h', toks := tk })
    (hn : PySem.intText? x = none) : wpC (model prog w) A ((int_private% "intFromText") (.str x u) (numTextOf x) 10) Q E s := by
  have hs : (numSeenOf x).length ≤ 640 := Nat.le_trans (seen_length x) hx
  have hr : (int_private% "readNumeral") 0 10 (numSeenOf x) = int_private% "Numeral.invalid" ∨
      ∃ i, (int_private% "readNumeral") 0 10 (numSeenOf x) = (int_private% "Numeral.value") i ∧ ¬ ((numSeenOf x).length == (numTextOf x).length) = true := by
    rcases read0 x hs with ⟨n, h1, _⟩ | ⟨_, h2⟩
    · rw [hn] at h1; cases h1
    · exact h2
  refine wpC_pos (c := (numSeenOf x).length ≤ 640) hs ?_
  refine wpC.step (wpAny_pure ?_)
  dsimp only
  unfold numSeenOf at hr
  have hp := plainExc_ValueError
  rcases hr with hr | ⟨i, hr, hne⟩
  · rw [hr]
    dsimp only
    refine wpC.step (wpAny_pure ?_)
    rw [if_neg (by simp)]
    refine wpC.step (wpAny_rule ?_)
    refine wpC.step (wpAny_pure ?_)
    dsimp only
    refine wpC.step (wpAny_pyRepr_str ?_ (Nat.le_trans hrp (PySem.sizeLine_eq ▸ by decide)))
    refine wpC.step (wpAny_mkStr ?_ ?hz)
    case hz =>
      rw [Str.length_append]
      refine Nat.le_trans (Nat.add_le_add (Nat.le_of_eq (by rfl)) (show _ ≤ 200 from ?_)) (show 40 + 200 ≤ sizeLine from PySem.sizeLine_eq ▸ by decide)
      show ((reprText x).cps.extract 0 200).size ≤ 200
      rw [Array.size_extract]; omega
    refine wpC.step ?_
    unfold newExc newTuple
    refine wpAny_bind (wpAny_newObj_type ?_)
    refine wpAny_bind (m := firstArgMember _ _) (wpAny_of_eq (a := Value.none) (by simp only [firstArgMember, hp.first]; rfl) ?_)
    rw [hp.own]
    refine wpAny_newObj_type ?_
    refine wpC.bind (wpC.markTheRefusal ?_)
    refine wpC.any ?_
    unfold raiseNew
    refine wpAny_bind (wpAny_handled ?_)
    rw [hh]
    first
      | refine wpAny_throw ?_
      | refine wpAny_bind (wpAny_pure (wpAny_throw ?_))
    exact h _ _ _ ⟨fun b o hb => Heap.get?_push_of_some _ (Heap.get?_push_of_some _ hb), Heap.get?_none_of_le (by simp), _, .ref s.heap.objs.size, Heap.get?_push_size _ rfl, rfl, by simp⟩
  · rw [hr]
    dsimp only
    rw [if_neg hne]
    refine wpC.step (wpAny_rule ?_)
    refine wpC.step (wpAny_pure ?_)
    dsimp only
    refine wpC.step (wpAny_pyRepr_str ?_ (Nat.le_trans hrp (PySem.sizeLine_eq ▸ by decide)))
    refine wpC.step (wpAny_mkStr ?_ ?hz)
    case hz =>
      rw [Str.length_append]
      refine Nat.le_trans (Nat.add_le_add (Nat.le_of_eq (by rfl)) (show _ ≤ 200 from ?_)) (show 40 + 200 ≤ sizeLine from PySem.sizeLine_eq ▸ by decide)
      show ((reprText x).cps.extract 0 200).size ≤ 200
      rw [Array.size_extract]; omega
    refine wpC.step ?_
    unfold newExc newTuple
    refine wpAny_bind (wpAny_newObj_type ?_)
    refine wpAny_bind (m := firstArgMember _ _) (wpAny_of_eq (a := Value.none) (by simp only [firstArgMember, hp.first]; rfl) ?_)
    rw [hp.own]
    refine wpAny_newObj_type ?_
    refine wpC.bind (wpC.markTheRefusal ?_)
    refine wpC.any ?_
    unfold raiseNew
    refine wpAny_bind (wpAny_handled ?_)
    rw [hh]
    first
      | refine wpAny_throw ?_
      | refine wpAny_bind (wpAny_pure (wpAny_throw ?_))
    exact h _ _ _ ⟨fun b o hb => Heap.get?_push_of_some _ (Heap.get?_push_of_some _ hb), Heap.get?_none_of_le (by simp), _, .ref s.heap.objs.size, Heap.get?_push_size _ rfl, rfl, by simp⟩
/-- int(x), x no number: a ValueError, and nothing else is turned -/
theorem int_refused {x : Str} {u : Tok} {Q : Value → Shared → Prop} (hn : PySem.intText? x = none) (hx : x.length ≤ 640) (hrp : (reprText x).length ≤ 10000) (hh : A.handled = none)
    (h : ∀ h' tk e, Heap.NewExc s.heap h' e "ValueError" → E (.ref e) { s with heap := h', toks := tk }) : wpC (model prog w) A (PySem.call (.type "int") [.str x u]) Q E s :=
  int_call_raises (int_new_refused (refuses hx hrp hh h hn))
end
end Mine
end
section
example : True := by (w_top off); trivial
open PySem PySem.W PyProof.Rows PySem.Calls
set_option Elab.async false
set_option maxRecDepth 100000
namespace Mine
section
variable {w : World} {A₀ : Around} {s' : Shared} {base g H : Heap} {outer : List Env} {L a e : Addr} {m : Str → Option Value} {name : Str} {scope : Scope} {cd : Value}
  {loose : List Str} {mean : ExcName → Option Value} {mg mb : Str → Option Value} {news : List (Addr × Obj)} {b₀ : Stmt} {suite : List Stmt} {pos np : Pos} {rest : List ExceptHandler} {Q : Flow → Shared → Prop} {E : Value → Shared → Prop}
/-- a ValueError that was raised in this frame, caught in it -/
theorem caught_new (G : Ground3 w A₀ base outer loose mean mg mb g) (F : Fr g L H m) (N : News g L H news) (hx : Heap.NewExc H s'.heap e "ValueError")
    (ex : nsIn (lawTop.heap_39 w.params) mainGlobals (Str.ofString "ValueError") = some none)
    (k : ∀ h' g', KtsTurn (framesOf outer) g g' → Fr g' L h' m → News g' L h' news → Ground3 w A₀ base outer loose mean mg mb g' →
      wpAny (model pg w) ((A₀.deeper (envOf name scope L a cd)).mark (some (.ref e))) (execs (b₀ :: suite) (envOf name scope L a cd)) Q E { s' with heap := h' })
    (hk : scope.kind = .function) (hxn : (envOf name scope L a cd).kindOf (Str.ofString "ValueError") = some .globalImplicit)
    (hE : PassesOwnAt (model pg w) ((A₀.deeper (envOf name scope L a cd)).mark (some (.ref e))) (A₀.deeper (envOf name scope L a cd)) (envOf name scope L a cd) E) :
    wpAny (model pg w) (A₀.deeper (envOf name scope L a cd)) (noteFrame (.ref e) (envOf name scope L a cd))
      (fun _ s₂ => wpAny (model pg w) (A₀.deeper (envOf name scope L a cd)) (setFlight (.ref e) none) (fun _ s₃ =>
        wpAny (model pg w) (A₀.deeper (envOf name scope L a cd)) (handleBy (.ref e) (envOf name scope L a cd) (.ExceptHandler (some (.Name (Str.ofString "ValueError") np)) none (b₀ :: suite) pos :: rest)) Q E s₃) E s₂) E s' := by
  have K := G.B
  have K' := K.push (name := name) (a := a) (cd := cd) F hk
  have hin : ∀ env ∈ (envOf name scope L a cd :: outer), ∀ b, env.frame = some b → b ∈ (envOf name scope L a cd :: outer).filterMap (·.frame) := fun env he b hb => List.mem_filterMap.mpr ⟨env, he, hb⟩
  have st : base.StaysIn (hideAll H ((envOf name scope L a cd :: outer).filterMap (·.frame))) := fun b o q => hideAll_get _ (K'.stays b o q) fun hm => by
    rw [(K'.frames.mem hm).1] at q; cases q
  have sg : ∀ b o, H.get? b = some o → b ∉ (envOf name scope L a cd :: outer).filterMap (·.frame) → (hideAll H ((envOf name scope L a cd :: outer).filterMap (·.frame))).get? b = some o := fun b o q nm => hideAll_get _ q nm
  have hl : ∀ q ∈ news, (hideAll H ((envOf name scope L a cd :: outer).filterMap (·.frame))).get? q.1 = some q.2 := fun q hq => hideAll_get _ (N q hq).1 fun hm => by
    rcases kts_mem hm with z | z
    · exact (N q hq).2.1 z
    · obtain ⟨_, o, ho, _⟩ := K.frames.mem z
      rw [(N q hq).2.2] at ho; cases ho
  have nL : (hideAll H ((envOf name scope L a cd :: outer).filterMap (·.frame))).get? L = none := hideAll_none _ (hin _ (.head _) L rfl)
  obtain ⟨ob, tp, he, hcls, hd⟩ := hx.there
  have hen : (hideAll H ((envOf name scope L a cd :: outer).filterMap (·.frame))).get? e = none := by
    cases q : (hideAll H ((envOf name scope L a cd :: outer).filterMap (·.frame))).get? e with
    | none => rfl
    | some o => have := of_hideAll _ q; rw [hx.new] at this; cases this
  have h1 : (#[tp, .none, .none, .none, .bool false, .none] : Array Value)[1]? = some .none := rfl
  unfold noteFrame
  refine wpAny_bind (wpAny_field he hd h1 ?_)
  rw [if_neg (by decide)]
  refine wpAny_entryW (a0 := tp) K'.stack ((funFrames_hide K'.frames hin).of_keeps fun b o hb _ => ⟨o, hx.keeps b o hb, rfl⟩) rfl he (fun b o hb => hx.keeps b o (of_hideAll _ hb)) hen hd (show 1 < 6 by decide) rfl fun h₄ hN => ?_
  obtain ⟨k1, k2, k3, k4⟩ := hN
  rw [hcls] at k3
  have hsm : H.UpToSlots h₄ := (Heap.UpToSlots.of_keeps hx.keeps).trans k4
  refine wpAny_landsW (s := { s' with heap := h₄ }) (cls := .type "ValueError") (a0 := tp) (l := envOf name scope L a cd :: outer) (L := L) ⟨k1, hen, k2, k3⟩ fun h₅ hheld hsm₅' => ?_
  have hsm₅ := hsm.trans hsm₅'
  obtain ⟨g₅, T₅, F₅, K₅⟩ := kts_ground K F sg hheld.1 hsm₅
  have X₅ : (lawTop.heap_39 w.params).In g₅ := G.XB.keeps K₅.stays
  have P₅ : TopRead lawTop.view_39 loose mg mb g₅ := topRead_of (G.TB.keeps K₅.stays)
  obtain ⟨oe, hoe, hoec⟩ := hheld.there
  refine wpAny_handleBy_builtin (X := "ValueError") (T := "ValueError") (b := true) PySem.F.isExc_ValueError PySem.F.notTuple_ValueError ?hsub (name_B F₅ X₅ P₅ ex PyProof.Rows.Boot.«ValueError» (by decide) ⟨rfl, ⟨oe, hoe, hoec⟩, ?_⟩ hk hxn (by decide))
  case hsub => rw [isSubtype_type]; kernel_rfl!
  refine lands_againW hheld fun h₆ hfl₆ hsm₆ => ?_
  obtain ⟨g₆, T₆, F₆, K₆⟩ := kts_ground K F sg hfl₆.1 (hsm₅.trans hsm₆)
  have Nl : News g₆ L h₆ news := fun q hq => ⟨hfl₆.1 _ _ (hl q hq), (N q hq).2.1, T₆.none_ _ (N q hq).2.2⟩
  exact wpAny_passesOwnAt hE (k h₆ g₆ T₆ F₆ Nl ⟨K₆, G.XB.keeps K₆.stays, G.TB.keeps K₆.stays, G.XB, G.TB, G.D.turn T₆⟩)
end
end Mine
end
section
example : True := by (w_top off); trivial
open PySem PySem.W PyProof.Rows PySem.Calls
set_option Elab.async false
namespace Mine
/-- no exception leaves -/
abbrev NoE : Value → Shared → Prop := fun _ _ => False
section
variable {M : Model} {A : Around} {E : Value → Shared → Prop} {s : Shared} {env : Env}
theorem wpC.Try {body orelse : List Stmt} {h₀ : ExceptHandler} {hs : List ExceptHandler} {pos : Pos} {Q : Flow → Shared → Prop}
    (h : wpC M A (execs body env) (fun f s₁ => match f with | .next => wpC M A (execs orelse env) Q E s₁ | f => Q f s₁)
      (fun e s₁ => wpAny M A (noteFrame e env) (fun _ s₂ => wpAny M A (setFlight e none) (fun _ s₃ => wpAny M A (handleBy e env (h₀ :: hs)) Q E s₃) E s₂) E s₁) s) :
    wpC M A (exec (.Try body (h₀ :: hs) orelse [] pos) env) Q E s := fun Γ p hΓ c => by
  rw [arm_exec_Try]
  unfold tryStmt
  simp only [List.isEmpty_nil, if_true, List.isEmpty_cons, Bool.false_and, Bool.false_eq_true, if_false]
  rw [Sem.wp_bind']
  refine Sem.wp_mono M Γ _ (fun _ p' s' h' => ?_) (fun _ _ _ h' => h') p s ((wpAny_standAt (M := M) (A := A) (pos := pos) (Q := fun _ s' => s' = s) (E := E) rfl) Γ p hΓ)
  subst h'
  rw [Sem.wp_bind', Sem.wp_attempt]
  refine Sem.wp_mono M Γ _ (fun f p₁ s₁ h₁ => ?_) (fun e p₁ s₁ h₁ => ?_) p' s' (h Γ p' hΓ c)
  · cases f <;> first | exact h₁ Γ p₁ hΓ c | exact h₁
  · exact (wpAny_bind (wpAny_mono h₁ (fun _ _ h₂ => wpAny_bind h₂) fun _ _ x => x)) Γ p₁ hΓ
theorem wpC.isTrue_not {x : Expr} {pos : Pos} {whole : Sem Value} {Q : Bool → Shared → Prop} (h : wpC M A (isTrue x env (eval x env)) (fun c s' => Q (!c) s') E s) :
    wpC M A (isTrue (.UnaryOp .Not x pos) env whole) Q E s := by
  show wpC M A (do return !(← isTrue x env (eval x env))) Q E s
  exact wpC.bind (wpC.mono h (fun c s' h' => wpC.pure h') fun _ _ x => x)
theorem wpC.isTrue_or_nil {pos : Pos} {whole : Sem Value} {Q : Bool → Shared → Prop} (h : Q false s) : wpC M A (isTrue (.BoolOp .Or [] pos) env whole) Q E s := wpC.pure (a := false) h
theorem wpC.isTrue_or {x : Expr} {rest : List Expr} {pos : Pos} {whole : Sem Value} {Q : Bool → Shared → Prop}
    (h : wpC M A (isTrue x env (eval x env)) (fun c s' => if c then Q true s' else wpC M A (isTrue (.BoolOp .Or rest pos) env whole) Q E s') E s) :
    wpC M A (isTrue (.BoolOp .Or (x :: rest) pos) env whole) Q E s := by
  show wpC M A (do
    match BoolOp.Or, ← isTrue x env (eval x env) with
    | .And, false => Pure.pure false
    | .Or, true => Pure.pure true
    | _, _ => allTrue .Or rest env) Q E s
  refine wpC.bind (wpC.mono h (fun c s' h' => ?_) fun _ _ x => x)
  cases c
  · exact h'
  · exact wpC.pure h'
theorem wpC.isTrue_value {e : Expr} {whole : Sem Value} {Q : Bool → Shared → Prop} (h : wpC M A whole (fun v s₁ => wpAny M A (truthy v) Q E s₁) E s)
    (he : isTrue e env whole = (do let v ← whole; standAt e.pos; PySem.holding [v] (truthy v)) := by rfl) : wpC M A (isTrue e env whole) Q E s := by
  rw [he]
  exact wpC.bind (wpC.mono h (fun v s₁ h₁ => wpC.any (wpAny_bind (wpAny_standAt (wpAny_holding h₁)))) fun _ _ x => x)
end
section
variable {prog : Program} {w : World} {A : Around} {s : Shared} {env : Env}
theorem codeC.block {stmts : List Stmt} {R : Result → Shared → Prop} (h : wpC (model prog w) A (execs stmts env) (fun f s' => R (.ok f) s') NoE s) : codeC (model prog w) A (.block stmts env) R s := by
  refine codeC.tree ?_
  show wpC _ _ (do return Fin.done (← (execs stmts env).onRaise (fun x => do noteFrame x env; theTreesLotGoes x))) _ _ s
  exact wpC.bind (wpC.onRaise (wpC.mono h (fun f s' h' => wpC.pure h') fun _ _ x => x.elim))
theorem codeC.forLoop {R : Result → Shared → Prop} {target it body orelse env} (I : Nat → Shared → Prop)
    (turn : ∀ n s, I n s → wpAny (model prog w) A (pyNext it) (fun r s₁ => match r with
      | none => wpC (model prog w) A (execs orelse env) (fun f s₃ => R (.ok f) s₃) NoE s₁
      | some v => wpAny (model prog w) A (letOwnedTupleGo target it v) (fun _ s₁' =>
          wpAny (model prog w) A (assign target env v) (fun _ s₂ => wpC (model prog w) A (execs body env) (fun f s₃ => match f with
            | .next | .cont => ∃ m, m < n ∧ I m s₃
            | .brk => R (.ok .next) s₃
            | .ret v => R (.ok (.ret v)) s₃) NoE s₂) NoE s₁') NoE s₁) NoE s)
    (n : Nat) (h : I n s) : codeC (model prog w) A (.forLoop target it body orelse env) R s := by
  refine codeC.loop rfl I (fun n s hI => ?_) n h
  show wpC _ A ((forTurn target it body orelse env).onRaise (fun x => do noteFrame x env; theTreesLotGoes x)) _ _ s
  refine wpC.onRaise ?_
  refine wpC.mono (E := NoE) ?_ (fun _ _ x => x) fun _ _ x => x.elim
  simp only [forTurn]
  refine wpC.step (wpAny_standAt (wpC.step (wpAny_onRaise (wpAny_mono (turn n s hI) (fun r s₁ h₁ => ?_) fun _ _ h' => h'.elim))))
  cases r with
  | none => exact wpC.pure (.inr ⟨rfl, codeC.block h₁⟩)
  | some v =>
    refine wpC.step (wpAny_mono h₁ (fun _ s₁' h₁' => ?_) fun _ _ h' => h')
    refine wpC.step (wpAny_mono h₁' (fun _ s₂ h₂ => wpC.bind (wpC.mono h₂ (fun f s₃ h₃ => ?_) fun _ _ h' => h')) fun _ _ h' => h')
    cases f with
    | next => exact wpC.pure (.inl ⟨rfl, h₃⟩)
    | cont => exact wpC.pure (.inl ⟨rfl, h₃⟩)
    | brk => exact wpC.pure h₃
    | ret v => exact wpC.pure h₃
end
end Mine
end
section
example : True := by (w_top off); trivial
open PySem PySem.W PyProof.Rows PySem.Calls
set_option Elab.async false
namespace Mine
/-- between two turns -/
def TurnEnd (w : World) (A₀ : Around) (base : Heap) (outer : List Env) (loose : List Str) (mean : ExcName → Option Value) (mg mb : Str → Option Value) (g₀ : Heap) (L : Addr) (s : Shared) (I : Addr) (it : Obj) (lp : Addr × Obj)
    (S : (Str → Option Value) → List (Addr × Obj) → Prop) (Q : Flow → Shared → Prop) (f : Flow) (s₂ : Shared) : Prop :=
  match f with
  | .ret v => Q (.ret v) s₂
  | .brk => False
  | _ => ∃ g' h' tk m' n', s₂ = { s with heap := h', toks := tk } ∧ KtsTurn (framesOf outer) g₀ g' ∧ Ground3 w A₀ base outer loose mean mg mb g' ∧ Fr g' L h' m' ∧ News g' L h' ((I, it) :: n') ∧ lp ∈ n' ∧ (∀ p ∈ n', @Ne Nat p.1 I) ∧ S m' n'
section
variable {w : World} {A₀ A : Around} {base g₀ : Heap} {outer : List Env} {loose : List Str} {mean : ExcName → Option Value} {mg mb : Str → Option Value} {s : Shared} {env : Env} {target : Expr} {body : List Stmt} {Q : Flow → Shared → Prop} {R : Result → Shared → Prop}
  {m₀ : Str → Option Value} {news : List (Addr × Obj)} {ax : Addr} {lo : Obj} {vs : List Value} {nn : Nat}
theorem TurnEnd.next {L I : Addr} {it : Obj} {lp : Addr × Obj} {S : (Str → Option Value) → List (Addr × Obj) → Prop} {g g' h' : Heap} {tk : Nat} {m' : Str → Option Value} {n' : List (Addr × Obj)}
    (T : KtsTurn (framesOf outer) g g') (G : Ground3 w A₀ base outer loose mean mg mb g') (F : Fr g' L h' m') (N : News g' L h' ((I, it) :: n')) (hl : lp ∈ n') (hI : ∀ p ∈ n', @Ne Nat p.1 I) (hS : S m' n') :
    TurnEnd w A₀ base outer loose mean mg mb g L s I it lp S Q .next { s with heap := h', toks := tk } := ⟨_, _, _, _, _, rfl, T, G, F, N, hl, hI, hS⟩
theorem TurnEnd.cont {L I : Addr} {it : Obj} {lp : Addr × Obj} {S : (Str → Option Value) → List (Addr × Obj) → Prop} {g g' h' : Heap} {tk : Nat} {m' : Str → Option Value} {n' : List (Addr × Obj)}
    (T : KtsTurn (framesOf outer) g g') (G : Ground3 w A₀ base outer loose mean mg mb g') (F : Fr g' L h' m') (N : News g' L h' ((I, it) :: n')) (hl : lp ∈ n') (hI : ∀ p ∈ n', @Ne Nat p.1 I) (hS : S m' n') :
    TurnEnd w A₀ base outer loose mean mg mb g L s I it lp S Q .cont { s with heap := h', toks := tk } := ⟨_, _, _, _, _, rfl, T, G, F, N, hl, hI, hS⟩
/-- a loop over a made list, in the claim's own contexts; the frames below may be turned -/
theorem iter_listC (S : List Value → (Str → Option Value) → List (Addr × Obj) → Prop)
    (hh : A.handled = none) (G : Ground3 w A₀ base outer loose mean mg mb g₀) (F : Fr g₀ env.locals s.heap m₀) (N : News g₀ env.locals s.heap news)
    (hm : (ax, lo) ∈ news) (hc : lo.cls = .type "list") (hd : lo.data = .seq vs.toArray nn)
    (hgo : ∀ (I : Addr) (s' : Shared) (i : Nat) (v : Value) (Q' : Unit → Shared → Prop), s'.heap.IsListIter I ax i → v ∈ vs → Q' () s' → wpAny (model pg w) A (letOwnedTupleGo target (.ref I) v) Q' NoE s')
    (start : S vs m₀ news)
    (turn : ∀ I : Addr, (∀ p ∈ news, p.1 < I) → ∀ g v r m news' it h tk, KtsTurn (framesOf outer) g₀ g → Ground3 w A₀ base outer loose mean mg mb g → S (v :: r) m news' → it.cls = .type "list_iterator" → (∀ p ∈ news', @Ne Nat p.1 I) →
      Fr g env.locals h m → News g env.locals h ((I, it) :: news') →
      wpAny (model pg w) A (assign target env v) (fun _ s₂ => wpC (model pg w) A (execs body env) (TurnEnd w A₀ base outer loose mean mg mb g env.locals { s with heap := h, toks := tk } I it (ax, lo) (S r) Q) NoE s₂) NoE { s with heap := h, toks := tk })
    (done : ∀ g m news' h tk, KtsTurn (framesOf outer) g₀ g → Ground3 w A₀ base outer loose mean mg mb g → S [] m news' → Fr g env.locals h m → News g env.locals h news' → Q .next { s with heap := h, toks := tk }) :
    wpAny (model pg w) A (pyIter (.ref ax)) (fun it s₂ => codeC (model pg w) A (.forLoop target it body [] env) (fun r s' => match r with | .ok f => Q f s' | .error e => cameBackBy (model pg w) A env NoE e s') s₂) NoE s := by
  have hax := N _ hm
  have hl : s.heap.IsList ax vs.toArray := ⟨lo, hax.1, hc, nn, hd⟩
  refine wpAny_mono (wpAny_pyIter_list (Q := fun it s₂ => ∃ h₂, it = .ref s.heap.objs.size ∧ s₂ = { s with heap := h₂ } ∧ h₂.IsListIter s.heap.objs.size ax 0 ∧ ∀ b o, s.heap.get? b = some o → h₂.get? b = some o) (E := NoE) hl ⟨_, rfl, rfl, ⟨_, Heap.get?_push_size _ rfl, rfl, rfl⟩, fun b o e => Heap.get?_push_of_some _ e⟩) (fun itv s₂ hx₂ => ?_) fun _ _ x => x
  obtain ⟨h₂, rfl, rfl, ⟨it₀, hi₀, hc₀, hd₀⟩, hk₂⟩ := hx₂
  have hltI : ∀ p ∈ news, p.1 < s.heap.objs.size := fun p hp => Heap.lt_size (N p hp).1
  have hIL : s.heap.objs.size ≠ env.locals := fun e => absurd F.ns.lt (e ▸ Nat.lt_irrefl _)
  generalize hI : s.heap.objs.size = I at hltI hIL hi₀ ⊢
  have hI0 : g₀.get? I = none := hI ▸ next_is_new F
  refine codeC.forLoop
    (fun k s' => ∃ i g h' tk m' n' it, s' = { s with heap := h', toks := tk } ∧ KtsTurn (framesOf outer) g₀ g ∧ Ground3 w A₀ base outer loose mean mg mb g ∧ Fr g env.locals h' m' ∧ News g env.locals h' ((I, it) :: n') ∧
      it.cls = .type "list_iterator" ∧ h'.IsListIter I ax i ∧ (ax, lo) ∈ n' ∧ (∀ p ∈ n', @Ne Nat p.1 I) ∧ S (vs.drop i) m' n' ∧ i ≤ vs.length ∧ k = vs.length + 1 - i) ?_ (vs.length + 1)
    ⟨0, g₀, _, s.toks, m₀, news, it₀, rfl, .refl, G, ⟨F.ns.at' fun o e => hk₂ _ o e, fun b o e => hk₂ b o (F.keep b o e), F.above⟩, ?_, hc₀, ⟨it₀, hi₀, hc₀, hd₀⟩, hm, fun p hp => Nat.ne_of_lt (hltI p hp), by rw [List.drop_zero]; exact start, Nat.zero_le _, rfl⟩
  rotate_left
  · intro p hp
    rcases List.mem_cons.mp hp with rfl | hp
    · exact ⟨hi₀, hIL, hI0⟩
    · exact ⟨hk₂ _ _ (N p hp).1, (N p hp).2⟩
  rintro k s' ⟨i, g, h', tk, m', n', it, rfl, T, G', F', N', hitc, hit, hmem, hoff, hS, hi, rfl⟩
  have hlst : h'.IsList ax vs.toArray := ⟨lo, (N' _ (.tail _ hmem)).1, hc, nn, hd⟩
  have hIg : g.get? I = none := (N' _ (.head _)).2.2
  have step : ∀ h₁ : Heap, (∀ b o, b ≠ I → h'.get? b = some o → h₁.get? b = some o) → Fr g env.locals h₁ m' ∧ News g env.locals h₁ n' := fun h₁ hk =>
    ⟨⟨F'.ns.at' fun o e => hk _ o (fun q => hIL q.symm) e, fun b o e => hk b o (fun q => by rw [q, hIg] at e; cases e) (F'.keep b o e), F'.above⟩, fun p hp => ⟨hk _ _ (hoff p hp) (N' _ (.tail _ hp)).1, (N' _ (.tail _ hp)).2⟩⟩
  by_cases hlt : i < vs.length
  · have hv : vs.toArray[i]? = some vs[i] := by simp [hlt]
    refine wpAny_pyNext_list_item hit hlst hv fun h₁ hit₁ hs₁ => ?_
    obtain ⟨F₁, N₁⟩ := step h₁ fun b o hb e => (hs₁.2 b hb).trans e
    obtain ⟨it₁, hi₁, hc₁, hd₁⟩ := id hit₁
    have hdrop : vs.drop i = vs[i] :: vs.drop (i + 1) := List.drop_eq_getElem_cons hlt
    rw [hdrop] at hS
    refine hgo I _ _ _ _ hit₁ (List.getElem_mem hlt) ?_
    have N₂ : News g env.locals h₁ ((I, it₁) :: n') := fun p hp => by
      rcases List.mem_cons.mp hp with rfl | hp
      · exact ⟨hi₁, hIL, hIg⟩
      · exact N₁ p hp
    refine wpAny_mono (turn I hltI g _ _ m' n' it₁ h₁ tk T G' hS hc₁ hoff F₁ N₂) (fun _ s₂ h₂ => wpC.mono h₂ (fun f s₃ h₃ => ?_) fun _ _ x => x) fun _ _ x => x
    have fin : (∃ g' h' tk m' n', s₃ = { s with heap := h', toks := tk } ∧ KtsTurn (framesOf outer) g g' ∧ Ground3 w A₀ base outer loose mean mg mb g' ∧ Fr g' env.locals h' m' ∧ News g' env.locals h' ((I, it₁) :: n') ∧ (ax, lo) ∈ n' ∧ (∀ p ∈ n', @Ne Nat p.1 I) ∧ S (vs.drop (i + 1)) m' n') →
        ∃ k, k < vs.length + 1 - i ∧ ∃ i g h' tk m' n' it, s₃ = { s with heap := h', toks := tk } ∧ KtsTurn (framesOf outer) g₀ g ∧ Ground3 w A₀ base outer loose mean mg mb g ∧ Fr g env.locals h' m' ∧ News g env.locals h' ((I, it) :: n') ∧
      it.cls = .type "list_iterator" ∧ h'.IsListIter I ax i ∧ (ax, lo) ∈ n' ∧ (∀ p ∈ n', @Ne Nat p.1 I) ∧ S (vs.drop i) m' n' ∧ i ≤ vs.length ∧ k = vs.length + 1 - i := by
      rintro ⟨g₃, hp₃, tk₃, m₃, n₃, rfl, T₃, G₃, F₃, N₃, hm₃, ho₃, hS₃⟩
      exact ⟨vs.length + 1 - (i + 1), by omega, i + 1, g₃, hp₃, tk₃, m₃, n₃, it₁, rfl, T.trans T₃, G₃, F₃, N₃, hc₁, ⟨it₁, (N₃ _ (.head _)).1, hc₁, hd₁⟩, hm₃, ho₃, hS₃, hlt, rfl⟩
    cases f with
    | ret v => exact h₃
    | brk => exact h₃.elim
    | next => exact fin h₃
    | cont => exact fin h₃
  · have hz : i = vs.length := by omega
    subst hz
    rw [List.drop_length] at hS
    refine wpAny_pyNext_list_end hh hit hlst (by simp) fun h₁ he₁ => wpC.execs_nil ?_
    obtain ⟨F₁, N₁⟩ := step h₁ he₁
    exact done g m' n' h₁ tk T G' hS F₁ N₁
end
end Mine
end
section
example : True := by (w_top off); trivial
open PySem PySem.W PyProof.Rows PySem.Calls
set_option Elab.async false
namespace Mine
section
variable {prog : Program} {w : World} {A : Around} {E : Value → Shared → Prop} {s : Shared} {K : Frag} {env : Env} {pos : Pos} {f : Value} {first : List Value} {Q : Value → Shared → Prop} {e : Expr} {rest : List Expr}
theorem wpC.callWith_K {h₀ : Heap} (_X : K.In h₀) (hk : keepIn K f = true) (h : wpAny (model prog w) A (spliced (backTo pos (starEach (e :: rest) env))) (fun vs s₁ => K.In s₁.heap ∧ wpC (model prog w) A (PySem.call f (first ++ vs)) Q E s₁) E s)
    (he : starEach (e :: rest) env = (false, eval e env) :: starEach rest env := by rfl) (hplain : (backTo pos (starEach rest env)).any (·.1) = false := by rfl) :
    wpC (model prog w) A (PySem.callWith pos f first (backTo pos (starEach (e :: rest) env)) []) Q E s := by
  rw [he] at h ⊢
  exact wpC.callWith (by show ((false || (backTo pos (starEach rest env)).any (·.1)) || false) = false; rw [hplain]; rfl) (keeps_K hk) (evalArgs_plain h)
theorem wpC.callWith_M {h₀ : Heap} {L : Addr} {news : List (Addr × Obj)} {q g : Addr} {self : Value} (_X : K.In h₀) (_N : News h₀ L s.heap news) (_q : (q, methodObj (.ref g) self) ∈ news) (hf : fnIn K g = true)
    (h : wpAny (model prog w) A (spliced (backTo pos (starEach (e :: rest) env))) (fun vs s₁ => MethP K q g self s₁.heap ∧ wpC (model prog w) A (PySem.call (.ref q) (first ++ vs)) Q E s₁) E s)
    (he : starEach (e :: rest) env = (false, eval e env) :: starEach rest env := by rfl) (hplain : (backTo pos (starEach rest env)).any (·.1) = false := by rfl) :
    wpC (model prog w) A (PySem.callWith pos (.ref q) first (backTo pos (starEach (e :: rest) env)) []) Q E s := by
  rw [he] at h ⊢
  exact wpC.callWith (by show ((false || (backTo pos (starEach rest env)).any (·.1)) || false) = false; rw [hplain]; rfl) (keeps_M hf) (evalArgs_plain h)
theorem wpC.callWith_T {n : String} (h : wpAny (model prog w) A (spliced (backTo pos (starEach (e :: rest) env))) (fun vs s₁ => wpC (model prog w) A (PySem.call (.type n) (first ++ vs)) Q E s₁) E s)
    (he : starEach (e :: rest) env = (false, eval e env) :: starEach rest env := by rfl) (hplain : (backTo pos (starEach rest env)).any (·.1) = false := by rfl) :
    wpC (model prog w) A (PySem.callWith pos (.type n) first (backTo pos (starEach (e :: rest) env)) []) Q E s := by
  rw [he] at h ⊢
  exact wpC.callWith (P := fun _ => True) (by show ((false || (backTo pos (starEach rest env)).any (·.1)) || false) = false; rw [hplain]; rfl) (fun _ _ => ⟨.machine, .inr (.inl rfl), .now⟩) (evalArgs_plain (wpAny_mono h (fun _ _ x => ⟨trivial, x⟩) fun _ _ x => x))
end
theorem MeetsT.of {w : World} {d : Nat} {f : Value} {vals : List Value} {kw : List (Str × Value)} {args : List (Addr × Obj)} {P : Value → List (Addr × Obj) → Prop}
    (h : ∀ (loose : List Str) (mean : ExcName → Option Value) (mg mb : Str → Option Value) (dp un : Nat) (gd : Option (List Code)) (cn : Str) (sn : List (Str × NameKind)) (sg sc : Bool) (sm : List (Str × Const))
    (a : Addr) (ccd : Value) (cl : List (Str × Addr)) (outer : List Env) (A₀ : Around) (base h₀ : Heap) (L : Addr) (m : Str → Option Value) (s : Shared) (Q E : Value → Shared → Prop) (news : List (Addr × Obj)),
    Below A₀ base outer h₀ → Fr h₀ L s.heap m → (lawTop.heap_39 w.params).In h₀ → News h₀ L s.heap news → (∀ p ∈ args, p ∈ news) → Top lawTop.view_39 loose mean mg mb h₀ →
    dp + d < recursionLimit → un + 20 * d < cLine →
    (∀ v new h' tk', P v new → Fr h₀ L h' m → News h₀ L h' (new ++ news) → (∀ q ∈ new, ∀ p ∈ news, @Ne Nat p.1 q.1) → Q v { s with heap := h', toks := tk' }) →
    codeAny (model pg w) (ktrTop dp un gd cn ⟨.function, sn, sg, sc, sm⟩ L a ccd cl outer) (.call f ⟨vals, kw⟩) (fun r s' => match r with | .ok (.ret v) => Q v s' | .ok _ => False | .error e => E e s') s) : MeetsT w d f vals kw args P :=
  Meets.toT fun loose mean mg mb dp un gd cn sn sg sc sm a ccd cl outer A₀ base h₀ L m s Q news B F X N ha T hd hu ret =>
    codeAny_mono (h loose mean mg mb dp un gd cn sn sg sc sm a ccd cl outer A₀ base h₀ L m s Q NoE news B F X N ha T hd hu ret) fun r s' x => by
      cases r with
      | error e => exact x.elim
      | ok f => cases f <;> first | exact x | exact x.elim
/-- a call of a bound method whose function meets a contract -/
theorem MeetsT.callM {w : World} {d : Nat} {f self : Value} {vals : List Value} {kw : List (Str × Value)} {args news : List (Addr × Obj)} {P : Value → List (Addr × Obj) → Prop} (h : MeetsT w d f (self :: vals) kw args P)
    {loose : List Str} {mean : ExcName → Option Value} {mg mb : Str → Option Value} {dp un : Nat} {gd : Option (List Code)} {cn : Str} {sn : List (Str × NameKind)} {sg sc : Bool} {sm : List (Str × Const)}
    {a : Addr} {ccd : Value} {cl : List (Str × Addr)} {outer : List Env} {A₀ : Around} {base h₀ : Heap} {L q : Addr} {m : Str → Option Value} {s : Shared} {Q E : Value → Shared → Prop}
    (G : Ground3 w A₀ base outer loose mean mg mb h₀) (F : Fr h₀ L s.heap m) (N : News h₀ L s.heap news) (ha : ∀ p ∈ args, p ∈ news) (hq : (q, methodObj f self) ∈ news)
    (hd : dp + d < recursionLimit) (hu : un + 20 * d < cLine)
    (r : ∀ v new h' tk' h₀', KtsTurn (framesOf outer) h₀ h₀' → P v new → Ground3 w A₀ base outer loose mean mg mb h₀' → Fr h₀' L h' m → News h₀' L h' (new ++ news) → (∀ q ∈ new, ∀ p ∈ news, @Ne Nat p.1 q.1) → Q v { s with heap := h', toks := tk' }) :
    wpC (model pg w) (ktrTop dp un gd cn ⟨.function, sn, sg, sc, sm⟩ L a ccd cl outer) (PySem.call (.ref q) vals kw) Q E s :=
  wpC.call (codeC.method (N _ hq).1 (codeC.mono (h _ _ _ _ _ _ _ _ _ _ _ _ _ _ _ _ _ _ _ _ _ _ _ _ G F N ha hd hu r) fun q s' x => by
    cases q with
    | error e => exact x.elim
    | ok f => cases f <;> first | exact x | exact x.elim))
end Mine
end
section
example : True := by (w_top off); trivial
open PySem PySem.W PyProof.Rows
set_option Elab.async false
namespace Mine
example (w : World) : (∀ h, (lawTop.heap_39 w.params).In h → PySem.Challenge.rw_ew0023_01 = PySem.Challenge.rw_ew0023_01) := by k_fill; intros; rfl
local macro_rules | `(tactic| k_room) => `(tactic| ktr_room)
local macro_rules | `(tactic| walk_at "mine enter") => `(tactic| (rename BindHint _ => bh; unfold Meets; intro loose mean mg mb dp un gd cn sn sg sc sm a ccd cl outer A₀ base h₀ L m s Q E news B F X N ha T hd hu ret; refine wpAny_call ?_; k_dflt (first
  | (refine' enterM (by assumption) B F X N ha T ?kA ?kF ?kK ?k6 ?k7 ?k8 ?k9 ?kB ret ?_ ?c2 ?c3 ?c4 ?c5; (case kA => exact rfl); (case kF => exact rfl); (case kK => exact rfl); (case k6 => k_is); (case k7 => k_is); (case k8 => k_room); (case k9 => first | exact BindsTo.of_eq rfl | exact binds_K (Frag.In.keeps X (Fr.keep F)) rfl (by k_is) rfl rfl rfl); (case c5 => decide); (case kB => exact locs rfl); (case c2 => exact rfl); (case c3 => exact rfl); (case c4 => exact rfl); k_whole; clear B F X N ha T ret bh; intro g' L' h' F' N' l1 B' X' T'; (try k_lt l1); (try dsimp only); (try k_fold))
  | (refine' enterC (by assumption) B F X N ha T ?kA ?kF ?kK ?k6 ?k7 ?k8 ?k9 ?kB ?kD ret ?_ ?c2 ?c3 ?c4; (case kA => exact rfl); (case kF => exact rfl); (case kK => exact rfl); (case k6 => k_is); (case k7 => k_is); (case k8 => k_room); (case k9 => first | exact BindsTo.of_eq rfl | exact binds_K (Frag.In.keeps X (Fr.keep F)) rfl (by k_is) rfl rfl rfl); (case kB => exact rfl); (case kD => decide +kernel); (case c2 => exact rfl); (case c3 => exact rfl); (case c4 => exact rfl); k_whole; clear B F X N ha T ret bh; intro g' L' h' tk' cells' F' N' Y' l1 B' X' T'; (try k_lt l1); k_cells Y'; (try simp only [List.cons_append, List.nil_append] at N'); (try dsimp only); (try k_fold)))))
local macro_rules | `(tactic| walk_at "exec Assign cons ListComp") => `(tactic| (k_here; (with_reducible show wpAny _ _ (exec (Stmt.Assign _ (Expr.ListComp _ [⟨_, Expr.Tuple _ _ _, _, _⟩] _ _) _) _) _ _ _); k_dflt (refine assign_compTup (F₀ := by k_asm) (by rfl) (by with_unfolding_all rfl) (by with_unfolding_all rfl) (by decide) (by rfl) (by decide) (by rfl) (by rfl) (by rfl) ?_)))
local macro_rules | `(tactic| walk_at "TupSrc") => `(tactic| (k_here; k_dflt (refine TupSrc.of (by rfl) (by k_asm) (by k_asm) (by k_mem) (by first | size_fits | exact Nat.le_of_ble_eq_true rfl) ?_); intro g'; lcg_lit))
local macro_rules | `(tactic| lcg_src) => `(tactic| exact ⟨_, by k_mem, rfl, _, rfl⟩)
local macro_rules | `(tactic| walk_at "CompEnd") => `(tactic| (k_here; k_dflt (refine compEnd_same (by assumption) (by assumption) (by (simp only [LCg.Off3, and_true]; assumption)) (by lcg_src) ?_)))
local macro_rules | `(tactic| k_handed) => `(tactic| exact handed_optV _ _)
local macro_rules | `(tactic| walk_at "mine sub") => `(tactic| first | exact List.forall_mem_nil _ | (refine List.forall_mem_cons.mpr ⟨by k_mem, ?_⟩; walk_at "mine sub"))
local macro_rules | `(tactic| walk_at "mine off1") => `(tactic| first | exact List.forall_mem_nil _ | (refine List.forall_mem_cons.mpr ⟨by k_ne, ?_⟩; walk_at "mine off1"))
local macro_rules | `(tactic| walk_at "mine off") => `(tactic| first | exact List.forall_mem_nil _ | (refine List.forall_mem_cons.mpr ⟨?a, ?b⟩; (case a => walk_at "mine off1"); (case b => walk_at "mine off")))

local macro_rules | `(tactic| walk_at "mine done") => `(tactic| first | exact Done.intro (by assumption) (by assumption) ⟨_, rfl, rfl⟩ (by walk_at "mine sub") (by walk_at "mine sub") (by walk_at "mine off") | exact Done.intro (by assumption) (by assumption) ⟨_, _, rfl, rfl⟩ (by walk_at "mine sub") (by walk_at "mine sub") (by walk_at "mine off") | exact Done.intro (by assumption) (by assumption) ⟨_, _, _, rfl, rfl⟩ (by walk_at "mine sub") (by walk_at "mine sub") (by walk_at "mine off") | exact Done.intro (by assumption) (by assumption) ⟨_, _, _, _, rfl, rfl⟩ (by walk_at "mine sub") (by walk_at "mine sub") (by walk_at "mine off") | exact Done.intro (by assumption) (by assumption) ⟨_, _, _, _, _, rfl, rfl⟩ (by walk_at "mine sub") (by walk_at "mine sub") (by walk_at "mine off") | exact Done.intro (by assumption) (by assumption) ⟨_, _, _, _, _, _, rfl, rfl⟩ (by walk_at "mine sub") (by walk_at "mine sub") (by walk_at "mine off") | exact Done.intro (by assumption) (by assumption) ⟨_, _, _, _, _, _, _, rfl, rfl⟩ (by walk_at "mine sub") (by walk_at "mine sub") (by walk_at "mine off") | exact Done.intro (by assumption) (by assumption) ⟨_, _, _, _, _, _, _, _, rfl, rfl⟩ (by walk_at "mine sub") (by walk_at "mine sub") (by walk_at "mine off") | exact Done.intro (by assumption) (by assumption) ⟨_, _, _, _, _, _, _, _, _, rfl, rfl⟩ (by walk_at "mine sub") (by walk_at "mine sub") (by walk_at "mine off") | exact Done.intro (by assumption) (by assumption) ⟨_, _, _, _, _, _, _, _, _, _, rfl, rfl⟩ (by walk_at "mine sub") (by walk_at "mine sub") (by walk_at "mine off") | exact Done.intro (by assumption) (by assumption) ⟨_, _, _, _, _, _, _, _, _, _, _, rfl, rfl⟩ (by walk_at "mine sub") (by walk_at "mine sub") (by walk_at "mine off") | exact Done.intro (by assumption) (by assumption) ⟨_, _, _, _, _, _, _, _, _, _, _, _, rfl, rfl⟩ (by walk_at "mine sub") (by walk_at "mine sub") (by walk_at "mine off") | exact Done.intro (by assumption) (by assumption) ⟨_, _, _, _, _, _, _, _, _, _, _, _, _, rfl, rfl⟩ (by walk_at "mine sub") (by walk_at "mine sub") (by walk_at "mine off"))
local macro_rules | `(tactic| walk_at "mine steps") => `(tactic| repeat' (first | (k_unfold; (try dsimp only)) | walk1 | (dsimp only; walk1) | fail "no step"))
local macro_rules | `(tactic| walk_at "subscriptTail Name Constant ref int") => `(tactic| (k_here; k_dflt (refine' item_led ?k0 ?km ?k2 ?k3 ?k4 ?_ ?k6; (case k0 => k_asm); (case km => k_mem); (case k2 => decide); (case k3 => decide); (case k4 => exact rfl); (case k6 => with_unfolding_all rfl); k_whole)))
local macro_rules | `(tactic| walk_at "subscriptTail Name Name ref int") => `(tactic| (k_here; k_dflt (refine' item_led ?k0 ?km ?k2 ?k3 ?k4 ?_ ?k6; (case k0 => k_asm); (case km => k_mem); (case k2 => decide); (case k3 => decide); (case k4 => exact rfl); (case k6 => with_unfolding_all rfl); k_whole)))
local macro_rules | `(tactic| walk_at "mine to if") => `(tactic| repeat ((fail_if_success (with_reducible show wpAny _ _ (exec (Stmt.If _ _ _ _) _) _ _ _)); (first | walk1 | (k_unfold; (try dsimp only)) | (dsimp only; walk1))))
local macro_rules | `(tactic| walk_at "mine to cmp") => `(tactic| repeat ((fail_if_success (with_reducible show wpAny _ _ (exec (Stmt.If (Expr.Compare _ _ _ _) _ _ _) _) _ _ _)); (first | walk1 | (k_unfold; (try dsimp only)) | (dsimp only; walk1))))
local macro_rules | `(tactic| walk_at "mine cutS end") => `(tactic| exact ⟨rfl, _, _, _, rfl, (by first | assumption | exact Fr.same (by assumption) (by rfl)), (by first | assumption | exact News.sub (by assumption) (by walk_at "mine sub"))⟩)
local macro_rules | `(tactic| walk_at "mine len") => `(tactic| first | with_reducible assumption | (with_reducible refine' len_int ?a; (case a => omega)) | (with_reducible refine' len_add ?a ?b; (case a => walk_at "mine len"); (case b => walk_at "mine len")) | with_reducible exact Nat.le_refl _)
local macro_rules | `(tactic| walk_at "binaryOp Add str str") => `(tactic| (k_here; (with_reducible show wpAny _ _ (binaryOp Operator.Add (Value.str _ _) (Value.str _ _)) _ _ _); (refine' add_short ?a ?b ?c ?_; (case a => walk_at "mine len"); (case b => walk_at "mine len"); (case c => k_dflt exact rfl)); intro _ _))
local macro_rules | `(tactic| walk_at "eval Name") => `(tactic| ((with_reducible refine' ld ?F ?hv ?_ ?hk ?hl ?hd); (case F => first | with_reducible assumption | k_dflt assumption); (case hv => k_dflt exact rfl); (case hk => k_dflt exact rfl); (case hl => k_dflt exact rfl); (case hd => decide)))
local macro_rules | `(tactic| walk_at "mine to iter") => `(tactic| repeat ((fail_if_success (with_reducible show wpAny _ _ (pyIter _) _ _ _)); (first | walk1 | (k_unfold; (try dsimp only)) | (dsimp only; walk1))))
local macro_rules | `(tactic| size_fits) => `(tactic| exact strV_fits (by omega))
local macro_rules | `(tactic| walk_at "mine cutV end") => `(tactic| exact ⟨⟨_, rfl⟩, _, _, rfl, by assumption, by first | assumption | exact News.sub (by assumption) (by walk_at "mine sub")⟩)
local macro_rules | `(tactic| walk_at "mine to ifexp") => `(tactic| repeat ((fail_if_success (with_reducible show wpAny _ _ (eval (Expr.IfExp _ _ _ _) _) _ _ _)); (first | walk1 | (k_unfold; (try dsimp only)) | (dsimp only; walk1))))
local macro_rules | `(tactic| walk_at "mine tidy") => `(tactic| repeat (first | (with_reducible rename LCg.NsObj _ _ => q; clear q) | (with_reducible rename (_ ≠ _ ∧ _ ≠ _ ∧ _ ≠ _) => q; clear q) | (with_reducible rename ((_ ≠ _ ∧ _ ≠ _ ∧ _ ≠ _) ∧ _) => q; clear q) | (with_reducible rename (_[_]? = some _) => q; clear q) | (with_reducible rename (_ ≠ _ ∧ _) => q; clear q)))
local macro_rules | `(tactic| walk_at "mine lt") => `(tactic| first | exact List.forall_mem_nil _ | (refine List.forall_mem_cons.mpr ⟨by (show @LT.lt Nat _ _ _; omega), ?_⟩; walk_at "mine lt"))
local macro_rules | `(tactic| walk_at "mine cutB end") => `(tactic| refine ⟨?_, _, _, rfl, (by assumption), (by first | assumption | exact News.sub (by assumption) (by walk_at "mine sub"))⟩)
local macro_rules | `(tactic| walk_at "mine to make") => `(tactic| repeat ((fail_if_success (with_reducible show wpAny _ _ (callWith _ (Value.ref _) [] _ _) _ _ _)); (first | walk1 | (k_unfold; (try dsimp only)) | (dsimp only; walk1))))
local macro_rules | `(tactic| walk_at "mine KI") => `(tactic| first | assumption | exact All2.nil | exact KI.put All2.nil | exact KI.put (KI.put All2.nil) | exact KI.put (KI.put (KI.put All2.nil)) | exact KI.put (KI.put (KI.put (KI.put All2.nil))) | exact KI.put (KI.put (KI.put (KI.put (KI.put All2.nil)))) | exact KI.put (KI.put (KI.put (KI.put (KI.put (KI.put All2.nil))))) | exact KI.put (KI.put (KI.put (KI.put (KI.put (KI.put (KI.put All2.nil)))))) | exact KI.put (KI.put (KI.put (KI.put (KI.put (KI.put (KI.put (KI.put All2.nil))))))))
local macro_rules | `(tactic| walk_at "mine kw") => `(tactic| first | assumption | exact (List.forall_mem_nil _) | exact (putI_mem (List.forall_mem_nil _) (by decide)) | exact (putI_mem (putI_mem (List.forall_mem_nil _) (by decide)) (by decide)) | exact (putI_mem (putI_mem (putI_mem (List.forall_mem_nil _) (by decide)) (by decide)) (by decide)) | exact (putI_mem (putI_mem (putI_mem (putI_mem (List.forall_mem_nil _) (by decide)) (by decide)) (by decide)) (by decide)) | exact (putI_mem (putI_mem (putI_mem (putI_mem (putI_mem (List.forall_mem_nil _) (by decide)) (by decide)) (by decide)) (by decide)) (by decide)) | exact (putI_mem (putI_mem (putI_mem (putI_mem (putI_mem (putI_mem (List.forall_mem_nil _) (by decide)) (by decide)) (by decide)) (by decide)) (by decide)) (by decide)) | exact (putI_mem (putI_mem (putI_mem (putI_mem (putI_mem (putI_mem (putI_mem (List.forall_mem_nil _) (by decide)) (by decide)) (by decide)) (by decide)) (by decide)) (by decide)) (by decide)) | exact (putI_mem (putI_mem (putI_mem (putI_mem (putI_mem (putI_mem (putI_mem (putI_mem (List.forall_mem_nil _) (by decide)) (by decide)) (by decide)) (by decide)) (by decide)) (by decide)) (by decide)) (by decide)))
local macro_rules | `(tactic| walk_at "mine kz") => `(tactic| first | (refine Nat.le_trans (putI_len _ _ _) ?_; refine Nat.succ_le_succ ?_; walk_at "mine kz") | exact Nat.zero_le _ | (simp only [List.length_nil]; omega) | omega)
local macro_rules | `(tactic| walk_at "mine spread") => `(tactic| (k_here; k_dflt (refine' spread_iv ?zhL ?zhI ?zhk ?zhz ?zB ?zF ?zX ?zN ?zT ?zhd ?zhu ?zhkw ?zhm ?zhy ?zhky ?zhdb ?zhf ?zlo ?zD ?_; (case zhL => exact rfl); (case zF => k_asm); (case zhkw => exact rfl); (case zhy => exact rfl); (case zN => k_asm); (case zhm => k_mem); (case zD => assumption); (case zlo => assumption); (case zhI => walk_at "mine KI"); (case zhk => walk_at "mine kw"); (case zhz => walk_at "mine kz"); (case zB => k_asm); (case zX => k_asm); (case zT => k_asm); (case zhd => ktr_room); (case zhu => ktr_units); (case zhky => exact rfl); (case zhdb => decide); (case zhf => exact rfl)); intro x' dx' kk' tt' h' tk' F' N' hne'; (try simp only [List.cons_append, List.nil_append] at N'); replace hne' := offA_of hne'; simp only [OffA, OffL, and_true, true_and] at hne'; k_sweep))
local macro_rules | `(tactic| walk_at "mine enterK") => `(tactic| (rename BindHint _ => bh; refine MeetsT.of ?_; intro loose mean mg mb dp un gd cn sn sg sc sm a ccd cl outer A₀ base h₀ L m s Q E news B F X N ha T hd hu ret; k_dflt (first
  | (refine' enterM (by assumption) B F X N ha T ?kA ?kF ?kK ?k6 ?k7 ?k8 ?k9 ?kB ret ?_ ?c2 ?c3 ?c4 ?c5; (case kA => exact rfl); (case kF => exact rfl); (case kK => exact rfl); (case k6 => k_is); (case k7 => k_is); (case k8 => k_room); (case k9 => first | exact BindsTo.of_eq rfl | exact binds_K (Frag.In.keeps X (Fr.keep F)) rfl (by k_is) rfl rfl rfl); (case c5 => decide); (case kB => exact locs rfl); (case c2 => exact rfl); (case c3 => exact rfl); (case c4 => exact rfl); k_whole; clear B F X N ha T ret bh; intro g' L' h' F' N' l1 B' X' T'; (try k_lt l1); (try dsimp only); (try k_fold))
  | (refine' enterC (by assumption) B F X N ha T ?kA ?kF ?kK ?k6 ?k7 ?k8 ?k9 ?kB ?kD ret ?_ ?c2 ?c3 ?c4; (case kA => exact rfl); (case kF => exact rfl); (case kK => exact rfl); (case k6 => k_is); (case k7 => k_is); (case k8 => k_room); (case k9 => first | exact BindsTo.of_eq rfl | exact binds_K (Frag.In.keeps X (Fr.keep F)) rfl (by k_is) rfl rfl rfl); (case kB => exact rfl); (case kD => decide +kernel); (case c2 => exact rfl); (case c3 => exact rfl); (case c4 => exact rfl); k_whole; clear B F X N ha T ret bh; intro g' L' h' tk' cells' F' N' Y' l1 B' X' T'; (try k_lt l1); k_cells Y'; (try simp only [List.cons_append, List.nil_append] at N'); (try dsimp only); (try k_fold)))))
local macro_rules | `(tactic| walk_at "call ref") => `(tactic| (k_here; k_dflt (refine' Meets.use (iso_spec _ _ _ ?hf _ _ _ _ _ _ _) ?k1 ?k2 ?k3 ?k4 ?ka ?k5 ?kd ?ku ?_; (case k1 => k_asm); (case k2 => k_asm); (case k3 => k_asm); (case k4 => k_asm); (case ka => walk_at "mine sub"); (case hf => assumption); (case k5 => k_asm); (case kd => ktr_room); (case ku => ktr_units)); intro v' new' h' tk' hP F' N' hne'; obtain ⟨e2', t', e1'⟩ := hP; subst e1' e2'; (try simp only [List.cons_append, List.nil_append] at N'); replace hne' := offA_of hne'; simp only [OffA, OffL, and_true, true_and] at hne'; skip; k_sweep))
local macro_rules | `(tactic| walk_at "call ref") => `(tactic| (k_here; k_dflt (refine' Meets.use (pg_spec _ _ _ ?hf _ _ _ _ _ _ _) ?k1 ?k2 ?k3 ?k4 ?ka ?k5 ?kd ?ku ?_; (case k1 => k_asm); (case k2 => k_asm); (case k3 => k_asm); (case k4 => k_asm); (case ka => walk_at "mine sub"); (case hf => assumption); (case k5 => k_asm); (case kd => ktr_room); (case ku => ktr_units)); intro v' new' h' tk' hP F' N' hne'; obtain ⟨e2', t', e1'⟩ := hP; subst e1' e2'; (try simp only [List.cons_append, List.nil_append] at N'); replace hne' := offA_of hne'; simp only [OffA, OffL, and_true, true_and] at hne'; skip; k_sweep))
local macro_rules | `(tactic| walk_at "call ref") => `(tactic| (k_here; k_dflt (refine' Meets.use (vb_spec _ _ _ ?hf _ _ _ _ _ _ _) ?k1 ?k2 ?k3 ?k4 ?ka ?k5 ?kd ?ku ?_; (case k1 => k_asm); (case k2 => k_asm); (case k3 => k_asm); (case k4 => k_asm); (case ka => walk_at "mine sub"); (case hf => assumption); (case k5 => k_asm); (case kd => ktr_room); (case ku => ktr_units)); intro v' new' h' tk' hP F' N' hne'; obtain ⟨e2', t', e1'⟩ := hP; subst e1' e2'; (try simp only [List.cons_append, List.nil_append] at N'); replace hne' := offA_of hne'; simp only [OffA, OffL, and_true, true_and] at hne'; skip; k_sweep))
local macro_rules | `(tactic| walk_at "call ref") => `(tactic| (k_here; k_dflt (refine' Meets.use (st_spec _ _ _ ?hf _ _ _ _ _ _ _) ?k1 ?k2 ?k3 ?k4 ?ka ?k5 ?kd ?ku ?_; (case k1 => k_asm); (case k2 => k_asm); (case k3 => k_asm); (case k4 => k_asm); (case ka => walk_at "mine sub"); (case hf => assumption); (case k5 => k_asm); (case kd => ktr_room); (case ku => ktr_units)); intro v' new' h' tk' hP F' N' hne'; obtain ⟨e2', t', e1'⟩ := hP; subst e1' e2'; (try simp only [List.cons_append, List.nil_append] at N'); replace hne' := offA_of hne'; simp only [OffA, OffL, and_true, true_and] at hne'; skip; k_sweep))
def keepI (n : Int) : Option Int := if n = 0 then none else some n
structure Way where
  tx : Str
  due : Iv
def keptIv (f : Fld) : Iv := { y := keepI f.y, mo := keepI f.mo, d := keepI f.d, h := keepI f.h, mi := keepI f.mi, s := keepI f.s }
def stIv (f : Fld) : Iv :=
  { y := if [f.y, f.mo] = [0, 0] then none else some f.y, mo := if [f.y, f.mo] = [0, 0] then none else some f.mo,
    d := if [f.d, f.h, f.mi, f.s] = [0, 0, 0, 0] then none else some f.d, h := if [f.d, f.h, f.mi, f.s] = [0, 0, 0, 0] then none else some f.h,
    mi := if [f.d, f.h, f.mi, f.s] = [0, 0, 0, 0] then none else some f.mi, s := if [f.d, f.h, f.mi, f.s] = [0, 0, 0, 0] then none else some f.s }
def pgOk (f : Fld) : Bool := decide ((0 ≤ f.h ∧ 0 ≤ f.mi ∧ 0 ≤ f.s) ∨ (f.mi = 0 ∧ f.s = 0))
def ways (f : Fld) : List Way :=
  if [f.y, f.mo, f.d, f.h, f.mi, f.s] = [0, 0, 0, 0, 0, 0] then [⟨isoText f, { keptIv f with s := some 0 }⟩, ⟨vbText f, keptIv f⟩, ⟨pgText f, keptIv f⟩]
  else if pgOk f = true then [⟨isoText f, keptIv f⟩, ⟨vbText f, keptIv f⟩, ⟨pgText f, keptIv f⟩, ⟨stText f, stIv f⟩] else [⟨isoText f, keptIv f⟩, ⟨vbText f, keptIv f⟩, ⟨stText f, stIv f⟩]
def wayTup (x : Str) (t : Tok) (q : Addr) : Obj := { cls := .type "tuple", data := .seq #[.str x t, .ref q] }
def WayAt (new : List (Addr × Obj)) (r : Value) (u : Way) : Prop := ∃ (p : Addr) (t : Tok) (q : Addr) (ts : Nat → Tok) (n : Nat), r = .ref p ∧ (p, wayTup u.tx t q) ∈ new ∧ (q, listR u.due ts n) ∈ new
theorem WayAt.of {new : List (Addr × Obj)} {p q : Addr} {tx : Str} {due : Iv} {t u0 u1 u2 u3 u4 u5 : Tok} {n : Nat} (hp : (p, wayTup tx t q) ∈ new)
    (hq : (q, W.listOf #[optV due.y u0, optV due.mo u1, optV due.d u2, optV due.h u3, optV due.mi u4, optV due.s u5] n) ∈ new) : WayAt new (.ref p) ⟨tx, due⟩ :=
  ⟨p, t, q, fun i => match i with | 3 => u0 | 4 => u1 | 6 => u2 | 7 => u3 | 8 => u4 | _ => u5, n, rfl, hp, hq⟩
set_option maxRecDepth 100000 in
set_option maxHeartbeats 8000000 in
theorem ways_spec (w : World) (x : Addr) (f : Fld) (hf : FOk f) (t0 t1 t2 t3 t4 t5 : Tok) (n : Nat) :
  Meets w 15 (.ref 151) [.ref x] [] [(x, fobj f t0 t1 t2 t3 t4 t5 n)] fun v new => ∃ l n rs, v = .ref l ∧ (l, W.listOf (List.toArray rs) n) ∈ new ∧ All2 (WayAt new) rs (ways f) := by
  have hf0 := hf
  obtain ⟨hy, hmo, hd, hh, hmi, hs, hym, hhms⟩ := hf
  have bh : BindHint [(Str.ofString "fields", .ref x)] := ⟨trivial⟩
  walk_at "mine enter"
  walk_at "mine to ifexp"
  refine cutVal (fun v => ∃ t, v = optV (keepI f.y) t) (by assumption) (by assumption) ?_ ?_
  · walk_at "mine steps"
    · rw [keepI, if_neg (by assumption)]; walk_at "mine cutV end"
    · rw [keepI, if_pos (by assumption)]; exact ⟨⟨0, rfl⟩, _, _, rfl, by assumption, by first | assumption | exact News.sub (by assumption) (by walk_at "mine sub")⟩
  intro v h' tk' ⟨u0, hv⟩ F' N'
  subst hv
  k_sweep
  walk1
  walk_at "mine to ifexp"
  refine cutVal (fun v => ∃ t, v = optV (keepI f.mo) t) (by assumption) (by assumption) ?_ ?_
  · walk_at "mine steps"
    · rw [keepI, if_neg (by assumption)]; walk_at "mine cutV end"
    · rw [keepI, if_pos (by assumption)]; exact ⟨⟨0, rfl⟩, _, _, rfl, by assumption, by first | assumption | exact News.sub (by assumption) (by walk_at "mine sub")⟩
  intro v h' tk' ⟨u1, hv⟩ F' N'
  subst hv
  k_sweep
  walk1
  walk_at "mine to ifexp"
  refine cutVal (fun v => ∃ t, v = optV (keepI f.d) t) (by assumption) (by assumption) ?_ ?_
  · walk_at "mine steps"
    · rw [keepI, if_neg (by assumption)]; walk_at "mine cutV end"
    · rw [keepI, if_pos (by assumption)]; exact ⟨⟨0, rfl⟩, _, _, rfl, by assumption, by first | assumption | exact News.sub (by assumption) (by walk_at "mine sub")⟩
  intro v h' tk' ⟨u2, hv⟩ F' N'
  subst hv
  k_sweep
  walk1
  walk_at "mine to ifexp"
  refine cutVal (fun v => ∃ t, v = optV (keepI f.h) t) (by assumption) (by assumption) ?_ ?_
  · walk_at "mine steps"
    · rw [keepI, if_neg (by assumption)]; walk_at "mine cutV end"
    · rw [keepI, if_pos (by assumption)]; exact ⟨⟨0, rfl⟩, _, _, rfl, by assumption, by first | assumption | exact News.sub (by assumption) (by walk_at "mine sub")⟩
  intro v h' tk' ⟨u3, hv⟩ F' N'
  subst hv
  k_sweep
  walk1
  walk_at "mine to ifexp"
  refine cutVal (fun v => ∃ t, v = optV (keepI f.mi) t) (by assumption) (by assumption) ?_ ?_
  · walk_at "mine steps"
    · rw [keepI, if_neg (by assumption)]; walk_at "mine cutV end"
    · rw [keepI, if_pos (by assumption)]; exact ⟨⟨0, rfl⟩, _, _, rfl, by assumption, by first | assumption | exact News.sub (by assumption) (by walk_at "mine sub")⟩
  intro v h' tk' ⟨u4, hv⟩ F' N'
  subst hv
  k_sweep
  walk1
  walk_at "mine to ifexp"
  refine cutVal (fun v => ∃ t, v = optV (keepI f.s) t) (by assumption) (by assumption) ?_ ?_
  · walk_at "mine steps"
    · rw [keepI, if_neg (by assumption)]; walk_at "mine cutV end"
    · rw [keepI, if_pos (by assumption)]; exact ⟨⟨0, rfl⟩, _, _, rfl, by assumption, by first | assumption | exact News.sub (by assumption) (by walk_at "mine sub")⟩
  intro v h' tk' ⟨u5, hv⟩ F' N'
  subst hv
  k_sweep
  walk1
  walk1
  walk1
  walk_at "mine tidy"
  walk_at "mine to ifexp"
  (rename Fr _ _ _ _ => hF)
  by_cases hz : [f.y, f.mo, f.d, f.h, f.mi, f.s] = [0, 0, 0, 0, 0, 0]
  · rw [decide_eq_true hz] at hF
    have hz0 := hz
    simp only [List.cons.injEq, and_true] at hz
    obtain ⟨z0, z1, z2, z3, z4, z5⟩ := hz
    walk_at "mine steps"
    dsimp only
    refine Done.intro (new := [(_, W.listOf #[.ref _, .ref _, .ref _] _), (_, wayTup (isoText f) _ _), (_, wayTup (vbText f) _ _), (_, wayTup (pgText f) _ _), (_, W.listOf #[optV (keepI f.y) _, optV (keepI f.mo) _, optV (keepI f.d) _, optV (keepI f.h) _, optV (keepI f.mi) _, .int 0 _] _), (_, W.listOf #[optV (keepI f.y) _, optV (keepI f.mo) _, optV (keepI f.d) _, optV (keepI f.h) _, optV (keepI f.mi) _, optV (keepI f.s) _] _)]) (by assumption) (by assumption) ⟨_, _, _, rfl, List.Mem.head _, ?_⟩ (by walk_at "mine sub") (by walk_at "mine sub") (by walk_at "mine off")
    rw [ways, if_pos hz0]
    exact .cons (WayAt.of (by k_mem) (by k_mem)) (.cons (WayAt.of (by k_mem) (by k_mem)) (.cons (WayAt.of (by k_mem) (by k_mem)) .nil))
  · rw [decide_eq_false hz] at hF
    walk_at "mine to if"
    refine wpAny_If (cutBool (pgOk f) (by assumption) (by assumption) ?_ ?_)
    · walk_at "mine steps"
      · walk_at "mine cutB end"
        exact (decide_eq_true (by omega)).symm
      · walk_at "mine cutB end"
        (rename ([f.mi, f.s] = [0, 0]) => q)
        simp only [List.cons.injEq, and_true] at q
        exact (decide_eq_true (by omega)).symm
      · walk_at "mine cutB end"
        (rename (¬ [f.mi, f.s] = [0, 0]) => q)
        simp only [List.cons.injEq, and_true] at q
        exact (decide_eq_false (by omega)).symm
    intro h' tk' F' N'
    k_sweep
    by_cases hc : pgOk f = true
    · rw [if_pos hc]
      have ew : ways f = [⟨isoText f, keptIv f⟩, ⟨vbText f, keptIv f⟩, ⟨pgText f, keptIv f⟩, ⟨stText f, stIv f⟩] := by rw [ways, if_neg hz, if_pos hc]
      walk_at "mine to ifexp"
      refine cutNew (fun o => ∃ t u n, o = W.listOf #[optV (stIv f).y t, optV (stIv f).mo u] n) (by assumption) (by assumption) ?_ ?_
      · by_cases hq : [f.y, f.mo] = [0, 0]
        · have e1 : (stIv f).y = none := if_pos hq
          have e2 : (stIv f).mo = none := if_pos hq
          rw [e1, e2]
          walk_at "mine steps"
          · exact ⟨_, _, rfl, ⟨0, 0, _, rfl⟩, by walk_at "mine lt", _, _, rfl, by assumption, News.sub (by assumption) (by walk_at "mine sub")⟩
        · have e1 : (stIv f).y = some f.y := if_neg hq
          have e2 : (stIv f).mo = some f.mo := if_neg hq
          rw [e1, e2]
          walk_at "mine steps"
          · exact ⟨_, _, rfl, ⟨_, _, _, rfl⟩, by walk_at "mine lt", _, _, rfl, by assumption, News.sub (by assumption) (by walk_at "mine sub")⟩
      intro D1 o1 h' tk' ⟨ta, tb, n1, ho1⟩ lt1 F' N'
      subst ho1
      replace lt1 := allLt_of lt1
      simp only [AllLt, and_true] at lt1
      k_sweep
      walk_at "mine to ifexp"
      refine cutNew (fun o => ∃ t u v z n, o = W.listOf #[optV (stIv f).d t, optV (stIv f).h u, optV (stIv f).mi v, optV (stIv f).s z] n) (by assumption) (by assumption) ?_ ?_
      · by_cases hq : [f.d, f.h, f.mi, f.s] = [0, 0, 0, 0]
        · have e1 : (stIv f).d = none := if_pos hq
          have e2 : (stIv f).h = none := if_pos hq
          have e3 : (stIv f).mi = none := if_pos hq
          have e4 : (stIv f).s = none := if_pos hq
          rw [e1, e2, e3, e4]
          walk_at "mine steps"
          · exact ⟨_, _, rfl, ⟨0, 0, 0, 0, _, rfl⟩, by walk_at "mine lt", _, _, rfl, by assumption, News.sub (by assumption) (by walk_at "mine sub")⟩
        · have e1 : (stIv f).d = some f.d := if_neg hq
          have e2 : (stIv f).h = some f.h := if_neg hq
          have e3 : (stIv f).mi = some f.mi := if_neg hq
          have e4 : (stIv f).s = some f.s := if_neg hq
          rw [e1, e2, e3, e4]
          walk_at "mine steps"
          · exact ⟨_, _, rfl, ⟨_, _, _, _, _, rfl⟩, by walk_at "mine lt", _, _, rfl, by assumption, News.sub (by assumption) (by walk_at "mine sub")⟩
      intro D2 o2 h' tk' ⟨tc, td, te, tf, n2, ho2⟩ lt2 F' N'
      subst ho2
      replace lt2 := allLt_of lt2
      simp only [AllLt, and_true] at lt2
      k_sweep
      walk_at "mine steps"
      dsimp only
      refine Done.intro (new := [(_, W.listOf #[.ref _, .ref _, .ref _, .ref _] _), (_, wayTup (isoText f) _ _), (_, wayTup (vbText f) _ _), (_, wayTup (pgText f) _ _), (_, wayTup (stText f) _ _), (_, W.listOf #[optV (keepI f.y) _, optV (keepI f.mo) _, optV (keepI f.d) _, optV (keepI f.h) _, optV (keepI f.mi) _, optV (keepI f.s) _] _), (_, W.listOf #[optV (stIv f).y _, optV (stIv f).mo _, optV (stIv f).d _, optV (stIv f).h _, optV (stIv f).mi _, optV (stIv f).s _] _)]) (by assumption) (by assumption) ⟨_, _, _, rfl, List.Mem.head _, ?_⟩ (by walk_at "mine sub") (by walk_at "mine sub") (by walk_at "mine off")
      rw [ew]
      exact .cons (WayAt.of (by k_mem) (by k_mem)) (.cons (WayAt.of (by k_mem) (by k_mem)) (.cons (WayAt.of (by k_mem) (by k_mem)) (.cons (WayAt.of (by k_mem) (by k_mem)) .nil)))
    · rw [if_neg hc]
      have ew : ways f = [⟨isoText f, keptIv f⟩, ⟨vbText f, keptIv f⟩, ⟨stText f, stIv f⟩] := by rw [ways, if_neg hz, if_neg hc]
      walk_at "mine to ifexp"
      refine cutNew (fun o => ∃ t u n, o = W.listOf #[optV (stIv f).y t, optV (stIv f).mo u] n) (by assumption) (by assumption) ?_ ?_
      · by_cases hq : [f.y, f.mo] = [0, 0]
        · have e1 : (stIv f).y = none := if_pos hq
          have e2 : (stIv f).mo = none := if_pos hq
          rw [e1, e2]
          walk_at "mine steps"
          · exact ⟨_, _, rfl, ⟨0, 0, _, rfl⟩, by walk_at "mine lt", _, _, rfl, by assumption, News.sub (by assumption) (by walk_at "mine sub")⟩
        · have e1 : (stIv f).y = some f.y := if_neg hq
          have e2 : (stIv f).mo = some f.mo := if_neg hq
          rw [e1, e2]
          walk_at "mine steps"
          · exact ⟨_, _, rfl, ⟨_, _, _, rfl⟩, by walk_at "mine lt", _, _, rfl, by assumption, News.sub (by assumption) (by walk_at "mine sub")⟩
      intro D1 o1 h' tk' ⟨ta, tb, n1, ho1⟩ lt1 F' N'
      subst ho1
      replace lt1 := allLt_of lt1
      simp only [AllLt, and_true] at lt1
      k_sweep
      walk_at "mine to ifexp"
      refine cutNew (fun o => ∃ t u v z n, o = W.listOf #[optV (stIv f).d t, optV (stIv f).h u, optV (stIv f).mi v, optV (stIv f).s z] n) (by assumption) (by assumption) ?_ ?_
      · by_cases hq : [f.d, f.h, f.mi, f.s] = [0, 0, 0, 0]
        · have e1 : (stIv f).d = none := if_pos hq
          have e2 : (stIv f).h = none := if_pos hq
          have e3 : (stIv f).mi = none := if_pos hq
          have e4 : (stIv f).s = none := if_pos hq
          rw [e1, e2, e3, e4]
          walk_at "mine steps"
          · exact ⟨_, _, rfl, ⟨0, 0, 0, 0, _, rfl⟩, by walk_at "mine lt", _, _, rfl, by assumption, News.sub (by assumption) (by walk_at "mine sub")⟩
        · have e1 : (stIv f).d = some f.d := if_neg hq
          have e2 : (stIv f).h = some f.h := if_neg hq
          have e3 : (stIv f).mi = some f.mi := if_neg hq
          have e4 : (stIv f).s = some f.s := if_neg hq
          rw [e1, e2, e3, e4]
          walk_at "mine steps"
          · exact ⟨_, _, rfl, ⟨_, _, _, _, _, rfl⟩, by walk_at "mine lt", _, _, rfl, by assumption, News.sub (by assumption) (by walk_at "mine sub")⟩
      intro D2 o2 h' tk' ⟨tc, td, te, tf, n2, ho2⟩ lt2 F' N'
      subst ho2
      replace lt2 := allLt_of lt2
      simp only [AllLt, and_true] at lt2
      k_sweep
      walk_at "mine steps"
      dsimp only
      refine Done.intro (new := [(_, W.listOf #[.ref _, .ref _, .ref _] _), (_, wayTup (isoText f) _ _), (_, wayTup (vbText f) _ _), (_, wayTup (stText f) _ _), (_, W.listOf #[optV (keepI f.y) _, optV (keepI f.mo) _, optV (keepI f.d) _, optV (keepI f.h) _, optV (keepI f.mi) _, optV (keepI f.s) _] _), (_, W.listOf #[optV (stIv f).y _, optV (stIv f).mo _, optV (stIv f).d _, optV (stIv f).h _, optV (stIv f).mi _, optV (stIv f).s _] _)]) (by assumption) (by assumption) ⟨_, _, _, rfl, List.Mem.head _, ?_⟩ (by walk_at "mine sub") (by walk_at "mine sub") (by walk_at "mine off")
      rw [ew]
      exact .cons (WayAt.of (by k_mem) (by k_mem)) (.cons (WayAt.of (by k_mem) (by k_mem)) (.cons (WayAt.of (by k_mem) (by k_mem)) .nil))

end Mine
end
section
example : True := by (w_top off); trivial
open PySem PySem.W PyProof.Rows PySem.Calls
set_option Elab.async false
namespace Mine
/-- values that are None or ints -/
inductive OptAre : List Value → List (Option Int) → Prop
  | nil : OptAre [] []
  | cons {o : Option Int} {t : Tok} {vs : List Value} {os : List (Option Int)} : OptAre vs os → OptAre (optV o t :: vs) (o :: os)
def optD : Option Int → Dat
  | none => .none
  | some i => .int i
theorem OptAre.dat : ∀ {vs : List Value} {os : List (Option Int)}, OptAre vs os → DatAll [] vs (os.map optD)
  | _, _, .nil => .nil
  | _, _, .cons (o := o) (t := t) h => .cons (by cases o <;> first | exact .none | exact .int _ _) (OptAre.dat h)
theorem optD_ok (os : List (Option Int)) : ∀ d ∈ os.map optD, kqdOk 8 d = true := fun d hd => by
  obtain ⟨o, _, rfl⟩ := List.mem_map.mp hd
  cases o <;> rfl
section
variable {prog : Program} {w : World} {A : Around} {E : Value → Shared → Prop} {s : Shared} {h₀ : Heap} {L l l2 : Addr} {news : List (Addr × Obj)} {vs vs2 : List Value} {n n2 : Nat} {os : List (Option Int)} {Q : Value → Shared → Prop}
theorem eq_same (N : News h₀ L s.heap news) (hm : (l, W.listOf vs.toArray n) ∈ news) (hm2 : (l2, W.listOf vs2.toArray n2) ∈ news) (h1 : OptAre vs os) (h2 : OptAre vs2 os) (hu : A.units + 64 < cLine) (h : Q (.bool true) s) :
    wpAny (model prog w) A (compareOp .Eq (.ref l) (.ref l2)) Q E s := by
  refine kqd_eq N hm rfl rfl h1.dat (fun _ h => nomatch h) hm2 rfl rfl h2.dat (fun _ h => nomatch h) (optD_ok _) (optD_ok _) hu ?_
  simpa using h
theorem ne_same (N : News h₀ L s.heap news) (hm : (l, W.listOf vs.toArray n) ∈ news) (hm2 : (l2, W.listOf vs2.toArray n2) ∈ news) (h1 : OptAre vs os) (h2 : OptAre vs2 os) (hu : A.units + 64 < cLine) (h : Q (.bool false) s) :
    wpAny (model prog w) A (compareOp .NotEq (.ref l) (.ref l2)) Q E s := by
  refine kqd_ne N hm rfl rfl h1.dat (fun _ h => nomatch h) hm2 rfl rfl h2.dat (fun _ h => nomatch h) (optD_ok _) (optD_ok _) hu ?_
  simpa using h
variable {a : Iv} {t t2 : Nat → Tok}
theorem optR : OptAre [optV a.y (t 3), optV a.mo (t 4), optV a.d (t 6), optV a.h (t 7), optV a.mi (t 8), optV a.s (t 9)] [a.y, a.mo, a.d, a.h, a.mi, a.s] := .cons (.cons (.cons (.cons (.cons (.cons .nil)))))
theorem optX : OptAre [optV a.ml (t 0), optV a.ce (t 1), optV a.de (t 2), optV a.wk (t 5), optV a.us (t 10)] [a.ml, a.ce, a.de, a.wk, a.us] := .cons (.cons (.cons (.cons (.cons .nil))))
theorem eq_listR (N : News h₀ L s.heap news) (hm : (l, listR a t n) ∈ news) (hm2 : (l2, listR a t2 n2) ∈ news) (hu : A.units + 64 < cLine) (h : Q (.bool true) s) : wpAny (model prog w) A (compareOp .Eq (.ref l) (.ref l2)) Q E s :=
  eq_same N hm hm2 optR optR hu h
theorem eq_listX (N : News h₀ L s.heap news) (hm : (l, listX a t n) ∈ news) (hm2 : (l2, listX a t2 n2) ∈ news) (hu : A.units + 64 < cLine) (h : Q (.bool true) s) : wpAny (model prog w) A (compareOp .Eq (.ref l) (.ref l2)) Q E s :=
  eq_same N hm hm2 optX optX hu h
theorem optN11 : OptAre [.none, .none, .none, .none, .none, .none, .none, .none, .none, .none, .none] [none, none, none, none, none, none, none, none, none, none, none] :=
  .cons (o := none) (t := 0) (.cons (o := none) (t := 0) (.cons (o := none) (t := 0) (.cons (o := none) (t := 0) (.cons (o := none) (t := 0) (.cons (o := none) (t := 0) (.cons (o := none) (t := 0) (.cons (o := none) (t := 0) (.cons (o := none) (t := 0) (.cons (o := none) (t := 0) (.cons (o := none) (t := 0) .nil))))))))))
end
end Mine
end
section
example : True := by (w_top off); trivial
open PySem PySem.W PyProof.Rows PySem.Calls
set_option Elab.async false
namespace Mine
/-- a name of UNIT_MAP, the field that it means -/
def unitTab : List (Str × Str) := [("millennia", "millennia"), ("millennium", "millennia"), ("centuries", "centuries"), ("century", "centuries"), ("decades", "decades"), ("decade", "decades"), ("years", "years"), ("year", "years"), ("months", "months"), ("month", "months"), ("mon", "months"), ("mons", "months"), ("weeks", "weeks"), ("week", "weeks"), ("days", "days"), ("day", "days"), ("hours", "hours"), ("hour", "hours"), ("minutes", "minutes"), ("minute", "minutes"), ("mins", "minutes"), ("secs", "seconds"), ("seconds", "seconds"), ("second", "seconds"), ("microseconds", "microseconds"), ("microsecond", "microseconds")].map fun p => (Str.ofString p.1, Str.ofString p.2)
abbrev ents (P : Params) (l : List ((Str × Tok) × Value)) : List DictEntry := l.map fun x => ⟨PyData.keyHash P x.1.1, .str x.1.1 x.1.2, x.2⟩
section
variable {prog : Program} {w : World}
theorem ents_pairs : ∀ (l : List ((Str × Tok) × Value)), Pairs (strKind prog w) (ents w.params l) (l.map fun x => (x.1.1, x.2))
  | [] => Pairs.nil
  | x :: r => Pairs.cons (strKind_is prog w x.1.1 x.1.2) rfl (ents_pairs r)
theorem ents_isDict {l : List ((Str × Tok) × Value)} (n : Nat) (hn : ((l.map fun x => (x.1.1, x.2)).map (·.1)).Nodup) : (dictOf (ents w.params l) n).IsDictOf (strKind prog w) (l.map fun x => (x.1.1, x.2)) :=
  ⟨(ents w.params l).toArray, n, ⟨rfl, rfl, rfl⟩, rfl, fun e he => by
    obtain ⟨x, hx, rfl⟩ := List.mem_map.mp (List.mem_toArray.mp he)
    exact ⟨x.1.1, strKind_is prog w _ _, rfl⟩, ents_pairs l, hn⟩
end
def tab22 : List ((Str × Tok) × Value) := ([(("millennia", 201), ("millennia", 202)), (("millennium", 204), ("millennia", 205)), (("centuries", 207), ("centuries", 208)), (("century", 210), ("centuries", 211)), (("decades", 213), ("decades", 214)), (("decade", 216), ("decades", 217)), (("years", 219), ("years", 220)), (("year", 222), ("years", 223)), (("months", 225), ("months", 226)), (("month", 228), ("months", 229)), (("mon", 231), ("months", 232)), (("mons", 234), ("months", 235)), (("weeks", 237), ("weeks", 238)), (("week", 240), ("weeks", 241)), (("days", 243), ("days", 244)), (("day", 246), ("days", 247)), (("hours", 249), ("hours", 250)), (("hour", 252), ("hours", 253)), (("minutes", 254), ("minutes", 255)), (("minute", 256), ("minutes", 257)), (("mins", 258), ("minutes", 259)), (("secs", 260), ("seconds", 261)), (("seconds", 262), ("seconds", 263)), (("second", 264), ("seconds", 265)), (("microseconds", 266), ("microseconds", 267)), (("microsecond", 268), ("microseconds", 269))] : List ((String × Nat) × (String × Nat))).map fun p => ((Str.ofString p.1.1, p.1.2), .str (Str.ofString p.2.1) p.2.2)
theorem obj22 (w : World) : List.lookup 22 (lawTop.heap_39 w.params) = some (dictOf (ents w.params tab22) 26) := by
  exact rfl
theorem tab22_is : tab22.map (fun x => (x.1.1, match x.2 with | .str u _ => u | _ => Str.ofString "")) = unitTab := by rfl
theorem tab22_at {x u : Str} (h : unitTab.lookup x = some u) : ∃ t, valueAt (tab22.map fun y => (y.1.1, y.2)) x = some (.str u t) := by
  have key : ∀ (l : List ((Str × Tok) × Value)), (∀ y ∈ l, ∃ a t, y.2 = .str a t) → (l.map (fun x => (x.1.1, match x.2 with | .str u _ => u | _ => Str.ofString ""))).lookup x = some u → ∃ t, valueAt (l.map fun y => (y.1.1, y.2)) x = some (.str u t) := by
    intro l
    induction l with
    | nil => intro _ h; cases h
    | cons p r ih =>
      intro hs h
      obtain ⟨⟨n, k⟩, v⟩ := p
      obtain ⟨a, t, e⟩ := hs _ (.head _)
      dsimp only at e
      subst e
      unfold valueAt
      simp only [List.map_cons, List.lookup_cons, List.find?_cons] at h ⊢
      by_cases hn : x = n
      · subst hn
        simp only [BEq.rfl, if_true, Option.some.injEq] at h
        subst h
        exact ⟨t, by simp⟩
      · rw [beq_false_of_ne hn] at h
        obtain ⟨t', h'⟩ := ih (fun y hy => hs y (.tail _ hy)) h
        refine ⟨t', ?_⟩
        rw [decide_eq_false (fun e => hn e.symm)]
        exact h'
  refine key tab22 (fun y hy => ?_) (by rw [tab22_is]; exact h)
  obtain ⟨z, _, rfl⟩ := List.mem_map.mp hy
  exact ⟨_, _, rfl⟩
theorem tab22_nodup : ((tab22.map fun x => (x.1.1, x.2)).map (·.1)).Nodup := by
  have e : (tab22.map fun x => (x.1.1, x.2)).map (·.1) = unitTab.map (·.1) := by rfl
  rw [e]
  decide +kernel
theorem of_lookup {x u : Str} : ∀ {l : List (Str × Str)}, l.lookup x = some u → (x, u) ∈ l
  | [], h => nomatch h
  | (n, v) :: r, h => by
    rw [List.lookup_cons] at h
    by_cases e : x = n
    · subst e
      simp only [BEq.rfl, Option.some.injEq] at h
      subst h
      exact .head _
    · rw [beq_false_of_ne e] at h
      exact .tail _ (of_lookup h)
theorem unit_facts : ∀ p ∈ unitTab, (reprText p.1).length ≤ 10000 ∧ p.1.length ≤ 300 ∧ p.2 ∈ kwNames ∧ PySem.intText? p.1 = none ∧ (!(Builtin.Str.occurrences p.1 (Str.ofString ":") 0 p.1.length 1).isEmpty) = false ∧ (p.1 == Str.ofString "@") = false ∧ (p.1 == Str.ofString "ago") = false := by
  decide +kernel
section
variable {w : World} {A : Around} {E : Value → Shared → Prop} {s : Shared} {h₀ : Heap} {L a : Addr} {m : Str → Option Value} {o : Obj} {kvs : List (Str × Value)} {k : Str} {t : Tok} {v : Value} {Q : Value → Shared → Prop} {value slice : PySem.Expr}
theorem item_top (X : (lawTop.heap_39 w.params).In h₀) (F : Fr h₀ L s.heap m) (ho : List.lookup a (lawTop.heap_39 w.params) = some o) (hd : o.IsDictOf (strKind pg w) kvs) (hl : valueAt kvs k = some v) (h : Q v { s with toks := s.toks + 1 })
    (hs : subscripted slice false (.ref a) (.str k t) = operate [.ref a, .str k t] (getItem (.ref a) (.str k t)) := by with_unfolding_all rfl) (hg : ∀ r, letTemporaryGo value (.ref a) r = pure () := by intro _; with_unfolding_all rfl) :
    wpAny (model pg w) A (subscriptTail value slice (.ref a) (.str k t)) Q E s :=
  have hD : s.heap.DictOf (strKind pg w) a kvs := Heap.dictOf_iff.mpr ⟨o, X.keeps F.keep _ _ ho, hd⟩
  subscriptTail_builtin hD.typeIs slot_dict_getitem.lookup (wpAny_getItem_of (strKind_is pg w k t) hD.mapOf hl h) hs hg
theorem item_unit {u : Str} (X : (lawTop.heap_39 w.params).In h₀) (F : Fr h₀ L s.heap m) (hl : unitTab.lookup k = some u) (h : ∀ t', Q (.str u t') { s with toks := s.toks + 1 })
    (hs : subscripted slice false (.ref 22) (.str k t) = operate [.ref 22, .str k t] (getItem (.ref 22) (.str k t)) := by with_unfolding_all rfl) (hg : ∀ r, letTemporaryGo value (.ref 22) r = pure () := by intro _; with_unfolding_all rfl) :
    wpAny (model pg w) A (subscriptTail value slice (.ref 22) (.str k t)) Q E s := by
  obtain ⟨t', e⟩ := tab22_at hl
  exact item_top X F (obj22 w) (ents_isDict 26 tab22_nodup) e (h t') hs hg
end
end Mine
end
section
example : True := by (w_top off); trivial
open PySem PySem.W PyProof.Rows PySem.Calls
open AutoSeq1 (wpAny_loadPart')
set_option Elab.async false
set_option maxRecDepth 100000
namespace Mine
section
variable {prog : Program} {w : World} {K : Type} [DecidableEq K] {knd : KeyKind prog w K} {A : Around} {E : Value → Shared → Prop} {s : Shared} {r d : Addr} {kvs : List (K × Value)} {ep : Nat}
theorem meets_tuple_new_items (hn : kvs.length ≤ sizeLine) :
    PySem.MeetsIn prog w (Builtin.«tuple.__new__» ⟨[.type "tuple", .ref r], []⟩)
      (fun A R s => A.handled = none ∧ s.heap.IsItemsView r d ∧ s.heap.DictAt knd d kvs ep ∧ ∀ (h' : Heap) (tk : Nat) (as : List Addr), (∀ b o, s.heap.get? b = some o → h'.get? b = some o) → as.length = kvs.length → KdxG knd kvs s.heap.objs.size h' as →
        R (.ok (.ret (.ref h'.objs.size))) { s with heap := h'.push { cls := .type "tuple", data := .seq (as.map Value.ref).toArray }, toks := tk }) :=
  .of_wp fun A R s h => by
    obtain ⟨hh, hv, hm, h⟩ := h
    obtain ⟨hp, g, dr, tk, os⟩ := s
    have hsub := sub_tuple_self
    have hinit := init_tuple_lookup
    have hmh := madeHere_tuple
    have hT : Shared.TypeIs ⟨hp, g, dr, tk, os⟩ (.ref r) "dict_items" := hv.typeIs
    have hh1 : A.in1.handled = none := hh
    wp_walk using wpAny_typeOf hT, kdx_collect (knd := knd) (kvs := kvs) (ep := ep) hh1 hv hm hn
    intro h' tk' as hk hl hG
    show wpAny _ _ (Builtin.Tuple.tupleExact (as.map Value.ref).toArray >>= fun v => ret v) _ _ _
    unfold Builtin.Tuple.tupleExact
    refine wpAny_bind (wpAny_newObj_type ?_ (show (as.map Value.ref).toArray.size ≤ sizeLine by simp only [List.size_toArray, List.length_map]; rw [hl]; exact hn))
    exact wpAny_pure ⟨_, rfl, h h' tk' as hk hl hG⟩
theorem call_tuple_items {Q : Value → Shared → Prop} (hh : A.handled = none) (hv : s.heap.IsItemsView r d) (hm : s.heap.DictAt knd d kvs ep) (hn : kvs.length ≤ sizeLine)
    (h : ∀ (h' : Heap) (tk : Nat) (as : List Addr), (∀ b o, s.heap.get? b = some o → h'.get? b = some o) → as.length = kvs.length → KdxG knd kvs s.heap.objs.size h' as → Q (.ref h'.objs.size) { s with heap := h'.push { cls := .type "tuple", data := .seq (as.map Value.ref).toArray }, toks := tk }) :
    wpAny (model prog w) A (call (.type "tuple") [.ref r]) Q E s :=
  callType_newIn F.called_tuple (by decide) (F.typeCall_tuple_1 _) (F.newCall_tuple_1 _) (fun obj => F.args_object_init_2 obj _) F.entry_tuple_new
    (meets_tuple_new_items hn) ⟨hh, hv, hm, fun h' tk as hk hl hG => ⟨⟨_, Heap.get?_push_size _ rfl, rfl⟩, h h' tk as hk hl hG⟩⟩
theorem letOwned_tupleiter {elts : List Expr} {x1} {pos : Pos} {I l T : Addr} {i : Nat} {Q : Unit → Shared → Prop} (hit : s.heap.IsTupleIter I l i) (hQ : Q () s) :
    wpAny (model prog w) A (letOwnedTupleGo (.Tuple elts x1 pos) (.ref I) (.ref T)) Q E s := by
  obtain ⟨o, ho, hc, hd⟩ := hit
  unfold letOwnedTupleGo
  refine wpAny_bind (wpAny_load ho ?_)
  rw [hc, hd]
  show wpAny _ A (if (["enumerate", "zip", "dict_itemiterator", "dict_reverseitemiterator", "odict_iterator", "itertools.zip_longest", "itertools.pairwise"].contains "tuple_iterator" &&
      (#[.ref l, .int i 0] : Array Value)[0]? == some (rawInt T)) = true then _ else _) Q E s
  rw [if_neg (by
    intro h
    rw [show (["enumerate", "zip", "dict_itemiterator", "dict_reverseitemiterator", "odict_iterator", "itertools.zip_longest", "itertools.pairwise"].contains "tuple_iterator") = false from by decide, Bool.false_and] at h
    cases h)]
  exact wpAny_pure hQ
end
/-- behind a turn that changes d alone -/
def TupEnd (g : Heap) (L d : Addr) (rest : List (Addr × Obj)) (S : (Str → Option Value) → Obj → Prop) (s : Shared) (f : Flow) (s' : Shared) : Prop :=
  f = .next ∧ ∃ h' tk' m' o', s' = { s with heap := h', toks := tk' } ∧ Fr g L h' m' ∧ News g L h' ((d, o') :: rest) ∧ S m' o'
section
variable {prog : Program} {w : World} {A : Around} {s : Shared} {env : Env} {g : Heap} {elts : List Expr} {xc : Nat} {tp : Pos} {body : List Stmt} {Q : Flow → Shared → Prop} {m₀ : Str → Option Value} {d T : Addr} {o₀ : Obj} {rest : List (Addr × Obj)} {as : List Addr}
/-- a loop over a made tuple of made pairs, whose turns change one object d -/
theorem iter_tupA (S : Nat → (Str → Option Value) → Obj → Prop)
    (hh : A.handled = none) (F : Fr g env.locals s.heap m₀) (N : News g env.locals s.heap ((d, o₀) :: rest)) (hT : (T, ({ cls := .type "tuple", data := .seq (as.map Value.ref).toArray } : Obj)) ∈ rest) (hd : ∀ p ∈ rest, @Ne Nat p.1 d)
    (start : S 0 m₀ o₀)
    (turn : ∀ (J : Addr) (itJ : Obj), @Ne Nat J d → (∀ p ∈ rest, p.1 < J) → (∀ p ∈ rest, @Ne Nat p.1 d) → ∀ j a m o h tk, as[j]? = some a → S j m o → Fr g env.locals h m → News g env.locals h ((d, o) :: (J, itJ) :: rest) →
      wpAny (model prog w) A (assign (.Tuple elts xc tp) env (.ref a)) (fun _ s₂ => wpAny (model prog w) A (execs body env) (TupEnd g env.locals d ((J, itJ) :: rest) (S (j + 1)) { s with heap := h, toks := tk }) NoE s₂) NoE { s with heap := h, toks := tk })
    (done : ∀ m o h tk, S as.length m o → Fr g env.locals h m → News g env.locals h ((d, o) :: rest) → Q .next { s with heap := h, toks := tk }) :
    wpAny (model prog w) A (pyIter (.ref T)) (fun it s₂ => codeAny (model prog w) A (.forLoop (.Tuple elts xc tp) it body [] env) (fun r s' => match r with | .ok f => Q f s' | .error e => cameBackBy (model prog w) A env NoE e s') s₂) NoE s := by
  have up : ∀ {α : Type} {t : Sem α} {Q : α → Shared → Prop} {E : Value → Shared → Prop} {s : Shared}, wpAny (model prog w) A t Q NoE s → wpAny (model prog w) A t Q E s := fun h => wpAny_mono h (fun _ _ x => x) fun _ _ x => x.elim
  have hTt : s.heap.IsTuple T (as.map Value.ref).toArray := (let ⟨o, a, b, c⟩ := News.isTup N (.tail _ hT); ⟨o, a, b, c⟩)
  refine wpAny_mono (wpAny_pyIter_tuple (Q := fun it s₂ => ∃ h₂, it = .ref s.heap.objs.size ∧ s₂ = { s with heap := h₂ } ∧ h₂.IsTupleIter s.heap.objs.size T 0 ∧ ∀ b o, s.heap.get? b = some o → h₂.get? b = some o) (E := NoE) hTt ⟨_, rfl, rfl, ⟨_, Heap.get?_push_size _ rfl, rfl, rfl⟩, fun b o e => Heap.get?_push_of_some _ e⟩) (fun itv s₂ hx₂ => ?_) fun _ _ x => x
  obtain ⟨h₂, rfl, rfl, ⟨it₀, hi₀, hc₀, hd₀⟩, hk₂⟩ := hx₂
  have hltI : ∀ p ∈ (d, o₀) :: rest, p.1 < s.heap.objs.size := fun p hp => Heap.lt_size (N p hp).1
  have hIL : s.heap.objs.size ≠ env.locals := fun e => absurd F.ns.lt (e ▸ Nat.lt_irrefl _)
  have hI0' : g.get? s.heap.objs.size = none := next_is_new F
  generalize hI : s.heap.objs.size = I at hltI hIL hi₀ hI0' ⊢
  have hdI : I ≠ d := Nat.ne_of_gt (hltI (d, o₀) (.head _))
  refine codeAny_forLoop_any
    (fun k s' => ∃ i h' tk m' o it, s' = { s with heap := h', toks := tk } ∧ Fr g env.locals h' m' ∧ News g env.locals h' ((d, o) :: (I, it) :: rest) ∧ it.cls = .type "tuple_iterator" ∧ it.data = .fields #[.ref T, .int (i : Nat) 0] ∧ S i m' o ∧ i ≤ as.length ∧ k = as.length + 1 - i) ?_ (as.length + 1)
    ⟨0, _, s.toks, m₀, o₀, it₀, rfl, ⟨F.ns.at' fun o e => hk₂ _ o e, fun b o e => hk₂ b o (F.keep b o e), F.above⟩, ?_, hc₀, hd₀, start, Nat.zero_le _, rfl⟩
  rotate_left
  · intro p hp
    rcases List.mem_cons.mp hp with rfl | hp
    · exact ⟨hk₂ _ _ (N _ (.head _)).1, (N _ (.head _)).2⟩
    · rcases List.mem_cons.mp hp with rfl | hp
      · exact ⟨hi₀, hIL, hI0'⟩
      · exact ⟨hk₂ _ _ (N _ (.tail _ hp)).1, (N _ (.tail _ hp)).2⟩
  rintro k s' ⟨i, h', tk, m', o, it, rfl, F', N', hitc, hitd, hS, hi, rfl⟩
  have hit : h'.IsTupleIter I T i := ⟨it, (N' _ (.tail _ (.head _))).1, hitc, hitd⟩
  have htup : h'.IsTuple T (as.map Value.ref).toArray := (let ⟨o, a, b, c⟩ := News.isTup N' (.tail _ (.tail _ hT)); ⟨o, a, b, c⟩)
  have step : ∀ h₁ : Heap, (∀ b o, b ≠ I → h'.get? b = some o → h₁.get? b = some o) → Fr g env.locals h₁ m' ∧ News g env.locals h₁ ((d, o) :: rest) := fun h₁ hk =>
    ⟨⟨F'.ns.at' fun o e => hk _ o (fun q => hIL q.symm) e, fun b o e => hk b o (fun q => by rw [q, hI0'] at e; cases e) (F'.keep b o e), F'.above⟩, fun p hp => by
      rcases List.mem_cons.mp hp with rfl | hp
      · exact ⟨hk _ _ hdI.symm (N' _ (.head _)).1, (N' _ (.head _)).2⟩
      · exact ⟨hk _ _ (Nat.ne_of_lt (hltI p (.tail _ hp))) (N' _ (.tail _ (.tail _ hp))).1, (N' _ (.tail _ (.tail _ hp))).2⟩⟩
  by_cases hlt : i < as.length
  · have hv : (as.map Value.ref).toArray[i]? = some (.ref as[i]) := by simp [hlt]
    refine wpAny_pyNext_tuple_item hit htup hv fun h₁ hit₁ hs₁ => ?_
    obtain ⟨F₁, N₁⟩ := step h₁ fun b o hb e => (hs₁.2 b hb).trans e
    obtain ⟨it₁, hi₁, hc₁, hd₁⟩ := id hit₁
    refine letOwned_tupleiter hit₁ ?_
    have N₂ : News g env.locals h₁ ((d, o) :: (I, it₁) :: rest) := fun p hp => by
      rcases List.mem_cons.mp hp with rfl | hp
      · exact N₁ _ (.head _)
      · rcases List.mem_cons.mp hp with rfl | hp
        · exact ⟨hi₁, hIL, hI0'⟩
        · exact N₁ _ (.tail _ hp)
    refine up (wpAny_mono (turn I it₁ hdI (fun p hp => hltI p (.tail _ hp)) hd i as[i] m' o h₁ tk (List.getElem?_eq_getElem hlt) hS F₁ N₂) (fun _ s₂ h₂ => up (wpAny_mono h₂ (fun f s₃ h₃ => ?_) fun _ _ x => x)) fun _ _ x => x)
    obtain ⟨rfl, h'', tk', m'', o', rfl, F₃, N₃, hS₃⟩ := h₃
    exact ⟨as.length + 1 - (i + 1), by omega, i + 1, h'', tk', m'', o', it₁, rfl, F₃, N₃, hc₁, hd₁, hS₃, hlt, rfl⟩
  · have hz : i = as.length := by omega
    subst hz
    refine wpAny_pyNext_tuple_end hh hit htup (by simp) fun h₁ he₁ => wpAny_execs_nil ?_
    obtain ⟨F₁, N₁⟩ := step h₁ he₁
    exact done m' o h₁ tk hS F₁ N₁
end
/-- the first j numbers turned -/
def negAt (j : Nat) (es : List (Str × Int)) : List (Str × Int) := (es.take j).map (fun p => (p.1, -1 * p.2)) ++ es.drop j
theorem negAt_all (es : List (Str × Int)) : negAt es.length es = es.map fun p => (p.1, -1 * p.2) := by
  unfold negAt; simp
theorem negAt_keys (j : Nat) (es : List (Str × Int)) : (negAt j es).map (·.1) = es.map (·.1) := by
  unfold negAt
  rw [List.map_append, List.map_map]
  show (es.take j).map (·.1) ++ (es.drop j).map (·.1) = _
  rw [← List.map_append, List.take_append_drop]
theorem putI_at {pre post : List (Str × Int)} {k : Str} {n v : Int} (hn : ((pre ++ (k, n) :: post).map (·.1)).Nodup) : putI (pre ++ (k, n) :: post) k v = pre ++ (k, v) :: post := by
  unfold putI
  rw [if_pos (by simp)]
  rw [List.map_append, List.map_cons, if_pos rfl]
  rw [List.map_append, List.map_cons] at hn
  have h1 : ∀ p ∈ pre, p.1 ≠ k := fun p hp e => by
    have := (List.nodup_append.mp hn).2.2 p.1 (List.mem_map_of_mem hp) k (.head _)
    exact this e
  have h2 : ∀ p ∈ post, p.1 ≠ k := fun p hp e => by
    have := (List.nodup_cons.mp (List.nodup_append.mp hn).2.1).1
    exact this (List.mem_map.mpr ⟨p, hp, e⟩)
  have e1 : pre.map (fun p => if p.1 = k then (p.1, v) else p) = pre := by
    rw [List.map_congr_left (g := id) fun p hp => by rw [if_neg (h1 p hp)]; rfl, List.map_id]
  have e2 : post.map (fun p => if p.1 = k then (p.1, v) else p) = post := by
    rw [List.map_congr_left (g := id) fun p hp => by rw [if_neg (h2 p hp)]; rfl, List.map_id]
  rw [e1, e2]
theorem negAt_step {es : List (Str × Int)} {j : Nat} {k : Str} {n : Int} (hn : (es.map (·.1)).Nodup) (h : es[j]? = some (k, n)) : putI (negAt j es) k (-1 * n) = negAt (j + 1) es := by
  have hj : j < es.length := (List.getElem?_eq_some_iff.mp h).1
  have hg : es[j] = (k, n) := (List.getElem?_eq_some_iff.mp h).2
  have e : es.drop j = (k, n) :: es.drop (j + 1) := by rw [List.drop_eq_getElem_cons hj, hg]
  have hk := negAt_keys j es
  unfold negAt at hk ⊢
  rw [e] at hk ⊢
  rw [putI_at (by rw [hk]; exact hn), List.take_succ_eq_append_getElem hj, hg, List.map_append, List.append_assoc]
  rfl
theorem KI.at {kvs : List (Str × Value)} {es : List (Str × Int)} (h : KI kvs es) : ∀ {j : Nat} {k : Str} {x : Value}, kvs[j]? = some (k, x) → ∃ n t, es[j]? = some (k, n) ∧ x = .int n t := by
  induction h with
  | nil => intro j k x e; simp at e
  | cons h r ih =>
    intro j k x e
    cases j with
    | zero =>
      rename_i p q l l'
      obtain ⟨e1, t, e2⟩ := h
      simp only [List.getElem?_cons_zero, Option.some.injEq] at e
      subst e
      exact ⟨q.2, t, by simp only [List.getElem?_cons_zero]; rw [show k = q.1 from e1], e2⟩
    | succ j => simpa using ih (by simpa using e)
/-- a made pair -/
abbrev pairObj (a b : Value) : Obj := { cls := .type "tuple", data := .seq #[a, b] }
section
variable {w : World} {A : Around} {E : Value → Shared → Prop} {s : Shared} {g : Heap} {L : Addr} {m : Str → Option Value} {D d : Addr} {o : Obj} {news : List (Addr × Obj)} {kvs : List (Str × Value)} {Q : Value → Shared → Prop}
theorem ago_call (hh : A.handled = none) (F : Fr g L s.heap m) (N : News g L s.heap ((d, o) :: news)) (hD : (D, ({ cls := .type "dict_items", data := .fields #[.ref d] } : Obj)) ∈ (d, o) :: news) (hd : o.IsDictOf (strKind pg w) kvs) (hn : kvs.length ≤ sizeLine)
    (h : ∀ (T : Addr) (as : List Addr) (tups : List (Addr × Obj)) (h' : Heap) (tk : Nat), as.length = kvs.length → (∀ (j : Nat) a, as[j]? = some a → ∃ k x u, kvs[j]? = some (k, x) ∧ (a, pairObj (.str k u) x) ∈ tups) → (∀ p ∈ tups, @Ne Nat p.1 d) → @Ne Nat T d → Fr g L h' m →
      News g L h' ((d, o) :: (T, ({ cls := .type "tuple", data := .seq (as.map Value.ref).toArray } : Obj)) :: (tups ++ news)) → Q (.ref T) { s with heap := h', toks := tk }) :
    wpAny (model pg w) A (call (.type "tuple") [.ref D]) Q E s := by
  obtain ⟨ep, hat⟩ := KdkAt.of hd
  refine call_tuple_items (knd := strKind pg w) (kvs := kvs) (ep := ep) hh ⟨_, (N _ hD).1, rfl, rfl⟩ (hat.dictAt (N _ (.head _)).1) hn fun h' tk as hk hl hG => ?_
  have hdl : d < s.heap.objs.size := Heap.lt_size (N _ (.head _)).1
  have F₁ := F.keeps hk
  have hTd : @Ne Nat h'.objs.size d := Nat.ne_of_gt (Heap.lt_size (hk _ _ (N _ (.head _)).1))
  have hpair : ∀ (j : Nat) a, as[j]? = some a → ∃ k x u, kvs[j]? = some (k, x) ∧ h'.get? a = some (pairObj (.str k u) x) := fun j a hj => by
    obtain ⟨key, k, x, e1, e2, e3⟩ := hG.pairs j a hj
    obtain ⟨t, rfl⟩ := Value.isStrOf_shape e2
    exact ⟨k, x, t, e1, e3⟩
  have hmem : ∀ a ∈ as, ∃ j, as[j]? = some a := fun a ha => List.mem_iff_getElem?.mp ha
  refine h h'.objs.size as (as.map fun a => (a, (h'.get? a).getD o)) (h'.push _) tk hl (fun j a hj => ?_) (fun p hp => ?_) hTd (F₁.push _) fun p hp => ?_
  · obtain ⟨k, x, u, e1, e2⟩ := hpair j a hj
    exact ⟨k, x, u, e1, List.mem_map.mpr ⟨a, List.mem_of_getElem? hj, by rw [e2]; rfl⟩⟩
  · obtain ⟨a, ha, rfl⟩ := List.mem_map.mp hp
    exact Nat.ne_of_gt (Nat.lt_trans hdl (hG.above a ha))
  · rcases List.mem_cons.mp hp with rfl | hp
    · exact ⟨Heap.get?_push_of_some _ (hk _ _ (N _ (.head _)).1), (N _ (.head _)).2⟩
    · rcases List.mem_cons.mp hp with rfl | hp
      · exact ⟨Heap.get?_push_size _ rfl, Nat.ne_of_gt F₁.ns.lt, next_is_new F₁⟩
      · rcases List.mem_append.mp hp with hp | hp
        · obtain ⟨a, ha, rfl⟩ := List.mem_map.mp hp
          obtain ⟨j, hj⟩ := hmem a ha
          obtain ⟨k, x, u, e1, e2⟩ := hpair j a hj
          exact ⟨Heap.get?_push_of_some _ (by rw [e2]; rfl), kdx_fresh F (Nat.le_of_lt (hG.above a ha))⟩
        · exact ⟨Heap.get?_push_of_some _ (hk _ _ (N _ (.tail _ hp)).1), (N _ (.tail _ hp)).2⟩
end
theorem offApp {T d : Addr} {o : Obj} {tups tail : List (Addr × Obj)} (h1 : @Ne Nat T d) (h2 : ∀ p ∈ tups, @Ne Nat p.1 d) (h3 : ∀ p ∈ tail, @Ne Nat p.1 d) : ∀ p ∈ (T, o) :: (tups ++ tail), @Ne Nat p.1 d := fun p hp => by
  rcases List.mem_cons.mp hp with rfl | hp
  · exact h1
  · rcases List.mem_append.mp hp with hp | hp
    · exact h2 p hp
    · exact h3 p hp
/-- what the ago loop keeps -/
def AgoS (w : World) (d : Addr) (es : List (Str × Int)) (c : Option Int) (ct : Tok) (j : Nat) (m : Str → Option Value) (o : Obj) : Prop :=
  ∃ kvs, o.IsDictOf (strKind pg w) kvs ∧ KI kvs (negAt j es) ∧ m (Str.ofString "cls") = some (.ref 108) ∧ m (Str.ofString "t") = some (.ref d) ∧ m (Str.ofString "curr_val") = some (optV c ct)
theorem AgoS.step {w : World} {d : Addr} {es : List (Str × Int)} {c : Option Int} {ct : Tok} {j : Nat} {o : Obj} {kvs : List (Str × Value)} {k : Str} {n : Int} {t : Tok} {m : Str → Option Value} (hn : (es.map (·.1)).Nodup) (he : es[j]? = some (k, n)) (hK : KI kvs (negAt j es)) (hD : o.IsDictOf (strKind pg w) (stored kvs k (.int (-1 * n) t)))
    (h1 : m (Str.ofString "cls") = some (.ref 108)) (h2 : m (Str.ofString "t") = some (.ref d)) (h3 : m (Str.ofString "curr_val") = some (optV c ct)) : AgoS w d es c ct (j + 1) m o :=
  ⟨_, hD, by rw [← negAt_step hn he]; exact KI.put hK, h1, h2, h3⟩
end Mine
end
section
example : True := by (w_top off); trivial
open PySem PySem.W PyProof.Rows PySem.Calls
set_option Elab.async false
namespace Mine
/-- behind a turn of a loop over a text -/
def ChEnd (g : Heap) (L : Addr) (s : Shared) (I : Addr) (it : Obj) (S : (Str → Option Value) → List (Addr × Obj) → Prop) (f : Flow) (s' : Shared) : Prop :=
  f = .next ∧ ∃ h' tk m' n', s' = { s with heap := h', toks := tk } ∧ Fr g L h' m' ∧ News g L h' ((I, it) :: n') ∧ (∀ p ∈ n', @Ne Nat p.1 I) ∧ S m' n'
section
variable {prog : Program} {w : World} {A : Around} {s : Shared} {env : Env} {g : Heap} {v : Str} {px : Pos} {body : List Stmt} {Q : Flow → Shared → Prop} {m₀ : Str → Option Value} {news : List (Addr × Obj)} {x : Str} {t : Tok}
theorem iter_strA (S : List Nat → (Str → Option Value) → List (Addr × Obj) → Prop) (ha : x.cps.all (· < 128) = true)
    (hh : A.handled = none) (F : Fr g env.locals s.heap m₀) (N : News g env.locals s.heap news) (hv : env.kindOf v = some .local) (hp : (env.scope.kind == .class || (env.scope.kind == .module && env.locals != env.globals)) = false)
    (start : S x.cps.toList m₀ news)
    (turn : ∀ I : Addr, (∀ p ∈ news, p.1 < I) → ∀ c r m news' it h tk u, S (c :: r) m news' → (∀ p ∈ news', @Ne Nat p.1 I) → Fr g env.locals h (fun y => if y = v then some (.str ⟨#[c]⟩ u) else m y) → News g env.locals h ((I, it) :: news') →
      wpAny (model prog w) A (execs body env) (ChEnd g env.locals { s with heap := h, toks := tk } I it (S r)) NoE { s with heap := h, toks := tk })
    (done : ∀ m news' h tk, S [] m news' → Fr g env.locals h m → News g env.locals h news' → Q .next { s with heap := h, toks := tk }) :
    wpAny (model prog w) A (pyIter (.str x t)) (fun it s₂ => codeAny (model prog w) A (.forLoop (.Name v px) it body [] env) (fun r s' => match r with | .ok f => Q f s' | .error e => cameBackBy (model prog w) A env NoE e s') s₂) NoE s := by
  have up : ∀ {α : Type} {t : Sem α} {Q : α → Shared → Prop} {E : Value → Shared → Prop} {s : Shared}, wpAny (model prog w) A t Q NoE s → wpAny (model prog w) A t Q E s := fun h => wpAny_mono h (fun _ _ x => x) fun _ _ x => x.elim
  refine wpAny_mono (wpAny_pyIter_ascii (Q := fun it s₂ => ∃ h₂, it = .ref s.heap.objs.size ∧ s₂ = { s with heap := h₂ } ∧ h₂.IsStrIter s.heap.objs.size "str_ascii_iterator" x t 0 ∧ ∀ b o, s.heap.get? b = some o → h₂.get? b = some o) (E := NoE) ha ⟨_, rfl, rfl, ⟨_, Heap.get?_push_size _ rfl, rfl, rfl⟩, fun b o e => Heap.get?_push_of_some _ e⟩) (fun itv s₂ hx₂ => ?_) fun _ _ x => x
  obtain ⟨h₂, rfl, rfl, ⟨it₀, hi₀, hc₀, hd₀⟩, hk₂⟩ := hx₂
  have hltI : ∀ p ∈ news, p.1 < s.heap.objs.size := fun p hp => Heap.lt_size (N p hp).1
  have hIL : s.heap.objs.size ≠ env.locals := fun e => absurd F.ns.lt (e ▸ Nat.lt_irrefl _)
  have hI0 : g.get? s.heap.objs.size = none := next_is_new F
  generalize hI : s.heap.objs.size = I at hltI hIL hi₀ hI0 ⊢
  refine codeAny_forLoop_any
    (fun k s' => ∃ i h' tk m' n' it, s' = { s with heap := h', toks := tk } ∧ Fr g env.locals h' m' ∧ News g env.locals h' ((I, it) :: n') ∧ h'.IsStrIter I "str_ascii_iterator" x t i ∧ (∀ p ∈ n', @Ne Nat p.1 I) ∧ S (x.cps.toList.drop i) m' n' ∧ i ≤ x.cps.size ∧ k = x.cps.size + 1 - i) ?_ (x.cps.size + 1)
    ⟨0, _, s.toks, m₀, news, it₀, rfl, ⟨F.ns.at' fun o e => hk₂ _ o e, fun b o e => hk₂ b o (F.keep b o e), F.above⟩, ?_, ⟨it₀, hi₀, hc₀, hd₀⟩, fun p hp => Nat.ne_of_lt (hltI p hp), by rw [List.drop_zero]; exact start, Nat.zero_le _, rfl⟩
  rotate_left
  · intro p hp
    rcases List.mem_cons.mp hp with rfl | hp
    · exact ⟨hi₀, hIL, hI0⟩
    · exact ⟨hk₂ _ _ (N p hp).1, (N p hp).2⟩
  rintro k s' ⟨i, h', tk, m', n', it, rfl, F', N', hit, hoff, hS, hi, rfl⟩
  have step : ∀ h₁ : Heap, (∀ b o, b ≠ I → h'.get? b = some o → h₁.get? b = some o) → Fr g env.locals h₁ m' ∧ News g env.locals h₁ n' := fun h₁ hk =>
    ⟨⟨F'.ns.at' fun o e => hk _ o (fun q => hIL q.symm) e, fun b o e => hk b o (fun q => by rw [q, hI0] at e; cases e) (F'.keep b o e), F'.above⟩, fun p hp => ⟨hk _ _ (hoff p hp) (N' _ (.tail _ hp)).1, (N' _ (.tail _ hp)).2⟩⟩
  by_cases hlt : i < x.cps.size
  · have hv' : x.cps[i]? = some x.cps[i] := by simp [hlt]
    refine wpAny_pyNext_ascii_item hit hv' fun h₁ hit₁ hs₁ => ?_
    obtain ⟨F₁, N₁⟩ := step h₁ fun b o hb e => (hs₁.2 b hb).trans e
    obtain ⟨it₁, hi₁, hc₁, hd₁⟩ := id hit₁
    have hdrop : x.cps.toList.drop i = x.cps[i] :: x.cps.toList.drop (i + 1) := by
      rw [List.drop_eq_getElem_cons (by simpa using hlt)]; rfl
    rw [hdrop] at hS
    refine wpAny_pure ?_
    refine up (wpAny_assign_Name (wpAny_storeName_local hv F₁.ns (fun h₃ hn₃ hs₃ => up ?_) hp))
    have N₃ : News g env.locals h₃ ((I, it₁) :: n') := fun p hp => by
      rcases List.mem_cons.mp hp with rfl | hp
      · exact ⟨(hs₃.2 _ hIL).trans hi₁, hIL, hI0⟩
      · exact ⟨(hs₃.2 _ (N₁ p hp).2.1).trans (N₁ p hp).1, (N₁ p hp).2⟩
    refine up (wpAny_mono (turn I hltI x.cps[i] _ m' n' it₁ h₃ _ _ hS hoff (F₁.set hn₃ hs₃) N₃) (fun f s₃ hx => ?_) fun _ _ x => x)
    obtain ⟨rfl, hp₃, tk₃, m₃, n₃, rfl, F₄, N₄, ho₃, hS₃⟩ := hx
    exact ⟨x.cps.size + 1 - (i + 1), by omega, i + 1, hp₃, tk₃, m₃, n₃, it₁, rfl, F₄, N₄, ⟨it₁, (N₄ _ (.head _)).1, hc₁, hd₁⟩, ho₃, hS₃, hlt, rfl⟩
  · have hz : i = x.cps.size := by omega
    subst hz
    have hnil : x.cps.toList.drop x.cps.size = [] := by rw [← Array.length_toList, List.drop_length]
    rw [hnil] at hS
    refine wpAny_pyNext_ascii_end hh hit (by simp) fun h₁ he₁ => wpAny_execs_nil ?_
    obtain ⟨F₁, N₁⟩ := step h₁ he₁
    exact done m' n' h₁ tk hS F₁ N₁
end
end Mine
end
section
example : True := by (w_top off); trivial
open PySem PySem.W PyProof.Rows PySem.Calls
set_option Elab.async false
namespace Mine
section
variable {prog : Program} {w : World} {A : Around} {E : Value → Shared → Prop} {s : Shared}
theorem hash_bool {b : Bool} {Q : Int → Shared → Prop} (h : Q (if b then 1 else 0) { s with toks := s.toks + 1 }) : wpAny (model prog w) A (pyHash (.bool b)) Q E s := by
  have hT : s.TypeIs (.bool b) "bool" := rfl
  unfold pyHash
  have hv : [Value.bool b].any Value.onHeap = false := rfl
  refine wpAny_bind ?_
  rw [cRoomFor, if_neg (by rw [hv]; exact Bool.false_ne_true)]; refine wpAny_pure ?_
  refine wpAny_bind (wpAny_specialOf hT F.slot_bool_hash.lookup ?_)
  show wpAny _ _ (if (some (Value.builtin "int.__hash__") == some Value.none) = true then _ else _) Q E s
  rw [if_neg (by rw [beq_builtin_none]; exact Bool.false_ne_true)]
  refine wpAny_bind (wpAny_specialOf hT F.slot_bool_hash.lookup ?_)
  show wpAny _ _ (callSpecialIfBoundUnlessNone? (.bool b) "__hash__" _ >>= _) Q E s
  have hr := rawHash_range (if b then 1 else 0)
  refine wpAny_bind (wpAny_callSpecialIfBoundUnlessNone?_slot hT F.slot_bool_hash
    (wpAny_call_entry F.slot_bool_hash hT F.entry_int_hash
      (show wpAny _ _ (do ret (← mkInt (rawHash (if b then 1 else 0)))) _ _ s from wpAny_ret_mkInt ?_) (F.args_int_hash_1 _)))
  show wpAny _ _ (if (decide (-(2 : Int) ^ 63 ≤ rawHash (if b then 1 else 0)) && decide (rawHash (if b then 1 else 0) < 2 ^ 63)) = true then _ else _) Q E _
  rw [if_pos (by rw [decide_eq_true hr.1, decide_eq_true hr.2]; rfl)]
  refine wpAny_pure ?_
  cases b <;> exact h
theorem eqBool_bool {a b : Bool} {Q : Bool → Shared → Prop} (h : Q (decide (a = b)) s) : wpAny (model prog w) A (eqBool (.bool a) (.bool b)) Q E s :=
  PySem.SeqAt.EqAt.bool_bool a b prog w E Q (by cases a <;> cases b <;> exact h)
end
def isBool : Bool → Value → Bool
  | k, .bool b => b == k
  | _, _ => false
theorem isBool_shape {k : Bool} {v : Value} (h : isBool k v = true) : v = .bool k := by
  cases v <;> simp_all [isBool]
def boolKind (prog : Program) (w : World) : PySem.KeyKind prog w Bool where
  is := isBool
  hash := fun b => if b then 1 else 0
  inj := fun v a b ha hb => by
    have h1 := isBool_shape ha
    have h2 := isBool_shape hb
    rw [h1] at h2
    injection h2
  byValue := fun k v h => by rw [isBool_shape h]; rfl
  pyHash := fun hv h => by rw [isBool_shape hv]; exact hash_bool h
  eqBool := fun hu hv h => by rw [isBool_shape hu, isBool_shape hv]; exact eqBool_bool h
  «strs» := (fun k x t v h => by simp [isBool] at h)
theorem obj24 (w : World) : List.lookup 24 (lawTop.heap_39 w.params) = some (dictOf [⟨1, .bool true, .ref 25⟩, ⟨0, .bool false, .ref 26⟩] 2) := by
  exact rfl
theorem dict24 (w : World) : (dictOf [⟨1, .bool true, .ref 25⟩, ⟨0, .bool false, .ref 26⟩] 2).IsDictOf (boolKind pg w) [(true, .ref 25), (false, .ref 26)] :=
  ⟨_, 2, ⟨rfl, rfl, rfl⟩, rfl, (fun e he => by
    rcases List.mem_cons.mp (List.mem_toArray.mp he) with rfl | he
    · exact ⟨true, rfl, rfl⟩
    · rcases List.mem_cons.mp he with rfl | he
      · exact ⟨false, rfl, rfl⟩
      · cases he), Pairs.cons rfl rfl (Pairs.cons rfl rfl Pairs.nil), by decide⟩
section
variable {w : World} {A : Around} {E : Value → Shared → Prop} {s : Shared} {h₀ : Heap} {L : Addr} {m : Str → Option Value} {Q : Value → Shared → Prop} {value slice : PySem.Expr}
theorem item_24 {b : Bool} (X : (lawTop.heap_39 w.params).In h₀) (F : Fr h₀ L s.heap m) (h : Q (.ref (if b then 25 else 26)) { s with toks := s.toks + 1 })
    (hs : subscripted slice false (.ref 24) (.bool b) = operate [.ref 24, .bool b] (getItem (.ref 24) (.bool b)) := by with_unfolding_all rfl) (hg : ∀ r, letTemporaryGo value (.ref 24) r = pure () := by intro _; with_unfolding_all rfl) :
    wpAny (model pg w) A (subscriptTail value slice (.ref 24) (.bool b)) Q E s :=
  have hD : s.heap.DictOf (boolKind pg w) 24 _ := Heap.dictOf_iff.mpr ⟨_, X.keeps F.keep _ _ (obj24 w), dict24 w⟩
  subscriptTail_builtin hD.typeIs slot_dict_getitem.lookup (wpAny_getItem_of (k := b) (by cases b <;> rfl) hD.mapOf (v := .ref (if b then 25 else 26)) (by cases b <;> rfl) h) hs hg
end
/-- the letters of ISO_LOOKUP -/
def isoTab (b : Bool) (c : Nat) : Option Str := if b then (if c = 89 then some (Str.ofString "years") else if c = 77 then some (Str.ofString "months") else if c = 68 then some (Str.ofString "days") else none) else (if c = 72 then some (Str.ofString "hours") else if c = 77 then some (Str.ofString "minutes") else if c = 83 then some (Str.ofString "seconds") else none)
abbrev isoAt (b : Bool) : Addr := if b then 25 else 26
def tab25 : List ((Str × Tok) × Value) := [((Str.ofString "Y", 280), .str (Str.ofString "years") 281), ((Str.ofString "M", 282), .str (Str.ofString "months") 283), ((Str.ofString "D", 284), .str (Str.ofString "days") 285)]
def tab26 : List ((Str × Tok) × Value) := [((Str.ofString "H", 289), .str (Str.ofString "hours") 290), ((Str.ofString "M", 291), .str (Str.ofString "minutes") 292), ((Str.ofString "S", 293), .str (Str.ofString "seconds") 294)]
theorem obj25 (w : World) : List.lookup 25 (lawTop.heap_39 w.params) = some (dictOf (ents w.params tab25) 3) := by exact rfl
theorem obj26 (w : World) : List.lookup 26 (lawTop.heap_39 w.params) = some (dictOf (ents w.params tab26) 3) := by exact rfl
section
variable {w : World} {A : Around} {E : Value → Shared → Prop} {s : Shared} {h₀ : Heap} {L : Addr} {m : Str → Option Value} {Q : Value → Shared → Prop} {value slice : PySem.Expr} {t : Tok}
theorem iso_at {c : Nat} {name : Str} {b : Bool} (h : isoTab b c = some name) : ∃ u, valueAt ((if b then tab25 else tab26).map fun x => (x.1.1, x.2)) (⟨#[c]⟩ : Str) = some (.str name u) := by
  unfold isoTab at h
  cases b
  · simp only [Bool.false_eq_true, if_false] at h ⊢
    split at h
    · next e => subst e; cases h; exact ⟨_, rfl⟩
    · split at h
      · next e => subst e; cases h; exact ⟨_, rfl⟩
      · split at h
        · next e => subst e; cases h; exact ⟨_, rfl⟩
        · cases h
  · simp only [if_true] at h ⊢
    split at h
    · next e => subst e; cases h; exact ⟨_, rfl⟩
    · split at h
      · next e => subst e; cases h; exact ⟨_, rfl⟩
      · split at h
        · next e => subst e; cases h; exact ⟨_, rfl⟩
        · cases h
theorem item_iso {c : Nat} {name : Str} {b : Bool} (X : (lawTop.heap_39 w.params).In h₀) (F : Fr h₀ L s.heap m) (hl : isoTab b c = some name) (h : ∀ t', Q (.str name t') { s with toks := s.toks + 1 })
    (hs : subscripted slice false (.ref (isoAt b)) (.str ⟨#[c]⟩ t) = operate [.ref (isoAt b), .str ⟨#[c]⟩ t] (getItem (.ref (isoAt b)) (.str ⟨#[c]⟩ t)) := by with_unfolding_all rfl) (hg : ∀ r, letTemporaryGo value (.ref (isoAt b)) r = pure () := by intro _; with_unfolding_all rfl) :
    wpAny (model pg w) A (subscriptTail value slice (.ref (isoAt b)) (.str ⟨#[c]⟩ t)) Q E s := by
  obtain ⟨u, e⟩ := iso_at hl
  cases b
  · exact item_top X F (obj26 w) (ents_isDict 3 (by decide +kernel)) e (h u) hs hg
  · exact item_top X F (obj25 w) (ents_isDict 3 (by decide +kernel)) e (h u) hs hg
theorem iso_facts {c : Nat} {name : Str} {b : Bool} (h : isoTab b c = some name) : name ∈ kwNames ∧ ((⟨#[c]⟩ : Str) == Str.ofString "T") = false ∧ Txt.isdigit ⟨#[c]⟩ = false ∧ c < 128 ∧ c ≠ 45 ∧ c ≠ 46 := by
  unfold isoTab at h
  cases b
  · simp only [Bool.false_eq_true, if_false] at h
    split at h
    · next e => subst e; cases h; decide +kernel
    · split at h
      · next e => subst e; cases h; decide +kernel
      · split at h
        · next e => subst e; cases h; decide +kernel
        · cases h
  · simp only [if_true] at h
    split at h
    · next e => subst e; cases h; decide +kernel
    · split at h
      · next e => subst e; cases h; decide +kernel
      · split at h
        · next e => subst e; cases h; decide +kernel
        · cases h
end
end Mine
end
section
example : True := by (w_top off); trivial
open PySem PySem.W PyProof.Rows PySem.Calls
set_option Elab.async false
set_option maxRecDepth 100000
namespace Mine
section
variable {prog : Program} {w : World} {A : Around} {s : Shared} {R : Result → Shared → Prop}
theorem dictc_loop {kx vx target iter c : PySem.Expr} {scope : Scope} {pos : Pos} {it : Value} {D : Addr} {env : Env} (I : Nat → Shared → Prop)
    (turn : ∀ n s, I n s → wpAny (model prog w) A (pyNext it) (fun r s₁ => match r with
      | none => R (.ok .next) s₁
      | some v => wpAny (model prog w) A (letOwnedTupleGo target it v) (fun _ s₀ => wpAny (model prog w) A (assign target env v) (fun _ s₂ =>
          wpAny (model prog w) A (isTrue c env (eval c env)) (fun ok s₃ =>
            if ok = true then wpAny (model prog w) A (eval kx env) (fun kv s₄ => wpAny (model prog w) A (eval vx env) (fun vv s₅ =>
              wpAny (model prog w) A (dictSet D kv vv) (fun _ s₆ => ∃ m, m < n ∧ I m s₆) NoE s₅) NoE s₄) NoE s₃
            else ∃ m, m < n ∧ I m s₃) NoE s₂) NoE s₀) NoE s₁) NoE s)
    (n : Nat) (h : I n s) :
    codeAny (model prog w) A (.compLoop (.DictComp kx vx [⟨target, iter, [c], 0⟩] scope pos) 0 it (.ref D) env) R s := by
  refine codeAny_loop rfl I (fun n s hI => ?_) n h
  show wpAny _ A ((compTurn (.DictComp kx vx [⟨target, iter, [c], 0⟩] scope pos) 0 it (.ref D) env).onRaise (fun x => do noteFrame x env; theTreesLotGoes x)) _ _ s
  refine wpAny_noted ?_
  rw [compTurn_dict]
  refine wpAny_mono (E := NoE) ?_ (fun _ _ x => x) fun _ _ x => x.elim
  refine wpAny_bind (wpAny_standAt (wpAny_bind (wpAny_mono (turn n s hI) (fun r s₁ h₁ => ?_) fun _ _ h' => h')))
  cases r with
  | none => exact wpAny_pure h₁
  | some v =>
    refine wpAny_bind (wpAny_mono h₁ (fun _ s₀ h₀' => ?_) fun _ _ h' => h')
    refine wpAny_bind (wpAny_mono h₀' (fun _ s₂ h₂ => ?_) fun _ _ h' => h')
    refine wpAny_bind (wpAny_tests_one (wpAny_mono h₂ (fun okb s₃ h₃ => ?_) fun _ _ h' => h'))
    cases okb with
    | false => exact wpAny_pure ⟨rfl, h₃⟩
    | true =>
      exact wpAny_bind (wpAny_bind (wpAny_mono h₃ (fun kv s₄ h₄ => wpAny_bind (wpAny_holding (wpAny_mono h₄ (fun vv s₅ h₅ => wpAny_bind (wpAny_standAt (wpAny_holding (wpAny_mono h₅ (fun _ s₆ h₆ => wpAny_pure ⟨rfl, h₆⟩) fun _ _ h' => h')))) fun _ _ h' => h'))) fun _ _ h' => h'))
end
/-- the fields that are not None -/
def keepE (fs : List (Str × Option Int)) : List (Str × Int) := fs.filterMap fun p => p.2.map fun i => (p.1, i)
theorem keepE_append (a b : List (Str × Option Int)) : keepE (a ++ b) = keepE a ++ keepE b := List.filterMap_append
theorem keepE_sub {fs : List (Str × Option Int)} {p : Str × Int} (h : p ∈ keepE fs) : p.1 ∈ fs.map (·.1) := by
  obtain ⟨q, hq, e⟩ := List.mem_filterMap.mp h
  cases e2 : q.2 with
  | none => rw [e2] at e; cases e
  | some i =>
    rw [e2] at e
    simp only [Option.map_some, Option.some.injEq] at e
    rw [← e]
    exact List.mem_map_of_mem (f := fun p : Str × Option Int => p.1) hq
/-- a made tuple of made pairs, each a name and a number or None -/
structure Pairs11 (T : Addr) (as : List Addr) (fs : List (Str × Option Int)) (news : List (Addr × Obj)) : Prop where
  tup : (T, ({ cls := .type "tuple", data := .seq (as.map Value.ref).toArray } : Obj)) ∈ news
  len : as.length = fs.length
  at_ : ∀ (j : Nat) a, as[j]? = some a → ∃ n o u t, fs[j]? = some (n, o) ∧ (a, pairObj (.str n u) (optV o t)) ∈ news
section
variable {w : World} {A : Around} {s : Shared} {env : Env} {g : Heap} {L : Addr} {m : Str → Option Value} {Q : Value → Shared → Prop} {a b : Str} {pa pb pa' pb' pc pn tp pos cp : Pos} {kk kt : Nat} {iter : PySem.Expr} {scope : Scope} {cl : List (Str × Addr)} {fs : List (Str × Option Int)}
/-- what a name of a comprehension holds -/
theorem ld_local {env : Env} {x : Str} {p : Pos} {mC : Str → Option Value} {v : Value} {Q : Value → Shared → Prop} {s : Shared} {E : Value → Shared → Prop} (hk : env.scope.kind = .function) (hx : env.kindOf x = some .local) (hn : s.heap.Ns env.locals mC) (hv : mC x = some v) (hd : (x == ("__debug__" : Str)) = false)
    (h : Q v s) : wpAny (model pg w) A (eval (.Name x p) env) Q E s := wpAny_Name (wpAny_loadName_local hk hx hn hv h) hd
theorem notNone {o : Option Int} {t : Tok} {Q : Bool → Shared → Prop} {E : Value → Shared → Prop} {s : Shared} (h : Q o.isSome s) : wpAny (model pg w) A (compareOp .IsNot (optV o t) .none) (fun c s₁ => wpAny (model pg w) A (truthy c) Q E s₁) E s := by
  cases o with
  | none => exact wpAny_isNot_self rfl (wpAny_truthy_bool h)
  | some i => exact wpAny_isNot_other rfl (fun e => by cases e) (wpAny_truthy_bool h)
theorem keepE_step {fs : List (Str × Option Int)} {i : Nat} {n : Str} {o : Option Int} (hn : (fs.map (·.1)).Nodup) (h : fs[i]? = some (n, o)) :
    (∀ v, o = some v → putI (keepE (fs.take i)) n v = keepE (fs.take (i + 1))) ∧ (o = none → keepE (fs.take i) = keepE (fs.take (i + 1))) := by
  have hj : i < fs.length := (List.getElem?_eq_some_iff.mp h).1
  have hg : fs[i] = (n, o) := (List.getElem?_eq_some_iff.mp h).2
  have e : fs.take (i + 1) = fs.take i ++ [(n, o)] := by rw [List.take_succ_eq_append_getElem hj, hg]
  constructor
  · rintro v rfl
    rw [e, keepE_append]
    have hnot : (keepE (fs.take i)).any (fun p => decide (p.1 = n)) = false := by
      rw [List.any_eq_false]
      intro p hp hq
      have hp' := keepE_sub hp
      rw [of_decide_eq_true hq] at hp'
      have e2 : fs = fs.take i ++ (n, some v) :: fs.drop (i + 1) := by
        conv => lhs; rw [← List.take_append_drop i fs]
        rw [List.drop_eq_getElem_cons hj, hg]
      rw [e2, List.map_append, List.map_cons] at hn
      exact (List.nodup_append.mp hn).2.2 n hp' n (.head _) rfl
    unfold putI
    rw [if_neg (by rw [hnot]; decide)]
    rfl
  · rintro rfl
    rw [e, keepE_append]
    show _ = keepE (fs.take i) ++ []
    rw [List.append_nil]
theorem dictComp_pairs (hh : A.handled = none) {T : Addr} {as : List Addr} {news : List (Addr × Obj)} {s₁ : Shared}
    (hcell : ∀ y ∈ scope.names, y.2 ≠ .cell) (hkind : scope.kind = .function) (hxa : scope.names.lookup a = some .local) (hxb : scope.names.lookup b = some .local) (hab : ¬ a = b) (hda : (a == ("__debug__" : Str)) = false) (hdb : (b == ("__debug__" : Str)) = false)
    (hfn : (fs.map (·.1)).Nodup) (hfl : fs.length ≤ 100)
    (F : Fr g L s₁.heap m) (N : News g L s₁.heap news) (hP : Pairs11 T as fs news)
    (hQ : ∀ D o kvs h' tk, Fr g L h' m → News g L h' ((D, o) :: news) → (∀ p ∈ news, p.1 < D) → o.IsDictOf (strKind pg w) kvs → KI kvs (keepE fs) → Q (.ref D) { s₁ with heap := h', toks := tk }) :
    wpAny (model pg w) A (pyIter (.ref T)) (fun it s₂ => wpAny (model pg w) A newDict (fun acc s₃ => wpAny (model pg w) A (newFunctionEnv scope env.globals cl [] env.qual none .none (some env)) (fun cenv s₄ =>
      codeAny (model pg w) A (.compStart (.DictComp (.Name a pa) (.Name b pb) [⟨.Tuple [.Name a pa', .Name b pb'] kk tp, iter, [.Compare (.Name b pc) [.IsNot] [.Constant .none kt pn] pos], 0⟩] scope cp) 0 it acc { cenv with scope := relabel scope env }) (compPost (model pg w) A NoE none Q acc cenv.locals) s₄) NoE s₃) NoE s₂) NoE s₁ := by
  have hTt : s₁.heap.IsTuple T (as.map Value.ref).toArray := let ⟨o, x, y, z⟩ := News.isTup N hP.tup; ⟨o, x, y, z⟩
  refine wpAny_pyIter_tuple hTt ?_
  refine wpAny_newObj_type (wpAny_newFunctionEnv hcell (by intro y hy; simp at hy) (fun h₁ hns₁ hsb₁ => ?_) hkind)
  dsimp only at hns₁ hsb₁ ⊢
  have hltT : ∀ b o, s₁.heap.get? b = some o → b < s₁.heap.objs.size := fun b o e => Heap.lt_size e
  generalize hH1 : s₁.heap.push { cls := .type "tuple_iterator", data := .fields #[.ref T, .int 0 0] } = H1 at hns₁ hsb₁ ⊢
  have hz1 : H1.objs.size = s₁.heap.objs.size + 1 := by rw [← hH1, Heap.size_push]
  have hJ1 : H1.IsTupleIter s₁.heap.objs.size T 0 := ⟨_, hH1 ▸ Heap.get?_push_size _ rfl, rfl, rfl⟩
  have up1 : ∀ b o, s₁.heap.get? b = some o → H1.get? b = some o := fun b o e => hH1 ▸ Heap.get?_push_of_some _ e
  have hnew : (H1.push { cls := .type "dict", dict := none, data := .dict #[] }).DictOf (strKind pg w) H1.objs.size [] := Heap.DictOf.new H1
  generalize hH2 : H1.push { cls := .type "dict", dict := none, data := .dict #[] } = H2 at hns₁ hsb₁ hnew ⊢
  have hz2 : H2.objs.size = H1.objs.size + 1 := by rw [← hH2, Heap.size_push]
  have up2 : ∀ b o, H1.get? b = some o → H2.get? b = some o := fun b o e => hH2 ▸ Heap.get?_push_of_some _ e
  have up3 : ∀ b o, H2.get? b = some o → h₁.get? b = some o := fun b o e => hsb₁.extBut b o (Nat.ne_of_lt (Heap.lt_size e)) (Heap.get?_push_of_some _ e)
  clear hsb₁ hH1 hH2
  generalize hJ : s₁.heap.objs.size = J at *
  generalize hD : H1.objs.size = D at *
  generalize hC : H2.objs.size = C at *
  have hJ3 : h₁.IsTupleIter J T 0 := let ⟨o, x, y⟩ := hJ1; ⟨o, up3 _ _ (up2 _ _ x), y⟩
  have hD3 : h₁.DictOf (strKind pg w) D [] := hnew.at fun o e => up3 _ o e
  have hk3 : ∀ b o, s₁.heap.get? b = some o → h₁.get? b = some o := fun b o e => up3 b o (up2 b o (up1 b o e))
  have hJD : J ≠ D := by omega
  have hJC : J ≠ C := by omega
  have hDC : D ≠ C := by omega
  have offs : ∀ b o, s₁.heap.get? b = some o → b ≠ J ∧ b ≠ D ∧ b ≠ C := fun b o e => by
    have h1 : @LT.lt Nat _ b J := hltT b o e
    have h2 : @LT.lt Nat _ J D := by omega
    have h3 : @LT.lt Nat _ D C := by omega
    exact ⟨Nat.ne_of_lt h1, Nat.ne_of_lt (Nat.lt_trans h1 h2), Nat.ne_of_lt (Nat.lt_trans h1 (Nat.lt_trans h2 h3))⟩
  have loop : ∀ s₃ : Shared, s₃ = { s₁ with heap := h₁, toks := s₁.toks + ([] : List (Str × Value)).length } →
      codeAny (model pg w) A (.compLoop (.DictComp (.Name a pa) (.Name b pb) [⟨.Tuple [.Name a pa', .Name b pb'] kk tp, iter, [.Compare (.Name b pc) [.IsNot] [.Constant .none kt pn] pos], 0⟩] scope cp) 0 (.ref J) (.ref D) (compEnvC scope cl C env)) (compPost (model pg w) A NoE none Q (.ref D) C) s₃ := by
    rintro s₃ rfl
    have hkl : (compEnvC scope cl C env).scope.kind = .function := by simp [compEnvC, relabel, hkind]
    have hka : (compEnvC scope cl C env).kindOf a = some .local := lookup_relabel_local hxa
    have hkb : (compEnvC scope cl C env).kindOf b = some .local := lookup_relabel_local hxb
    have hpp : ((compEnvC scope cl C env).scope.kind == .class || ((compEnvC scope cl C env).scope.kind == .module && (compEnvC scope cl C env).locals != (compEnvC scope cl C env).globals)) = false := by rw [hkl]; rfl
    refine dictc_loop (fun k s' => ∃ i h' tk mC kvs, s' = { s₁ with heap := h', toks := tk } ∧ (∀ b o, s₁.heap.get? b = some o → h'.get? b = some o) ∧ h'.IsTupleIter J T i ∧ h'.Ns C mC ∧ h'.DictOf (strKind pg w) D kvs ∧
      KI kvs (keepE (fs.take i)) ∧ i ≤ fs.length ∧ k = fs.length + 1 - i) ?_ (fs.length + 1) ⟨0, h₁, _, _, [], rfl, hk3, hJ3, hns₁, hD3, .nil, Nat.zero_le _, rfl⟩
    rintro k s' ⟨i, h', tk, mC, kvs, rfl, hk, hit, hns, hdd, hK, hi, rfl⟩
    have htup : h'.IsTuple T (as.map Value.ref).toArray := let ⟨o, x, y⟩ := hTt; ⟨o, hk _ _ x, y⟩
    by_cases hlt : i < fs.length
    · have hla : i < as.length := by rw [hP.len]; exact hlt
      have hv : (as.map Value.ref).toArray[i]? = some (.ref as[i]) := by simp [hla]
      obtain ⟨n, o, u, t, hfs, hmem⟩ := hP.at_ i as[i] (List.getElem?_eq_getElem hla)
      obtain ⟨st1, st2⟩ := keepE_step hfn hfs
      have hal : as[i] < J := by rw [← hJ]; exact Heap.lt_size (N _ hmem).1
      refine wpAny_pyNext_tuple_item hit htup hv fun h₂ hit₂ hs₂ => letOwned_tupleiter hit₂ ?_
      have hk2 : ∀ b o, s₁.heap.get? b = some o → h₂.get? b = some o := fun b o e => hs₂.extBut b o (offs b o e).1 (hk b o e)
      refine kcp_assign (env := compEnvC scope cl C env) hh ⟨_, hk2 _ _ (N _ hmem).1, rfl, _, rfl⟩ hka hkb hpp (hns.sameBut hs₂ (Ne.symm hJC)) fun h₃ tk₃ hn₃ hk₃ => ?_
      have hkk : ∀ b o, s₁.heap.get? b = some o → h₃.get? b = some o := fun b o e => hk₃ b o (offs b o e).2.2 (hk2 b o e)
      have hit₃ : h₃.IsTupleIter J T (i + 1) := let ⟨o, x, y⟩ := hit₂; ⟨o, hk₃ _ _ hJC x, y⟩
      have hd₃ : h₃.DictOf (strKind pg w) D kvs := hdd.at fun o e => hk₃ _ _ hDC (hs₂.extBut _ _ (Ne.symm hJD) e)
      refine wpAny_isTrue_Compare1 (ld_local hkl hkb hn₃ (if_pos rfl) hdb (wpAny_of_eq (a := Value.none) rfl (notNone ?_)))
      cases o with
      | none =>
        refine ⟨fs.length + 1 - (i + 1), by omega, i + 1, h₃, _, _, kvs, rfl, hkk, hit₃, hn₃, hd₃, ?_, hlt, rfl⟩
        rw [← st2 rfl]; exact hK
      | some v =>
        refine ld_local hkl hka hn₃ ((if_neg hab).trans (if_pos rfl)) hda (ld_local hkl hkb hn₃ (if_pos rfl) hdb ?_)
        have hsz : kvs.length ≤ sizeLine := by
          rw [hK.length, PySem.sizeLine_eq]
          have := List.length_filterMap_le (fun p : Str × Option Int => p.2.map fun i => (p.1, i)) (fs.take i)
          have h2 : (fs.take i).length ≤ fs.length := List.length_take_le' i fs
          show (keepE (fs.take i)).length ≤ _
          unfold keepE
          omega
        refine wpAny_dictSet_pairs (hsz := hsz) (strKind_is pg w n u) hd₃ fun h₄ hm₄ hs₄ => ?_
        refine ⟨fs.length + 1 - (i + 1), by omega, i + 1, h₄, _, _, _, rfl, fun b o e => hs₄.extBut b o (offs b o e).2.1 (hkk b o e), let ⟨o, x, y⟩ := hit₃; ⟨o, hs₄.extBut _ _ hJD x, y⟩, hn₃.sameBut hs₄ (Ne.symm hDC), hm₄, ?_, hlt, rfl⟩
        rw [← st1 v rfl]
        exact KI.put hK
    · have hz : i = fs.length := by omega
      subst hz
      refine wpAny_pyNext_tuple_end hh hit htup (by simp [hP.len]) fun h₂ he₂ => ?_
      rw [List.take_length] at hK
      refine ⟨mC, hns.extBut he₂ (Ne.symm hJC), fun h'' hs'' => ?_⟩
      obtain ⟨o, ho, hdo⟩ := Heap.dictOf_iff.mp hdd
      have hkf : ∀ b o, s₁.heap.get? b = some o → h''.get? b = some o := fun b o e => hs''.extBut b o (offs b o e).2.2 (he₂ b o (offs b o e).1 (hk b o e))
      refine hQ D o kvs h'' _ (F.keeps hkf) (fun p hp => ?_) (fun p hp => ?_) hdo hK
      · rcases List.mem_cons.mp hp with rfl | hp
        · exact ⟨hs''.extBut _ _ hDC (he₂ _ _ (Ne.symm hJD) ho), kdx_fresh F (by rw [hJ]; exact Nat.le_of_lt (by omega))⟩
        · exact ⟨hkf _ _ (N p hp).1, (N p hp).2⟩
      · have h1 : @LT.lt Nat _ p.1 J := hltT _ _ (N p hp).1
        exact Nat.lt_trans h1 (by omega)
  exact codeAny_compStart_dict (loop _ rfl) (wpAny_pyIter_tupleiter hJ3 (loop _ rfl))
def PSrc (w : World) (A : Around) (g : Heap) (L : Addr) (m : Str → Option Value) (fs : List (Str × Option Int)) (Q : Value → Shared → Prop) (xv : Value) (s₁ : Shared) : Prop := ∃ (T : Addr) (as : List Addr) (news : List (Addr × Obj)), xv = .ref T ∧ A.handled = none ∧ Fr g L s₁.heap m ∧ News g L s₁.heap news ∧ Pairs11 T as fs news ∧
      ∀ D o kvs h' tk, Fr g L h' m → News g L h' ((D, o) :: news) → (∀ p ∈ news, p.1 < D) → o.IsDictOf (strKind pg w) kvs → KI kvs (keepE fs) → Q (.ref D) { s₁ with heap := h', toks := tk }
theorem dictComp_eval (hclos : closureFor scope env = pure cl) (hcell : ∀ y ∈ scope.names, y.2 ≠ .cell) (hkind : scope.kind = .function)
    (hnames : ∀ y ∈ scope.names, y.2 = .local → scope.names.lookup y.1 = some .local) (hxa : scope.names.lookup a = some .local) (hxb : scope.names.lookup b = some .local) (hab : ¬ a = b) (hda : (a == ("__debug__" : Str)) = false) (hdb : (b == ("__debug__" : Str)) = false)
    (hfn : (fs.map (·.1)).Nodup) (hfl : fs.length ≤ 100) {s : Shared} (_F : Fr g L s.heap m)
    (h : wpAny (model pg w) A (eval iter env) (PSrc w A g L m fs Q) NoE s)
    (hs : ∀ x, foldedSetIterable iter env x = pure x := by intro _; rfl) :
    wpAny (model pg w) A (eval (.DictComp (.Name a pa) (.Name b pb) [⟨.Tuple [.Name a pa', .Name b pb'] kk tp, iter, [.Compare (.Name b pc) [.IsNot] [.Constant .none kt pn] pos], 0⟩] scope cp) env) Q NoE s := by
  rw [arm_eval_DictComp]
  refine wpAny_comprehension_free (use := none) rfl hs hclos hkind hnames (wpAny_mono h (fun xv s₁ h₁ => ?_) fun _ _ e => e)
  obtain ⟨T, as, news, rfl, hh, F, N, hP, hQ⟩ := h₁
  exact dictComp_pairs hh hcell hkind hxa hxb hab hda hdb hfn hfl F N hP hQ
end
/-- the fields of an interval, as _value_dict tells them -/
def fsIv (a : Iv) : List (Str × Option Int) := [(Str.ofString "millennia", a.ml), (Str.ofString "centuries", a.ce), (Str.ofString "decades", a.de), (Str.ofString "years", a.y), (Str.ofString "months", a.mo), (Str.ofString "weeks", a.wk), (Str.ofString "days", a.d), (Str.ofString "hours", a.h), (Str.ofString "minutes", a.mi), (Str.ofString "seconds", a.s), (Str.ofString "microseconds", a.us)]
def esIv (a : Iv) : List (Str × Int) := keepE (fsIv a)
end Mine
end
section
example : True := by (w_top off); trivial
open PySem PySem.W PyProof.Rows PySem.Calls
set_option Elab.async false
set_option maxRecDepth 100000
namespace Mine
section
variable {prog : Program} {w : World} {K : Type} [DecidableEq K] {knd : KeyKind prog w K} {A : Around}
theorem itemsU (hh : A.handled = none) {I d : Addr} {ep : Nat} {kvs : List (K × Value)} (hne : d ≠ I) :
    WalksU prog w A I [I, d] [I] kvs.length (fun i vals => ∃ key k v, kvs[i]? = some (k, v) ∧ knd.is k key = true ∧ vals = #[key, v])
      (fun i h => (∃ ok ov, IsItemIter h I d i kvs.length ep ok ov) ∧ h.DictAt knd d kvs ep) (fun i T h => (∃ ok ov, IsItemIterOut h I d (i + 1) kvs.length ep ok ov T) ∧ h.DictAt knd d kvs ep ∧ T ≠ I) where
  sub := fun b hb => by rw [List.mem_singleton.mp hb]; exact .head _
  frame := fun i h h' st hk => ⟨let ⟨ok, ov, x⟩ := st.1; ⟨ok, ov, hk I (.head _) _ x⟩, st.2.at' fun o e => hk d (.tail _ (.head _)) o e⟩
  item := fun i s Q E hi st hQ => by
    obtain ⟨⟨ok, ov, hit⟩, hm⟩ := st
    have hx : kvs[i]? = some (kvs[i].1, kvs[i].2) := List.getElem?_eq_getElem hi
    refine wpAny_pyNext_items_item hit hm hx fun key h' hkey hout htup hz hk => ?_
    have hT : s.heap.objs.size ≠ I := Nat.ne_of_gt (Heap.lt_size hit)
    refine hQ s.heap.objs.size #[key, kvs[i].2] h' s.toks ⟨key, _, _, hx, hkey, rfl⟩ ⟨_, htup, rfl, _, rfl⟩ ⟨⟨_, _, hout⟩, hm.at' fun o e => hk d o hne e, hT⟩ fun b o hb e => hk b o (fun q => hb (by rw [q]; exact .head _)) e
  go := fun elts k pos i T s Q E hm hQ => by
    obtain ⟨⟨ok, ov, hout⟩, hd, hT⟩ := hm
    refine wpAny_letOwnedTupleGo_items hout fun h' hit hs => ?_
    exact hQ h' ⟨⟨_, _, hit⟩, hd.at' fun o e => hs.extBut d o hne e⟩ fun b o hb e => hs.extBut b o (fun q => hb (by rw [q]; exact .head _)) e
  apart := fun i T h hm hmem => hm.2.2 (List.mem_singleton.mp hmem)
  done := fun s Q E st hQ => by
    obtain ⟨⟨ok, ov, hit⟩, hm⟩ := st
    refine wpAny_pyNext_items_end hh hit hm (List.getElem?_eq_none (Nat.le_refl _)) fun h' he => ?_
    exact hQ h' s.toks fun b o hb e => he b o (fun q => hb (by rw [q]; exact .head _)) e
  self := fun i s Q E st hQ => by
    obtain ⟨⟨ok, ov, hit⟩, _⟩ := st
    exact kcp_self hit hQ
end
section
variable {w : World} {A : Around} {s : Shared} {E : Value → Shared → Prop}
/-- f"{v} {n}" -/
abbrev wordOf (n : Str) (i : Int) : Str := Str.ofString (toString i) ++ Str.ofString " " ++ n
theorem elt_str {cenv : Env} {v n : Str} {p1 p2 p3 p4 p5 p6 : Pos} {kt : Nat} {m₂ : Str → Option Value} {i : Int} {t u : Tok} {nm : Str} {Q : Value → Shared → Prop} (hk : cenv.scope.kind = .function) (hv : cenv.kindOf v = some .local) (hn : cenv.kindOf n = some .local)
    (hdv : (v == ("__debug__" : Str)) = false) (hdn : (n == ("__debug__" : Str)) = false) (hns : s.heap.Ns cenv.locals m₂) (mv : m₂ v = some (.int i t)) (mn : m₂ n = some (.str nm u)) (hi : i.natAbs.log2 < 1920) (hnm : nm.length ≤ 100) (hil : (Str.ofString (toString i)).length ≤ 1000)
    (h : ∀ t' tk, Q (.str (wordOf nm i) t') { s with toks := tk }) :
    wpAny (model pg w) A (eval (.JoinedStr [.FormattedValue (.Name v p1) (-1) none p2, .Constant (.str (Str.ofString " ")) kt p3, .FormattedValue (.Name n p4) (-1) none p5] p6) cenv) Q E s := by
  have e0 : (Str.empty ++ Str.ofString (toString i)) = Str.ofString (toString i) := PySem.Str.empty_append _
  have hl1 : (Str.ofString " ").length ≤ 1 := by decide
  have hz : ∀ n, n ≤ 2000 → n ≤ sizeLine := fun n h => by rw [PySem.sizeLine_eq]; omega
  have hf : ∀ k, (wordOf nm i).length ≤ sizeLine ∧ Q (.str (wordOf nm i) k) { s with toks := k + 1 } := fun k => ⟨hz _ (by
    show (Str.ofString (toString i) ++ Str.ofString " " ++ nm).length ≤ 2000
    rw [PySem.Str.length_append, PySem.Str.length_append]; omega), h _ _⟩
  refine wpAny_JoinedStr ?_
  refine wpAny_FormattedValue_plain (ld_local hk hv hns mv hdv (wpAny_formatField_int hi ?_))
  refine ⟨Str.ofString (toString i), _, rfl, ?_, ?_⟩
  · rw [e0]; exact hz _ (by omega)
  rw [e0]
  refine wpAny_Constant_str ?_
  refine ⟨Str.ofString " ", _, rfl, hz _ (by rw [PySem.Str.length_append]; omega), ?_⟩
  have fin : ∀ (k : Tok) (s' : Shared) , (∃ tk, s' = { s with toks := tk }) → ∃ y t, Value.str nm k = .str y t ∧ (Str.ofString (toString i) ++ Str.ofString " " ++ y).length ≤ sizeLine ∧
      Joins (model pg w) A E [] (Str.ofString (toString i) ++ Str.ofString " " ++ y) (fun out s₁ => out.length ≤ sizeLine ∧ Q (.str out s₁.toks) { s₁ with toks := s₁.toks + 1 }) s' := by
    rintro k s' ⟨tk, rfl⟩
    exact ⟨nm, k, rfl, (hf 0).1, hf tk⟩
  refine wpAny_FormattedValue_plain (ld_local hk hn (by exact hns) mn hdn (wpAny_formatField_str (fin _ _ ⟨_, rfl⟩) (fin _ _ ⟨_, rfl⟩) (hz _ (by omega))))
end
theorem log_small {n : Int} (h : -100000 < n ∧ n < 100000) : n.natAbs.log2 < 1920 := by
  by_cases h0 : n.natAbs = 0
  · rw [h0]; decide
  · refine (Nat.log2_lt h0).mpr (Nat.lt_of_lt_of_le (show n.natAbs < 2 ^ 17 by omega) (Nat.pow_le_pow_right (by decide) (by decide)))
/-- the code object of __str__ and its table -/
theorem isCode90 {w : World} {h : Heap} {ps : Array Value} (X : (lawTop.heap_39 w.params).In h) (ht : h.get? 86 = some (tabO ps)) (htr : TriplesOk ps.toList) : h.IsCode 90 86 ps :=
  ⟨_, _, _, _, _, _, _, _, _, tabO ps, X 90 _ rfl, rfl, rfl, rfl, rfl, rfl, rfl, ht, rfl, htr, by decide⟩
theorem tableAt90 {w : World} {h : Heap} {ps : Array Value} (X : (lawTop.heap_39 w.params).In h) (ht : h.get? 86 = some (tabO ps)) : h.TableAt 90 86 ps :=
  ⟨⟨_, _, X 90 _ rfl, rfl, rfl, rfl⟩, ht⟩
section
variable {w : World} {A : Around} {s : Shared} {E : Value → Shared → Prop} {g : Heap} {L : Addr} {m : Str → Option Value} {news : List (Addr × Obj)} {ps : Array Value} {env : Env}
theorem genCode_led {pos : Pos} {q : Str} {scope : Scope} {Q : Value → Shared → Prop} (F : Fr g L s.heap m) (N : News g L s.heap ((86, tabO ps) :: news)) (X : (lawTop.heap_39 w.params).In g) (htr : TriplesOk ps.toList) (hc : env.code = .ref 90) (hoff : ∀ p ∈ news, @Ne Nat p.1 86)
    (h : ∀ code h' tk ps', TriplesOk ps'.toList → (∀ b o, b ≠ 86 → s.heap.get? b = some o → h'.get? b = some o) → Fr g L h' m → News g L h' ((86, tabO ps') :: news) → Q code { s with heap := h', toks := tk }) : wpAny (model pg w) A (genexprCode env pos q scope) Q E s := by
  have hN := N _ (.head _)
  have hXs := X.keeps F.keep
  have hk := isCode90 hXs hN.1 htr
  cases hf : codeAmong pos ps.toList with
  | some c' => exact wpAny_genexprCode_hit hc hk hf (h c' s.heap s.toks ps htr (fun _ _ _ e => e) F N)
  | none =>
    refine wpAny_genexprCodeX hc hk (tableAt90 hXs hN.1) hf fun c' h' tk he _ _ hk' _ ht' _ => ?_
    obtain ⟨o, vs, file, tf, flags, tg, inF, text, tt, op, _, _, _, _, _, _, _, _, _, htr', _⟩ := hk'
    refine h _ h' tk _ htr' he ⟨F.ns.at' fun o e => he _ o hN.2.1.symm e, fun b o e => he b o (fun q => by rw [q, hN.2.2] at e; cases e) (F.keep b o e), F.above⟩ fun p hp => ?_
    rcases List.mem_cons.mp hp with rfl | hp
    · exact ⟨ht'.2, hN.2⟩
    · exact ⟨he _ _ (hoff p hp) (N _ (.tail _ hp)).1, (N _ (.tail _ hp)).2⟩
/-- what join does with the generator of __str__ -/
def GenJ (w : World) (A : Around) (g : Heap) (L : Addr) (m : Str → Option Value) (news : List (Addr × Obj)) (es : List (Str × Int)) (s₁ : Shared) (a : Addr) (s₅ : Shared) : Prop :=
  ∀ (t : Tok) (Q' : Value → Shared → Prop), (∀ t' h' tk gs' ps', TriplesOk ps'.toList → (AllBare s₁.gens → AllBare gs') → Fr g L h' m → News g L h' ((86, tabO ps') :: news) → Q' (.str (Txt.join (Str.ofString " ") (es.map fun p => wordOf p.1 p.2)) t') { s₁ with heap := h', toks := tk, gens := gs' }) →
    wpAny (model pg w) A (call (.builtin "str.join") [.str (Str.ofString " ") t, .ref a]) Q' NoE s₅
theorem passing_all (n : Nat) : passing (fun _ => true) n 0 = List.range n := by
  unfold passing
  rw [List.drop_zero]
  exact List.filter_eq_self.mpr fun _ _ => rfl
theorem gen_bi (hg : env.globals = mainGlobals) (hb : env.builtins = builtinsNs) {mg : Str → Option Value} (X : (lawTop.heap_39 w.params).In s.heap) (G : s.heap.Ns mainGlobals mg) (M : s.heap.get? 4 = some modB) {Q : Addr → Shared → Prop} (h : Q builtinsNs s) : wpAny (model pg w) A (builtinsFor env.globals env.builtins) Q E s := by
  rw [hg]
  exact wpAny_builtinsFor (bm := 4) G (mg_of X G rfl) (by decide) M rfl rfl rfl h
/-- what the generator goes over -/
def GSrc (w : World) (A : Around) (g : Heap) (L : Addr) (m : Str → Option Value) (es : List (Str × Int)) (Q : Value → Shared → Prop) (xv : Value) (s₁ : Shared) : Prop := ∃ V d o kvs ps news, xv = .ref V ∧ Fr g L s₁.heap m ∧ News g L s₁.heap ((86, tabO ps) :: news) ∧ (V, ({ cls := .type "dict_items", data := .fields #[.ref d] } : Obj)) ∈ news ∧ (d, o) ∈ news ∧ o.IsDictOf (strKind pg w) kvs ∧ KI kvs es ∧
      TriplesOk ps.toList ∧ (∀ p ∈ news, @Ne Nat p.1 86) ∧ ∀ a h₅ tk gs, GenJ w A g L m news es s₁ a { s₁ with heap := h₅, toks := tk, gens := gs } → Q (.ref a) { s₁ with heap := h₅, toks := tk, gens := gs }
/-- the generator of __str__ over the items of a made dict -/
theorem strGen {v n : Str} {p1 p2 p3 p4 p5 p6 pa pb tp pos : Pos} {kt kt' : Nat} {iter : PySem.Expr} {scope : Scope} {es : List (Str × Int)} {Q : Value → Shared → Prop} {mg : Str → Option Value}
    (hh : A.handled = none) (hroom : A.depth < recursionLimit) (hco : scope.isCoroutine = false) (hclos : closureFor scope env = pure []) (hcell : ∀ y ∈ scope.names, y.2 ≠ .cell) (h0 : scope.names.lookup (".0" : Str) = some NameKind.local)
    (hxn : scope.names.lookup n = some .local) (hxv : scope.names.lookup v = some .local) (hnv : n ≠ v) (hkind : scope.kind = .function) (hdv : (v == ("__debug__" : Str)) = false) (hdn : (n == ("__debug__" : Str)) = false)
    (hcode : env.code = .ref 90) (hg : env.globals = mainGlobals) (hb : env.builtins = builtinsNs) (X : (lawTop.heap_39 w.params).In g) (G : g.Ns mainGlobals mg) (M : g.get? 4 = some modB) (hlim : g.NoLimit) (hes : ∀ p ∈ es, p.1.length ≤ 100 ∧ -100000 < p.2 ∧ p.2 < 100000) (hel : es.length ≤ 40)
    (_F : Fr g L s.heap m)
    (h : wpAny (model pg w) A (eval iter env) (GSrc w A g L m es Q) NoE s)
    (hs : ∀ x, genFold iter env x = pure x) :
    wpAny (model pg w) A (eval (.GeneratorExp (.JoinedStr [.FormattedValue (.Name v p1) (-1) none p2, .Constant (.str (Str.ofString " ")) kt p3, .FormattedValue (.Name n p4) (-1) none p5] p6) [⟨.Tuple [.Name n pa, .Name v pb] kt' tp, iter, [], 0⟩] scope pos) env) Q NoE s := by
  refine wpAny_GeneratorExp_walksQT (cl := []) hh hco hclos hcell h0 hxn hxv hnv hkind hroom (wpAny_mono h (fun xv s₁ h₁ => ?_) fun _ _ e => e) hs
  obtain ⟨V, d, o, kvs, ps, news, rfl, F, N, hV, hd, hD, hK, htr, hoff, hQ⟩ := h₁
  obtain ⟨ep, hat⟩ := KdkAt.of hD
  have hVn := N _ (.tail _ hV)
  have hdn' := N _ (.tail _ hd)
  have hda : s₁.heap.DictAt (strKind pg w) d kvs ep := hat.dictAt hdn'.1
  refine wpAny_pyIter_items ⟨_, hVn.1, rfl, rfl⟩ hda ?_
  have hIL : s₁.heap.objs.size ≠ L := Nat.ne_of_gt F.ns.lt
  have hI0 : g.get? s₁.heap.objs.size = none := next_is_new F
  have hltI : ∀ p ∈ (86, tabO ps) :: news, p.1 < s₁.heap.objs.size := fun p hp => Heap.lt_size (N p hp).1
  have hdI : d ≠ s₁.heap.objs.size := Nat.ne_of_lt (hltI _ (.tail _ hd))
  have h86 : @Ne Nat s₁.heap.objs.size 86 := Nat.ne_of_gt (hltI _ (.head _))
  have F₂ := F.push { cls := .type "dict_itemiterator", data := .fields #[.none, .bool false, .ref d, .int 0 0, .int kvs.length 0, .int ep 0, .none, .none] }
  have N₂ : News g L (s₁.heap.push { cls := .type "dict_itemiterator", data := .fields #[.none, .bool false, .ref d, .int 0 0, .int kvs.length 0, .int ep 0, .none, .none] }) ((86, tabO ps) :: (s₁.heap.objs.size, ({ cls := .type "dict_itemiterator", data := .fields #[.none, .bool false, .ref d, .int 0 0, .int kvs.length 0, .int ep 0, .none, .none] } : Obj)) :: news) := fun p hp => by
    rcases List.mem_cons.mp hp with rfl | hp
    · exact ⟨Heap.get?_push_of_some _ (N _ (.head _)).1, (N _ (.head _)).2⟩
    · rcases List.mem_cons.mp hp with rfl | hp
      · exact ⟨Heap.get?_push_size _ rfl, hIL, hI0⟩
      · exact ⟨Heap.get?_push_of_some _ (N _ (.tail _ hp)).1, (N _ (.tail _ hp)).2⟩
  refine ⟨hlim.keeps F₂.keep, ?_⟩
  refine genCode_led (s := { s₁ with heap := s₁.heap.push _ }) F₂ N₂ X htr hcode (List.forall_mem_cons.mpr ⟨h86, hoff⟩) fun code h₃ tk₃ ps' htr' hk₃ F₃ N₃ => ?_
  refine gen_bi (s := { s₁ with heap := h₃, toks := tk₃ }) hg hb (X.keeps F₃.keep) (G.keeps F₃.keep) (F₃.keep _ _ M) ?_
  generalize hI : s₁.heap.objs.size = I at *
  have hI₃ := (N₃ _ (.tail _ (.head _))).1
  have hd₃ := (N₃ _ (.tail _ (.tail _ hd))).1
  refine ⟨I, [I, d], [I], kvs.length, _, _, _, fun _ => true, fun i y => ∃ k x t t', kvs[i]? = some (k, .int x t) ∧ y = .str (wordOf k x) t', rfl, fun A' hA => itemsU (knd := strKind pg w) (ep := ep) hA hdI, ?_, ⟨⟨_, _, hI₃⟩, hat.dictAt hd₃⟩, ?_, hlim.keeps F₃.keep, ?_, ?_, ?_⟩
  · rintro i vals ⟨key, k, x, _, _, rfl⟩; exact ⟨_, _, rfl⟩
  · intro b hb'
    rcases List.mem_cons.mp hb' with rfl | hb'
    · exact Heap.lt_size hI₃
    · rw [List.mem_singleton.mp hb']; exact Heap.lt_size hd₃
  · intro hm
    obtain ⟨mc, hmc⟩ := hlim
    have := List.mem_singleton.mp hm
    obtain ⟨oc, _, _, hoc, _⟩ := hmc.1
    rw [this, hI0] at hoc
    cases hoc
  · intro href _
    refine ⟨fun A' E' i va vb s₂ m₂ hA hP hns ha hb' _ => wpAny_tests_nil ⟨rfl, _, _, rfl, fun _ _ e => e⟩, fun A' E' i va vb s₂ m₂ hA hP _ hns ha hb' _ => ?_⟩
    obtain ⟨key, k, x, hx, hkey, hv⟩ := hP
    obtain ⟨u, rfl⟩ := Value.isStrOf_shape hkey
    obtain ⟨nn, tn, hes', rfl⟩ := hK.at hx
    have hv' : [va, vb] = [.str k u, .int nn tn] := congrArg Array.toList hv
    simp only [List.cons.injEq, and_true] at hv'
    obtain ⟨rfl, rfl⟩ := hv'
    obtain ⟨b1, b2, b3⟩ := hes _ (List.mem_of_getElem? hes')
    refine elt_str (n := n) (v := v) (by exact hkind) (by exact hxv) (by exact hxn) hdv hdn hns hb' ha (log_small (by omega)) b1 (by have := len_int (n := nn) (by omega); omega) fun t' tk => ⟨⟨k, nn, tn, t', hx, rfl⟩, _, _, rfl, fun _ _ e => e⟩
  · intro a h₅ tk gs hgs hlt hsz hk₅ W GA
    refine hQ a h₅ tk _ ?_
    intro t Q' hQ'
    have hn : (passing (fun _ => true) kvs.length 0).length = kvs.length := by rw [passing_all, List.length_range]
    have hkl : kvs.length ≤ 40 := by rw [hK.length]; exact hel
    refine SC.joinGen W.of_in1.of_in1 (fun i s x => x.1.typeIs) GA (fun b hb' => ?_) (.head _) (fun i v hv => ?_) (fun s' l hm hacc => ?_) (by rw [hn, PySem.sizeLine_eq]; omega)
    · show b < h₅.objs.size
      rw [hsz]
      rcases List.mem_cons.mp hb' with rfl | hb'
      · exact Nat.lt_succ_self _
      · rcases List.mem_cons.mp hb' with rfl | hb'
        · exact Nat.lt_succ_of_lt hlt
        · exact Nat.lt_succ_of_lt (Nat.lt_trans (List.mem_range.mp hb') hlt)
    · obtain ⟨_, _, k, x, _, t', _, rfl⟩ := hv
      exact ⟨_, _, rfl⟩
    · have hlen : l.length = es.length := by
        have h1 := hacc.1
        rw [hn, hK.length] at h1
        rw [← h1]; simp [strValues]
      have hmap : l.map (·.1) = es.map fun p => wordOf p.1 p.2 := by
        refine List.ext_getElem? fun j => ?_
        by_cases hj : j < l.length
        · have hv : (strValues l).toArray[j]? = some (.str l[j].1 l[j].2) := by simp [strValues, hj]
          obtain ⟨i, hi, k, x, tx, t', hx, he⟩ := hacc.2 j _ hv
          rw [passing_all] at hi
          have hi' : i = j := by
            have := List.getElem?_range (show j < kvs.length by rw [hK.length, ← hlen]; exact hj)
            rw [this] at hi
            exact (Option.some.inj hi).symm
          subst hi'
          obtain ⟨n', tn, hes', hev⟩ := hK.at hx
          cases hev
          have he' : l[i].1 = wordOf k x := by injection he
          rw [List.getElem?_map, List.getElem?_map, hes', List.getElem?_eq_getElem hj]
          show some l[i].1 = some (wordOf k x)
          rw [he']
        · rw [List.getElem?_eq_none (by rw [List.length_map]; omega), List.getElem?_eq_none (by rw [List.length_map]; omega)]
      have hwl : ∀ y ∈ l.map (·.1), y.length ≤ 1000 := fun y hy => by
        rw [hmap] at hy
        obtain ⟨p, hp, rfl⟩ := List.mem_map.mp hy
        obtain ⟨b1, b2⟩ := hes p hp
        have := len_int (n := p.2) (by omega)
        show (Str.ofString (toString p.2) ++ Str.ofString " " ++ p.1).length ≤ 1000
        rw [PySem.Str.length_append, PySem.Str.length_append]
        have : (Str.ofString " ").length ≤ 1 := by decide
        omega
      refine ⟨joinOk_few (n := 0) (by rw [List.length_map]; omega) hwl (by decide), fun t' k => ?_⟩
      rw [hmap]
      obtain ⟨hp', gn', dr', tk', os'⟩ := s'
      have hC : L ≠ h₃.objs.size := Nat.ne_of_lt F₃.ns.lt
      have up : ∀ b o, b ≠ I → h₃.get? b = some o → hp'.get? b = some o := fun b o hb' e => hm.heap b o (fun q => by
        rcases List.mem_cons.mp q with q | q
        · rw [q] at e; exact absurd (Heap.lt_size e) (Nat.lt_irrefl _)
        · exact hb' (List.mem_singleton.mp q)) (hk₅ b o e)
      have e1 : dr' = s₁.drawn := hm.drawn
      have e2 : os' = s₁.os := hm.os
      subst e1 e2
      refine hQ' t' hp' k gn' ps' htr' (fun hab => ?_) ⟨F₃.ns.at' fun o e => up _ o hIL.symm e, fun b o e => up b o (fun q => by rw [q, hI0] at e; cases e) (F₃.keep b o e), F₃.above⟩ fun p hp => ?_
      · exact GenOnlyQ.bare hm.gens (AllBare.push hab hgs)
      · have hp3 : p.1 ≠ I := by
          rcases List.mem_cons.mp hp with rfl | hp
          · exact Ne.symm h86
          · exact Nat.ne_of_lt (hltI p (.tail _ hp))
        rcases List.mem_cons.mp hp with rfl | hp
        · exact ⟨up _ _ hp3 (N₃ _ (.head _)).1, (N₃ _ (.head _)).2⟩
        · exact ⟨up _ _ hp3 (N₃ _ (.tail _ (.tail _ hp))).1, (N₃ _ (.tail _ (.tail _ hp))).2⟩
end
end Mine
end
section
example : True := by (w_top off); trivial
open PySem PySem.W PyProof.Rows PySem.Calls
set_option Elab.async false
namespace Mine
section
variable {w : World} {A₀ A : Around} {s : Shared} {base h₀ : Heap} {outer : List Env} {L : Addr} {m : Str → Option Value} {env : Env} {news args : List (Addr × Obj)} {ps ps' : Array Value}
/-- the frame below again, where the code table may have grown -/
theorem back_P {g h' : Heap} {L' : Addr} {m' : Str → Option Value} {all : List (Addr × Obj)} (F : Fr h₀ L s.heap m) (N : News h₀ L s.heap ((86, tabO ps) :: news)) (hoff : ∀ p ∈ news, @Ne Nat p.1 86) (ha : ∀ p ∈ args, p ∈ news)
    (eg : g = hideAll s.heap (86 :: args.map (fun x : Addr × Obj => x.1))) (F' : Fr g L' h' m') (N' : News g L' h' all) (h86 : (86, tabO ps') ∈ all) (hA : ∀ p ∈ args, p ∈ all) :
    Fr h₀ L h' m ∧ News h₀ L h' ((86, tabO ps') :: news) := by
  subst eg
  have Na : News h₀ L s.heap ((86, tabO ps) :: args) := fun p hp => by
    rcases List.mem_cons.mp hp with rfl | hp
    · exact N _ (.head _)
    · exact N _ (.tail _ (ha p hp))
  have nm : ∀ b o, h₀.get? b = some o → b ∉ 86 :: args.map (fun x : Addr × Obj => x.1) := fun b o e q => by
    rcases List.mem_cons.mp q with rfl | q
    · rw [(Na _ (.head _)).2.2] at e; cases e
    · obtain ⟨p, hp, rfl⟩ := List.mem_map.mp q
      rw [(Na p (.tail _ hp)).2.2] at e; cases e
  have st : h₀.StaysIn (hideAll s.heap (86 :: args.map (fun x : Addr × Obj => x.1))) := fun b o e => hideAll_get _ (F.keep b o e) (nm b o e)
  obtain ⟨oL, es, ep, hL, hLd, hLk, hLf⟩ := F.ns
  have nL : L ∉ 86 :: args.map (fun x : Addr × Obj => x.1) := fun q => by
    rcases List.mem_cons.mp q with q | q
    · exact (Na _ (.head _)).2.1 q.symm
    · obtain ⟨p, hp, e⟩ := List.mem_map.mp q
      exact (Na p (.tail _ hp)).2.1 e
  have hLg := hideAll_get (86 :: args.map (fun x : Addr × Obj => x.1)) hL nL
  refine ⟨⟨⟨oL, es, ep, F'.keep L oL hLg, hLd, hLk, hLf⟩, fun b o e => F'.keep b o (st b o e), F.above⟩, fun p hp => ?_⟩
  rcases List.mem_cons.mp hp with rfl | hp
  · exact ⟨(N' _ h86).1, (N _ (.head _)).2⟩
  · refine ⟨?_, (N p (.tail _ hp)).2⟩
    by_cases hm : p.1 ∈ args.map (fun x : Addr × Obj => x.1)
    · obtain ⟨q, hq, e⟩ := List.mem_map.mp hm
      have e2 := (N q (.tail _ (ha q hq))).1
      rw [e, (N p (.tail _ hp)).1] at e2
      have x := (N' q (hA q hq)).1
      rw [e] at x
      rw [x, e2]
    · exact F'.keep _ _ (hideAll_get _ (N p (.tail _ hp)).1 fun q => by
        rcases List.mem_cons.mp q with q | q
        · exact hoff p hp q
        · exact hm q)
end
/-- what a body leaves behind that answers a plain value and may grow the code table -/
def DoneS (args : List (Addr × Obj)) (P : Value → Prop) (g : Heap) (s : Shared) (v : Value) (s' : Shared) : Prop :=
  ∃ L' m' all h' tk gs ps', s' = { s with heap := h', toks := tk, gens := gs } ∧ Fr g L' h' m' ∧ News g L' h' all ∧ P v ∧ TriplesOk ps'.toList ∧ (AllBare s.gens → AllBare gs) ∧ (86, tabO ps') ∈ all ∧ (∀ p ∈ args, p ∈ all)
/-- as Meets, for __str__ -/
def MeetsS (w : World) (d : Nat) (f : Value) (vals : List Value) (args : List (Addr × Obj)) (P : Value → Prop) : Prop :=
  ∀ (loose : List Str) (mean : ExcName → Option Value) (mg mb : Str → Option Value) (dp un : Nat) (gd : Option (List Code)) (cn : Str) (sn : List (Str × NameKind)) (sg sc : Bool) (sm : List (Str × Const))
    (a : Addr) (ccd : Value) (cl : List (Str × Addr)) (outer : List Env) (A₀ : Around) (base h₀ : Heap) (L : Addr) (m : Str → Option Value) (s : Shared) (Q : Value → Shared → Prop) (news : List (Addr × Obj)) (ps : Array Value),
    Below A₀ base outer h₀ → Fr h₀ L s.heap m → (lawTop.heap_39 w.params).In h₀ → News h₀ L s.heap ((86, tabO ps) :: news) → TriplesOk ps.toList → (∀ p ∈ news, @Ne Nat p.1 86) → (∀ p ∈ args, p ∈ news) → Top lawTop.view_39 loose mean mg mb h₀ → h₀.get? 4 = some modB →
    dp + d < recursionLimit → un + 20 * d < cLine →
    (∀ v h' tk' gs' ps', P v → TriplesOk ps'.toList → (AllBare s.gens → AllBare gs') → Fr h₀ L h' m → News h₀ L h' ((86, tabO ps') :: news) → Q v { s with heap := h', toks := tk', gens := gs' }) →
    codeAny (model pg w) (ktrTop dp un gd cn ⟨.function, sn, sg, sc, sm⟩ L a ccd cl outer) (.call f ⟨vals, []⟩) (fun r s' => match r with | .ok (.ret v) => Q v s' | _ => False) s
section
variable {w : World} {A₀ A : Around} {s : Shared} {base h₀ : Heap} {outer : List Env} {L : Addr} {m : Str → Option Value} {env : Env} {news args : List (Addr × Obj)} {ps : Array Value}
  {loose : List Str} {mean : ExcName → Option Value} {mg mb : Str → Option Value} {P : Value → Prop} {Q : Value → Shared → Prop}
  {name qual : Str} {params : Arguments} {body : List Stmt} {scope : Scope} {dV kV doc pm cdv ct oc : Value} {an od : Option Addr} {osl : Array (Option Value)} {f : Addr} {vals : Args} {binds : List (Str × Value)}
theorem enterS (bh : BindHint binds) (B : Below A₀ base outer h₀) (F : Fr h₀ L s.heap m) (X : (lawTop.heap_39 w.params).In h₀) (N : News h₀ L s.heap ((86, tabO ps) :: news)) (hoff : ∀ p ∈ news, @Ne Nat p.1 86) (ha : ∀ p ∈ args, p ∈ news) (T : Top lawTop.view_39 loose mean mg mb h₀) (M : h₀.get? 4 = some modB)
    (hA : A.frames = some (env :: outer)) (hf : env.frame = some L) (hke : env.scope.kind = .function)
    (ho : List.lookup f (lawTop.heap_39 w.params) = some ⟨oc, od, .func (fnOf name qual params body scope dV kV doc pm an cdv ct), osl⟩) (hcd : codeIn (lawTop.heap_39 w.params) cdv qual = true) (hroom : A.depth < recursionLimit)
    (hbind : BindsTo s (fnOf name qual params body scope dV kV doc pm an cdv ct) vals binds) (hloc : ∀ y ∈ binds, scope.names.lookup y.1 = some .local)
    (ret : ∀ v h' tk' gs' ps', P v → TriplesOk ps'.toList → (AllBare s.gens → AllBare gs') → Fr h₀ L h' m → News h₀ L h' ((86, tabO ps') :: news) → Q v { s with heap := h', toks := tk', gens := gs' })
    (h : ∀ g L' h₁, Fr g L' h₁ (fun y => binds.reverse.lookup y) → News g L' h₁ ((86, tabO ps) :: args) → (∀ p ∈ (86, tabO ps) :: args, p.1 < L') → (∀ p ∈ args, @Ne Nat p.1 86) → Below A base (env :: outer) g → (lawTop.heap_39 w.params).In g → Top lawTop.view_39 loose mean mg mb g → g.get? 4 = some modB →
      wpAny (model pg w) (A.deeper (envOf qual scope L' f cdv)) (execs body (envOf qual scope L' f cdv))
        (fun fl s' => DoneS args P g s (match fl with | .ret v => v | _ => .none) s') (fun _ _ => False)
        { s with heap := h₁, toks := s.toks + binds.length })
    (hco : scope.isCoroutine = false) (hgen : scope.isGenerator = false) (hk : scope.kind = .function)
    (hcell : ∀ x ∈ scope.names, x.2 ≠ .cell) : codeAny (model pg w) A (.call (.ref f) vals) (fun r s' => match r with | .ok (.ret v) => Q v s' | _ => False) s := by
  have Na : News h₀ L s.heap ((86, tabO ps) :: args) := fun p hp => by
    rcases List.mem_cons.mp hp with rfl | hp
    · exact N _ (.head _)
    · exact N _ (.tail _ (ha p hp))
  obtain ⟨_, BG, st, _⟩ := groundX (R := fun _ _ => True) B F Na hA hf hke
  have XS : (lawTop.heap_39 w.params).In s.heap := X.keeps F.keep
  refine codeAny_call_def (fd := fnOf name qual params body scope dV kV doc pm an cdv ct) (body := body) (binds := binds) hroom (XS _ _ ho) rfl (T.nolimit.keeps F.keep) (codeRec_of XS hcd) rfl hbind hcell hloc (fun h₁ hns hk₁ => ?_) hco hgen hk
  refine wpAny_mono (h (hideAll s.heap (86 :: args.map (fun x : Addr × Obj => x.1))) s.heap.objs.size h₁ ⟨hns, fun b o e => hk₁ b o (of_hideAll _ e), Nat.le_of_eq (hideAll_size _ _)⟩
    (fun p hp => ⟨hk₁ _ _ (Na p hp).1, Nat.ne_of_lt (Heap.lt_size (Na p hp).1), hideAll_none _ (List.mem_map_of_mem (f := fun x : Addr × Obj => x.1) hp)⟩) (fun p hp => Heap.lt_size (Na p hp).1) (fun p hp => hoff p (ha p hp)) BG (X.keeps st) (T.keeps st) (st _ _ M)) (fun fl s' D => ?_) fun _ _ y => y.elim
  obtain ⟨L', m', all, h', tk, gs, ps', rfl, F', N', hp, htr, hb, h86, hAll⟩ := D
  obtain ⟨F₂, N₂⟩ := back_P F N hoff ha rfl F' N' h86 hAll
  exact ret _ h' tk gs ps' hp htr hb F₂ N₂
end
end Mine
end
section
example : True := by (w_top off); trivial
open PySem PySem.W PyProof.Rows PySem.Calls
set_option Elab.async false
namespace Mine
/-- what a body leaves behind, its ground turned, the code table grown -/
def DoneP (fs : List Addr) (args : List (Addr × Obj)) (P : Value → Prop) (g : Heap) (s : Shared) (v : Value) (s' : Shared) : Prop := ∃ g', KtsTurn fs g g' ∧ DoneS args P g' s v s'
/-- as MeetsT, where __str__ may be called -/
def MeetsP (w : World) (d : Nat) (f : Value) (vals : List Value) (args : List (Addr × Obj)) (P : Value → Prop) : Prop :=
  ∀ (loose : List Str) (mean : ExcName → Option Value) (mg mb : Str → Option Value) (dp un : Nat) (gd : Option (List Code)) (cn : Str) (sn : List (Str × NameKind)) (sg sc : Bool) (sm : List (Str × Const))
    (a : Addr) (ccd : Value) (cl : List (Str × Addr)) (outer : List Env) (A₀ : Around) (base h₀ : Heap) (L : Addr) (m : Str → Option Value) (s : Shared) (Q : Value → Shared → Prop) (news : List (Addr × Obj)) (ps : Array Value),
    Ground3 w A₀ base outer loose mean mg mb h₀ → h₀.get? 4 = some modB → Fr h₀ L s.heap m → News h₀ L s.heap ((86, tabO ps) :: news) → TriplesOk ps.toList → (∀ p ∈ news, @Ne Nat p.1 86) → (∀ p ∈ args, p ∈ news) →
    dp + d < recursionLimit → un + 20 * d < cLine →
    (∀ v h' tk' gs' ps' h₀', KtsTurn (framesOf outer) h₀ h₀' → P v → TriplesOk ps'.toList → (AllBare s.gens → AllBare gs') → Ground3 w A₀ base outer loose mean mg mb h₀' → h₀'.get? 4 = some modB → Fr h₀' L h' m → News h₀' L h' ((86, tabO ps') :: news) → Q v { s with heap := h', toks := tk', gens := gs' }) →
    codeC (model pg w) (ktrTop dp un gd cn ⟨.function, sn, sg, sc, sm⟩ L a ccd cl outer) (.call f ⟨vals, []⟩) (fun r s' => match r with | .ok (.ret v) => Q v s' | _ => False) s
section
variable {w : World} {A₀ A : Around} {s : Shared} {base h₀ : Heap} {outer : List Env} {L : Addr} {m : Str → Option Value} {env : Env} {news args : List (Addr × Obj)} {ps ps' : Array Value}
  {loose : List Str} {mean : ExcName → Option Value} {mg mb : Str → Option Value}
theorem mod_turn {g g' : Heap} {fs : List Addr} (T : KtsTurn fs g g') (D : KtsDicts fs g) (M : g.get? 4 = some modB) : g'.get? 4 = some modB :=
  T.other _ _ M fun q => by
    obtain ⟨o, es, n, ho, hd⟩ := D 4 q
    rw [M] at ho
    cases ho
    cases hd
theorem back_PT {P : Value → Prop} {s₁ : Shared} {v : Value} {s' : Shared} (G : Ground3 w A₀ base outer loose mean mg mb h₀) (F : Fr h₀ L s.heap m) (N : News h₀ L s.heap ((86, tabO ps) :: news)) (hoff : ∀ p ∈ news, @Ne Nat p.1 86) (ha : ∀ p ∈ args, p ∈ news) (hf : env.frame = some L)
    (D : DoneP (framesOf (env :: outer)) args P (hideAll s.heap (86 :: args.map (fun x : Addr × Obj => x.1))) s₁ v s') :
    ∃ h' tk gs ps' h₀', s' = { s₁ with heap := h', toks := tk, gens := gs } ∧ KtsTurn (framesOf outer) h₀ h₀' ∧ P v ∧ TriplesOk ps'.toList ∧ (AllBare s₁.gens → AllBare gs) ∧ Ground3 w A₀ base outer loose mean mg mb h₀' ∧ Fr h₀' L h' m ∧ News h₀' L h' ((86, tabO ps') :: news) := by
  obtain ⟨g', TT, L', m', all, h', tk, gs, ps', rfl, F', N', hp, htr, hbare, h86, hA⟩ := D
  have Na : News h₀ L s.heap ((86, tabO ps) :: args) := fun p hp => by
    rcases List.mem_cons.mp hp with rfl | hp
    · exact N _ (.head _)
    · exact N _ (.tail _ (ha p hp))
  have hid : (86 :: args.map (fun x : Addr × Obj => x.1)) = ((86, tabO ps) :: args).map (fun x : Addr × Obj => x.1) := rfl
  rw [hid] at TT
  have nm : ∀ b o, h₀.get? b = some o → b ∉ ((86, tabO ps) :: args).map (fun x : Addr × Obj => x.1) := fun b o e q => by
    obtain ⟨p, hp, rfl⟩ := List.mem_map.mp q
    rw [(Na p hp).2.2] at e; cases e
  have st : h₀.StaysIn (hideAll s.heap (((86, tabO ps) :: args).map (fun x : Addr × Obj => x.1))) := fun b o e => hideAll_get _ (F.keep b o e) (nm b o e)
  obtain ⟨oL, es, ep, hL, hLd, hLk, hLf⟩ := F.ns
  have nL : L ∉ ((86, tabO ps) :: args).map (fun x : Addr × Obj => x.1) := fun q => by
    obtain ⟨p, hp, e⟩ := List.mem_map.mp q
    exact (Na p hp).2.1 e
  have hLg := hideAll_get (((86, tabO ps) :: args).map (fun x : Addr × Obj => x.1)) hL nL
  have nL₀ : h₀.get? L = none := kts_self F
  obtain ⟨sl, hs⟩ := TT.up hLg
  obtain ⟨T₁, S₁⟩ := kts_turn_at (h := h') (fs := framesOf outer) (g := h₀)
    (fun b hb => by
      obtain ⟨_, o, ho', _⟩ := G.B.frames.mem hb
      exact ⟨o, ho'⟩)
    (fun b o e nmem => F'.keep b o (TT.other b o (st b o e) fun q => by
      rcases mem_frames hf q with z | z
      · rw [z, nL₀] at e; cases e
      · exact nmem z))
    (fun b o e _ => by
      obtain ⟨sl', hs'⟩ := TT.up (st b o e)
      exact ⟨sl', F'.keep _ _ hs'⟩)
  have B₃ : Below A₀ base outer (ktsHeap h' (framesOf outer) h₀) := ⟨G.B.stack, fun b o e => T₁.other b o (G.B.stays b o e) (fun hm => by
    rw [(G.B.frames.mem hm).1] at e
    cases e), G.B.frames.of_keeps fun b o e _ => by
    obtain ⟨sl', hs'⟩ := T₁.up e
    exact ⟨_, hs', rfl⟩⟩
  refine ⟨h', tk, gs, ps', _, rfl, T₁, hp, htr, hbare, ⟨B₃, G.XB.keeps B₃.stays, G.TB.keeps B₃.stays, G.XB, G.TB, G.D.turn T₁⟩, ⟨⟨_, es, ep, F'.keep _ _ hs, hLd, hLk, hLf⟩, S₁, by rw [T₁.size]; exact F.above⟩, fun p hp => ?_⟩
  rcases List.mem_cons.mp hp with rfl | hp
  · exact ⟨(N' _ h86).1, (N _ (.head _)).2.1, T₁.none_ _ (N _ (.head _)).2.2⟩
  · have Np := N p (.tail _ hp)
    refine ⟨?_, Np.2.1, T₁.none_ _ Np.2.2⟩
    by_cases hm : p.1 ∈ args.map (fun x : Addr × Obj => x.1)
    · obtain ⟨q, hq, e⟩ := List.mem_map.mp hm
      have e2 := (N q (.tail _ (ha q hq))).1
      rw [e, Np.1] at e2
      have x := (N' q (hA q hq)).1
      rw [e] at x
      rw [x, e2]
    · refine F'.keep _ _ (TT.other _ _ (hideAll_get _ Np.1 fun q => ?_) fun q => ?_)
      · rcases List.mem_cons.mp (hid ▸ q) with q | q
        · exact hoff p hp q
        · exact hm q
      · rcases mem_frames hf q with z | z
        · exact Np.2.1 z
        · obtain ⟨_, o, ho, _⟩ := G.B.frames.mem z
          rw [Np.2.2] at ho; cases ho
variable {P : Value → Prop} {Q : Value → Shared → Prop}
  {name qual : Str} {params : Arguments} {body : List Stmt} {scope : Scope} {dV kV doc pm cdv ct oc : Value} {an od : Option Addr} {osl : Array (Option Value)} {f : Addr} {vals : Args} {binds : List (Str × Value)}
theorem enterP (bh : BindHint binds) (G : Ground3 w A₀ base outer loose mean mg mb h₀) (M : h₀.get? 4 = some modB) (F : Fr h₀ L s.heap m) (N : News h₀ L s.heap ((86, tabO ps) :: news)) (hoff : ∀ p ∈ news, @Ne Nat p.1 86) (ha : ∀ p ∈ args, p ∈ news)
    (hA : A.frames = some (env :: outer)) (hf : env.frame = some L) (hke : env.scope.kind = .function)
    (ho : List.lookup f (lawTop.heap_39 w.params) = some ⟨oc, od, .func (fnOf name qual params body scope dV kV doc pm an cdv ct), osl⟩) (hcd : codeIn (lawTop.heap_39 w.params) cdv qual = true) (hroom : A.depth < recursionLimit)
    (hbind : BindsTo s (fnOf name qual params body scope dV kV doc pm an cdv ct) vals binds) (hloc : ∀ y ∈ binds, scope.names.lookup y.1 = some .local)
    (ret : ∀ v h' tk' gs' ps' h₀', KtsTurn (framesOf outer) h₀ h₀' → P v → TriplesOk ps'.toList → (AllBare s.gens → AllBare gs') → Ground3 w A₀ base outer loose mean mg mb h₀' → h₀'.get? 4 = some modB → Fr h₀' L h' m → News h₀' L h' ((86, tabO ps') :: news) → Q v { s with heap := h', toks := tk', gens := gs' })
    (h : ∀ g L' h₁, Fr g L' h₁ (fun y => binds.reverse.lookup y) → News g L' h₁ ((86, tabO ps) :: args) → (∀ p ∈ (86, tabO ps) :: args, p.1 < L') → (∀ p ∈ args, @Ne Nat p.1 86) → Ground3 w A base (env :: outer) loose mean mg mb g → g.get? 4 = some modB →
      wpC (model pg w) (A.deeper (envOf qual scope L' f cdv)) (execs body (envOf qual scope L' f cdv))
        (fun fl s' => DoneP (framesOf (env :: outer)) args P g s (match fl with | .ret v => v | _ => .none) s') (fun _ _ => False)
        { s with heap := h₁, toks := s.toks + binds.length })
    (hco : scope.isCoroutine = false) (hgen : scope.isGenerator = false) (hk : scope.kind = .function)
    (hcell : ∀ x ∈ scope.names, x.2 ≠ .cell) : codeC (model pg w) A (.call (.ref f) vals) (fun r s' => match r with | .ok (.ret v) => Q v s' | _ => False) s := by
  have Na : ∀ p ∈ (86, tabO ps) :: args, p ∈ (86, tabO ps) :: news := fun p hp => by
    rcases List.mem_cons.mp hp with rfl | hp
    · exact .head _
    · exact .tail _ (ha p hp)
  have XS : (lawTop.heap_39 w.params).In s.heap := G.X.keeps F.keep
  have G₂ := ground_in G F N Na hA hf hke
  have M₂ : (hideAll s.heap (((86, tabO ps) :: args).map (fun x : Addr × Obj => x.1))).get? 4 = some modB := hideAll_get _ (F.keep _ _ M) fun q => by
    obtain ⟨p, hp, e⟩ := List.mem_map.mp q
    have := (N p (Na p hp)).2.2
    have e' : p.1 = 4 := e
    rw [e', M] at this; cases this
  refine codeC.call_def (fd := fnOf name qual params body scope dV kV doc pm an cdv ct) (body := body) (binds := binds) hroom (XS _ _ ho) rfl (G.T.nolimit.keeps F.keep) (codeRec_of XS hcd) rfl hbind hcell hloc (fun h₁ hns hk₁ => ?_) hco hgen hk
  refine wpC.mono (h (hideAll s.heap (86 :: args.map (fun x : Addr × Obj => x.1))) s.heap.objs.size h₁ ⟨hns, fun b o e => hk₁ b o (of_hideAll _ e), Nat.le_of_eq (hideAll_size _ _)⟩
    (fun p hp => ⟨hk₁ _ _ (N p (Na p hp)).1, Nat.ne_of_lt (Heap.lt_size (N p (Na p hp)).1), hideAll_none _ (List.mem_map_of_mem (f := fun x : Addr × Obj => x.1) hp)⟩) (fun p hp => Heap.lt_size (N p (Na p hp)).1) (fun p hp => hoff p (ha p hp)) G₂ M₂) (fun fl s' D => ?_) fun _ _ y => y.elim
  obtain ⟨h', tk, gs, ps', h₀', rfl, hT, hp, htr, hb, G', F', N'⟩ := back_PT G F N hoff ha hf D
  exact ret _ h' tk gs ps' h₀' hT hp htr hb G' (mod_turn hT G.D M) F' N'
theorem MeetsP.call {d : Nat} {f : Value} {vals : List Value} (h : MeetsP w d f vals args P)
    {dp un : Nat} {gd : Option (List Code)} {cn : Str} {sn : List (Str × NameKind)} {sg sc : Bool} {sm : List (Str × Const)} {a : Addr} {ccd : Value} {cl : List (Str × Addr)} {E : Value → Shared → Prop}
    (G : Ground3 w A₀ base outer loose mean mg mb h₀) (M : h₀.get? 4 = some modB) (F : Fr h₀ L s.heap m) (N : News h₀ L s.heap ((86, tabO ps) :: news)) (htr : TriplesOk ps.toList) (hoff : ∀ p ∈ news, @Ne Nat p.1 86) (ha : ∀ p ∈ args, p ∈ news)
    (hd : dp + d < recursionLimit) (hu : un + 20 * d < cLine)
    (r : ∀ v h' tk' gs' ps' h₀', KtsTurn (framesOf outer) h₀ h₀' → P v → TriplesOk ps'.toList → (AllBare s.gens → AllBare gs') → Ground3 w A₀ base outer loose mean mg mb h₀' → h₀'.get? 4 = some modB → Fr h₀' L h' m → News h₀' L h' ((86, tabO ps') :: news) → Q v { s with heap := h', toks := tk', gens := gs' }) :
    wpC (model pg w) (ktrTop dp un gd cn ⟨.function, sn, sg, sc, sm⟩ L a ccd cl outer) (PySem.call f vals []) Q E s :=
  wpC.call (codeC.mono (h _ _ _ _ _ _ _ _ _ _ _ _ _ _ _ _ _ _ _ _ _ _ _ _ _ G M F N htr hoff ha hd hu r) fun q s' x => by
    cases q with
    | error e => exact x.elim
    | ok f => cases f <;> first | exact x | exact x.elim)
theorem MeetsS.call {d : Nat} {f : Value} {vals : List Value} (h : MeetsS w d f vals args P)
    {dp un : Nat} {gd : Option (List Code)} {cn : Str} {sn : List (Str × NameKind)} {sg sc : Bool} {sm : List (Str × Const)} {a : Addr} {ccd : Value} {cl : List (Str × Addr)} {E : Value → Shared → Prop}
    (B : Below A₀ base outer h₀) (F : Fr h₀ L s.heap m) (X : (lawTop.heap_39 w.params).In h₀) (N : News h₀ L s.heap ((86, tabO ps) :: news)) (htr : TriplesOk ps.toList) (hoff : ∀ p ∈ news, @Ne Nat p.1 86) (ha : ∀ p ∈ args, p ∈ news) (T : Top lawTop.view_39 loose mean mg mb h₀) (M : h₀.get? 4 = some modB)
    (hd : dp + d < recursionLimit) (hu : un + 20 * d < cLine)
    (r : ∀ v h' tk' gs' ps', P v → TriplesOk ps'.toList → (AllBare s.gens → AllBare gs') → Fr h₀ L h' m → News h₀ L h' ((86, tabO ps') :: news) → Q v { s with heap := h', toks := tk', gens := gs' }) :
    wpAny (model pg w) (ktrTop dp un gd cn ⟨.function, sn, sg, sc, sm⟩ L a ccd cl outer) (PySem.call f vals []) Q E s :=
  wpAny_call (codeAny_mono (h _ _ _ _ _ _ _ _ _ _ _ _ _ _ _ _ _ _ _ _ _ _ _ _ _ B F X N htr hoff ha T M hd hu r) fun q s' x => by
    cases q with
    | error e => exact x.elim
    | ok f => cases f <;> first | exact x | exact x.elim)
end
end Mine
end
section
example : True := by (w_top off); trivial
open PySem PySem.W PyProof.Rows PySem.Calls
set_option Elab.async false
namespace Mine
/-- between two turns -/
def TurnEndP (w : World) (A₀ : Around) (base : Heap) (outer : List Env) (loose : List Str) (mean : ExcName → Option Value) (mg mb : Str → Option Value) (g₀ : Heap) (L : Addr) (s : Shared) (I : Addr) (it : Obj) (lp : Addr × Obj)
    (S : (Str → Option Value) → List (Addr × Obj) → Prop) (Q : Flow → Shared → Prop) (f : Flow) (s₂ : Shared) : Prop :=
  match f with
  | .ret v => Q (.ret v) s₂
  | .brk => False
  | _ => ∃ g' h' tk gs m' n', s₂ = { s with heap := h', toks := tk, gens := gs } ∧ (AllBare s.gens → AllBare gs) ∧ KtsTurn (framesOf outer) g₀ g' ∧ Ground3 w A₀ base outer loose mean mg mb g' ∧ Fr g' L h' m' ∧ News g' L h' ((I, it) :: n') ∧ lp ∈ n' ∧ (∀ p ∈ n', @Ne Nat p.1 I) ∧ S m' n'
section
variable {w : World} {A₀ A : Around} {base g₀ : Heap} {outer : List Env} {loose : List Str} {mean : ExcName → Option Value} {mg mb : Str → Option Value} {s : Shared} {env : Env} {target : Expr} {body : List Stmt} {Q : Flow → Shared → Prop} {R : Result → Shared → Prop}
  {m₀ : Str → Option Value} {news : List (Addr × Obj)} {ax : Addr} {lo : Obj} {vs : List Value} {nn : Nat}
/-- a loop over a made list, in the claim's own contexts; the frames below may be turned -/
theorem iter_listP (S : List Value → (Str → Option Value) → List (Addr × Obj) → Prop)
    (hh : A.handled = none) (G : Ground3 w A₀ base outer loose mean mg mb g₀) (F : Fr g₀ env.locals s.heap m₀) (N : News g₀ env.locals s.heap news)
    (hm : (ax, lo) ∈ news) (hc : lo.cls = .type "list") (hd : lo.data = .seq vs.toArray nn)
    (hgo : ∀ (I : Addr) (s' : Shared) (i : Nat) (v : Value) (Q' : Unit → Shared → Prop), s'.heap.IsListIter I ax i → v ∈ vs → Q' () s' → wpAny (model pg w) A (letOwnedTupleGo target (.ref I) v) Q' NoE s')
    (start : S vs m₀ news)
    (turn : ∀ I : Addr, (∀ p ∈ news, p.1 < I) → ∀ g v r m news' it h tk gs, (AllBare s.gens → AllBare gs) → KtsTurn (framesOf outer) g₀ g → Ground3 w A₀ base outer loose mean mg mb g → S (v :: r) m news' → it.cls = .type "list_iterator" → (∀ p ∈ news', @Ne Nat p.1 I) →
      Fr g env.locals h m → News g env.locals h ((I, it) :: news') →
      wpAny (model pg w) A (assign target env v) (fun _ s₂ => wpC (model pg w) A (execs body env) (TurnEndP w A₀ base outer loose mean mg mb g env.locals { s with heap := h, toks := tk, gens := gs } I it (ax, lo) (S r) Q) NoE s₂) NoE { s with heap := h, toks := tk, gens := gs })
    (done : ∀ g m news' h tk gs, (AllBare s.gens → AllBare gs) → KtsTurn (framesOf outer) g₀ g → Ground3 w A₀ base outer loose mean mg mb g → S [] m news' → Fr g env.locals h m → News g env.locals h news' → Q .next { s with heap := h, toks := tk, gens := gs }) :
    wpAny (model pg w) A (pyIter (.ref ax)) (fun it s₂ => codeC (model pg w) A (.forLoop target it body [] env) (fun r s' => match r with | .ok f => Q f s' | .error e => cameBackBy (model pg w) A env NoE e s') s₂) NoE s := by
  have hax := N _ hm
  have hl : s.heap.IsList ax vs.toArray := ⟨lo, hax.1, hc, nn, hd⟩
  refine wpAny_mono (wpAny_pyIter_list (Q := fun it s₂ => ∃ h₂, it = .ref s.heap.objs.size ∧ s₂ = { s with heap := h₂ } ∧ h₂.IsListIter s.heap.objs.size ax 0 ∧ ∀ b o, s.heap.get? b = some o → h₂.get? b = some o) (E := NoE) hl ⟨_, rfl, rfl, ⟨_, Heap.get?_push_size _ rfl, rfl, rfl⟩, fun b o e => Heap.get?_push_of_some _ e⟩) (fun itv s₂ hx₂ => ?_) fun _ _ x => x
  obtain ⟨h₂, rfl, rfl, ⟨it₀, hi₀, hc₀, hd₀⟩, hk₂⟩ := hx₂
  have hltI : ∀ p ∈ news, p.1 < s.heap.objs.size := fun p hp => Heap.lt_size (N p hp).1
  have hIL : s.heap.objs.size ≠ env.locals := fun e => absurd F.ns.lt (e ▸ Nat.lt_irrefl _)
  generalize hI : s.heap.objs.size = I at hltI hIL hi₀ ⊢
  have hI0 : g₀.get? I = none := hI ▸ next_is_new F
  refine codeC.forLoop
    (fun k s' => ∃ i g h' tk gs m' n' it, s' = { s with heap := h', toks := tk, gens := gs } ∧ (AllBare s.gens → AllBare gs) ∧ KtsTurn (framesOf outer) g₀ g ∧ Ground3 w A₀ base outer loose mean mg mb g ∧ Fr g env.locals h' m' ∧ News g env.locals h' ((I, it) :: n') ∧
      it.cls = .type "list_iterator" ∧ h'.IsListIter I ax i ∧ (ax, lo) ∈ n' ∧ (∀ p ∈ n', @Ne Nat p.1 I) ∧ S (vs.drop i) m' n' ∧ i ≤ vs.length ∧ k = vs.length + 1 - i) ?_ (vs.length + 1)
    ⟨0, g₀, _, s.toks, s.gens, m₀, news, it₀, rfl, fun h => h, .refl, G, ⟨F.ns.at' fun o e => hk₂ _ o e, fun b o e => hk₂ b o (F.keep b o e), F.above⟩, ?_, hc₀, ⟨it₀, hi₀, hc₀, hd₀⟩, hm, fun p hp => Nat.ne_of_lt (hltI p hp), by rw [List.drop_zero]; exact start, Nat.zero_le _, rfl⟩
  rotate_left
  · intro p hp
    rcases List.mem_cons.mp hp with rfl | hp
    · exact ⟨hi₀, hIL, hI0⟩
    · exact ⟨hk₂ _ _ (N p hp).1, (N p hp).2⟩
  rintro k s' ⟨i, g, h', tk, gs, m', n', it, rfl, hgs, T, G', F', N', hitc, hit, hmem, hoff, hS, hi, rfl⟩
  have hlst : h'.IsList ax vs.toArray := ⟨lo, (N' _ (.tail _ hmem)).1, hc, nn, hd⟩
  have hIg : g.get? I = none := (N' _ (.head _)).2.2
  have step : ∀ h₁ : Heap, (∀ b o, b ≠ I → h'.get? b = some o → h₁.get? b = some o) → Fr g env.locals h₁ m' ∧ News g env.locals h₁ n' := fun h₁ hk =>
    ⟨⟨F'.ns.at' fun o e => hk _ o (fun q => hIL q.symm) e, fun b o e => hk b o (fun q => by rw [q, hIg] at e; cases e) (F'.keep b o e), F'.above⟩, fun p hp => ⟨hk _ _ (hoff p hp) (N' _ (.tail _ hp)).1, (N' _ (.tail _ hp)).2⟩⟩
  by_cases hlt : i < vs.length
  · have hv : vs.toArray[i]? = some vs[i] := by simp [hlt]
    refine wpAny_pyNext_list_item hit hlst hv fun h₁ hit₁ hs₁ => ?_
    obtain ⟨F₁, N₁⟩ := step h₁ fun b o hb e => (hs₁.2 b hb).trans e
    obtain ⟨it₁, hi₁, hc₁, hd₁⟩ := id hit₁
    have hdrop : vs.drop i = vs[i] :: vs.drop (i + 1) := List.drop_eq_getElem_cons hlt
    rw [hdrop] at hS
    refine hgo I _ _ _ _ hit₁ (List.getElem_mem hlt) ?_
    have N₂ : News g env.locals h₁ ((I, it₁) :: n') := fun p hp => by
      rcases List.mem_cons.mp hp with rfl | hp
      · exact ⟨hi₁, hIL, hIg⟩
      · exact N₁ p hp
    refine wpAny_mono (turn I hltI g _ _ m' n' it₁ h₁ tk gs hgs T G' hS hc₁ hoff F₁ N₂) (fun _ s₂ h₂ => wpC.mono h₂ (fun f s₃ h₃ => ?_) fun _ _ x => x) fun _ _ x => x
    have fin : (∃ g' h' tk gs' m' n', s₃ = { s with heap := h', toks := tk, gens := gs' } ∧ (AllBare gs → AllBare gs') ∧ KtsTurn (framesOf outer) g g' ∧ Ground3 w A₀ base outer loose mean mg mb g' ∧ Fr g' env.locals h' m' ∧ News g' env.locals h' ((I, it₁) :: n') ∧ (ax, lo) ∈ n' ∧ (∀ p ∈ n', @Ne Nat p.1 I) ∧ S (vs.drop (i + 1)) m' n') →
        ∃ k, k < vs.length + 1 - i ∧ ∃ i g h' tk gs m' n' it, s₃ = { s with heap := h', toks := tk, gens := gs } ∧ (AllBare s.gens → AllBare gs) ∧ KtsTurn (framesOf outer) g₀ g ∧ Ground3 w A₀ base outer loose mean mg mb g ∧ Fr g env.locals h' m' ∧ News g env.locals h' ((I, it) :: n') ∧
      it.cls = .type "list_iterator" ∧ h'.IsListIter I ax i ∧ (ax, lo) ∈ n' ∧ (∀ p ∈ n', @Ne Nat p.1 I) ∧ S (vs.drop i) m' n' ∧ i ≤ vs.length ∧ k = vs.length + 1 - i := by
      rintro ⟨g₃, hp₃, tk₃, gs₃, m₃, n₃, rfl, hgs₃, T₃, G₃, F₃, N₃, hm₃, ho₃, hS₃⟩
      exact ⟨vs.length + 1 - (i + 1), by omega, i + 1, g₃, hp₃, tk₃, gs₃, m₃, n₃, it₁, rfl, fun h => hgs₃ (hgs h), T.trans T₃, G₃, F₃, N₃, hc₁, ⟨it₁, (N₃ _ (.head _)).1, hc₁, hd₁⟩, hm₃, ho₃, hS₃, hlt, rfl⟩
    cases f with
    | ret v => exact h₃
    | brk => exact h₃.elim
    | next => exact fin h₃
    | cont => exact fin h₃
  · have hz : i = vs.length := by omega
    subst hz
    rw [List.drop_length] at hS
    refine wpAny_pyNext_list_end hh hit hlst (by simp) fun h₁ he₁ => wpC.execs_nil ?_
    obtain ⟨F₁, N₁⟩ := step h₁ he₁
    exact done g m' n' h₁ tk gs hgs T G' hS F₁ N₁
end
end Mine
end
section
example : True := by (w_top off); trivial
open PySem PySem.W PyProof.Rows PySem.Calls
set_option Elab.async false
set_option maxRecDepth 100000
namespace Mine
/-- the table of a module function's code object does not stand at 86 -/
def tabOff (K : Frag) (es : Array DictEntry) (n : Str) : Bool := match nsFind es n with
  | some (.ref a) => (match K.lookup a with
    | some ⟨_, _, .func fd, _⟩ => (match fd.code with
      | .ref c => (match K.lookup c with
        | some ⟨_, _, .fields vs, _⟩ => (match vs.getD 11 .none with | .ref t => decide (t ≠ 86) | _ => true)
        | _ => false)
      | _ => false)
    | _ => false)
  | _ => false
def tabsOff (K : Frag) (ns : List Str) : Bool := match K.lookup 3 with
  | some ⟨_, _, .dict es _, _⟩ => ns.all (tabOff K es)
  | _ => false
set_option maxHeartbeats 4000000 in
theorem tabs_off (P : Params) : tabsOff (lawTop.heap_39 P) ((recsOf lawTop.view_39).map (·.name)) = true := by kernel_rfl
theorem owns_none : ownsOf lawTop.view_39 = [] := by kernel_rfl
theorem top_hide {w : World} {loose : List Str} {mean : ExcName → Option Value} {mg mb : Str → Option Value} {h : Heap} (T : Top lawTop.view_39 loose mean mg mb h) (X : (lawTop.heap_39 w.params).In h) (M : h.get? 86 = some (tabO #[])) : Top lawTop.view_39 loose mean mg mb (hideAll h [86]) := by
  have k : ∀ b o, h.get? b = some o → b ≠ 86 → (hideAll h [86]).get? b = some o := fun b o e n => hideAll_get _ e (by simpa using n)
  have ns : ∀ a m, a ≠ 86 → h.Ns a m → (hideAll h [86]).Ns a m := fun a m n ⟨o, es, ep, ho, r⟩ => ⟨o, es, ep, k _ _ ho n, r⟩
  have code : ∀ cd q, h.CodeRec cd q → (hideAll h [86]).CodeRec cd q := fun cd q ⟨c, o, vs, t, e, ho, hd, hv⟩ => ⟨c, o, vs, t, e, k _ _ ho (fun z => by
    rw [z, M] at ho
    cases ho
    cases hd
    exact absurd hv (by simp)), hd, hv⟩
  have fun86 : ∀ {a o fd}, h.get? a = some o → o.data = .func fd → a ≠ 86 := fun {a o fd} ho hd z => by
    rw [z, M] at ho
    cases ho
    cases hd
  refine ⟨ns _ _ (by decide) T.g, ns _ _ (by decide) T.b, ?_, ?_, ?_, ?_, T.const, T.free, T.builtins, ?_, ?_, ?_⟩
  · obtain ⟨mc, h1, h2⟩ := T.nolimit
    exact ⟨mc, ns _ _ (by decide) h1, h2⟩
  · obtain ⟨mc, h1, h2⟩ := T.nodigits
    exact ⟨mc, ns _ _ (by decide) h1, h2⟩
  · intro d hd
    obtain ⟨a, o, pm, cd, doc, h1, h2, h3, h4⟩ := T.fn d hd
    exact ⟨a, o, pm, cd, doc, h1, k _ _ h2 (fun86 h2 h3), h3, code _ _ h4⟩
  · intro o ho
    rw [owns_none] at ho
    cases ho
  · intro d hd
    obtain ⟨a, o, fd, c, P, h1, h2, h3, h4, h5, h6⟩ := T.tab d hd
    have hoff := tabs_off w.params
    unfold tabsOff at hoff
    obtain ⟨og, es, ep, hg, hgd, _, hgf⟩ := T.g
    split at hoff
    · next es' ep' sl' hl =>
      have := X _ _ hl
      rw [show (3 : Addr) = mainGlobals from rfl, hg] at this
      cases this
      cases hgd
      have hoff' := List.all_eq_true.mp hoff d.name (List.mem_map_of_mem hd)
      unfold tabOff at hoff'
      rw [hgf, h1] at hoff'
      dsimp only at hoff'
      split at hoff'
      · next fd' sl'' hla =>
        have ha := X _ _ hla
        rw [h2] at ha
        cases ha
        cases h3
        rw [h4] at hoff'
        dsimp only at hoff'
        split at hoff'
        · next vs sl3 hlc =>
          have hc := X _ _ hlc
          obtain ⟨oc, vs', file, tf, flags, tg, inF, text, tt, op, c1, c2, c3, r⟩ := h5
          rw [c1] at hc
          cases hc
          cases c2
          rw [c3] at hoff'
          have hP : P ≠ 86 := of_decide_eq_true hoff'
          have hc86 : c ≠ 86 := fun z => by
            rw [z, M] at c1
            cases c1
            simp at c3
          obtain ⟨r1, r2, r3, r4, r5, r6⟩ := r
          obtain ⟨⟨o6, v6, g6, q6⟩, t6⟩ := h6
          exact ⟨a, _, _, c, P, h1, k _ _ h2 (fun86 h2 rfl), rfl, h4, ⟨_, _, file, tf, flags, tg, inF, text, tt, op, k _ _ c1 hc86, rfl, c3, r1, r2, r3, r4, k _ _ r5 hP, r6⟩, ⟨⟨o6, v6, k _ _ g6 hc86, q6⟩, k _ _ t6 hP⟩⟩
        · cases hoff'
      · cases hoff'
    · cases hoff
  · obtain ⟨bm, ob, h1, h2, h3, h4, h5⟩ := T.bmain
    refine ⟨bm, ob, h1, h2, k _ _ h3 (fun z => ?_), h4, h5⟩
    rw [z, M] at h3
    cases h3
    cases h4
  · intro hi
    obtain ⟨⟨mc, a, b⟩, ⟨mm, c, d⟩, ⟨mb', e, f⟩, mg', bm, ob, g1, g2, g3, g4, g5⟩ := T.seer hi
    refine ⟨⟨mc, ns _ _ (by decide) a, b⟩, ⟨mm, ns _ _ (by decide) c, d⟩, ⟨mb', ns _ _ (by decide) e, f⟩, mg', bm, ob, ns _ _ (by decide) g1, g2, k _ _ g3 (fun z => ?_), g4, g5⟩
    rw [z, M] at g3
    cases g3
    cases g4
end Mine
end
section
example : True := by (w_top off); trivial
open PySem PySem.W PyProof.Rows PySem.Calls
set_option Elab.async false
set_option maxRecDepth 100000
namespace Mine
theorem code90 (P : Params) : ∃ o vs, List.lookup 90 (lawTop.heap_39 P) = some o ∧ o.cls = .type "code" ∧ o.data = .fields vs ∧ vs[11]? = some (.ref 86) := ⟨_, _, rfl, rfl, rfl, rfl⟩
section
variable {w : World} {s : Shared} {loose : List Str} {mean : ExcName → Option Value} {mg mb : Str → Option Value} {la : Addr} {lo : Obj}
  {name qual : Str} {params : Arguments} {body : List Stmt} {scope : Scope} {dV kV doc pm cdv ct oc : Value} {an od : Option Addr} {osl : Array (Option Value)} {f : Addr} {vals : Args} {binds : List (Str × Value)}
theorem enterTop (T : Top lawTop.view_39 loose mean mg mb s.heap) (X : (heapX w.params).In s.heap) (hla : s.heap.get? la = some lo) (hl6 : la ≠ 86)
    (ho : List.lookup f (lawTop.heap_39 w.params) = some ⟨oc, od, .func (fnOf name qual params body scope dV kV doc pm an cdv ct), osl⟩) (hcd : codeIn (lawTop.heap_39 w.params) cdv qual = true)
    (hbind : BindsTo s (fnOf name qual params body scope dV kV doc pm an cdv ct) vals binds) (hkind : (binds.all fun y => scope.names.lookup y.1 == some .local || scope.names.lookup y.1 == some .cell) = true)
    (hnd : ((cellsFrom 0 scope.names []).map (·.1)).Nodup)
    (h : ∀ g L' h₁ tk cells, Fr g L' h₁ (bindL (envOfC qual scope L' f cdv).kindOf binds fun _ => none) → News g L' h₁ (cells ++ [(86, tabO #[])]) →
      CellsAre (bindC (envOfC qual scope L' f cdv).kindOf binds fun _ => none) (cellsFrom (L' + 1) scope.names []) cells → @LT.lt Nat _ 86 L' → @LT.lt Nat _ la L' → Ground3 w callerA g [] loose mean mg mb g → g.get? 4 = some modB → g.get? la = some lo →
      wpC (model pg w) (callerA.deeper (envOfC qual scope L' f cdv)) (execs body (envOfC qual scope L' f cdv))
        (fun fl s' => DoneP [] [] (fun v => v = .bool true) g s (match fl with | .ret v => v | _ => .none) s') (fun _ _ => False)
        { s with heap := h₁, toks := tk })
    (hco : scope.isCoroutine = false) (hgen : scope.isGenerator = false) (hk : scope.kind = .function) :
    codeC (model pg w) callerA (.call (.ref f) vals) (fun r s' => match r with | .ok (.ret v) => v = .bool true ∧ OldK s.heap s'.heap ∧ s'.os = s.os ∧ (AllBare s.gens → AllBare s'.gens) | _ => False) s := by
  have X39 : (lawTop.heap_39 w.params).In s.heap := fun a o e => by
    by_cases h86 : a = 86
    · subst h86
      exact absurd e (by rw [show List.lookup 86 (lawTop.heap_39 w.params) = none from rfl]; exact nofun)
    · by_cases h4 : a = 4
      · subst h4
        exact absurd e (by rw [show List.lookup 4 (lawTop.heap_39 w.params) = none from rfl]; exact nofun)
      · refine X a o ?_
        unfold heapX
        rw [List.lookup_cons, beq_false_of_ne h86, List.lookup_cons, beq_false_of_ne h4]
        exact e
  have M86 : s.heap.get? 86 = some (tabO #[]) := X 86 _ rfl
  have M4 : s.heap.get? 4 = some modB := X 4 _ rfl
  have k : ∀ b o, s.heap.get? b = some o → b ≠ 86 → (hideAll s.heap [86]).get? b = some o := fun b o e n => hideAll_get _ e (by simpa using n)
  have Xg : (lawTop.heap_39 w.params).In (hideAll s.heap [86]) := fun a o e => k a o (X39 a o e) fun z => by
    subst z
    exact absurd e (by rw [show List.lookup 86 (lawTop.heap_39 w.params) = none from rfl]; exact nofun)
  have Tg := top_hide T X39 M86
  refine codeC.call_function (by decide) (X39 _ _ ho) rfl hco hgen rfl (codeRec_of X39 hcd) (hbind _ _ _ _ ?_)
  refine wpAny_newFunctionEnv_cells hk (kindsX hkind _) fun env' he s' x => ?_
  subst he
  refine ⟨T.nolimit.keeps x.toInCall.keep, codeC.func ?_⟩
  obtain ⟨h₁, tk, rfl, _⟩ := x.done
  have hk₁ := x.toInCall.keep
  obtain ⟨cells, NC, Y⟩ := Cl.news (h₀ := s.heap) (Nat.le_refl _) fun n c hm => ⟨x.cell n c (lookup_of_mem_nodup (cellsFrom_names scope.names 0 (s.heap.objs.size + 1) [] [] rfl ▸ hnd) hm), x.above n c hm⟩
  refine wpC.mono (h (hideAll s.heap [86]) s.heap.objs.size h₁ tk cells ⟨x.toInCall.ns, fun b o e => hk₁ b o (of_hideAll _ e), Nat.le_of_eq (hideAll_size _ _)⟩ (fun p hp => ?_) Y (Heap.lt_size M86) (Heap.lt_size hla)
    ⟨below_caller _, Xg, Tg, Xg, Tg, fun b hb => nomatch hb⟩ (k _ _ M4 (by decide)) (k _ _ hla hl6)) (fun fl s' D => ?_) fun _ _ y => y.elim
  · rcases List.mem_append.mp hp with hp | hp
    · refine ⟨(NC p hp).1, (NC p hp).2.1, ?_⟩
      cases q : (hideAll s.heap [86]).get? p.1 with
      | none => rfl
      | some o => have := of_hideAll _ q; rw [(NC p hp).2.2] at this; cases this
    · rw [List.mem_singleton.mp hp]
      exact ⟨hk₁ _ _ M86, Nat.ne_of_lt (Heap.lt_size M86), hideAll_none _ (.head _)⟩
  · obtain ⟨g', TT, L', m', all, h', tk', gs, ps', rfl, F', N', hp, _, hb, h86, _⟩ := D
    have kept : ∀ b o, s.heap.get? b = some o → b ≠ 86 → h'.get? b = some o := fun b o e n => F'.keep b o (TT.other b o (k b o e n) (fun q => nomatch q))
    refine ⟨hp, ⟨fun b o e => ?_, fun b o e => ?_⟩, rfl, hb⟩
    · by_cases n : b = 86
      · subst n
        rw [M86] at e
        cases e
        obtain ⟨o, vs, e1, e2, e3, e4⟩ := code90 w.params
        have TA : s.heap.TableAt 90 86 #[] := ⟨⟨o, vs, X39 _ _ e1, e2, e3, e4⟩, M86⟩
        exact .inr (.inl ⟨TA.isCodeTable, rfl, #[], ps', rfl, by rw [(N' _ h86).1]; simp⟩)
      · exact .inl (kept b o e n)
    · by_cases n : b = 86
      · subst n
        exact ⟨_, (N' _ h86).1⟩
      · exact ⟨o, kept b o e n⟩
end
end Mine
end
section
example : True := by (w_top off); trivial
open PySem PySem.W PyProof.Rows
set_option Elab.async false
namespace Mine
local macro_rules | `(tactic| walk_at "mine pad0") => `(tactic| skip)
local macro_rules | `(tactic| walk_at "mine pad1") => `(tactic| skip)
local macro_rules | `(tactic| walk_at "mine pad2") => `(tactic| skip)
example (w : World) : (∀ h, (lawTop.heap_39 w.params).In h → PySem.Challenge.rw_ew0023_01 = PySem.Challenge.rw_ew0023_01) := by k_fill; intros; rfl
local macro_rules | `(tactic| k_room) => `(tactic| ktr_room)
local macro_rules | `(tactic| walk_at "mine enter") => `(tactic| (rename BindHint _ => bh; unfold Meets; intro loose mean mg mb dp un gd cn sn sg sc sm a ccd cl outer A₀ base h₀ L m s Q E news B F X N ha T hd hu ret; refine wpAny_call ?_; k_dflt (first
  | (refine' enterM (by assumption) B F X N ha T ?kA ?kF ?kK ?k6 ?k7 ?k8 ?k9 ?kB ret ?_ ?c2 ?c3 ?c4 ?c5; (case kA => exact rfl); (case kF => exact rfl); (case kK => exact rfl); (case k6 => k_is); (case k7 => k_is); (case k8 => k_room); (case k9 => first | exact BindsTo.of_eq rfl | exact binds_K (Frag.In.keeps X (Fr.keep F)) rfl (by k_is) rfl rfl rfl); (case c5 => decide); (case kB => exact locs rfl); (case c2 => exact rfl); (case c3 => exact rfl); (case c4 => exact rfl); k_whole; clear B F X N ha T ret bh; intro g' L' h' F' N' l1 B' X' T'; (try k_lt l1); (try dsimp only); (try k_fold))
  | (refine' enterC (by assumption) B F X N ha T ?kA ?kF ?kK ?k6 ?k7 ?k8 ?k9 ?kB ?kD ret ?_ ?c2 ?c3 ?c4; (case kA => exact rfl); (case kF => exact rfl); (case kK => exact rfl); (case k6 => k_is); (case k7 => k_is); (case k8 => k_room); (case k9 => first | exact BindsTo.of_eq rfl | exact binds_K (Frag.In.keeps X (Fr.keep F)) rfl (by k_is) rfl rfl rfl); (case kB => exact rfl); (case kD => decide +kernel); (case c2 => exact rfl); (case c3 => exact rfl); (case c4 => exact rfl); k_whole; clear B F X N ha T ret bh; intro g' L' h' tk' cells' F' N' Y' l1 B' X' T'; (try k_lt l1); k_cells Y'; (try simp only [List.cons_append, List.nil_append] at N'); (try dsimp only); (try k_fold)))))
local macro_rules | `(tactic| walk_at "exec Assign cons ListComp") => `(tactic| (k_here; (with_reducible show wpAny _ _ (exec (Stmt.Assign _ (Expr.ListComp _ [⟨_, Expr.Tuple _ _ _, _, _⟩] _ _) _) _) _ _ _); k_dflt (refine assign_compTup (F₀ := by k_asm) (by rfl) (by with_unfolding_all rfl) (by with_unfolding_all rfl) (by decide) (by rfl) (by decide) (by rfl) (by rfl) (by rfl) ?_)))
local macro_rules | `(tactic| walk_at "TupSrc") => `(tactic| (k_here; k_dflt (refine TupSrc.of (by rfl) (by k_asm) (by k_asm) (by k_mem) (by first | size_fits | exact Nat.le_of_ble_eq_true rfl) ?_); intro g'; lcg_lit))
local macro_rules | `(tactic| lcg_src) => `(tactic| exact ⟨_, by k_mem, rfl, _, rfl⟩)
local macro_rules | `(tactic| walk_at "CompEnd") => `(tactic| (k_here; k_dflt (refine compEnd_same (by assumption) (by assumption) (by (simp only [LCg.Off3, and_true]; assumption)) (by lcg_src) ?_)))
local macro_rules | `(tactic| k_handed) => `(tactic| exact handed_optV _ _)
local macro_rules | `(tactic| walk_at "mine sub") => `(tactic| first | exact List.forall_mem_nil _ | (refine List.forall_mem_cons.mpr ⟨by k_mem, ?_⟩; walk_at "mine sub"))
local macro_rules | `(tactic| walk_at "mine off1") => `(tactic| first | exact List.forall_mem_nil _ | (refine List.forall_mem_cons.mpr ⟨by k_ne, ?_⟩; walk_at "mine off1"))
local macro_rules | `(tactic| walk_at "mine off") => `(tactic| first | exact List.forall_mem_nil _ | (refine List.forall_mem_cons.mpr ⟨?a, ?b⟩; (case a => walk_at "mine off1"); (case b => walk_at "mine off")))

local macro_rules | `(tactic| walk_at "mine done") => `(tactic| first | exact Done.intro (by assumption) (by assumption) ⟨_, rfl, rfl⟩ (by walk_at "mine sub") (by walk_at "mine sub") (by walk_at "mine off") | exact Done.intro (by assumption) (by assumption) ⟨_, _, rfl, rfl⟩ (by walk_at "mine sub") (by walk_at "mine sub") (by walk_at "mine off") | exact Done.intro (by assumption) (by assumption) ⟨_, _, _, rfl, rfl⟩ (by walk_at "mine sub") (by walk_at "mine sub") (by walk_at "mine off") | exact Done.intro (by assumption) (by assumption) ⟨_, _, _, _, rfl, rfl⟩ (by walk_at "mine sub") (by walk_at "mine sub") (by walk_at "mine off") | exact Done.intro (by assumption) (by assumption) ⟨_, _, _, _, _, rfl, rfl⟩ (by walk_at "mine sub") (by walk_at "mine sub") (by walk_at "mine off") | exact Done.intro (by assumption) (by assumption) ⟨_, _, _, _, _, _, rfl, rfl⟩ (by walk_at "mine sub") (by walk_at "mine sub") (by walk_at "mine off") | exact Done.intro (by assumption) (by assumption) ⟨_, _, _, _, _, _, _, rfl, rfl⟩ (by walk_at "mine sub") (by walk_at "mine sub") (by walk_at "mine off") | exact Done.intro (by assumption) (by assumption) ⟨_, _, _, _, _, _, _, _, rfl, rfl⟩ (by walk_at "mine sub") (by walk_at "mine sub") (by walk_at "mine off") | exact Done.intro (by assumption) (by assumption) ⟨_, _, _, _, _, _, _, _, _, rfl, rfl⟩ (by walk_at "mine sub") (by walk_at "mine sub") (by walk_at "mine off") | exact Done.intro (by assumption) (by assumption) ⟨_, _, _, _, _, _, _, _, _, _, rfl, rfl⟩ (by walk_at "mine sub") (by walk_at "mine sub") (by walk_at "mine off") | exact Done.intro (by assumption) (by assumption) ⟨_, _, _, _, _, _, _, _, _, _, _, rfl, rfl⟩ (by walk_at "mine sub") (by walk_at "mine sub") (by walk_at "mine off") | exact Done.intro (by assumption) (by assumption) ⟨_, _, _, _, _, _, _, _, _, _, _, _, rfl, rfl⟩ (by walk_at "mine sub") (by walk_at "mine sub") (by walk_at "mine off") | exact Done.intro (by assumption) (by assumption) ⟨_, _, _, _, _, _, _, _, _, _, _, _, _, rfl, rfl⟩ (by walk_at "mine sub") (by walk_at "mine sub") (by walk_at "mine off"))
local macro_rules | `(tactic| walk_at "mine steps") => `(tactic| repeat' (first | (k_unfold; (try dsimp only)) | walk1 | (dsimp only; walk1) | fail "no step"))
local macro_rules | `(tactic| walk_at "subscriptTail Name Constant ref int") => `(tactic| (k_here; k_dflt (refine' item_led ?k0 ?km ?k2 ?k3 ?k4 ?_ ?k6; (case k0 => k_asm); (case km => k_mem); (case k2 => decide); (case k3 => decide); (case k4 => exact rfl); (case k6 => with_unfolding_all rfl); k_whole)))
local macro_rules | `(tactic| walk_at "subscriptTail Name Name ref int") => `(tactic| (k_here; k_dflt (refine' item_led ?k0 ?km ?k2 ?k3 ?k4 ?_ ?k6; (case k0 => k_asm); (case km => k_mem); (case k2 => decide); (case k3 => decide); (case k4 => exact rfl); (case k6 => with_unfolding_all rfl); k_whole)))
local macro_rules | `(tactic| walk_at "mine to if") => `(tactic| repeat ((fail_if_success (with_reducible show wpAny _ _ (exec (Stmt.If _ _ _ _) _) _ _ _)); (first | walk1 | (k_unfold; (try dsimp only)) | (dsimp only; walk1))))
local macro_rules | `(tactic| walk_at "mine to cmp") => `(tactic| repeat ((fail_if_success (with_reducible show wpAny _ _ (exec (Stmt.If (Expr.Compare _ _ _ _) _ _ _) _) _ _ _)); (first | walk1 | (k_unfold; (try dsimp only)) | (dsimp only; walk1))))
local macro_rules | `(tactic| walk_at "mine cutS end") => `(tactic| exact ⟨rfl, _, _, _, rfl, (by first | assumption | exact Fr.same (by assumption) (by rfl)), (by first | assumption | exact News.sub (by assumption) (by walk_at "mine sub"))⟩)
local macro_rules | `(tactic| walk_at "mine len") => `(tactic| first | with_reducible assumption | (with_reducible refine' len_int ?a; (case a => omega)) | (with_reducible refine' len_add ?a ?b; (case a => walk_at "mine len"); (case b => walk_at "mine len")) | with_reducible exact Nat.le_refl _)
local macro_rules | `(tactic| walk_at "binaryOp Add str str") => `(tactic| (k_here; (with_reducible show wpAny _ _ (binaryOp Operator.Add (Value.str _ _) (Value.str _ _)) _ _ _); (refine' add_short ?a ?b ?c ?_; (case a => walk_at "mine len"); (case b => walk_at "mine len"); (case c => k_dflt exact rfl)); intro _ _))
local macro_rules | `(tactic| walk_at "eval Name") => `(tactic| ((with_reducible refine' ld ?F ?hv ?_ ?hk ?hl ?hd); (case F => first | with_reducible assumption | k_dflt assumption); (case hv => k_dflt exact rfl); (case hk => k_dflt exact rfl); (case hl => k_dflt exact rfl); (case hd => decide)))
local macro_rules | `(tactic| walk_at "mine to iter") => `(tactic| repeat ((fail_if_success (with_reducible show wpAny _ _ (pyIter _) _ _ _)); (first | walk1 | (k_unfold; (try dsimp only)) | (dsimp only; walk1))))
local macro_rules | `(tactic| size_fits) => `(tactic| exact strV_fits (by omega))
local macro_rules | `(tactic| walk_at "mine cutV end") => `(tactic| exact ⟨⟨_, rfl⟩, _, _, rfl, by assumption, by first | assumption | exact News.sub (by assumption) (by walk_at "mine sub")⟩)
local macro_rules | `(tactic| walk_at "mine to ifexp") => `(tactic| repeat ((fail_if_success (with_reducible show wpAny _ _ (eval (Expr.IfExp _ _ _ _) _) _ _ _)); (first | walk1 | (k_unfold; (try dsimp only)) | (dsimp only; walk1))))
local macro_rules | `(tactic| walk_at "mine tidy") => `(tactic| repeat (first | (with_reducible rename LCg.NsObj _ _ => q; clear q) | (with_reducible rename (_ ≠ _ ∧ _ ≠ _ ∧ _ ≠ _) => q; clear q) | (with_reducible rename ((_ ≠ _ ∧ _ ≠ _ ∧ _ ≠ _) ∧ _) => q; clear q) | (with_reducible rename (_[_]? = some _) => q; clear q) | (with_reducible rename (_ ≠ _ ∧ _) => q; clear q)))
local macro_rules | `(tactic| walk_at "mine lt") => `(tactic| first | exact List.forall_mem_nil _ | (refine List.forall_mem_cons.mpr ⟨by (show @LT.lt Nat _ _ _; omega), ?_⟩; walk_at "mine lt"))
local macro_rules | `(tactic| walk_at "mine cutB end") => `(tactic| refine ⟨?_, _, _, rfl, (by assumption), (by first | assumption | exact News.sub (by assumption) (by walk_at "mine sub"))⟩)
local macro_rules | `(tactic| walk_at "mine to make") => `(tactic| repeat ((fail_if_success (with_reducible show wpAny _ _ (callWith _ (Value.ref _) [] _ _) _ _ _)); (first | walk1 | (k_unfold; (try dsimp only)) | (dsimp only; walk1))))
local macro_rules | `(tactic| walk_at "mine KI") => `(tactic| first | assumption | exact All2.nil | exact KI.put All2.nil | exact KI.put (KI.put All2.nil) | exact KI.put (KI.put (KI.put All2.nil)) | exact KI.put (KI.put (KI.put (KI.put All2.nil))) | exact KI.put (KI.put (KI.put (KI.put (KI.put All2.nil)))) | exact KI.put (KI.put (KI.put (KI.put (KI.put (KI.put All2.nil))))) | exact KI.put (KI.put (KI.put (KI.put (KI.put (KI.put (KI.put All2.nil)))))) | exact KI.put (KI.put (KI.put (KI.put (KI.put (KI.put (KI.put (KI.put All2.nil))))))))
local macro_rules | `(tactic| walk_at "mine kw") => `(tactic| first | assumption | exact (List.forall_mem_nil _) | exact (putI_mem (List.forall_mem_nil _) (by decide)) | exact (putI_mem (putI_mem (List.forall_mem_nil _) (by decide)) (by decide)) | exact (putI_mem (putI_mem (putI_mem (List.forall_mem_nil _) (by decide)) (by decide)) (by decide)) | exact (putI_mem (putI_mem (putI_mem (putI_mem (List.forall_mem_nil _) (by decide)) (by decide)) (by decide)) (by decide)) | exact (putI_mem (putI_mem (putI_mem (putI_mem (putI_mem (List.forall_mem_nil _) (by decide)) (by decide)) (by decide)) (by decide)) (by decide)) | exact (putI_mem (putI_mem (putI_mem (putI_mem (putI_mem (putI_mem (List.forall_mem_nil _) (by decide)) (by decide)) (by decide)) (by decide)) (by decide)) (by decide)) | exact (putI_mem (putI_mem (putI_mem (putI_mem (putI_mem (putI_mem (putI_mem (List.forall_mem_nil _) (by decide)) (by decide)) (by decide)) (by decide)) (by decide)) (by decide)) (by decide)) | exact (putI_mem (putI_mem (putI_mem (putI_mem (putI_mem (putI_mem (putI_mem (putI_mem (List.forall_mem_nil _) (by decide)) (by decide)) (by decide)) (by decide)) (by decide)) (by decide)) (by decide)) (by decide)))
local macro_rules | `(tactic| walk_at "mine kz") => `(tactic| first | (refine Nat.le_trans (putI_len _ _ _) ?_; refine Nat.succ_le_succ ?_; walk_at "mine kz") | exact Nat.zero_le _ | (simp only [List.length_nil]; omega) | omega)
local macro_rules | `(tactic| walk_at "mine spread") => `(tactic| (k_here; k_dflt (refine' spread_iv ?zhL ?zhI ?zhk ?zhz ?zB ?zF ?zX ?zN ?zT ?zhd ?zhu ?zhkw ?zhm ?zhy ?zhky ?zhdb ?zhf ?zlo ?zD ?_; (case zhL => exact rfl); (case zF => k_asm); (case zhkw => exact rfl); (case zhy => exact rfl); (case zN => k_asm); (case zhm => k_mem); (case zD => assumption); (case zlo => assumption); (case zhI => walk_at "mine KI"); (case zhk => walk_at "mine kw"); (case zhz => walk_at "mine kz"); (case zB => k_asm); (case zX => k_asm); (case zT => k_asm); (case zhd => ktr_room); (case zhu => ktr_units); (case zhky => exact rfl); (case zhdb => decide); (case zhf => exact rfl)); intro x' dx' kk' tt' h' tk' F' N' hne'; (try simp only [List.cons_append, List.nil_append] at N'); replace hne' := offA_of hne'; simp only [OffA, OffL, and_true, true_and] at hne'; k_sweep))
local macro_rules | `(tactic| walk_at "mine enterK") => `(tactic| (rename BindHint _ => bh; refine MeetsT.of ?_; intro loose mean mg mb dp un gd cn sn sg sc sm a ccd cl outer A₀ base h₀ L m s Q E news B F X N ha T hd hu ret; k_dflt (first
  | (refine' enterM (by assumption) B F X N ha T ?kA ?kF ?kK ?k6 ?k7 ?k8 ?k9 ?kB ret ?_ ?c2 ?c3 ?c4 ?c5; (case kA => exact rfl); (case kF => exact rfl); (case kK => exact rfl); (case k6 => k_is); (case k7 => k_is); (case k8 => k_room); (case k9 => first | exact BindsTo.of_eq rfl | exact binds_K (Frag.In.keeps X (Fr.keep F)) rfl (by k_is) rfl rfl rfl); (case c5 => decide); (case kB => exact locs rfl); (case c2 => exact rfl); (case c3 => exact rfl); (case c4 => exact rfl); k_whole; clear B F X N ha T ret bh; intro g' L' h' F' N' l1 B' X' T'; (try k_lt l1); (try dsimp only); (try k_fold))
  | (refine' enterC (by assumption) B F X N ha T ?kA ?kF ?kK ?k6 ?k7 ?k8 ?k9 ?kB ?kD ret ?_ ?c2 ?c3 ?c4; (case kA => exact rfl); (case kF => exact rfl); (case kK => exact rfl); (case k6 => k_is); (case k7 => k_is); (case k8 => k_room); (case k9 => first | exact BindsTo.of_eq rfl | exact binds_K (Frag.In.keeps X (Fr.keep F)) rfl (by k_is) rfl rfl rfl); (case kB => exact rfl); (case kD => decide +kernel); (case c2 => exact rfl); (case c3 => exact rfl); (case c4 => exact rfl); k_whole; clear B F X N ha T ret bh; intro g' L' h' tk' cells' F' N' Y' l1 B' X' T'; (try k_lt l1); k_cells Y'; (try simp only [List.cons_append, List.nil_append] at N'); (try dsimp only); (try k_fold)))))
local macro_rules | `(tactic| walk_at "call ref") => `(tactic| (k_here; k_dflt (refine' Meets.use (make_spec _ _ _ _ _ _ _ _ _ _ _ _ _ _ ?hb) ?k1 ?k2 ?k3 ?k4 ?ka ?k5 ?kd ?ku ?_; (case k1 => k_asm); (case k2 => k_asm); (case k3 => k_asm); (case k4 => k_asm); (case ka => walk_at "mine sub"); (case hb => first | exact ib_mds _ _ _ _ | exact ib_wd _ _ _ | exact ib_d _ _ | exact ib_pos _ _ _ _ _ _ _ _ _ _ _ _); (case k5 => k_asm); (case kd => ktr_room); (case ku => ktr_units)); intro v' new' h' tk' hP F' N' hne'; obtain ⟨x', dx', k', e1', e2'⟩ := hP; subst e1' e2'; (try simp only [List.cons_append, List.nil_append] at N'); replace hne' := offA_of hne'; simp only [OffA, OffL, and_true, true_and] at hne'; skip; k_sweep))
local macro_rules | `(tactic| walk_at "call builtin:str.split") => `(tactic| (k_here; (with_reducible show wpAny _ _ (call (Value.builtin "str.split") _) _ _ _); k_dflt (first
  | (refine' split_w1 ?F ?N ?w ?z ?_; (case w => assumption); (case F => k_asm); (case N => k_asm); (case z => omega); intro D' t1' h' k' F' N' l1; (try k_lt l1); (try k_sweep))
  | (refine' split_w2 ?F ?N ?w ?z ?_; (case w => assumption); (case F => k_asm); (case N => k_asm); (case z => omega); intro D' t1' t2' h' k' F' N' l1; (try k_lt l1); (try k_sweep))
  | (refine' split_w3 ?F ?N ?w ?z ?_; (case w => assumption); (case F => k_asm); (case N => k_asm); (case z => omega); intro D' t1' t2' t3' h' k' F' N' l1; (try k_lt l1); (try k_sweep))
  | (refine' split_p2 ?F ?N ?w ?y ?z ?_; (case w => assumption); (case F => k_asm); (case N => k_asm); (case y => decide); (case z => omega); intro D' t1' t2' h' k' F' N' l1; (try k_lt l1); (try k_sweep))
  | (refine' split_p3 ?F ?N ?w ?y ?z ?_; (case w => assumption); (case F => k_asm); (case N => k_asm); (case y => decide); (case z => omega); intro D' t1' t2' t3' h' k' F' N' l1; (try k_lt l1); (try k_sweep)))))
/-- what the sql reader takes of a part: its sign, the rest -/
def sgP (x : Str) : Int × Str := if Txt.startswith x (Str.ofString "-") = true then (-1, Txt.slice x (some 1) none) else (1, x)
/-- the state behind the sign's test (the cell stands last but for nothing) -/
def CutG (g : Heap) (L : Addr) (x : Str) (m : Str → Option Value) (news : List (Addr × Obj)) (s : Shared) (f : Flow) (s' : Shared) : Prop :=
  f = .next ∧ ∃ h' tk u t o, s' = { s with heap := h', toks := tk } ∧ o.data = .cell (some (.int (sgP x).1 t)) ∧ Fr g L h' (fun y => if y = Str.ofString "p" then some (.str (sgP x).2 u) else m y) ∧ News g L h' ((L + 1, o) :: news)
theorem cutSign {M : Model} {A : Around} {E : Value → Shared → Prop} {s : Shared} {t : Sem Flow} {Q : Flow → Shared → Prop} {g : Heap} {L : Addr} {m : Str → Option Value} {p1 p2 : Addr × Obj} {o0 : Obj} (x : Str)
    (_F : Fr g L s.heap m) (_N : News g L s.heap [p1, p2, (L + 1, o0)])
    (h : wpAny M A t (CutG g L x m [p1, p2] s) E s)
    (k : ∀ h' tk u t o, o.data = .cell (some (.int (sgP x).1 t)) → Fr g L h' (fun y => if y = Str.ofString "p" then some (.str (sgP x).2 u) else m y) → News g L h' [(L + 1, o), p1, p2] → Q .next { s with heap := h', toks := tk }) : wpAny M A t Q E s :=
  wpAny_mono h (fun f s' ⟨e, h', tk, u, t, o, e', d, F', N'⟩ => by subst e e'; exact k h' tk u t o d F' N') fun _ _ x => x
theorem cutSign3 {M : Model} {A : Around} {E : Value → Shared → Prop} {s : Shared} {t : Sem Flow} {Q : Flow → Shared → Prop} {g : Heap} {L : Addr} {m : Str → Option Value} {p1 p2 p3 : Addr × Obj} {o0 : Obj} (x : Str)
    (_F : Fr g L s.heap m) (_N : News g L s.heap [p1, p2, p3, (L + 1, o0)])
    (h : wpAny M A t (CutG g L x m [p1, p2, p3] s) E s)
    (k : ∀ h' tk u t o, o.data = .cell (some (.int (sgP x).1 t)) → Fr g L h' (fun y => if y = Str.ofString "p" then some (.str (sgP x).2 u) else m y) → News g L h' [(L + 1, o), p1, p2, p3] → Q .next { s with heap := h', toks := tk }) : wpAny M A t Q E s :=
  wpAny_mono h (fun f s' ⟨e, h', tk, u, t, o, e', d, F', N'⟩ => by subst e e'; exact k h' tk u t o d F' N') fun _ _ x => x
theorem sgP_or (x : Str) : (sgP x).1 = 1 ∨ (sgP x).1 = -1 := by
  unfold sgP
  split
  · exact Or.inr rfl
  · exact Or.inl rfl
theorem sgP_mul (x : Str) {n : Int} (h : -1000 < n ∧ n < 1000) : -1000 < n * (sgP x).1 ∧ n * (sgP x).1 < 1000 := by
  rcases sgP_or x with e | e <;> rw [e] <;> omega
theorem sgP_len (x : Str) {n : Nat} (h : x.length ≤ n) : (sgP x).2.length ≤ n := by
  unfold sgP
  split
  · exact Nat.le_trans (PySem.Txt.slice_le x _ _) h
  · exact h
set_option maxRecDepth 100000 in
set_option maxHeartbeats 8000000 in
theorem sql1_spec (w : World) (x w1 a b : Str) (t : Tok) (y mo : Int) (hx : x.length ≤ 300) (hw : Txt.words x = [w1]) (hx1 : w1.length ≤ 300)
    (hs : Txt.split (sgP w1).2 (Str.ofString "-") = [a, b]) (ha : PySem.intText? a = some y) (hb : PySem.intText? b = some mo) (la : a.length ≤ 300) (lb : b.length ≤ 300) (by' : -1000 < y ∧ y < 1000) (bm' : -1000 < mo ∧ mo < 1000) :
  MeetsT w 9 (.ref 51) [.ref 108, .str x t] [] [] fun v new => ReadsTo w (ivOf (putI (putI [] (Str.ofString "years") (y * (sgP w1).1)) (Str.ofString "months") (mo * (sgP w1).1))) v new := by
  have bh : BindHint [(Str.ofString "cls", .ref 108), (Str.ofString "interval_str", .str x t)] := ⟨trivial⟩
  walk_at "mine enterK"
  repeat ((fail_if_success (with_reducible show wpAny _ _ (exec (Stmt.If (Expr.Call _ _ _ _) _ _ _) _) _ _ _)); (first | walk1 | (k_unfold; (try dsimp only)) | (dsimp only; walk1)))
  refine cutSign w1 (by assumption) (by assumption) ?_ ?_
  · walk_at "mine steps"
    · have e1 : (sgP w1).1 = -1 := by rw [sgP, if_pos (by assumption)]
      have e2 : (sgP w1).2 = Txt.slice w1 (some 1) none := by rw [sgP, if_pos (by assumption)]
      rw [CutG, e1, e2]
      exact ⟨rfl, _, _, _, _, _, rfl, by assumption, by assumption, News.sub (by assumption) (by walk_at "mine sub")⟩
    · have e1 : (sgP w1).1 = 1 := by rw [sgP, if_neg (by (simp only [Bool.not_eq_true]; assumption))]
      have e2 : (sgP w1).2 = w1 := by rw [sgP, if_neg (by (simp only [Bool.not_eq_true]; assumption))]
      rw [CutG, e1, e2]
      exact ⟨rfl, _, _, _, _, _, rfl, by assumption, by assumption, News.sub (by assumption) (by walk_at "mine sub")⟩
  intro h' tk' u' ts' os' hos F' N'
  k_sweep
  have hp1 := sgP_len w1 hx1
  have hso := sgP_or w1
  have hm1 := sgP_mul w1 by'
  have hm2 := sgP_mul w1 bm'
  iterate 60 (try ((fail_if_success (with_reducible show wpAny _ _ (exec (Stmt.If _ _ _ _) _) _ _ _)); (first | walk1 | (k_unfold; (try dsimp only)) | (dsimp only; walk1))))
  walk_at "mine tidy"
  walk_at "mine to make"
  walk_at "mine spread"
  walk_at "mine steps"
  dsimp only
  walk_at "mine done"

end Mine
end
section
example : True := by (w_top off); trivial
open PySem PySem.W PyProof.Rows
set_option Elab.async false
namespace Mine
example (w : World) : (∀ h, (lawTop.heap_39 w.params).In h → PySem.Challenge.rw_ew0023_01 = PySem.Challenge.rw_ew0023_01) := by k_fill; intros; rfl
local macro_rules | `(tactic| k_room) => `(tactic| ktr_room)
local macro_rules | `(tactic| walk_at "mine enter") => `(tactic| (rename BindHint _ => bh; unfold Meets; intro loose mean mg mb dp un gd cn sn sg sc sm a ccd cl outer A₀ base h₀ L m s Q E news B F X N ha T hd hu ret; refine wpAny_call ?_; k_dflt (first
  | (refine' enterM (by assumption) B F X N ha T ?kA ?kF ?kK ?k6 ?k7 ?k8 ?k9 ?kB ret ?_ ?c2 ?c3 ?c4 ?c5; (case kA => exact rfl); (case kF => exact rfl); (case kK => exact rfl); (case k6 => k_is); (case k7 => k_is); (case k8 => k_room); (case k9 => first | exact BindsTo.of_eq rfl | exact binds_K (Frag.In.keeps X (Fr.keep F)) rfl (by k_is) rfl rfl rfl); (case c5 => decide); (case kB => exact locs rfl); (case c2 => exact rfl); (case c3 => exact rfl); (case c4 => exact rfl); k_whole; clear B F X N ha T ret bh; intro g' L' h' F' N' l1 B' X' T'; (try k_lt l1); (try dsimp only); (try k_fold))
  | (refine' enterC (by assumption) B F X N ha T ?kA ?kF ?kK ?k6 ?k7 ?k8 ?k9 ?kB ?kD ret ?_ ?c2 ?c3 ?c4; (case kA => exact rfl); (case kF => exact rfl); (case kK => exact rfl); (case k6 => k_is); (case k7 => k_is); (case k8 => k_room); (case k9 => first | exact BindsTo.of_eq rfl | exact binds_K (Frag.In.keeps X (Fr.keep F)) rfl (by k_is) rfl rfl rfl); (case kB => exact rfl); (case kD => decide +kernel); (case c2 => exact rfl); (case c3 => exact rfl); (case c4 => exact rfl); k_whole; clear B F X N ha T ret bh; intro g' L' h' tk' cells' F' N' Y' l1 B' X' T'; (try k_lt l1); k_cells Y'; (try simp only [List.cons_append, List.nil_append] at N'); (try dsimp only); (try k_fold)))))
local macro_rules | `(tactic| walk_at "exec Assign cons ListComp") => `(tactic| (k_here; (with_reducible show wpAny _ _ (exec (Stmt.Assign _ (Expr.ListComp _ [⟨_, Expr.Tuple _ _ _, _, _⟩] _ _) _) _) _ _ _); k_dflt (refine assign_compTup (F₀ := by k_asm) (by rfl) (by with_unfolding_all rfl) (by with_unfolding_all rfl) (by decide) (by rfl) (by decide) (by rfl) (by rfl) (by rfl) ?_)))
local macro_rules | `(tactic| walk_at "TupSrc") => `(tactic| (k_here; k_dflt (refine TupSrc.of (by rfl) (by k_asm) (by k_asm) (by k_mem) (by first | size_fits | exact Nat.le_of_ble_eq_true rfl) ?_); intro g'; lcg_lit))
local macro_rules | `(tactic| lcg_src) => `(tactic| exact ⟨_, by k_mem, rfl, _, rfl⟩)
local macro_rules | `(tactic| walk_at "CompEnd") => `(tactic| (k_here; k_dflt (refine compEnd_same (by assumption) (by assumption) (by (simp only [LCg.Off3, and_true]; assumption)) (by lcg_src) ?_)))
local macro_rules | `(tactic| k_handed) => `(tactic| exact handed_optV _ _)
local macro_rules | `(tactic| walk_at "mine sub") => `(tactic| first | exact List.forall_mem_nil _ | (refine List.forall_mem_cons.mpr ⟨by k_mem, ?_⟩; walk_at "mine sub"))
local macro_rules | `(tactic| walk_at "mine off1") => `(tactic| first | exact List.forall_mem_nil _ | (refine List.forall_mem_cons.mpr ⟨by k_ne, ?_⟩; walk_at "mine off1"))
local macro_rules | `(tactic| walk_at "mine off") => `(tactic| first | exact List.forall_mem_nil _ | (refine List.forall_mem_cons.mpr ⟨?a, ?b⟩; (case a => walk_at "mine off1"); (case b => walk_at "mine off")))

local macro_rules | `(tactic| walk_at "mine done") => `(tactic| first | exact Done.intro (by assumption) (by assumption) ⟨_, rfl, rfl⟩ (by walk_at "mine sub") (by walk_at "mine sub") (by walk_at "mine off") | exact Done.intro (by assumption) (by assumption) ⟨_, _, rfl, rfl⟩ (by walk_at "mine sub") (by walk_at "mine sub") (by walk_at "mine off") | exact Done.intro (by assumption) (by assumption) ⟨_, _, _, rfl, rfl⟩ (by walk_at "mine sub") (by walk_at "mine sub") (by walk_at "mine off") | exact Done.intro (by assumption) (by assumption) ⟨_, _, _, _, rfl, rfl⟩ (by walk_at "mine sub") (by walk_at "mine sub") (by walk_at "mine off") | exact Done.intro (by assumption) (by assumption) ⟨_, _, _, _, _, rfl, rfl⟩ (by walk_at "mine sub") (by walk_at "mine sub") (by walk_at "mine off") | exact Done.intro (by assumption) (by assumption) ⟨_, _, _, _, _, _, rfl, rfl⟩ (by walk_at "mine sub") (by walk_at "mine sub") (by walk_at "mine off") | exact Done.intro (by assumption) (by assumption) ⟨_, _, _, _, _, _, _, rfl, rfl⟩ (by walk_at "mine sub") (by walk_at "mine sub") (by walk_at "mine off") | exact Done.intro (by assumption) (by assumption) ⟨_, _, _, _, _, _, _, _, rfl, rfl⟩ (by walk_at "mine sub") (by walk_at "mine sub") (by walk_at "mine off") | exact Done.intro (by assumption) (by assumption) ⟨_, _, _, _, _, _, _, _, _, rfl, rfl⟩ (by walk_at "mine sub") (by walk_at "mine sub") (by walk_at "mine off") | exact Done.intro (by assumption) (by assumption) ⟨_, _, _, _, _, _, _, _, _, _, rfl, rfl⟩ (by walk_at "mine sub") (by walk_at "mine sub") (by walk_at "mine off") | exact Done.intro (by assumption) (by assumption) ⟨_, _, _, _, _, _, _, _, _, _, _, rfl, rfl⟩ (by walk_at "mine sub") (by walk_at "mine sub") (by walk_at "mine off") | exact Done.intro (by assumption) (by assumption) ⟨_, _, _, _, _, _, _, _, _, _, _, _, rfl, rfl⟩ (by walk_at "mine sub") (by walk_at "mine sub") (by walk_at "mine off") | exact Done.intro (by assumption) (by assumption) ⟨_, _, _, _, _, _, _, _, _, _, _, _, _, rfl, rfl⟩ (by walk_at "mine sub") (by walk_at "mine sub") (by walk_at "mine off"))
local macro_rules | `(tactic| walk_at "mine steps") => `(tactic| repeat' (first | (k_unfold; (try dsimp only)) | walk1 | (dsimp only; walk1) | fail "no step"))
local macro_rules | `(tactic| walk_at "subscriptTail Name Constant ref int") => `(tactic| (k_here; k_dflt (refine' item_led ?k0 ?km ?k2 ?k3 ?k4 ?_ ?k6; (case k0 => k_asm); (case km => k_mem); (case k2 => decide); (case k3 => decide); (case k4 => exact rfl); (case k6 => with_unfolding_all rfl); k_whole)))
local macro_rules | `(tactic| walk_at "subscriptTail Name Name ref int") => `(tactic| (k_here; k_dflt (refine' item_led ?k0 ?km ?k2 ?k3 ?k4 ?_ ?k6; (case k0 => k_asm); (case km => k_mem); (case k2 => decide); (case k3 => decide); (case k4 => exact rfl); (case k6 => with_unfolding_all rfl); k_whole)))
local macro_rules | `(tactic| walk_at "mine to if") => `(tactic| repeat ((fail_if_success (with_reducible show wpAny _ _ (exec (Stmt.If _ _ _ _) _) _ _ _)); (first | walk1 | (k_unfold; (try dsimp only)) | (dsimp only; walk1))))
local macro_rules | `(tactic| walk_at "mine to cmp") => `(tactic| repeat ((fail_if_success (with_reducible show wpAny _ _ (exec (Stmt.If (Expr.Compare _ _ _ _) _ _ _) _) _ _ _)); (first | walk1 | (k_unfold; (try dsimp only)) | (dsimp only; walk1))))
local macro_rules | `(tactic| walk_at "mine cutS end") => `(tactic| exact ⟨rfl, _, _, _, rfl, (by first | assumption | exact Fr.same (by assumption) (by rfl)), (by first | assumption | exact News.sub (by assumption) (by walk_at "mine sub"))⟩)
local macro_rules | `(tactic| walk_at "mine len") => `(tactic| first | with_reducible assumption | (with_reducible refine' len_int ?a; (case a => omega)) | (with_reducible refine' len_add ?a ?b; (case a => walk_at "mine len"); (case b => walk_at "mine len")) | with_reducible exact Nat.le_refl _)
local macro_rules | `(tactic| walk_at "binaryOp Add str str") => `(tactic| (k_here; (with_reducible show wpAny _ _ (binaryOp Operator.Add (Value.str _ _) (Value.str _ _)) _ _ _); (refine' add_short ?a ?b ?c ?_; (case a => walk_at "mine len"); (case b => walk_at "mine len"); (case c => k_dflt exact rfl)); intro _ _))
local macro_rules | `(tactic| walk_at "eval Name") => `(tactic| ((with_reducible refine' ld ?F ?hv ?_ ?hk ?hl ?hd); (case F => first | with_reducible assumption | k_dflt assumption); (case hv => k_dflt exact rfl); (case hk => k_dflt exact rfl); (case hl => k_dflt exact rfl); (case hd => decide)))
local macro_rules | `(tactic| walk_at "mine to iter") => `(tactic| repeat ((fail_if_success (with_reducible show wpAny _ _ (pyIter _) _ _ _)); (first | walk1 | (k_unfold; (try dsimp only)) | (dsimp only; walk1))))
local macro_rules | `(tactic| size_fits) => `(tactic| exact strV_fits (by omega))
local macro_rules | `(tactic| walk_at "mine cutV end") => `(tactic| exact ⟨⟨_, rfl⟩, _, _, rfl, by assumption, by first | assumption | exact News.sub (by assumption) (by walk_at "mine sub")⟩)
local macro_rules | `(tactic| walk_at "mine to ifexp") => `(tactic| repeat ((fail_if_success (with_reducible show wpAny _ _ (eval (Expr.IfExp _ _ _ _) _) _ _ _)); (first | walk1 | (k_unfold; (try dsimp only)) | (dsimp only; walk1))))
local macro_rules | `(tactic| walk_at "mine tidy") => `(tactic| repeat (first | (with_reducible rename LCg.NsObj _ _ => q; clear q) | (with_reducible rename (_ ≠ _ ∧ _ ≠ _ ∧ _ ≠ _) => q; clear q) | (with_reducible rename ((_ ≠ _ ∧ _ ≠ _ ∧ _ ≠ _) ∧ _) => q; clear q) | (with_reducible rename (_[_]? = some _) => q; clear q) | (with_reducible rename (_ ≠ _ ∧ _) => q; clear q)))
local macro_rules | `(tactic| walk_at "mine lt") => `(tactic| first | exact List.forall_mem_nil _ | (refine List.forall_mem_cons.mpr ⟨by (show @LT.lt Nat _ _ _; omega), ?_⟩; walk_at "mine lt"))
local macro_rules | `(tactic| walk_at "mine cutB end") => `(tactic| refine ⟨?_, _, _, rfl, (by assumption), (by first | assumption | exact News.sub (by assumption) (by walk_at "mine sub"))⟩)
local macro_rules | `(tactic| walk_at "mine to make") => `(tactic| repeat ((fail_if_success (with_reducible show wpAny _ _ (callWith _ (Value.ref _) [] _ _) _ _ _)); (first | walk1 | (k_unfold; (try dsimp only)) | (dsimp only; walk1))))
local macro_rules | `(tactic| walk_at "mine KI") => `(tactic| first | assumption | exact All2.nil | exact KI.put All2.nil | exact KI.put (KI.put All2.nil) | exact KI.put (KI.put (KI.put All2.nil)) | exact KI.put (KI.put (KI.put (KI.put All2.nil))) | exact KI.put (KI.put (KI.put (KI.put (KI.put All2.nil)))) | exact KI.put (KI.put (KI.put (KI.put (KI.put (KI.put All2.nil))))) | exact KI.put (KI.put (KI.put (KI.put (KI.put (KI.put (KI.put All2.nil)))))) | exact KI.put (KI.put (KI.put (KI.put (KI.put (KI.put (KI.put (KI.put All2.nil))))))))
local macro_rules | `(tactic| walk_at "mine kw") => `(tactic| first | assumption | exact (List.forall_mem_nil _) | exact (putI_mem (List.forall_mem_nil _) (by decide)) | exact (putI_mem (putI_mem (List.forall_mem_nil _) (by decide)) (by decide)) | exact (putI_mem (putI_mem (putI_mem (List.forall_mem_nil _) (by decide)) (by decide)) (by decide)) | exact (putI_mem (putI_mem (putI_mem (putI_mem (List.forall_mem_nil _) (by decide)) (by decide)) (by decide)) (by decide)) | exact (putI_mem (putI_mem (putI_mem (putI_mem (putI_mem (List.forall_mem_nil _) (by decide)) (by decide)) (by decide)) (by decide)) (by decide)) | exact (putI_mem (putI_mem (putI_mem (putI_mem (putI_mem (putI_mem (List.forall_mem_nil _) (by decide)) (by decide)) (by decide)) (by decide)) (by decide)) (by decide)) | exact (putI_mem (putI_mem (putI_mem (putI_mem (putI_mem (putI_mem (putI_mem (List.forall_mem_nil _) (by decide)) (by decide)) (by decide)) (by decide)) (by decide)) (by decide)) (by decide)) | exact (putI_mem (putI_mem (putI_mem (putI_mem (putI_mem (putI_mem (putI_mem (putI_mem (List.forall_mem_nil _) (by decide)) (by decide)) (by decide)) (by decide)) (by decide)) (by decide)) (by decide)) (by decide)))
local macro_rules | `(tactic| walk_at "mine kz") => `(tactic| first | (refine Nat.le_trans (putI_len _ _ _) ?_; refine Nat.succ_le_succ ?_; walk_at "mine kz") | exact Nat.zero_le _ | (simp only [List.length_nil]; omega) | omega)
local macro_rules | `(tactic| walk_at "mine spread") => `(tactic| (k_here; k_dflt (refine' spread_iv ?zhL ?zhI ?zhk ?zhz ?zB ?zF ?zX ?zN ?zT ?zhd ?zhu ?zhkw ?zhm ?zhy ?zhky ?zhdb ?zhf ?zlo ?zD ?_; (case zhL => exact rfl); (case zF => k_asm); (case zhkw => exact rfl); (case zhy => exact rfl); (case zN => k_asm); (case zhm => k_mem); (case zD => assumption); (case zlo => assumption); (case zhI => walk_at "mine KI"); (case zhk => walk_at "mine kw"); (case zhz => walk_at "mine kz"); (case zB => k_asm); (case zX => k_asm); (case zT => k_asm); (case zhd => ktr_room); (case zhu => ktr_units); (case zhky => exact rfl); (case zhdb => decide); (case zhf => exact rfl)); intro x' dx' kk' tt' h' tk' F' N' hne'; (try simp only [List.cons_append, List.nil_append] at N'); replace hne' := offA_of hne'; simp only [OffA, OffL, and_true, true_and] at hne'; k_sweep))
local macro_rules | `(tactic| walk_at "mine enterK") => `(tactic| (rename BindHint _ => bh; refine MeetsT.of ?_; intro loose mean mg mb dp un gd cn sn sg sc sm a ccd cl outer A₀ base h₀ L m s Q E news B F X N ha T hd hu ret; k_dflt (first
  | (refine' enterM (by assumption) B F X N ha T ?kA ?kF ?kK ?k6 ?k7 ?k8 ?k9 ?kB ret ?_ ?c2 ?c3 ?c4 ?c5; (case kA => exact rfl); (case kF => exact rfl); (case kK => exact rfl); (case k6 => k_is); (case k7 => k_is); (case k8 => k_room); (case k9 => first | exact BindsTo.of_eq rfl | exact binds_K (Frag.In.keeps X (Fr.keep F)) rfl (by k_is) rfl rfl rfl); (case c5 => decide); (case kB => exact locs rfl); (case c2 => exact rfl); (case c3 => exact rfl); (case c4 => exact rfl); k_whole; clear B F X N ha T ret bh; intro g' L' h' F' N' l1 B' X' T'; (try k_lt l1); (try dsimp only); (try k_fold))
  | (refine' enterC (by assumption) B F X N ha T ?kA ?kF ?kK ?k6 ?k7 ?k8 ?k9 ?kB ?kD ret ?_ ?c2 ?c3 ?c4; (case kA => exact rfl); (case kF => exact rfl); (case kK => exact rfl); (case k6 => k_is); (case k7 => k_is); (case k8 => k_room); (case k9 => first | exact BindsTo.of_eq rfl | exact binds_K (Frag.In.keeps X (Fr.keep F)) rfl (by k_is) rfl rfl rfl); (case kB => exact rfl); (case kD => decide +kernel); (case c2 => exact rfl); (case c3 => exact rfl); (case c4 => exact rfl); k_whole; clear B F X N ha T ret bh; intro g' L' h' tk' cells' F' N' Y' l1 B' X' T'; (try k_lt l1); k_cells Y'; (try simp only [List.cons_append, List.nil_append] at N'); (try dsimp only); (try k_fold)))))
local macro_rules | `(tactic| walk_at "call ref") => `(tactic| (k_here; k_dflt (refine' Meets.use (make_spec _ _ _ _ _ _ _ _ _ _ _ _ _ _ ?hb) ?k1 ?k2 ?k3 ?k4 ?ka ?k5 ?kd ?ku ?_; (case k1 => k_asm); (case k2 => k_asm); (case k3 => k_asm); (case k4 => k_asm); (case ka => walk_at "mine sub"); (case hb => first | exact ib_mds _ _ _ _ | exact ib_wd _ _ _ | exact ib_d _ _ | exact ib_pos _ _ _ _ _ _ _ _ _ _ _ _); (case k5 => k_asm); (case kd => ktr_room); (case ku => ktr_units)); intro v' new' h' tk' hP F' N' hne'; obtain ⟨x', dx', k', e1', e2'⟩ := hP; subst e1' e2'; (try simp only [List.cons_append, List.nil_append] at N'); replace hne' := offA_of hne'; simp only [OffA, OffL, and_true, true_and] at hne'; skip; k_sweep))
local macro_rules | `(tactic| walk_at "call builtin:str.split") => `(tactic| (k_here; (with_reducible show wpAny _ _ (call (Value.builtin "str.split") _) _ _ _); k_dflt (first
  | (refine' split_w1 ?F ?N ?w ?z ?_; (case w => assumption); (case F => k_asm); (case N => k_asm); (case z => omega); intro D' t1' h' k' F' N' l1; (try k_lt l1); (try k_sweep))
  | (refine' split_w2 ?F ?N ?w ?z ?_; (case w => assumption); (case F => k_asm); (case N => k_asm); (case z => omega); intro D' t1' t2' h' k' F' N' l1; (try k_lt l1); (try k_sweep))
  | (refine' split_w3 ?F ?N ?w ?z ?_; (case w => assumption); (case F => k_asm); (case N => k_asm); (case z => omega); intro D' t1' t2' t3' h' k' F' N' l1; (try k_lt l1); (try k_sweep))
  | (refine' split_p2 ?F ?N ?w ?y ?z ?_; (case w => assumption); (case F => k_asm); (case N => k_asm); (case y => decide); (case z => omega); intro D' t1' t2' h' k' F' N' l1; (try k_lt l1); (try k_sweep))
  | (refine' split_p3 ?F ?N ?w ?y ?z ?_; (case w => assumption); (case F => k_asm); (case N => k_asm); (case y => decide); (case z => omega); intro D' t1' t2' t3' h' k' F' N' l1; (try k_lt l1); (try k_sweep)))))
set_option maxRecDepth 100000 in
set_option maxHeartbeats 8000000 in
theorem sql2_spec (w : World) (x w2 w3 a b c : Str) (t : Tok) (d h mi s : Int) (hx : x.length ≤ 300) (hw : Txt.words x = [w2, w3]) (hx2 : w2.length ≤ 300) (hx3 : w3.length ≤ 300)
    (hd0 : PySem.intText? w2 = some d) (hs : Txt.split (sgP w3).2 (Str.ofString ":") = [a, b, c]) (ha : PySem.intText? a = some h) (hb : PySem.intText? b = some mi) (hc : PySem.intText? c = some s) (la : a.length ≤ 300) (lb : b.length ≤ 300) (lc : c.length ≤ 300)
    (bd' : -1000 < d ∧ d < 1000) (bh' : -1000 < h ∧ h < 1000) (bm' : -1000 < mi ∧ mi < 1000) (bs' : -1000 < s ∧ s < 1000) :
  MeetsT w 9 (.ref 51) [.ref 108, .str x t] [] [] fun v new => ReadsTo w (ivOf (putI (putI (putI (putI [] (Str.ofString "days") d) (Str.ofString "hours") (h * (sgP w3).1)) (Str.ofString "minutes") (mi * (sgP w3).1)) (Str.ofString "seconds") (s * (sgP w3).1))) v new := by
  have bh : BindHint [(Str.ofString "cls", .ref 108), (Str.ofString "interval_str", .str x t)] := ⟨trivial⟩
  walk_at "mine enterK"
  repeat ((fail_if_success (with_reducible show wpAny _ _ (exec (Stmt.If (Expr.Call _ _ _ _) _ _ _) _) _ _ _)); (first | walk1 | (k_unfold; (try dsimp only)) | (dsimp only; walk1)))
  refine cutSign w3 (by assumption) (by assumption) ?_ ?_
  · walk_at "mine steps"
    · have e1 : (sgP w3).1 = -1 := by rw [sgP, if_pos (by assumption)]
      have e2 : (sgP w3).2 = Txt.slice w3 (some 1) none := by rw [sgP, if_pos (by assumption)]
      rw [CutG, e1, e2]
      exact ⟨rfl, _, _, _, _, _, rfl, by assumption, by assumption, News.sub (by assumption) (by walk_at "mine sub")⟩
    · have e1 : (sgP w3).1 = 1 := by rw [sgP, if_neg (by (simp only [Bool.not_eq_true]; assumption))]
      have e2 : (sgP w3).2 = w3 := by rw [sgP, if_neg (by (simp only [Bool.not_eq_true]; assumption))]
      rw [CutG, e1, e2]
      exact ⟨rfl, _, _, _, _, _, rfl, by assumption, by assumption, News.sub (by assumption) (by walk_at "mine sub")⟩
  intro h' tk' u' ts' os' hos F' N'
  k_sweep
  have hp1 := sgP_len w3 hx3
  have hso := sgP_or w3
  have hm1 := sgP_mul w3 bh'
  have hm2 := sgP_mul w3 bm'
  have hm3 := sgP_mul w3 bs'
  walk_at "mine to make"
  walk_at "mine spread"
  walk_at "mine steps"
  dsimp only
  walk_at "mine done"

end Mine
end
section
example : True := by (w_top off); trivial
open PySem PySem.W PyProof.Rows
set_option Elab.async false
namespace Mine
local macro_rules | `(tactic| walk_at "mine pad0") => `(tactic| skip)
example (w : World) : (∀ h, (lawTop.heap_39 w.params).In h → PySem.Challenge.rw_ew0023_01 = PySem.Challenge.rw_ew0023_01) := by k_fill; intros; rfl
local macro_rules | `(tactic| k_room) => `(tactic| ktr_room)
local macro_rules | `(tactic| walk_at "mine enter") => `(tactic| (rename BindHint _ => bh; unfold Meets; intro loose mean mg mb dp un gd cn sn sg sc sm a ccd cl outer A₀ base h₀ L m s Q E news B F X N ha T hd hu ret; refine wpAny_call ?_; k_dflt (first
  | (refine' enterM (by assumption) B F X N ha T ?kA ?kF ?kK ?k6 ?k7 ?k8 ?k9 ?kB ret ?_ ?c2 ?c3 ?c4 ?c5; (case kA => exact rfl); (case kF => exact rfl); (case kK => exact rfl); (case k6 => k_is); (case k7 => k_is); (case k8 => k_room); (case k9 => first | exact BindsTo.of_eq rfl | exact binds_K (Frag.In.keeps X (Fr.keep F)) rfl (by k_is) rfl rfl rfl); (case c5 => decide); (case kB => exact locs rfl); (case c2 => exact rfl); (case c3 => exact rfl); (case c4 => exact rfl); k_whole; clear B F X N ha T ret bh; intro g' L' h' F' N' l1 B' X' T'; (try k_lt l1); (try dsimp only); (try k_fold))
  | (refine' enterC (by assumption) B F X N ha T ?kA ?kF ?kK ?k6 ?k7 ?k8 ?k9 ?kB ?kD ret ?_ ?c2 ?c3 ?c4; (case kA => exact rfl); (case kF => exact rfl); (case kK => exact rfl); (case k6 => k_is); (case k7 => k_is); (case k8 => k_room); (case k9 => first | exact BindsTo.of_eq rfl | exact binds_K (Frag.In.keeps X (Fr.keep F)) rfl (by k_is) rfl rfl rfl); (case kB => exact rfl); (case kD => decide +kernel); (case c2 => exact rfl); (case c3 => exact rfl); (case c4 => exact rfl); k_whole; clear B F X N ha T ret bh; intro g' L' h' tk' cells' F' N' Y' l1 B' X' T'; (try k_lt l1); k_cells Y'; (try simp only [List.cons_append, List.nil_append] at N'); (try dsimp only); (try k_fold)))))
local macro_rules | `(tactic| walk_at "exec Assign cons ListComp") => `(tactic| (k_here; (with_reducible show wpAny _ _ (exec (Stmt.Assign _ (Expr.ListComp _ [⟨_, Expr.Tuple _ _ _, _, _⟩] _ _) _) _) _ _ _); k_dflt (refine assign_compTup (F₀ := by k_asm) (by rfl) (by with_unfolding_all rfl) (by with_unfolding_all rfl) (by decide) (by rfl) (by decide) (by rfl) (by rfl) (by rfl) ?_)))
local macro_rules | `(tactic| walk_at "TupSrc") => `(tactic| (k_here; k_dflt (refine TupSrc.of (by rfl) (by k_asm) (by k_asm) (by k_mem) (by first | size_fits | exact Nat.le_of_ble_eq_true rfl) ?_); intro g'; lcg_lit))
local macro_rules | `(tactic| lcg_src) => `(tactic| exact ⟨_, by k_mem, rfl, _, rfl⟩)
local macro_rules | `(tactic| walk_at "CompEnd") => `(tactic| (k_here; k_dflt (refine compEnd_same (by assumption) (by assumption) (by (simp only [LCg.Off3, and_true]; assumption)) (by lcg_src) ?_)))
local macro_rules | `(tactic| k_handed) => `(tactic| exact handed_optV _ _)
local macro_rules | `(tactic| walk_at "mine sub") => `(tactic| first | exact List.forall_mem_nil _ | (refine List.forall_mem_cons.mpr ⟨by k_mem, ?_⟩; walk_at "mine sub"))
local macro_rules | `(tactic| walk_at "mine off1") => `(tactic| first | exact List.forall_mem_nil _ | (refine List.forall_mem_cons.mpr ⟨by k_ne, ?_⟩; walk_at "mine off1"))
local macro_rules | `(tactic| walk_at "mine off") => `(tactic| first | exact List.forall_mem_nil _ | (refine List.forall_mem_cons.mpr ⟨?a, ?b⟩; (case a => walk_at "mine off1"); (case b => walk_at "mine off")))

local macro_rules | `(tactic| walk_at "mine done") => `(tactic| first | exact Done.intro (by assumption) (by assumption) ⟨_, rfl, rfl⟩ (by walk_at "mine sub") (by walk_at "mine sub") (by walk_at "mine off") | exact Done.intro (by assumption) (by assumption) ⟨_, _, rfl, rfl⟩ (by walk_at "mine sub") (by walk_at "mine sub") (by walk_at "mine off") | exact Done.intro (by assumption) (by assumption) ⟨_, _, _, rfl, rfl⟩ (by walk_at "mine sub") (by walk_at "mine sub") (by walk_at "mine off") | exact Done.intro (by assumption) (by assumption) ⟨_, _, _, _, rfl, rfl⟩ (by walk_at "mine sub") (by walk_at "mine sub") (by walk_at "mine off") | exact Done.intro (by assumption) (by assumption) ⟨_, _, _, _, _, rfl, rfl⟩ (by walk_at "mine sub") (by walk_at "mine sub") (by walk_at "mine off") | exact Done.intro (by assumption) (by assumption) ⟨_, _, _, _, _, _, rfl, rfl⟩ (by walk_at "mine sub") (by walk_at "mine sub") (by walk_at "mine off") | exact Done.intro (by assumption) (by assumption) ⟨_, _, _, _, _, _, _, rfl, rfl⟩ (by walk_at "mine sub") (by walk_at "mine sub") (by walk_at "mine off") | exact Done.intro (by assumption) (by assumption) ⟨_, _, _, _, _, _, _, _, rfl, rfl⟩ (by walk_at "mine sub") (by walk_at "mine sub") (by walk_at "mine off") | exact Done.intro (by assumption) (by assumption) ⟨_, _, _, _, _, _, _, _, _, rfl, rfl⟩ (by walk_at "mine sub") (by walk_at "mine sub") (by walk_at "mine off") | exact Done.intro (by assumption) (by assumption) ⟨_, _, _, _, _, _, _, _, _, _, rfl, rfl⟩ (by walk_at "mine sub") (by walk_at "mine sub") (by walk_at "mine off") | exact Done.intro (by assumption) (by assumption) ⟨_, _, _, _, _, _, _, _, _, _, _, rfl, rfl⟩ (by walk_at "mine sub") (by walk_at "mine sub") (by walk_at "mine off") | exact Done.intro (by assumption) (by assumption) ⟨_, _, _, _, _, _, _, _, _, _, _, _, rfl, rfl⟩ (by walk_at "mine sub") (by walk_at "mine sub") (by walk_at "mine off") | exact Done.intro (by assumption) (by assumption) ⟨_, _, _, _, _, _, _, _, _, _, _, _, _, rfl, rfl⟩ (by walk_at "mine sub") (by walk_at "mine sub") (by walk_at "mine off"))
local macro_rules | `(tactic| walk_at "mine steps") => `(tactic| repeat' (first | (k_unfold; (try dsimp only)) | walk1 | (dsimp only; walk1) | fail "no step"))
local macro_rules | `(tactic| walk_at "subscriptTail Name Constant ref int") => `(tactic| (k_here; k_dflt (refine' item_led ?k0 ?km ?k2 ?k3 ?k4 ?_ ?k6; (case k0 => k_asm); (case km => k_mem); (case k2 => decide); (case k3 => decide); (case k4 => exact rfl); (case k6 => with_unfolding_all rfl); k_whole)))
local macro_rules | `(tactic| walk_at "subscriptTail Name Name ref int") => `(tactic| (k_here; k_dflt (refine' item_led ?k0 ?km ?k2 ?k3 ?k4 ?_ ?k6; (case k0 => k_asm); (case km => k_mem); (case k2 => decide); (case k3 => decide); (case k4 => exact rfl); (case k6 => with_unfolding_all rfl); k_whole)))
local macro_rules | `(tactic| walk_at "mine to if") => `(tactic| repeat ((fail_if_success (with_reducible show wpAny _ _ (exec (Stmt.If _ _ _ _) _) _ _ _)); (first | walk1 | (k_unfold; (try dsimp only)) | (dsimp only; walk1))))
local macro_rules | `(tactic| walk_at "mine to cmp") => `(tactic| repeat ((fail_if_success (with_reducible show wpAny _ _ (exec (Stmt.If (Expr.Compare _ _ _ _) _ _ _) _) _ _ _)); (first | walk1 | (k_unfold; (try dsimp only)) | (dsimp only; walk1))))
local macro_rules | `(tactic| walk_at "mine cutS end") => `(tactic| exact ⟨rfl, _, _, _, rfl, (by first | assumption | exact Fr.same (by assumption) (by rfl)), (by first | assumption | exact News.sub (by assumption) (by walk_at "mine sub"))⟩)
local macro_rules | `(tactic| walk_at "mine len") => `(tactic| first | with_reducible assumption | (with_reducible refine' len_int ?a; (case a => omega)) | (with_reducible refine' len_add ?a ?b; (case a => walk_at "mine len"); (case b => walk_at "mine len")) | with_reducible exact Nat.le_refl _)
local macro_rules | `(tactic| walk_at "binaryOp Add str str") => `(tactic| (k_here; (with_reducible show wpAny _ _ (binaryOp Operator.Add (Value.str _ _) (Value.str _ _)) _ _ _); (refine' add_short ?a ?b ?c ?_; (case a => walk_at "mine len"); (case b => walk_at "mine len"); (case c => k_dflt exact rfl)); intro _ _))
local macro_rules | `(tactic| walk_at "eval Name") => `(tactic| ((with_reducible refine' ld ?F ?hv ?_ ?hk ?hl ?hd); (case F => first | with_reducible assumption | k_dflt assumption); (case hv => k_dflt exact rfl); (case hk => k_dflt exact rfl); (case hl => k_dflt exact rfl); (case hd => decide)))
local macro_rules | `(tactic| walk_at "mine to iter") => `(tactic| repeat ((fail_if_success (with_reducible show wpAny _ _ (pyIter _) _ _ _)); (first | walk1 | (k_unfold; (try dsimp only)) | (dsimp only; walk1))))
local macro_rules | `(tactic| size_fits) => `(tactic| exact strV_fits (by omega))
local macro_rules | `(tactic| walk_at "mine cutV end") => `(tactic| exact ⟨⟨_, rfl⟩, _, _, rfl, by assumption, by first | assumption | exact News.sub (by assumption) (by walk_at "mine sub")⟩)
local macro_rules | `(tactic| walk_at "mine to ifexp") => `(tactic| repeat ((fail_if_success (with_reducible show wpAny _ _ (eval (Expr.IfExp _ _ _ _) _) _ _ _)); (first | walk1 | (k_unfold; (try dsimp only)) | (dsimp only; walk1))))
local macro_rules | `(tactic| walk_at "mine tidy") => `(tactic| repeat (first | (with_reducible rename LCg.NsObj _ _ => q; clear q) | (with_reducible rename (_ ≠ _ ∧ _ ≠ _ ∧ _ ≠ _) => q; clear q) | (with_reducible rename ((_ ≠ _ ∧ _ ≠ _ ∧ _ ≠ _) ∧ _) => q; clear q) | (with_reducible rename (_[_]? = some _) => q; clear q) | (with_reducible rename (_ ≠ _ ∧ _) => q; clear q)))
local macro_rules | `(tactic| walk_at "mine lt") => `(tactic| first | exact List.forall_mem_nil _ | (refine List.forall_mem_cons.mpr ⟨by (show @LT.lt Nat _ _ _; omega), ?_⟩; walk_at "mine lt"))
local macro_rules | `(tactic| walk_at "mine cutB end") => `(tactic| refine ⟨?_, _, _, rfl, (by assumption), (by first | assumption | exact News.sub (by assumption) (by walk_at "mine sub"))⟩)
local macro_rules | `(tactic| walk_at "mine to make") => `(tactic| repeat ((fail_if_success (with_reducible show wpAny _ _ (callWith _ (Value.ref _) [] _ _) _ _ _)); (first | walk1 | (k_unfold; (try dsimp only)) | (dsimp only; walk1))))
local macro_rules | `(tactic| walk_at "mine KI") => `(tactic| first | assumption | exact All2.nil | exact KI.put All2.nil | exact KI.put (KI.put All2.nil) | exact KI.put (KI.put (KI.put All2.nil)) | exact KI.put (KI.put (KI.put (KI.put All2.nil))) | exact KI.put (KI.put (KI.put (KI.put (KI.put All2.nil)))) | exact KI.put (KI.put (KI.put (KI.put (KI.put (KI.put All2.nil))))) | exact KI.put (KI.put (KI.put (KI.put (KI.put (KI.put (KI.put All2.nil)))))) | exact KI.put (KI.put (KI.put (KI.put (KI.put (KI.put (KI.put (KI.put All2.nil))))))))
local macro_rules | `(tactic| walk_at "mine kw") => `(tactic| first | assumption | exact (List.forall_mem_nil _) | exact (putI_mem (List.forall_mem_nil _) (by decide)) | exact (putI_mem (putI_mem (List.forall_mem_nil _) (by decide)) (by decide)) | exact (putI_mem (putI_mem (putI_mem (List.forall_mem_nil _) (by decide)) (by decide)) (by decide)) | exact (putI_mem (putI_mem (putI_mem (putI_mem (List.forall_mem_nil _) (by decide)) (by decide)) (by decide)) (by decide)) | exact (putI_mem (putI_mem (putI_mem (putI_mem (putI_mem (List.forall_mem_nil _) (by decide)) (by decide)) (by decide)) (by decide)) (by decide)) | exact (putI_mem (putI_mem (putI_mem (putI_mem (putI_mem (putI_mem (List.forall_mem_nil _) (by decide)) (by decide)) (by decide)) (by decide)) (by decide)) (by decide)) | exact (putI_mem (putI_mem (putI_mem (putI_mem (putI_mem (putI_mem (putI_mem (List.forall_mem_nil _) (by decide)) (by decide)) (by decide)) (by decide)) (by decide)) (by decide)) (by decide)) | exact (putI_mem (putI_mem (putI_mem (putI_mem (putI_mem (putI_mem (putI_mem (putI_mem (List.forall_mem_nil _) (by decide)) (by decide)) (by decide)) (by decide)) (by decide)) (by decide)) (by decide)) (by decide)))
local macro_rules | `(tactic| walk_at "mine kz") => `(tactic| first | (refine Nat.le_trans (putI_len _ _ _) ?_; refine Nat.succ_le_succ ?_; walk_at "mine kz") | exact Nat.zero_le _ | (simp only [List.length_nil]; omega) | omega)
local macro_rules | `(tactic| walk_at "mine spread") => `(tactic| (k_here; k_dflt (refine' spread_iv ?zhL ?zhI ?zhk ?zhz ?zB ?zF ?zX ?zN ?zT ?zhd ?zhu ?zhkw ?zhm ?zhy ?zhky ?zhdb ?zhf ?zlo ?zD ?_; (case zhL => exact rfl); (case zF => k_asm); (case zhkw => exact rfl); (case zhy => exact rfl); (case zN => k_asm); (case zhm => k_mem); (case zD => assumption); (case zlo => assumption); (case zhI => walk_at "mine KI"); (case zhk => walk_at "mine kw"); (case zhz => walk_at "mine kz"); (case zB => k_asm); (case zX => k_asm); (case zT => k_asm); (case zhd => ktr_room); (case zhu => ktr_units); (case zhky => exact rfl); (case zhdb => decide); (case zhf => exact rfl)); intro x' dx' kk' tt' h' tk' F' N' hne'; (try simp only [List.cons_append, List.nil_append] at N'); replace hne' := offA_of hne'; simp only [OffA, OffL, and_true, true_and] at hne'; k_sweep))
local macro_rules | `(tactic| walk_at "mine enterK") => `(tactic| (rename BindHint _ => bh; refine MeetsT.of ?_; intro loose mean mg mb dp un gd cn sn sg sc sm a ccd cl outer A₀ base h₀ L m s Q E news B F X N ha T hd hu ret; k_dflt (first
  | (refine' enterM (by assumption) B F X N ha T ?kA ?kF ?kK ?k6 ?k7 ?k8 ?k9 ?kB ret ?_ ?c2 ?c3 ?c4 ?c5; (case kA => exact rfl); (case kF => exact rfl); (case kK => exact rfl); (case k6 => k_is); (case k7 => k_is); (case k8 => k_room); (case k9 => first | exact BindsTo.of_eq rfl | exact binds_K (Frag.In.keeps X (Fr.keep F)) rfl (by k_is) rfl rfl rfl); (case c5 => decide); (case kB => exact locs rfl); (case c2 => exact rfl); (case c3 => exact rfl); (case c4 => exact rfl); k_whole; clear B F X N ha T ret bh; intro g' L' h' F' N' l1 B' X' T'; (try k_lt l1); (try dsimp only); (try k_fold))
  | (refine' enterC (by assumption) B F X N ha T ?kA ?kF ?kK ?k6 ?k7 ?k8 ?k9 ?kB ?kD ret ?_ ?c2 ?c3 ?c4; (case kA => exact rfl); (case kF => exact rfl); (case kK => exact rfl); (case k6 => k_is); (case k7 => k_is); (case k8 => k_room); (case k9 => first | exact BindsTo.of_eq rfl | exact binds_K (Frag.In.keeps X (Fr.keep F)) rfl (by k_is) rfl rfl rfl); (case kB => exact rfl); (case kD => decide +kernel); (case c2 => exact rfl); (case c3 => exact rfl); (case c4 => exact rfl); k_whole; clear B F X N ha T ret bh; intro g' L' h' tk' cells' F' N' Y' l1 B' X' T'; (try k_lt l1); k_cells Y'; (try simp only [List.cons_append, List.nil_append] at N'); (try dsimp only); (try k_fold)))))
local macro_rules | `(tactic| walk_at "call ref") => `(tactic| (k_here; k_dflt (refine' Meets.use (make_spec _ _ _ _ _ _ _ _ _ _ _ _ _ _ ?hb) ?k1 ?k2 ?k3 ?k4 ?ka ?k5 ?kd ?ku ?_; (case k1 => k_asm); (case k2 => k_asm); (case k3 => k_asm); (case k4 => k_asm); (case ka => walk_at "mine sub"); (case hb => first | exact ib_mds _ _ _ _ | exact ib_wd _ _ _ | exact ib_d _ _ | exact ib_pos _ _ _ _ _ _ _ _ _ _ _ _); (case k5 => k_asm); (case kd => ktr_room); (case ku => ktr_units)); intro v' new' h' tk' hP F' N' hne'; obtain ⟨x', dx', k', e1', e2'⟩ := hP; subst e1' e2'; (try simp only [List.cons_append, List.nil_append] at N'); replace hne' := offA_of hne'; simp only [OffA, OffL, and_true, true_and] at hne'; skip; k_sweep))
local macro_rules | `(tactic| walk_at "call builtin:str.split") => `(tactic| (k_here; (with_reducible show wpAny _ _ (call (Value.builtin "str.split") _) _ _ _); k_dflt (first
  | (refine' split_w1 ?F ?N ?w ?z ?_; (case w => assumption); (case F => k_asm); (case N => k_asm); (case z => omega); intro D' t1' h' k' F' N' l1; (try k_lt l1); (try k_sweep))
  | (refine' split_w2 ?F ?N ?w ?z ?_; (case w => assumption); (case F => k_asm); (case N => k_asm); (case z => omega); intro D' t1' t2' h' k' F' N' l1; (try k_lt l1); (try k_sweep))
  | (refine' split_w3 ?F ?N ?w ?z ?_; (case w => assumption); (case F => k_asm); (case N => k_asm); (case z => omega); intro D' t1' t2' t3' h' k' F' N' l1; (try k_lt l1); (try k_sweep))
  | (refine' split_p2 ?F ?N ?w ?y ?z ?_; (case w => assumption); (case F => k_asm); (case N => k_asm); (case y => decide); (case z => omega); intro D' t1' t2' h' k' F' N' l1; (try k_lt l1); (try k_sweep))
  | (refine' split_p3 ?F ?N ?w ?y ?z ?_; (case w => assumption); (case F => k_asm); (case N => k_asm); (case y => decide); (case z => omega); intro D' t1' t2' t3' h' k' F' N' l1; (try k_lt l1); (try k_sweep)))))
set_option maxRecDepth 100000 in
set_option maxHeartbeats 8000000 in
theorem sql3_spec (w : World) (x w1 w2 w3 a b c e f : Str) (t : Tok) (y mo d h mi s : Int) (hx : x.length ≤ 300) (hw : Txt.words x = [w1, w2, w3]) (hx1 : w1.length ≤ 300) (hx2 : w2.length ≤ 300) (hx3 : w3.length ≤ 300)
    (hs1 : Txt.split (sgP w1).2 (Str.ofString "-") = [e, f]) (he : PySem.intText? e = some y) (hf : PySem.intText? f = some mo) (le : e.length ≤ 300) (lf : f.length ≤ 300) (by' : -1000 < y ∧ y < 1000) (bmo' : -1000 < mo ∧ mo < 1000)
    (hd0 : PySem.intText? w2 = some d) (hs : Txt.split (sgP w3).2 (Str.ofString ":") = [a, b, c]) (ha : PySem.intText? a = some h) (hb : PySem.intText? b = some mi) (hc : PySem.intText? c = some s) (la : a.length ≤ 300) (lb : b.length ≤ 300) (lc : c.length ≤ 300)
    (bd' : -1000 < d ∧ d < 1000) (bh' : -1000 < h ∧ h < 1000) (bm' : -1000 < mi ∧ mi < 1000) (bs' : -1000 < s ∧ s < 1000) :
  MeetsT w 9 (.ref 51) [.ref 108, .str x t] [] [] fun v new => ReadsTo w (ivOf (putI (putI (putI (putI (putI (putI [] (Str.ofString "years") (y * (sgP w1).1)) (Str.ofString "months") (mo * (sgP w1).1)) (Str.ofString "days") d) (Str.ofString "hours") (h * (sgP w3).1)) (Str.ofString "minutes") (mi * (sgP w3).1)) (Str.ofString "seconds") (s * (sgP w3).1))) v new := by
  have bh : BindHint [(Str.ofString "cls", .ref 108), (Str.ofString "interval_str", .str x t)] := ⟨trivial⟩
  walk_at "mine enterK"
  repeat ((fail_if_success (with_reducible show wpAny _ _ (exec (Stmt.If (Expr.Call _ _ _ _) _ _ _) _) _ _ _)); (first | walk1 | (k_unfold; (try dsimp only)) | (dsimp only; walk1)))
  refine cutSign3 w1 (by assumption) (by assumption) ?_ ?_
  · walk_at "mine steps"
    · have e1 : (sgP w1).1 = -1 := by rw [sgP, if_pos (by assumption)]
      have e2 : (sgP w1).2 = Txt.slice w1 (some 1) none := by rw [sgP, if_pos (by assumption)]
      rw [CutG, e1, e2]
      exact ⟨rfl, _, _, _, _, _, rfl, by assumption, by assumption, News.sub (by assumption) (by walk_at "mine sub")⟩
    · have e1 : (sgP w1).1 = 1 := by rw [sgP, if_neg (by (simp only [Bool.not_eq_true]; assumption))]
      have e2 : (sgP w1).2 = w1 := by rw [sgP, if_neg (by (simp only [Bool.not_eq_true]; assumption))]
      rw [CutG, e1, e2]
      exact ⟨rfl, _, _, _, _, _, rfl, by assumption, by assumption, News.sub (by assumption) (by walk_at "mine sub")⟩
  intro h' tk' u' ts' os' hos F' N'
  k_sweep
  have hp1 := sgP_len w1 hx1
  have hso := sgP_or w1
  have hm1 := sgP_mul w1 by'
  have hm2 := sgP_mul w1 bmo'
  repeat ((fail_if_success (with_reducible show wpAny _ _ (exec (Stmt.If (Expr.Call _ _ _ _) _ _ _) _) _ _ _)); (first | walk1 | (k_unfold; (try dsimp only)) | (dsimp only; walk1)))
  walk_at "mine tidy"
  (rename News _ _ _ _ => hN)
  replace hN := News.pick [3, 4, 2] hN
  change News _ _ _ [_, _, _] at hN
  refine cutSign w3 (by assumption) (by assumption) ?_ ?_
  · walk_at "mine steps"
    · have e1 : (sgP w3).1 = -1 := by rw [sgP, if_pos (by assumption)]
      have e2 : (sgP w3).2 = Txt.slice w3 (some 1) none := by rw [sgP, if_pos (by assumption)]
      rw [CutG, e1, e2]
      exact ⟨rfl, _, _, _, _, _, rfl, by assumption, by assumption, News.sub (by assumption) (by walk_at "mine sub")⟩
    · have e1 : (sgP w3).1 = 1 := by rw [sgP, if_neg (by (simp only [Bool.not_eq_true]; assumption))]
      have e2 : (sgP w3).2 = w3 := by rw [sgP, if_neg (by (simp only [Bool.not_eq_true]; assumption))]
      rw [CutG, e1, e2]
      exact ⟨rfl, _, _, _, _, _, rfl, by assumption, by assumption, News.sub (by assumption) (by walk_at "mine sub")⟩
  intro h' tk' u' ts' os' hos F' N'
  k_sweep
  have hp3 := sgP_len w3 hx3
  have hso3 := sgP_or w3
  have hm3 := sgP_mul w3 bh'
  have hm4 := sgP_mul w3 bm'
  have hm5 := sgP_mul w3 bs'
  walk_at "mine to make"
  walk_at "mine spread"
  walk_at "mine steps"
  dsimp only
  walk_at "mine done"

end Mine
end
section
example : True := by (w_top off); trivial
open PySem PySem.W PyProof.Rows
set_option Elab.async false
namespace Mine
local macro_rules | `(tactic| walk_at "mine pad0") => `(tactic| skip)
local macro_rules | `(tactic| walk_at "mine pad1") => `(tactic| skip)
example (w : World) : (∀ h, (lawTop.heap_39 w.params).In h → PySem.Challenge.rw_ew0023_01 = PySem.Challenge.rw_ew0023_01) := by k_fill; intros; rfl
local macro_rules | `(tactic| k_room) => `(tactic| ktr_room)
local macro_rules | `(tactic| walk_at "mine enter") => `(tactic| (rename BindHint _ => bh; unfold Meets; intro loose mean mg mb dp un gd cn sn sg sc sm a ccd cl outer A₀ base h₀ L m s Q E news B F X N ha T hd hu ret; refine wpAny_call ?_; k_dflt (first
  | (refine' enterM (by assumption) B F X N ha T ?kA ?kF ?kK ?k6 ?k7 ?k8 ?k9 ?kB ret ?_ ?c2 ?c3 ?c4 ?c5; (case kA => exact rfl); (case kF => exact rfl); (case kK => exact rfl); (case k6 => k_is); (case k7 => k_is); (case k8 => k_room); (case k9 => first | exact BindsTo.of_eq rfl | exact binds_K (Frag.In.keeps X (Fr.keep F)) rfl (by k_is) rfl rfl rfl); (case c5 => decide); (case kB => exact locs rfl); (case c2 => exact rfl); (case c3 => exact rfl); (case c4 => exact rfl); k_whole; clear B F X N ha T ret bh; intro g' L' h' F' N' l1 B' X' T'; (try k_lt l1); (try dsimp only); (try k_fold))
  | (refine' enterC (by assumption) B F X N ha T ?kA ?kF ?kK ?k6 ?k7 ?k8 ?k9 ?kB ?kD ret ?_ ?c2 ?c3 ?c4; (case kA => exact rfl); (case kF => exact rfl); (case kK => exact rfl); (case k6 => k_is); (case k7 => k_is); (case k8 => k_room); (case k9 => first | exact BindsTo.of_eq rfl | exact binds_K (Frag.In.keeps X (Fr.keep F)) rfl (by k_is) rfl rfl rfl); (case kB => exact rfl); (case kD => decide +kernel); (case c2 => exact rfl); (case c3 => exact rfl); (case c4 => exact rfl); k_whole; clear B F X N ha T ret bh; intro g' L' h' tk' cells' F' N' Y' l1 B' X' T'; (try k_lt l1); k_cells Y'; (try simp only [List.cons_append, List.nil_append] at N'); (try dsimp only); (try k_fold)))))
local macro_rules | `(tactic| walk_at "exec Assign cons ListComp") => `(tactic| (k_here; (with_reducible show wpAny _ _ (exec (Stmt.Assign _ (Expr.ListComp _ [⟨_, Expr.Tuple _ _ _, _, _⟩] _ _) _) _) _ _ _); k_dflt (refine assign_compTup (F₀ := by k_asm) (by rfl) (by with_unfolding_all rfl) (by with_unfolding_all rfl) (by decide) (by rfl) (by decide) (by rfl) (by rfl) (by rfl) ?_)))
local macro_rules | `(tactic| walk_at "TupSrc") => `(tactic| (k_here; k_dflt (refine TupSrc.of (by rfl) (by k_asm) (by k_asm) (by k_mem) (by first | size_fits | exact Nat.le_of_ble_eq_true rfl) ?_); intro g'; lcg_lit))
local macro_rules | `(tactic| lcg_src) => `(tactic| exact ⟨_, by k_mem, rfl, _, rfl⟩)
local macro_rules | `(tactic| walk_at "CompEnd") => `(tactic| (k_here; k_dflt (refine compEnd_same (by assumption) (by assumption) (by (simp only [LCg.Off3, and_true]; assumption)) (by lcg_src) ?_)))
local macro_rules | `(tactic| k_handed) => `(tactic| exact handed_optV _ _)
local macro_rules | `(tactic| walk_at "mine sub") => `(tactic| first | exact List.forall_mem_nil _ | (refine List.forall_mem_cons.mpr ⟨by k_mem, ?_⟩; walk_at "mine sub"))
local macro_rules | `(tactic| walk_at "mine off1") => `(tactic| first | exact List.forall_mem_nil _ | (refine List.forall_mem_cons.mpr ⟨by k_ne, ?_⟩; walk_at "mine off1"))
local macro_rules | `(tactic| walk_at "mine off") => `(tactic| first | exact List.forall_mem_nil _ | (refine List.forall_mem_cons.mpr ⟨?a, ?b⟩; (case a => walk_at "mine off1"); (case b => walk_at "mine off")))

local macro_rules | `(tactic| walk_at "mine done") => `(tactic| first | exact Done.intro (by assumption) (by assumption) ⟨_, rfl, rfl⟩ (by walk_at "mine sub") (by walk_at "mine sub") (by walk_at "mine off") | exact Done.intro (by assumption) (by assumption) ⟨_, _, rfl, rfl⟩ (by walk_at "mine sub") (by walk_at "mine sub") (by walk_at "mine off") | exact Done.intro (by assumption) (by assumption) ⟨_, _, _, rfl, rfl⟩ (by walk_at "mine sub") (by walk_at "mine sub") (by walk_at "mine off") | exact Done.intro (by assumption) (by assumption) ⟨_, _, _, _, rfl, rfl⟩ (by walk_at "mine sub") (by walk_at "mine sub") (by walk_at "mine off") | exact Done.intro (by assumption) (by assumption) ⟨_, _, _, _, _, rfl, rfl⟩ (by walk_at "mine sub") (by walk_at "mine sub") (by walk_at "mine off") | exact Done.intro (by assumption) (by assumption) ⟨_, _, _, _, _, _, rfl, rfl⟩ (by walk_at "mine sub") (by walk_at "mine sub") (by walk_at "mine off") | exact Done.intro (by assumption) (by assumption) ⟨_, _, _, _, _, _, _, rfl, rfl⟩ (by walk_at "mine sub") (by walk_at "mine sub") (by walk_at "mine off") | exact Done.intro (by assumption) (by assumption) ⟨_, _, _, _, _, _, _, _, rfl, rfl⟩ (by walk_at "mine sub") (by walk_at "mine sub") (by walk_at "mine off") | exact Done.intro (by assumption) (by assumption) ⟨_, _, _, _, _, _, _, _, _, rfl, rfl⟩ (by walk_at "mine sub") (by walk_at "mine sub") (by walk_at "mine off") | exact Done.intro (by assumption) (by assumption) ⟨_, _, _, _, _, _, _, _, _, _, rfl, rfl⟩ (by walk_at "mine sub") (by walk_at "mine sub") (by walk_at "mine off") | exact Done.intro (by assumption) (by assumption) ⟨_, _, _, _, _, _, _, _, _, _, _, rfl, rfl⟩ (by walk_at "mine sub") (by walk_at "mine sub") (by walk_at "mine off") | exact Done.intro (by assumption) (by assumption) ⟨_, _, _, _, _, _, _, _, _, _, _, _, rfl, rfl⟩ (by walk_at "mine sub") (by walk_at "mine sub") (by walk_at "mine off") | exact Done.intro (by assumption) (by assumption) ⟨_, _, _, _, _, _, _, _, _, _, _, _, _, rfl, rfl⟩ (by walk_at "mine sub") (by walk_at "mine sub") (by walk_at "mine off"))
local macro_rules | `(tactic| walk_at "mine steps") => `(tactic| repeat' (first | (k_unfold; (try dsimp only)) | walk1 | (dsimp only; walk1) | fail "no step"))
local macro_rules | `(tactic| walk_at "subscriptTail Name Constant ref int") => `(tactic| (k_here; k_dflt (refine' item_led ?k0 ?km ?k2 ?k3 ?k4 ?_ ?k6; (case k0 => k_asm); (case km => k_mem); (case k2 => decide); (case k3 => decide); (case k4 => exact rfl); (case k6 => with_unfolding_all rfl); k_whole)))
local macro_rules | `(tactic| walk_at "subscriptTail Name Name ref int") => `(tactic| (k_here; k_dflt (refine' item_led ?k0 ?km ?k2 ?k3 ?k4 ?_ ?k6; (case k0 => k_asm); (case km => k_mem); (case k2 => decide); (case k3 => decide); (case k4 => exact rfl); (case k6 => with_unfolding_all rfl); k_whole)))
local macro_rules | `(tactic| walk_at "mine to if") => `(tactic| repeat ((fail_if_success (with_reducible show wpAny _ _ (exec (Stmt.If _ _ _ _) _) _ _ _)); (first | walk1 | (k_unfold; (try dsimp only)) | (dsimp only; walk1))))
local macro_rules | `(tactic| walk_at "mine to cmp") => `(tactic| repeat ((fail_if_success (with_reducible show wpAny _ _ (exec (Stmt.If (Expr.Compare _ _ _ _) _ _ _) _) _ _ _)); (first | walk1 | (k_unfold; (try dsimp only)) | (dsimp only; walk1))))
local macro_rules | `(tactic| walk_at "mine cutS end") => `(tactic| exact ⟨rfl, _, _, _, rfl, (by first | assumption | exact Fr.same (by assumption) (by rfl)), (by first | assumption | exact News.sub (by assumption) (by walk_at "mine sub"))⟩)
local macro_rules | `(tactic| walk_at "mine len") => `(tactic| first | with_reducible assumption | (with_reducible refine' len_int ?a; (case a => omega)) | (with_reducible refine' len_add ?a ?b; (case a => walk_at "mine len"); (case b => walk_at "mine len")) | with_reducible exact Nat.le_refl _)
local macro_rules | `(tactic| walk_at "binaryOp Add str str") => `(tactic| (k_here; (with_reducible show wpAny _ _ (binaryOp Operator.Add (Value.str _ _) (Value.str _ _)) _ _ _); (refine' add_short ?a ?b ?c ?_; (case a => walk_at "mine len"); (case b => walk_at "mine len"); (case c => k_dflt exact rfl)); intro _ _))
local macro_rules | `(tactic| walk_at "eval Name") => `(tactic| ((with_reducible refine' ld ?F ?hv ?_ ?hk ?hl ?hd); (case F => first | with_reducible assumption | k_dflt assumption); (case hv => k_dflt exact rfl); (case hk => k_dflt exact rfl); (case hl => k_dflt exact rfl); (case hd => decide)))
local macro_rules | `(tactic| walk_at "mine to iter") => `(tactic| repeat ((fail_if_success (with_reducible show wpAny _ _ (pyIter _) _ _ _)); (first | walk1 | (k_unfold; (try dsimp only)) | (dsimp only; walk1))))
local macro_rules | `(tactic| size_fits) => `(tactic| exact strV_fits (by omega))
local macro_rules | `(tactic| walk_at "mine cutV end") => `(tactic| exact ⟨⟨_, rfl⟩, _, _, rfl, by assumption, by first | assumption | exact News.sub (by assumption) (by walk_at "mine sub")⟩)
local macro_rules | `(tactic| walk_at "mine to ifexp") => `(tactic| repeat ((fail_if_success (with_reducible show wpAny _ _ (eval (Expr.IfExp _ _ _ _) _) _ _ _)); (first | walk1 | (k_unfold; (try dsimp only)) | (dsimp only; walk1))))
local macro_rules | `(tactic| walk_at "mine tidy") => `(tactic| repeat (first | (with_reducible rename LCg.NsObj _ _ => q; clear q) | (with_reducible rename (_ ≠ _ ∧ _ ≠ _ ∧ _ ≠ _) => q; clear q) | (with_reducible rename ((_ ≠ _ ∧ _ ≠ _ ∧ _ ≠ _) ∧ _) => q; clear q) | (with_reducible rename (_[_]? = some _) => q; clear q) | (with_reducible rename (_ ≠ _ ∧ _) => q; clear q)))
local macro_rules | `(tactic| walk_at "mine lt") => `(tactic| first | exact List.forall_mem_nil _ | (refine List.forall_mem_cons.mpr ⟨by (show @LT.lt Nat _ _ _; omega), ?_⟩; walk_at "mine lt"))
local macro_rules | `(tactic| walk_at "mine cutB end") => `(tactic| refine ⟨?_, _, _, rfl, (by assumption), (by first | assumption | exact News.sub (by assumption) (by walk_at "mine sub"))⟩)
local macro_rules | `(tactic| walk_at "mine to make") => `(tactic| repeat ((fail_if_success (with_reducible show wpAny _ _ (callWith _ (Value.ref _) [] _ _) _ _ _)); (first | walk1 | (k_unfold; (try dsimp only)) | (dsimp only; walk1))))
local macro_rules | `(tactic| walk_at "mine KI") => `(tactic| first | assumption | exact All2.nil | exact KI.put All2.nil | exact KI.put (KI.put All2.nil) | exact KI.put (KI.put (KI.put All2.nil)) | exact KI.put (KI.put (KI.put (KI.put All2.nil))) | exact KI.put (KI.put (KI.put (KI.put (KI.put All2.nil)))) | exact KI.put (KI.put (KI.put (KI.put (KI.put (KI.put All2.nil))))) | exact KI.put (KI.put (KI.put (KI.put (KI.put (KI.put (KI.put All2.nil)))))) | exact KI.put (KI.put (KI.put (KI.put (KI.put (KI.put (KI.put (KI.put All2.nil))))))))
local macro_rules | `(tactic| walk_at "mine kw") => `(tactic| first | assumption | exact (List.forall_mem_nil _) | exact (putI_mem (List.forall_mem_nil _) (by decide)) | exact (putI_mem (putI_mem (List.forall_mem_nil _) (by decide)) (by decide)) | exact (putI_mem (putI_mem (putI_mem (List.forall_mem_nil _) (by decide)) (by decide)) (by decide)) | exact (putI_mem (putI_mem (putI_mem (putI_mem (List.forall_mem_nil _) (by decide)) (by decide)) (by decide)) (by decide)) | exact (putI_mem (putI_mem (putI_mem (putI_mem (putI_mem (List.forall_mem_nil _) (by decide)) (by decide)) (by decide)) (by decide)) (by decide)) | exact (putI_mem (putI_mem (putI_mem (putI_mem (putI_mem (putI_mem (List.forall_mem_nil _) (by decide)) (by decide)) (by decide)) (by decide)) (by decide)) (by decide)) | exact (putI_mem (putI_mem (putI_mem (putI_mem (putI_mem (putI_mem (putI_mem (List.forall_mem_nil _) (by decide)) (by decide)) (by decide)) (by decide)) (by decide)) (by decide)) (by decide)) | exact (putI_mem (putI_mem (putI_mem (putI_mem (putI_mem (putI_mem (putI_mem (putI_mem (List.forall_mem_nil _) (by decide)) (by decide)) (by decide)) (by decide)) (by decide)) (by decide)) (by decide)) (by decide)))
local macro_rules | `(tactic| walk_at "mine kz") => `(tactic| first | (refine Nat.le_trans (putI_len _ _ _) ?_; refine Nat.succ_le_succ ?_; walk_at "mine kz") | exact Nat.zero_le _ | (simp only [List.length_nil]; omega) | omega)
local macro_rules | `(tactic| walk_at "mine spread") => `(tactic| (k_here; k_dflt (refine' spread_iv ?zhL ?zhI ?zhk ?zhz ?zB ?zF ?zX ?zN ?zT ?zhd ?zhu ?zhkw ?zhm ?zhy ?zhky ?zhdb ?zhf ?zlo ?zD ?_; (case zhL => exact rfl); (case zF => k_asm); (case zhkw => exact rfl); (case zhy => exact rfl); (case zN => k_asm); (case zhm => k_mem); (case zD => assumption); (case zlo => assumption); (case zhI => walk_at "mine KI"); (case zhk => walk_at "mine kw"); (case zhz => walk_at "mine kz"); (case zB => k_asm); (case zX => k_asm); (case zT => k_asm); (case zhd => ktr_room); (case zhu => ktr_units); (case zhky => exact rfl); (case zhdb => decide); (case zhf => exact rfl)); intro x' dx' kk' tt' h' tk' F' N' hne'; (try simp only [List.cons_append, List.nil_append] at N'); replace hne' := offA_of hne'; simp only [OffA, OffL, and_true, true_and] at hne'; k_sweep))
local macro_rules | `(tactic| walk_at "mine enterK") => `(tactic| (rename BindHint _ => bh; refine MeetsT.of ?_; intro loose mean mg mb dp un gd cn sn sg sc sm a ccd cl outer A₀ base h₀ L m s Q E news B F X N ha T hd hu ret; k_dflt (first
  | (refine' enterM (by assumption) B F X N ha T ?kA ?kF ?kK ?k6 ?k7 ?k8 ?k9 ?kB ret ?_ ?c2 ?c3 ?c4 ?c5; (case kA => exact rfl); (case kF => exact rfl); (case kK => exact rfl); (case k6 => k_is); (case k7 => k_is); (case k8 => k_room); (case k9 => first | exact BindsTo.of_eq rfl | exact binds_K (Frag.In.keeps X (Fr.keep F)) rfl (by k_is) rfl rfl rfl); (case c5 => decide); (case kB => exact locs rfl); (case c2 => exact rfl); (case c3 => exact rfl); (case c4 => exact rfl); k_whole; clear B F X N ha T ret bh; intro g' L' h' F' N' l1 B' X' T'; (try k_lt l1); (try dsimp only); (try k_fold))
  | (refine' enterC (by assumption) B F X N ha T ?kA ?kF ?kK ?k6 ?k7 ?k8 ?k9 ?kB ?kD ret ?_ ?c2 ?c3 ?c4; (case kA => exact rfl); (case kF => exact rfl); (case kK => exact rfl); (case k6 => k_is); (case k7 => k_is); (case k8 => k_room); (case k9 => first | exact BindsTo.of_eq rfl | exact binds_K (Frag.In.keeps X (Fr.keep F)) rfl (by k_is) rfl rfl rfl); (case kB => exact rfl); (case kD => decide +kernel); (case c2 => exact rfl); (case c3 => exact rfl); (case c4 => exact rfl); k_whole; clear B F X N ha T ret bh; intro g' L' h' tk' cells' F' N' Y' l1 B' X' T'; (try k_lt l1); k_cells Y'; (try simp only [List.cons_append, List.nil_append] at N'); (try dsimp only); (try k_fold)))))
local macro_rules | `(tactic| walk_at "call ref") => `(tactic| (k_here; k_dflt (refine' Meets.use (make_spec _ _ _ _ _ _ _ _ _ _ _ _ _ _ ?hb) ?k1 ?k2 ?k3 ?k4 ?ka ?k5 ?kd ?ku ?_; (case k1 => k_asm); (case k2 => k_asm); (case k3 => k_asm); (case k4 => k_asm); (case ka => walk_at "mine sub"); (case hb => first | exact ib_mds _ _ _ _ | exact ib_wd _ _ _ | exact ib_d _ _ | exact ib_pos _ _ _ _ _ _ _ _ _ _ _ _); (case k5 => k_asm); (case kd => ktr_room); (case ku => ktr_units)); intro v' new' h' tk' hP F' N' hne'; obtain ⟨x', dx', k', e1', e2'⟩ := hP; subst e1' e2'; (try simp only [List.cons_append, List.nil_append] at N'); replace hne' := offA_of hne'; simp only [OffA, OffL, and_true, true_and] at hne'; skip; k_sweep))
local macro_rules | `(tactic| walk_at "mine enterT") => `(tactic| (rename BindHint _ => bh; unfold MeetsT; intro loose mean mg mb dp un gd cn sn sg sc sm a ccd cl outer A₀ base h₀ L m s Q news G F N ha hd hu ret; k_dflt (
  (refine' enterT (by assumption) G F N ha ?kA ?kF ?kK ?k6 ?k7 ?k8 ?k9 ?kB ret ?_ ?c2 ?c3 ?c4 ?c5; (case kA => exact rfl); (case kF => exact rfl); (case kK => exact rfl); (case k6 => k_is); (case k7 => k_is); (case k8 => k_room); (case k9 => first | exact BindsTo.of_eq rfl | exact binds_K (Frag.In.keeps (Ground3.X G) (Fr.keep F)) rfl (by k_is) rfl rfl rfl); (case c5 => decide); (case kB => exact locs rfl); (case c2 => exact rfl); (case c3 => exact rfl); (case c4 => exact rfl); k_whole; clear G F N ha ret bh; intro g' L' h' F' N' l1 G'; (try k_lt l1); (try dsimp only); (try k_fold); have B' := Ground3.B G'; have X' := Ground3.X G'; have T' := Ground3.T G'))))
local macro_rules | `(tactic| walk_at "mine to ite") => `(tactic| repeat ((fail_if_success (with_reducible show ite _ _ _)); (first | walk1 | (k_unfold; (try dsimp only)) | (dsimp only; walk1))))
local macro_rules | `(tactic| walk_at "call builtin:str.split") => `(tactic| (k_here; (with_reducible show wpAny _ _ (call (Value.builtin "str.split") [_, _]) _ _ _); k_dflt (
  (refine' split_p3 ?F ?N ?w ?y ?z ?_; (case w => assumption); (case F => k_asm); (case N => k_asm); (case y => decide); (case z => omega); intro D' t1' t2' t3' h' k' F' N' l1; (try k_lt l1); (try k_sweep)))))
theorem nodup_le {α : Type} [DecidableEq α] : ∀ {l m : List α}, l.Nodup → (∀ x ∈ l, x ∈ m) → l.length ≤ m.length
  | [], _, _, _ => Nat.zero_le _
  | a :: l, m, hn, hs => by
    have ha := hs a (.head _)
    have hn' := List.nodup_cons.mp hn
    have := nodup_le (l := l) (m := m.erase a) hn'.2 fun x hx => (List.mem_erase_of_ne (fun e => by rw [e] at hx; exact hn'.1 hx)).mpr (hs x (.tail _ hx))
    rw [List.length_erase_of_mem ha] at this
    have hp : 0 < m.length := List.length_pos_of_mem ha
    rw [List.length_cons]; omega
theorem dict_small {w : World} {o : Obj} {kvs : List (Str × Value)} {es : List (Str × Int)} (hD : o.IsDictOf (strKind pg w) kvs) (hK : KI kvs es) (hk : ∀ p ∈ es, p.1 ∈ kwNames) : es.length ≤ 11 := by
  have hn : (kvs.map (·.1)).Nodup := by obtain ⟨_, _, _, _, _, _, hn⟩ := hD; exact hn
  rw [hK.keys] at hn
  have := nodup_le hn (m := kwNames) fun x hx => by
    obtain ⟨p, hp, rfl⟩ := List.mem_map.mp hx
    exact hk p hp
  rw [List.length_map] at this
  exact this
theorem dict_fits {w : World} {o : Obj} {kvs : List (Str × Value)} {es : List (Str × Int)} (hD : o.IsDictOf (strKind pg w) kvs) (hK : KI kvs es) (hk : ∀ p ∈ es, p.1 ∈ kwNames) : kvs.length ≤ sizeLine := by
  have := dict_small hD hK hk
  rw [hK.length, PySem.sizeLine_eq]; omega
local macro_rules | `(tactic| walk_at "setItem ref str") => `(tactic| (k_here; (with_reducible show wpAny _ _ (setItem (Value.ref _) (Value.str _ _) (Value.int _ _)) _ _ _); k_dflt (refine' kda_set (knd := PySem.strKind _ _) ?F ?N ?U ?d (strKind_is _ _ _ _) ?z ?_; (case F => k_asm); (case N => k_asm); (case U => k_updF); (case d => assumption); (case z => exact dict_fits (by assumption) (by assumption) (by assumption))); intro h' o' F' N' hd'; (try dsimp only at N')))
local macro_rules | `(tactic| walk_at "subscriptTail") => `(tactic| (k_here; (with_reducible show wpAny _ _ (subscriptTail _ _ (Value.ref 22) (Value.str _ _)) _ _ _); k_dflt (refine' item_unit ?X ?F ?l ?_ ?hs ?hg; (case X => k_asm); (case F => k_asm); (case l => assumption); (case hs => with_unfolding_all rfl); (case hg => (intro _; with_unfolding_all rfl))); intro t'))
local macro_rules | `(tactic| k_all) => `(tactic| assumption)
/-- a number put under its name, but no 0 -/
def putNZ (es : List (Str × Int)) (k : Str) (v : Int) : List (Str × Int) := if v = 0 then es else putI es k v
abbrev hasColon (x : Str) : Bool := !(Builtin.Str.occurrences x (Str.ofString ":") 0 x.length 1).isEmpty
/-- what the postgres reader makes of its words -/
inductive PgRun : List Str → List (Str × Int) → Option Int → List (Str × Int) → Prop
  | nil {es c} : PgRun [] es c es
  | time {x a b d r es c fin h mi s} : x.length ≤ 300 → hasColon x = true → Txt.split x (Str.ofString ":") = [a, b, d] → PySem.intText? a = some h → PySem.intText? b = some mi → PySem.intText? d = some s → a.length ≤ 300 → b.length ≤ 300 → d.length ≤ 300 →
      (-1000 < h ∧ h < 1000) → (-1000 < mi ∧ mi < 1000) → (-1000 < s ∧ s < 1000) → PgRun r (putNZ (putNZ (putNZ es (Str.ofString "hours") h) (Str.ofString "minutes") mi) (Str.ofString "seconds") s) c fin → PgRun (x :: r) es c fin
  | mark {r es c fin} : PgRun r es c fin → PgRun (Str.ofString "@" :: r) es c fin
  | ago {r es c fin} : (∀ p ∈ es, -1000 < p.2 ∧ p.2 < 1000) → PgRun r (es.map fun p => (p.1, -1 * p.2)) c fin → PgRun (Str.ofString "ago" :: r) es c fin
  | num {x r es c fin n} : x.length ≤ 300 → hasColon x = false → (x == Str.ofString "@") = false → (x == Str.ofString "ago") = false → PySem.intText? x = some n → PgRun r es (some n) fin → PgRun (x :: r) es c fin
  | unit {x u r es n fin} : x.length ≤ 300 → hasColon x = false → (x == Str.ofString "@") = false → (x == Str.ofString "ago") = false → PySem.intText? x = none → unitTab.lookup x = some u → PgRun r (putI es u n) (some n) fin → PgRun (x :: r) es (some n) fin
/-- what stands between two words -/
def PgRS (w : World) (fin : List (Str × Int)) (d : Addr) (lp : Addr × Obj) (r : List Value) (m : Str → Option Value) (n : List (Addr × Obj)) : Prop :=
  ∃ o kvs es c ct, ∃ l : List (Str × Tok), n = [(d, o), lp] ∧ r = strValues l ∧ o.IsDictOf (strKind pg w) kvs ∧ KI kvs es ∧ (∀ p ∈ es, p.1 ∈ kwNames) ∧ m (Str.ofString "cls") = some (.ref 108) ∧ m (Str.ofString "t") = some (.ref d) ∧ m (Str.ofString "curr_val") = some (optV c ct) ∧ PgRun (l.map (·.1)) es c fin
/-- behind a number put under its name, but no 0 -/
def PutEnd (w : World) (g : Heap) (L d : Addr) (m : Str → Option Value) (p1 p2 : Addr × Obj) (es : List (Str × Int)) (x : Str) (v : Int) (s : Shared) (f : Flow) (s' : Shared) : Prop :=
  f = .next ∧ ∃ h' tk o' kvs', s' = { s with heap := h', toks := tk } ∧ o'.IsDictOf (strKind pg w) kvs' ∧ KI kvs' (putNZ es x v) ∧ Fr g L h' m ∧ News g L h' [p1, p2, (d, o')]
theorem PutEnd.put {w : World} {g h' : Heap} {L d : Addr} {m : Str → Option Value} {p1 p2 : Addr × Obj} {es : List (Str × Int)} {x : Str} {v : Int} {t : Tok} {s : Shared} {tk : Nat} {o' : Obj} {kvs : List (Str × Value)} (hv : v ≠ 0) (hD : o'.IsDictOf (strKind pg w) (stored kvs x (.int v t))) (hK : KI kvs es) (F : Fr g L h' m) (N : News g L h' [p1, p2, (d, o')]) :
    PutEnd w g L d m p1 p2 es x v s .next { s with heap := h', toks := tk } := ⟨rfl, h', tk, o', _, rfl, hD, by rw [putNZ, if_neg hv]; exact KI.put hK, F, N⟩
theorem PutEnd.zero {w : World} {g h' : Heap} {L d : Addr} {m : Str → Option Value} {p1 p2 : Addr × Obj} {es : List (Str × Int)} {x : Str} {v : Int} {s : Shared} {tk : Nat} {o' : Obj} {kvs : List (Str × Value)} (hv : v = 0) (hD : o'.IsDictOf (strKind pg w) kvs) (hK : KI kvs es) (F : Fr g L h' m) (N : News g L h' [p1, p2, (d, o')]) :
    PutEnd w g L d m p1 p2 es x v s .next { s with heap := h', toks := tk } := ⟨rfl, h', tk, o', _, rfl, hD, by rw [putNZ, if_pos hv]; exact hK, F, N⟩
theorem cutPut {M : Model} {A : Around} {E : Value → Shared → Prop} {s : Shared} {t : Sem Flow} {Q : Flow → Shared → Prop} {w : World} {g : Heap} {L d : Addr} {m : Str → Option Value} {p1 p2 : Addr × Obj} {o : Obj} (es : List (Str × Int)) (x : Str) (v : Int)
    (F : Fr g L s.heap m) (N : News g L s.heap [p1, p2, (d, o)]) (hk : ∀ p ∈ es, p.1 ∈ kwNames) (hx : x ∈ kwNames)
    (h : wpAny M A t (PutEnd w g L d m p1 p2 es x v s) E s)
    (k : ∀ h' tk o' kvs', o'.IsDictOf (strKind pg w) kvs' → KI kvs' (putNZ es x v) → (∀ p ∈ putNZ es x v, p.1 ∈ kwNames) → Fr g L h' m → News g L h' [p1, p2, (d, o')] → Q .next { s with heap := h', toks := tk }) : wpAny M A t Q E s :=
  wpAny_mono h (fun f s' ⟨e, h', tk, o', kvs', e', hD, hK, F', N'⟩ => by
    subst e e'
    refine k h' tk o' kvs' hD hK ?_ F' N'
    unfold putNZ
    split
    · exact hk
    · exact putI_mem hk hx) fun _ _ x => x
theorem ite_t {b : Bool} {p q : Prop} (hb : b = true) (k : p) : if b = true then p else q := by rw [if_pos hb]; exact k
theorem ite_f {b : Bool} {p q : Prop} (hb : b = false) (k : q) : if b = true then p else q := by rw [if_neg (by rw [hb]; decide)]; exact k
theorem Fr.as {g h : Heap} {L : Addr} {m m' : Str → Option Value} (F : Fr g L h m) (e : ∀ y, m y = m' y) : Fr g L h m' := (funext e : m = m') ▸ F
section
variable {w : World} {A₀ A : Around} {base g₀ : Heap} {outer : List Env} {loose : List Str} {mean : ExcName → Option Value} {mg mb : Str → Option Value} {s : Shared} {env : Env} {px : Pos} {xn : Str} {body : List Stmt} {Q : Flow → Shared → Prop}
  {m₀ : Str → Option Value} {news : List (Addr × Obj)} {ax d : Addr} {o : Obj} {l : List (Str × Tok)} {fin : List (Str × Int)}
theorem pgLoop (hh : A.handled = none) (G : Ground3 w A₀ base outer loose mean mg mb g₀) (F : Fr g₀ env.locals s.heap m₀) (N : News g₀ env.locals s.heap [(ax, W.listOf (strValues l).toArray 0), (d, o)]) (hD : o.IsDictOf (strKind pg w) [])
    (hm1 : m₀ (Str.ofString "cls") = some (.ref 108)) (hm2 : m₀ (Str.ofString "t") = some (.ref d)) (hm3 : m₀ (Str.ofString "curr_val") = some .none) (hr : PgRun (l.map (·.1)) [] none fin)
    (hx : env.kindOf xn = some .local) (hp : (env.scope.kind == .class || (env.scope.kind == .module && env.locals != env.globals)) = false) (hne1 : xn ≠ Str.ofString "cls") (hne2 : xn ≠ Str.ofString "t") (hne3 : xn ≠ Str.ofString "curr_val")
    (turn : ∀ I : Addr, @LT.lt Nat _ d I → @LT.lt Nat _ ax I → @Ne Nat d ax → ∀ g v u l' (m : Str → Option Value) it h tk o kvs es c ct, Ground3 w A₀ base outer loose mean mg mb g → it.cls = .type "list_iterator" → o.IsDictOf (strKind pg w) kvs → KI kvs es → (∀ p ∈ es, p.1 ∈ kwNames) → PgRun (v :: l'.map (·.1)) es c fin →
      Fr g env.locals h (fun y => if y = xn then some (.str v u) else if y = Str.ofString "curr_val" then some (optV c ct) else if y = Str.ofString "t" then some (.ref d) else if y = Str.ofString "cls" then some (.ref 108) else m y) →
      News g env.locals h [(I, it), (ax, W.listOf (strValues l).toArray 0), (d, o)] →
      wpC (model pg w) A (execs body env) (TurnEnd w A₀ base outer loose mean mg mb g env.locals { s with heap := h, toks := tk } I it (ax, W.listOf (strValues l).toArray 0) (PgRS w fin d (ax, W.listOf (strValues l).toArray 0) (strValues l')) Q) NoE { s with heap := h, toks := tk })
    (done : ∀ g (m : Str → Option Value) h tk o kvs, Ground3 w A₀ base outer loose mean mg mb g → o.IsDictOf (strKind pg w) kvs → KI kvs fin → (∀ p ∈ fin, p.1 ∈ kwNames) →
      Fr g env.locals h (fun y => if y = Str.ofString "t" then some (.ref d) else if y = Str.ofString "cls" then some (.ref 108) else m y) → News g env.locals h [(d, o)] → KtsTurn (framesOf outer) g₀ g → Q .next { s with heap := h, toks := tk }) :
    wpAny (model pg w) A (pyIter (.ref ax)) (fun it s₂ => codeC (model pg w) A (.forLoop (.Name xn px) it body [] env) (fun r s' => match r with | .ok f => Q f s' | .error e => cameBackBy (model pg w) A env NoE e s') s₂) NoE s := by
  have hda : @Ne Nat d ax := fun e => by
    have h1 := (N _ (.head _)).1
    have h2 := (N _ (.tail _ (.head _))).1
    have e' : d = ax := e
    rw [e', h1] at h2
    cases h2
    obtain ⟨_, _, _, x, _⟩ := hD
    cases x
  refine iter_listC (PgRS w fin d (ax, W.listOf (strValues l).toArray 0)) hh G F (news := [(d, o), (ax, W.listOf (strValues l).toArray 0)]) (fun p hp => N p (by
    simp only [List.mem_cons, List.not_mem_nil, or_false] at hp ⊢
    rcases hp with h | h <;> simp [h])) (.tail _ (.head _)) rfl rfl (by intros; exact wpAny_pure (by assumption)) ?_ ?_ ?_
  · exact ⟨o, [], [], none, 0, l, rfl, rfl, hD, .nil, (fun _ h => (nomatch h)), hm1, hm2, hm3, hr⟩
  · intro I hI g v r m news' it h tk hT hG hS hic hoff hF hN
    obtain ⟨o, kvs, es, c, ct, l', rfl, hrl, hD, hK, hk, h1, h2, h3, hrun⟩ := hS
    cases l' with
    | nil => cases hrl
    | cons p l' =>
      obtain ⟨x, u⟩ := p
      simp only [strValues, List.map_cons, List.cons.injEq] at hrl
      obtain ⟨rfl, rfl⟩ := hrl
      refine wpAny_assign_Name (wpAny_storeName_local hx hF.ns (fun h₂ hn₂ hs₂ => ?_) hp)
      refine wpC.mono (turn I (hI (d, _) (.head _)) (hI (ax, _) (.tail _ (.head _))) hda g x u l' m it h₂ _ o kvs es c ct hG hic hD hK hk hrun (Fr.as (hF.set hn₂ hs₂) ?_) ?_) (fun f s₃ h₃ => by cases f <;> exact h₃) fun _ _ x => x
      · intro y
        by_cases e1 : y = xn
        · simp [e1]
        · by_cases e2 : y = Str.ofString "curr_val"
          · subst e2; simp [e1, h3]
          · by_cases e3 : y = Str.ofString "t"
            · subst e3; simp [e1, e2, h2]
            · by_cases e4 : y = Str.ofString "cls"
              · subst e4; simp [e1, e2, e3, h1]
              · simp [e1, e2, e3, e4]
      · intro p hp
        have := fun q hq => (hN q hq)
        have e : p ∈ [(I, it), (d, o), (ax, W.listOf (strValues l).toArray 0)] := by
          simp only [List.mem_cons, List.not_mem_nil, or_false] at hp ⊢
          rcases hp with h | h | h <;> simp [h]
        exact ⟨(hs₂.2 _ (hN p e).2.1).trans (hN p e).1, (hN p e).2⟩
  · intro g m news' h tk hT hG hS hF hN
    obtain ⟨o, kvs, es, c, ct, l', rfl, hrl, hD, hK, hk, h1, h2, h3, hrun⟩ := hS
    cases l' with
    | cons p l' => cases hrl
    | nil =>
      cases hrun
      refine done g m h tk o kvs hG hD hK hk (Fr.as hF ?_) (fun p hp => hN p ?_) hT
      · intro y
        by_cases e3 : y = Str.ofString "t"
        · subst e3; simp [h2]
        · by_cases e4 : y = Str.ofString "cls"
          · subst e4; simp [e3, h1]
          · simp [e3, e4]
      · rw [List.mem_singleton.mp hp]; exact .head _
end
set_option maxRecDepth 100000 in
set_option maxHeartbeats 8000000 in
theorem pgr_spec (w : World) (x : Str) (t : Tok) (ws : List Str) (fin : List (Str × Int)) (hx : x.length ≤ 300) (hw : Txt.words x = ws) (hr : PgRun ws [] none fin) : MeetsT w 9 (.ref 43) [.ref 108, .str x t] [] [] fun v new => ReadsTo w (ivOf fin) v new := by
  have bh : BindHint [(Str.ofString "cls", .ref 108), (Str.ofString "interval_str", .str x t)] := ⟨trivial⟩
  walk_at "mine enterT"
  refine wpC.execs_cons (wpC.any ?_)
  walk_at "mine steps"
  dsimp only
  refine wpC.execs_cons (wpC.any ?_)
  walk_at "mine steps"
  dsimp only
  refine wpC.execs_cons (wpC.For ?_)
  walk_at "mine steps"
  dsimp only
  rename News _ _ _ _ => hN
  rename Fr _ _ _ _ => hF
  rename Ground3 _ _ _ _ _ _ _ _ _ => hG
  rename List.map _ _ = _ => hlw
  refine pgLoop (by exact rfl) hG hF hN (by assumption) rfl rfl rfl (by rw [hlw, hw]; exact hr) (by exact rfl) (by exact rfl) (by decide) (by decide) (by decide) ?turn ?done
  case done =>
    clear hF hN
    intro g m h' tk' o kvs hG' hD hK hk hF' hN' hT
    have B2 := Ground3.B hG'
    have X2 := Ground3.X hG'
    have T2 := Ground3.T hG'
    dsimp only
    refine wpC.execs_cons (wpC.any ?_)
    walk_at "mine to make"
    have hz : fin.length ≤ 1000 := Nat.le_trans (dict_small hD hK hk) (by decide)
    walk_at "mine spread"
    walk_at "mine steps"
    dsimp only
    refine ⟨_, hT, ?_⟩
    walk_at "mine done"
  case turn =>
    clear hF hN
    intro I hI hI2 hI3 g v u l' m it h' tk' o kvs es c ct hG' hic hD hK hk hrun hF' hN'
    have B2 := Ground3.B hG'
    have X2 := Ground3.X hG'
    have T2 := Ground3.T hG'
    cases hrun with
    | mark hrun =>
      refine wpC.any ?_
      walk_at "mine to ite"
      refine ite_f (by decide +kernel) ?_
      walk_at "mine to ite"
      refine ite_t (by decide +kernel) ?_
      walk_at "mine steps"
      dsimp only
      refine TurnEnd.cont .refl hG' (by assumption) (News.sub (by assumption) (by walk_at "mine sub")) (.tail _ (.head _)) ?_ ⟨o, kvs, es, _, _, l', rfl, rfl, hD, hK, hk, rfl, rfl, rfl, hrun⟩
      refine List.forall_mem_cons.mpr ⟨Nat.ne_of_lt hI, List.forall_mem_cons.mpr ⟨Nat.ne_of_lt hI2, List.forall_mem_nil _⟩⟩
    | @time _ wa wb wd _ _ _ _ hh mm ss hz1 hc1 hsp i1 i2 i3 z1 z2 z3 b1 b2 b3 hrun =>
      refine wpC.any ?_
      walk_at "mine to ite"
      refine ite_t hc1 ?_
      walk_at "mine to if"
      walk_at "mine tidy"
      (rename News _ _ _ _ => hN)
      replace hN := News.pick [1, 2, 3] hN
      change News _ _ _ [_, _, _] at hN
      refine cutPut (w := w) es (Str.ofString "hours") hh (by assumption) (by assumption) (by assumption) (by decide) ?_ ?_
      · walk_at "mine steps"
        all_goals first
          | exact PutEnd.put (by assumption) (by assumption) (by assumption) (by assumption) (News.sub (by assumption) (by walk_at "mine sub"))
          | exact PutEnd.zero (by assumption) (by assumption) (by assumption) (by assumption) (News.sub (by assumption) (by walk_at "mine sub"))
      clear hN
      intro h' tk o' kvs' hD' hK' hk' F' N'
      k_sweep
      walk_at "mine to if"
      (rename News _ _ _ _ => hN)
      replace hN := News.pick [0, 1, 2] hN
      change News _ _ _ [_, _, _] at hN
      refine cutPut (w := w) (putNZ es (Str.ofString "hours") hh) (Str.ofString "minutes") mm (by assumption) (by assumption) (by assumption) (by decide) ?_ ?_
      · walk_at "mine steps"
        all_goals first
          | exact PutEnd.put (by assumption) (by assumption) (by assumption) (by assumption) (News.sub (by assumption) (by walk_at "mine sub"))
          | exact PutEnd.zero (by assumption) (by assumption) (by assumption) (by assumption) (News.sub (by assumption) (by walk_at "mine sub"))
      clear hN
      intro h' tk o' kvs' hD' hK' hk' F' N'
      k_sweep
      walk_at "mine to if"
      (rename News _ _ _ _ => hN)
      replace hN := News.pick [0, 1, 2] hN
      change News _ _ _ [_, _, _] at hN
      refine cutPut (w := w) (putNZ (putNZ es (Str.ofString "hours") hh) (Str.ofString "minutes") mm) (Str.ofString "seconds") ss (by assumption) (by assumption) (by assumption) (by decide) ?_ ?_
      · walk_at "mine steps"
        all_goals first
          | exact PutEnd.put (by assumption) (by assumption) (by assumption) (by assumption) (News.sub (by assumption) (by walk_at "mine sub"))
          | exact PutEnd.zero (by assumption) (by assumption) (by assumption) (by assumption) (News.sub (by assumption) (by walk_at "mine sub"))
      clear hN
      intro h' tk o' kvs' hD' hK' hk' F' N'
      k_sweep
      walk_at "mine steps"
      refine TurnEnd.next .refl hG' (by assumption) (News.sub (by assumption) (by walk_at "mine sub")) (.tail _ (.head _)) ?_ ⟨_, _, _, _, _, l', rfl, rfl, by assumption, by assumption, by assumption, rfl, rfl, rfl, hrun⟩
      refine List.forall_mem_cons.mpr ⟨Nat.ne_of_lt hI, List.forall_mem_cons.mpr ⟨Nat.ne_of_lt hI2, List.forall_mem_nil _⟩⟩
    | ago hb hrun =>
      refine wpC.any ?_
      walk_at "mine to ite"
      refine ite_f (by decide +kernel) ?_
      walk_at "mine to ite"
      refine ite_f (by decide +kernel) ?_
      walk_at "mine to ite"
      refine ite_t (by decide +kernel) ?_
      refine wpAny_execs_cons (wpAny_For ?_)
      walk_at "mine steps"
      have hnd : (es.map (·.1)).Nodup := by
        rw [← hK.keys]
        obtain ⟨_, _, _, _, _, _, hn⟩ := hD
        exact hn
      (rename News _ _ _ _ => hN)
      replace hN := News.pick [3, 0, 1, 2] hN
      change News _ _ _ [_, _, _, _] at hN
      (rename Fr _ _ _ _ => hF)
      refine ago_call (by exact rfl) hF hN (.tail _ (.head _)) hD (dict_fits hD hK hk) ?_
      clear hF hN
      intro T as tups h₂ tk₂ hl hp hto hTd F₂ N₂
      refine iter_tupA (AgoS w _ es c ct) (by exact rfl) F₂ N₂ (.head _) (offApp hTd hto ?hd) ⟨kvs, hD, hK, rfl, rfl, rfl⟩ ?turn ?done
      case hd =>
        refine List.forall_mem_cons.mpr ⟨?_, List.forall_mem_cons.mpr ⟨?_, List.forall_mem_cons.mpr ⟨?_, List.forall_mem_nil _⟩⟩⟩
        all_goals (show @Ne Nat _ _; omega)
      case done =>
        intro m o₂ h₃ tk₃ hS hF hN
        rw [hl, hK.length] at hS
        obtain ⟨kvs', hD', hK', hm1, hm2, hm3⟩ := hS
        rw [negAt_all] at hK'
        have N₄ := News.sub hN (List.forall_mem_cons.mpr ⟨.tail _ (.tail _ (List.mem_append_right _ (.tail _ (.head _)))), List.forall_mem_cons.mpr ⟨.head _, List.forall_mem_cons.mpr ⟨.tail _ (.tail _ (List.mem_append_right _ (.tail _ (.tail _ (.head _))))), List.forall_mem_nil _⟩⟩⟩)
        have hk' : ∀ p ∈ es.map (fun p => (p.1, -1 * p.2)), p.1 ∈ kwNames := fun p hp => by
          obtain ⟨q, hq, rfl⟩ := List.mem_map.mp hp
          exact hk q hq
        dsimp only
        walk_at "mine steps"
        refine TurnEnd.next .refl hG' hF N₄ (.tail _ (.head _)) ?_ ⟨_, _, _, _, _, l', rfl, rfl, hD', hK', hk', hm1, hm2, hm3, hrun⟩
        refine List.forall_mem_cons.mpr ⟨Nat.ne_of_lt hI, List.forall_mem_cons.mpr ⟨Nat.ne_of_lt hI2, List.forall_mem_nil _⟩⟩
      case turn =>
        intro J itJ hJd hJr hdr j a m o₂ h₃ tk₃ hj hS hF hN
        obtain ⟨kvs', hD', hK', hm1, hm2, hm3⟩ := hS
        obtain ⟨kk, kx, ku, hkv, hmem⟩ := hp j a hj
        obtain ⟨nn, tn, hes, rfl⟩ := hK.at hkv
        have hbb := hb _ (List.mem_of_getElem? hes)
        have ha : @Ne Nat a _ := hto _ hmem
        have F₃ := Fr.as (m' := fun y => if y = Str.ofString "curr_val" then some (optV c ct) else if y = Str.ofString "t" then some (.ref _) else if y = Str.ofString "cls" then some (.ref 108) else m y) hF (fun y => by
          by_cases e2 : y = Str.ofString "curr_val"
          · subst e2; rw [if_pos rfl]; exact hm3
          · by_cases e3 : y = Str.ofString "t"
            · subst e3; rw [if_neg e2, if_pos rfl]; exact hm2
            · by_cases e4 : y = Str.ofString "cls"
              · subst e4; rw [if_neg e2, if_neg e3, if_pos rfl]; exact hm1
              · rw [if_neg e2, if_neg e3, if_neg e4])
        have N₃ : News _ _ _ ((_, o₂) :: (a, pairObj (.str kk ku) (.int nn tn)) :: (J, itJ) :: _) := fun p hp => by
          rcases List.mem_cons.mp hp with rfl | hp
          · exact hN _ (.head _)
          · rcases List.mem_cons.mp hp with rfl | hp
            · exact hN _ (.tail _ (.tail _ (.tail _ (List.mem_append_left _ hmem))))
            · exact hN _ (.tail _ hp)
        have hoff₃ : ∀ q ∈ (a, pairObj (.str kk ku) (.int nn tn)) :: (J, itJ) :: _, @Ne Nat q.1 _ := List.forall_mem_cons.mpr ⟨ha, List.forall_mem_cons.mpr ⟨hJd, hdr⟩⟩
        have hk' : ∀ p ∈ negAt j es, p.1 ∈ kwNames := fun p hp => by
          have hp' := List.mem_map_of_mem (f := fun p : Str × Int => p.1) hp
          rw [negAt_keys] at hp'
          obtain ⟨q, hq, e⟩ := List.mem_map.mp hp'
          try dsimp only at e
          rw [← e]; exact hk q hq
        clear hF hN F₂ N₂
        walk_at "mine steps"
        rename News _ _ _ _ => hN
        refine ⟨rfl, _, _, _, _, rfl, by assumption, fun p hp => ?_, AgoS.step hnd hes hK' (by assumption) rfl rfl rfl⟩
        rcases List.mem_cons.mp hp with rfl | hp
        · exact hN _ (.head _)
        · exact hN _ (.tail _ (.tail _ hp))
    | @num _ _ _ _ _ nn hz1 hc1 hn1 hn2 hi hrun =>
      refine wpC.any ?_
      walk_at "mine to ite"
      refine ite_f hc1 ?_
      walk_at "mine to ite"
      refine ite_f hn1 ?_
      walk_at "mine to ite"
      refine ite_f hn2 ?_
      walk_at "mine to ite"
      refine TurnEnd.next .refl hG' (by assumption) (News.sub (by assumption) (by walk_at "mine sub")) (.tail _ (.head _)) ?_ ⟨o, kvs, es, _, _, l', rfl, rfl, hD, hK, hk, rfl, rfl, rfl, hrun⟩
      refine List.forall_mem_cons.mpr ⟨Nat.ne_of_lt hI, List.forall_mem_cons.mpr ⟨Nat.ne_of_lt hI2, List.forall_mem_nil _⟩⟩
    | @unit _ uu _ _ nn _ hz1 hc1 hn1 hn2 hi hu hrun =>
      refine wpC.execs_cons (wpC.If (wpC.any ?_))
      walk_at "mine to ite"
      refine ite_f hc1 ?_
      refine wpC.execs_cons (wpC.If (wpC.any ?_))
      walk_at "mine to ite"
      refine ite_f hn1 ?_
      refine wpC.execs_cons (wpC.If (wpC.any ?_))
      walk_at "mine to ite"
      refine ite_f hn2 ?_
      refine wpC.execs_cons (wpC.Try (wpC.execs_cons (wpC.Assign (wpC.nameCall ?_))))
      walk_at "mine steps"
      refine wpC.callWith_T ?_
      walk_at "mine steps"
      refine int_refused hi (by omega) (unit_facts _ (of_lookup hu)).1 (by exact rfl) fun h₂ tk₂ e hx => ?_
      refine caught_new hG' (by assumption) (by assumption) hx (by exact rfl) ?_ rfl rfl .never
      intro h₃ g₃ hT₃ hF₃ hN₃ hG₃
      have B3 := Ground3.B hG₃
      have X3 := Ground3.X hG₃
      have T3 := Ground3.T hG₃
      walk_at "mine steps"
      repeat (dsimp only; refine wpC.execs_nil ?_)
      try dsimp only
      refine TurnEnd.next hT₃ hG₃ (by assumption) (News.sub (by assumption) (by walk_at "mine sub")) (.tail _ (.head _)) ?_ ⟨_, _, _, some nn, _, l', rfl, rfl, by assumption, KI.put hK, putI_mem hk (unit_facts _ (of_lookup hu)).2.2.1, rfl, rfl, rfl, hrun⟩
      refine List.forall_mem_cons.mpr ⟨Nat.ne_of_lt hI, List.forall_mem_cons.mpr ⟨Nat.ne_of_lt hI2, List.forall_mem_nil _⟩⟩

end Mine
end
section
example : True := by (w_top off); trivial
open PySem PySem.W PyProof.Rows
set_option Elab.async false
namespace Mine
local macro_rules | `(tactic| walk_at "mine pad0") => `(tactic| skip)
example (w : World) : (∀ h, (lawTop.heap_39 w.params).In h → PySem.Challenge.rw_ew0023_01 = PySem.Challenge.rw_ew0023_01) := by k_fill; intros; rfl
local macro_rules | `(tactic| k_room) => `(tactic| ktr_room)
local macro_rules | `(tactic| walk_at "mine enter") => `(tactic| (rename BindHint _ => bh; unfold Meets; intro loose mean mg mb dp un gd cn sn sg sc sm a ccd cl outer A₀ base h₀ L m s Q E news B F X N ha T hd hu ret; refine wpAny_call ?_; k_dflt (first
  | (refine' enterM (by assumption) B F X N ha T ?kA ?kF ?kK ?k6 ?k7 ?k8 ?k9 ?kB ret ?_ ?c2 ?c3 ?c4 ?c5; (case kA => exact rfl); (case kF => exact rfl); (case kK => exact rfl); (case k6 => k_is); (case k7 => k_is); (case k8 => k_room); (case k9 => first | exact BindsTo.of_eq rfl | exact binds_K (Frag.In.keeps X (Fr.keep F)) rfl (by k_is) rfl rfl rfl); (case c5 => decide); (case kB => exact locs rfl); (case c2 => exact rfl); (case c3 => exact rfl); (case c4 => exact rfl); k_whole; clear B F X N ha T ret bh; intro g' L' h' F' N' l1 B' X' T'; (try k_lt l1); (try dsimp only); (try k_fold))
  | (refine' enterC (by assumption) B F X N ha T ?kA ?kF ?kK ?k6 ?k7 ?k8 ?k9 ?kB ?kD ret ?_ ?c2 ?c3 ?c4; (case kA => exact rfl); (case kF => exact rfl); (case kK => exact rfl); (case k6 => k_is); (case k7 => k_is); (case k8 => k_room); (case k9 => first | exact BindsTo.of_eq rfl | exact binds_K (Frag.In.keeps X (Fr.keep F)) rfl (by k_is) rfl rfl rfl); (case kB => exact rfl); (case kD => decide +kernel); (case c2 => exact rfl); (case c3 => exact rfl); (case c4 => exact rfl); k_whole; clear B F X N ha T ret bh; intro g' L' h' tk' cells' F' N' Y' l1 B' X' T'; (try k_lt l1); k_cells Y'; (try simp only [List.cons_append, List.nil_append] at N'); (try dsimp only); (try k_fold)))))
local macro_rules | `(tactic| walk_at "exec Assign cons ListComp") => `(tactic| (k_here; (with_reducible show wpAny _ _ (exec (Stmt.Assign _ (Expr.ListComp _ [⟨_, Expr.Tuple _ _ _, _, _⟩] _ _) _) _) _ _ _); k_dflt (refine assign_compTup (F₀ := by k_asm) (by rfl) (by with_unfolding_all rfl) (by with_unfolding_all rfl) (by decide) (by rfl) (by decide) (by rfl) (by rfl) (by rfl) ?_)))
local macro_rules | `(tactic| walk_at "TupSrc") => `(tactic| (k_here; k_dflt (refine TupSrc.of (by rfl) (by k_asm) (by k_asm) (by k_mem) (by first | size_fits | exact Nat.le_of_ble_eq_true rfl) ?_); intro g'; lcg_lit))
local macro_rules | `(tactic| lcg_src) => `(tactic| exact ⟨_, by k_mem, rfl, _, rfl⟩)
local macro_rules | `(tactic| walk_at "CompEnd") => `(tactic| (k_here; k_dflt (refine compEnd_same (by assumption) (by assumption) (by (simp only [LCg.Off3, and_true]; assumption)) (by lcg_src) ?_)))
local macro_rules | `(tactic| k_handed) => `(tactic| exact handed_optV _ _)
local macro_rules | `(tactic| walk_at "mine sub") => `(tactic| first | exact List.forall_mem_nil _ | (refine List.forall_mem_cons.mpr ⟨by k_mem, ?_⟩; walk_at "mine sub"))
local macro_rules | `(tactic| walk_at "mine off1") => `(tactic| first | exact List.forall_mem_nil _ | (refine List.forall_mem_cons.mpr ⟨by k_ne, ?_⟩; walk_at "mine off1"))
local macro_rules | `(tactic| walk_at "mine off") => `(tactic| first | exact List.forall_mem_nil _ | (refine List.forall_mem_cons.mpr ⟨?a, ?b⟩; (case a => walk_at "mine off1"); (case b => walk_at "mine off")))

local macro_rules | `(tactic| walk_at "mine done") => `(tactic| first | exact Done.intro (by assumption) (by assumption) ⟨_, rfl, rfl⟩ (by walk_at "mine sub") (by walk_at "mine sub") (by walk_at "mine off") | exact Done.intro (by assumption) (by assumption) ⟨_, _, rfl, rfl⟩ (by walk_at "mine sub") (by walk_at "mine sub") (by walk_at "mine off") | exact Done.intro (by assumption) (by assumption) ⟨_, _, _, rfl, rfl⟩ (by walk_at "mine sub") (by walk_at "mine sub") (by walk_at "mine off") | exact Done.intro (by assumption) (by assumption) ⟨_, _, _, _, rfl, rfl⟩ (by walk_at "mine sub") (by walk_at "mine sub") (by walk_at "mine off") | exact Done.intro (by assumption) (by assumption) ⟨_, _, _, _, _, rfl, rfl⟩ (by walk_at "mine sub") (by walk_at "mine sub") (by walk_at "mine off") | exact Done.intro (by assumption) (by assumption) ⟨_, _, _, _, _, _, rfl, rfl⟩ (by walk_at "mine sub") (by walk_at "mine sub") (by walk_at "mine off") | exact Done.intro (by assumption) (by assumption) ⟨_, _, _, _, _, _, _, rfl, rfl⟩ (by walk_at "mine sub") (by walk_at "mine sub") (by walk_at "mine off") | exact Done.intro (by assumption) (by assumption) ⟨_, _, _, _, _, _, _, _, rfl, rfl⟩ (by walk_at "mine sub") (by walk_at "mine sub") (by walk_at "mine off") | exact Done.intro (by assumption) (by assumption) ⟨_, _, _, _, _, _, _, _, _, rfl, rfl⟩ (by walk_at "mine sub") (by walk_at "mine sub") (by walk_at "mine off") | exact Done.intro (by assumption) (by assumption) ⟨_, _, _, _, _, _, _, _, _, _, rfl, rfl⟩ (by walk_at "mine sub") (by walk_at "mine sub") (by walk_at "mine off") | exact Done.intro (by assumption) (by assumption) ⟨_, _, _, _, _, _, _, _, _, _, _, rfl, rfl⟩ (by walk_at "mine sub") (by walk_at "mine sub") (by walk_at "mine off") | exact Done.intro (by assumption) (by assumption) ⟨_, _, _, _, _, _, _, _, _, _, _, _, rfl, rfl⟩ (by walk_at "mine sub") (by walk_at "mine sub") (by walk_at "mine off") | exact Done.intro (by assumption) (by assumption) ⟨_, _, _, _, _, _, _, _, _, _, _, _, _, rfl, rfl⟩ (by walk_at "mine sub") (by walk_at "mine sub") (by walk_at "mine off"))
local macro_rules | `(tactic| walk_at "mine steps") => `(tactic| repeat' (first | (k_unfold; (try dsimp only)) | walk1 | (dsimp only; walk1) | fail "no step"))
local macro_rules | `(tactic| walk_at "subscriptTail Name Constant ref int") => `(tactic| (k_here; k_dflt (refine' item_led ?k0 ?km ?k2 ?k3 ?k4 ?_ ?k6; (case k0 => k_asm); (case km => k_mem); (case k2 => decide); (case k3 => decide); (case k4 => exact rfl); (case k6 => with_unfolding_all rfl); k_whole)))
local macro_rules | `(tactic| walk_at "subscriptTail Name Name ref int") => `(tactic| (k_here; k_dflt (refine' item_led ?k0 ?km ?k2 ?k3 ?k4 ?_ ?k6; (case k0 => k_asm); (case km => k_mem); (case k2 => decide); (case k3 => decide); (case k4 => exact rfl); (case k6 => with_unfolding_all rfl); k_whole)))
local macro_rules | `(tactic| walk_at "mine to if") => `(tactic| repeat ((fail_if_success (with_reducible show wpAny _ _ (exec (Stmt.If _ _ _ _) _) _ _ _)); (first | walk1 | (k_unfold; (try dsimp only)) | (dsimp only; walk1))))
local macro_rules | `(tactic| walk_at "mine to cmp") => `(tactic| repeat ((fail_if_success (with_reducible show wpAny _ _ (exec (Stmt.If (Expr.Compare _ _ _ _) _ _ _) _) _ _ _)); (first | walk1 | (k_unfold; (try dsimp only)) | (dsimp only; walk1))))
local macro_rules | `(tactic| walk_at "mine cutS end") => `(tactic| exact ⟨rfl, _, _, _, rfl, (by first | assumption | exact Fr.same (by assumption) (by rfl)), (by first | assumption | exact News.sub (by assumption) (by walk_at "mine sub"))⟩)
local macro_rules | `(tactic| walk_at "mine len") => `(tactic| first | with_reducible assumption | (with_reducible refine' len_int ?a; (case a => omega)) | (with_reducible refine' len_add ?a ?b; (case a => walk_at "mine len"); (case b => walk_at "mine len")) | with_reducible exact Nat.le_refl _)
local macro_rules | `(tactic| walk_at "binaryOp Add str str") => `(tactic| (k_here; (with_reducible show wpAny _ _ (binaryOp Operator.Add (Value.str _ _) (Value.str _ _)) _ _ _); (refine' add_short ?a ?b ?c ?_; (case a => walk_at "mine len"); (case b => walk_at "mine len"); (case c => k_dflt exact rfl)); intro _ _))
local macro_rules | `(tactic| walk_at "eval Name") => `(tactic| ((with_reducible refine' ld ?F ?hv ?_ ?hk ?hl ?hd); (case F => first | with_reducible assumption | k_dflt assumption); (case hv => k_dflt exact rfl); (case hk => k_dflt exact rfl); (case hl => k_dflt exact rfl); (case hd => decide)))
local macro_rules | `(tactic| walk_at "mine to iter") => `(tactic| repeat ((fail_if_success (with_reducible show wpAny _ _ (pyIter _) _ _ _)); (first | walk1 | (k_unfold; (try dsimp only)) | (dsimp only; walk1))))
local macro_rules | `(tactic| size_fits) => `(tactic| exact strV_fits (by omega))
local macro_rules | `(tactic| walk_at "mine cutV end") => `(tactic| exact ⟨⟨_, rfl⟩, _, _, rfl, by assumption, by first | assumption | exact News.sub (by assumption) (by walk_at "mine sub")⟩)
local macro_rules | `(tactic| walk_at "mine to ifexp") => `(tactic| repeat ((fail_if_success (with_reducible show wpAny _ _ (eval (Expr.IfExp _ _ _ _) _) _ _ _)); (first | walk1 | (k_unfold; (try dsimp only)) | (dsimp only; walk1))))
local macro_rules | `(tactic| walk_at "mine tidy") => `(tactic| repeat (first | (with_reducible rename LCg.NsObj _ _ => q; clear q) | (with_reducible rename (_ ≠ _ ∧ _ ≠ _ ∧ _ ≠ _) => q; clear q) | (with_reducible rename ((_ ≠ _ ∧ _ ≠ _ ∧ _ ≠ _) ∧ _) => q; clear q) | (with_reducible rename (_[_]? = some _) => q; clear q) | (with_reducible rename (_ ≠ _ ∧ _) => q; clear q)))
local macro_rules | `(tactic| walk_at "mine lt") => `(tactic| first | exact List.forall_mem_nil _ | (refine List.forall_mem_cons.mpr ⟨by (show @LT.lt Nat _ _ _; omega), ?_⟩; walk_at "mine lt"))
local macro_rules | `(tactic| walk_at "mine cutB end") => `(tactic| refine ⟨?_, _, _, rfl, (by assumption), (by first | assumption | exact News.sub (by assumption) (by walk_at "mine sub"))⟩)
local macro_rules | `(tactic| walk_at "mine to make") => `(tactic| repeat ((fail_if_success (with_reducible show wpAny _ _ (callWith _ (Value.ref _) [] _ _) _ _ _)); (first | walk1 | (k_unfold; (try dsimp only)) | (dsimp only; walk1))))
local macro_rules | `(tactic| walk_at "mine KI") => `(tactic| first | assumption | exact All2.nil | exact KI.put All2.nil | exact KI.put (KI.put All2.nil) | exact KI.put (KI.put (KI.put All2.nil)) | exact KI.put (KI.put (KI.put (KI.put All2.nil))) | exact KI.put (KI.put (KI.put (KI.put (KI.put All2.nil)))) | exact KI.put (KI.put (KI.put (KI.put (KI.put (KI.put All2.nil))))) | exact KI.put (KI.put (KI.put (KI.put (KI.put (KI.put (KI.put All2.nil)))))) | exact KI.put (KI.put (KI.put (KI.put (KI.put (KI.put (KI.put (KI.put All2.nil))))))))
local macro_rules | `(tactic| walk_at "mine kw") => `(tactic| first | assumption | exact (List.forall_mem_nil _) | exact (putI_mem (List.forall_mem_nil _) (by decide)) | exact (putI_mem (putI_mem (List.forall_mem_nil _) (by decide)) (by decide)) | exact (putI_mem (putI_mem (putI_mem (List.forall_mem_nil _) (by decide)) (by decide)) (by decide)) | exact (putI_mem (putI_mem (putI_mem (putI_mem (List.forall_mem_nil _) (by decide)) (by decide)) (by decide)) (by decide)) | exact (putI_mem (putI_mem (putI_mem (putI_mem (putI_mem (List.forall_mem_nil _) (by decide)) (by decide)) (by decide)) (by decide)) (by decide)) | exact (putI_mem (putI_mem (putI_mem (putI_mem (putI_mem (putI_mem (List.forall_mem_nil _) (by decide)) (by decide)) (by decide)) (by decide)) (by decide)) (by decide)) | exact (putI_mem (putI_mem (putI_mem (putI_mem (putI_mem (putI_mem (putI_mem (List.forall_mem_nil _) (by decide)) (by decide)) (by decide)) (by decide)) (by decide)) (by decide)) (by decide)) | exact (putI_mem (putI_mem (putI_mem (putI_mem (putI_mem (putI_mem (putI_mem (putI_mem (List.forall_mem_nil _) (by decide)) (by decide)) (by decide)) (by decide)) (by decide)) (by decide)) (by decide)) (by decide)))
local macro_rules | `(tactic| walk_at "mine kz") => `(tactic| first | (refine Nat.le_trans (putI_len _ _ _) ?_; refine Nat.succ_le_succ ?_; walk_at "mine kz") | exact Nat.zero_le _ | (simp only [List.length_nil]; omega) | omega)
local macro_rules | `(tactic| walk_at "mine spread") => `(tactic| (k_here; k_dflt (refine' spread_iv ?zhL ?zhI ?zhk ?zhz ?zB ?zF ?zX ?zN ?zT ?zhd ?zhu ?zhkw ?zhm ?zhy ?zhky ?zhdb ?zhf ?zlo ?zD ?_; (case zhL => exact rfl); (case zF => k_asm); (case zhkw => exact rfl); (case zhy => exact rfl); (case zN => k_asm); (case zhm => k_mem); (case zD => assumption); (case zlo => assumption); (case zhI => walk_at "mine KI"); (case zhk => walk_at "mine kw"); (case zhz => walk_at "mine kz"); (case zB => k_asm); (case zX => k_asm); (case zT => k_asm); (case zhd => ktr_room); (case zhu => ktr_units); (case zhky => exact rfl); (case zhdb => decide); (case zhf => exact rfl)); intro x' dx' kk' tt' h' tk' F' N' hne'; (try simp only [List.cons_append, List.nil_append] at N'); replace hne' := offA_of hne'; simp only [OffA, OffL, and_true, true_and] at hne'; k_sweep))
local macro_rules | `(tactic| walk_at "mine enterK") => `(tactic| (rename BindHint _ => bh; refine MeetsT.of ?_; intro loose mean mg mb dp un gd cn sn sg sc sm a ccd cl outer A₀ base h₀ L m s Q E news B F X N ha T hd hu ret; k_dflt (first
  | (refine' enterM (by assumption) B F X N ha T ?kA ?kF ?kK ?k6 ?k7 ?k8 ?k9 ?kB ret ?_ ?c2 ?c3 ?c4 ?c5; (case kA => exact rfl); (case kF => exact rfl); (case kK => exact rfl); (case k6 => k_is); (case k7 => k_is); (case k8 => k_room); (case k9 => first | exact BindsTo.of_eq rfl | exact binds_K (Frag.In.keeps X (Fr.keep F)) rfl (by k_is) rfl rfl rfl); (case c5 => decide); (case kB => exact locs rfl); (case c2 => exact rfl); (case c3 => exact rfl); (case c4 => exact rfl); k_whole; clear B F X N ha T ret bh; intro g' L' h' F' N' l1 B' X' T'; (try k_lt l1); (try dsimp only); (try k_fold))
  | (refine' enterC (by assumption) B F X N ha T ?kA ?kF ?kK ?k6 ?k7 ?k8 ?k9 ?kB ?kD ret ?_ ?c2 ?c3 ?c4; (case kA => exact rfl); (case kF => exact rfl); (case kK => exact rfl); (case k6 => k_is); (case k7 => k_is); (case k8 => k_room); (case k9 => first | exact BindsTo.of_eq rfl | exact binds_K (Frag.In.keeps X (Fr.keep F)) rfl (by k_is) rfl rfl rfl); (case kB => exact rfl); (case kD => decide +kernel); (case c2 => exact rfl); (case c3 => exact rfl); (case c4 => exact rfl); k_whole; clear B F X N ha T ret bh; intro g' L' h' tk' cells' F' N' Y' l1 B' X' T'; (try k_lt l1); k_cells Y'; (try simp only [List.cons_append, List.nil_append] at N'); (try dsimp only); (try k_fold)))))
local macro_rules | `(tactic| walk_at "call ref") => `(tactic| (k_here; k_dflt (refine' Meets.use (make_spec _ _ _ _ _ _ _ _ _ _ _ _ _ _ ?hb) ?k1 ?k2 ?k3 ?k4 ?ka ?k5 ?kd ?ku ?_; (case k1 => k_asm); (case k2 => k_asm); (case k3 => k_asm); (case k4 => k_asm); (case ka => walk_at "mine sub"); (case hb => first | exact ib_mds _ _ _ _ | exact ib_wd _ _ _ | exact ib_d _ _ | exact ib_pos _ _ _ _ _ _ _ _ _ _ _ _); (case k5 => k_asm); (case kd => ktr_room); (case ku => ktr_units)); intro v' new' h' tk' hP F' N' hne'; obtain ⟨x', dx', k', e1', e2'⟩ := hP; subst e1' e2'; (try simp only [List.cons_append, List.nil_append] at N'); replace hne' := offA_of hne'; simp only [OffA, OffL, and_true, true_and] at hne'; skip; k_sweep))
local macro_rules | `(tactic| walk_at "mine to ite") => `(tactic| repeat ((fail_if_success (with_reducible show ite _ _ _)); (first | walk1 | (k_unfold; (try dsimp only)) | (dsimp only; walk1))))
local macro_rules | `(tactic| walk_at "setItem ref str") => `(tactic| (k_here; (with_reducible show wpAny _ _ (setItem (Value.ref _) (Value.str _ _) (Value.int _ _)) _ _ _); k_dflt (refine' kda_set (knd := PySem.strKind _ _) ?F ?N ?U ?d (strKind_is _ _ _ _) ?z ?_; (case F => k_asm); (case N => k_asm); (case U => k_updF); (case d => assumption); (case z => exact dict_fits (by assumption) (by assumption) (by assumption))); intro h' o' F' N' hd'; (try dsimp only at N')))
local macro_rules | `(tactic| walk_at "subscriptTail") => `(tactic| (k_here; (with_reducible show wpAny _ _ (subscriptTail _ _ (Value.ref 24) (Value.bool _)) _ _ _); k_dflt (refine' item_24 ?X ?F ?_ ?hs ?hg; (case X => k_asm); (case F => k_asm); (case hs => with_unfolding_all rfl); (case hg => (intro _; with_unfolding_all rfl)))))
local macro_rules | `(tactic| walk_at "subscriptTail") => `(tactic| (k_here; (with_reducible show wpAny _ _ (subscriptTail _ _ (Value.ref (isoAt _)) (Value.str _ _)) _ _ _); k_dflt (refine' item_iso ?X ?F ?l ?_ ?hs ?hg; (case X => k_asm); (case F => k_asm); (case l => assumption); (case hs => with_unfolding_all rfl); (case hg => (intro _; with_unfolding_all rfl))); intro t'))
local macro_rules | `(tactic| walk_at "call builtin:str.join") => `(tactic| (k_here; k_dflt (refine' join_led ?N ?m ?n ?t ?s ?_; (case N => k_asm); (case m => k_mem); (case n => omega); (case t => assumption); (case s => decide)); intro t' k' hj'))
/-- what the iso reader makes of its signs -/
inductive IsoRun : List Nat → Bool → List Str → List (Str × Int) → List (Str × Int) → Prop
  | nil {b vs es} : IsoRun [] b vs es es
  | tee {r b vs es fin} : IsoRun r false vs es fin → IsoRun (84 :: r) b vs es fin
  | dig {c r b vs es fin} : Txt.isdigit ⟨#[c]⟩ = true → ((⟨#[c]⟩ : Str) == Str.ofString "T") = false → vs.length ≤ 30 → IsoRun r b (vs ++ [⟨#[c]⟩]) es fin → IsoRun (c :: r) b vs es fin
  | minus {r b vs es fin} : vs.length ≤ 30 → IsoRun r b (vs ++ [Str.ofString "-"]) es fin → IsoRun (45 :: r) b vs es fin
  | letter {c r b vs es fin n name} : isoTab b c = some name → PySem.intText? (Txt.join (Str.ofString "") vs) = some n → vs.length ≤ 30 → (∀ y ∈ vs, y.length ≤ 1000) → (Txt.join (Str.ofString "") vs).length ≤ 640 → IsoRun r b [] (putI es name n) fin → IsoRun (c :: r) b vs es fin
/-- what stands between two signs -/
def IsoS (w : World) (fin : List (Str × Int)) (d vl : Addr) (r : List Nat) (m : Str → Option Value) (n : List (Addr × Obj)) : Prop :=
  ∃ o kvs es b nn, ∃ l : List (Str × Tok), n = [(vl, W.listOf (strValues l).toArray nn), (d, o)] ∧ o.IsDictOf (strKind pg w) kvs ∧ KI kvs es ∧ (∀ p ∈ es, p.1 ∈ kwNames) ∧ m (Str.ofString "cls") = some (.ref 108) ∧ m (Str.ofString "kwargs") = some (.ref d) ∧ m (Str.ofString "val") = some (.ref vl) ∧ m (Str.ofString "lookup") = some (.ref (isoAt b)) ∧ IsoRun r b (l.map (·.1)) es fin
section
variable {w : World} {A : Around} {g : Heap} {s : Shared} {env : Env} {px : Pos} {xn : Str} {body : List Stmt} {Q : Flow → Shared → Prop} {m₀ : Str → Option Value} {vl d : Addr} {o : Obj} {x : Str} {t : Tok} {fin : List (Str × Int)}
theorem isoLoop (ha : x.cps.all (· < 128) = true) (hh : A.handled = none) (F : Fr g env.locals s.heap m₀) (N : News g env.locals s.heap [(vl, W.listOf #[] 0), (d, o)]) (hD : o.IsDictOf (strKind pg w) [])
    (hm1 : m₀ (Str.ofString "cls") = some (.ref 108)) (hm2 : m₀ (Str.ofString "kwargs") = some (.ref d)) (hm3 : m₀ (Str.ofString "val") = some (.ref vl)) (hm4 : m₀ (Str.ofString "lookup") = some (.ref (isoAt true))) (hr : IsoRun x.cps.toList true [] [] fin)
    (hv : env.kindOf xn = some .local) (hp : (env.scope.kind == .class || (env.scope.kind == .module && env.locals != env.globals)) = false) (hne1 : xn ≠ Str.ofString "cls") (hne2 : xn ≠ Str.ofString "kwargs") (hne3 : xn ≠ Str.ofString "val") (hne4 : xn ≠ Str.ofString "lookup")
    (turn : ∀ I : Addr, @LT.lt Nat _ d I → @LT.lt Nat _ vl I → @Ne Nat d vl → ∀ c r u (m : Str → Option Value) it h tk o kvs es b nn (l : List (Str × Tok)), o.IsDictOf (strKind pg w) kvs → KI kvs es → (∀ p ∈ es, p.1 ∈ kwNames) → IsoRun (c :: r) b (l.map (·.1)) es fin →
      Fr g env.locals h (fun y => if y = xn then some (.str ⟨#[c]⟩ u) else if y = Str.ofString "val" then some (.ref vl) else if y = Str.ofString "lookup" then some (.ref (isoAt b)) else if y = Str.ofString "kwargs" then some (.ref d) else if y = Str.ofString "cls" then some (.ref 108) else m y) →
      News g env.locals h [(I, it), (vl, W.listOf (strValues l).toArray nn), (d, o)] →
      wpAny (model pg w) A (execs body env) (ChEnd g env.locals { s with heap := h, toks := tk } I it (IsoS w fin d vl r)) NoE { s with heap := h, toks := tk })
    (done : ∀ (m : Str → Option Value) h tk o kvs vo, o.IsDictOf (strKind pg w) kvs → KI kvs fin → (∀ p ∈ fin, p.1 ∈ kwNames) →
      Fr g env.locals h (fun y => if y = Str.ofString "kwargs" then some (.ref d) else if y = Str.ofString "cls" then some (.ref 108) else m y) → News g env.locals h [(vl, vo), (d, o)] → Q .next { s with heap := h, toks := tk }) :
    wpAny (model pg w) A (pyIter (.str x t)) (fun it s₂ => codeAny (model pg w) A (.forLoop (.Name xn px) it body [] env) (fun r s' => match r with | .ok f => Q f s' | .error e => cameBackBy (model pg w) A env NoE e s') s₂) NoE s := by
  have hda : @Ne Nat d vl := fun e => by
    have h1 := (N _ (.head _)).1
    have h2 := (N _ (.tail _ (.head _))).1
    have e' : d = vl := e
    rw [e', h1] at h2
    cases h2
    obtain ⟨_, _, _, x, _⟩ := hD
    cases x
  refine iter_strA (IsoS w fin d vl) ha hh F N hv hp ⟨o, [], [], true, _, [], rfl, hD, .nil, (fun _ h => (nomatch h)), hm1, hm2, hm3, hm4, hr⟩ ?_ ?_
  · intro I hI c r m n it h tk u hS hoff hF hN
    obtain ⟨o, kvs, es, b, nn, l, rfl, hD, hK, hk, h1, h2, h3, h4, hrun⟩ := hS
    refine turn I (hI (d, _) (.tail _ (.head _))) (hI (vl, _) (.head _)) hda c r u m it h tk o kvs es b nn l hD hK hk hrun (Fr.as hF fun y => ?_) hN
    by_cases e1 : y = xn
    · simp [e1]
    · by_cases e2 : y = Str.ofString "val"
      · subst e2; simp [e1, h3]
      · by_cases e3 : y = Str.ofString "lookup"
        · subst e3; simp [e1, e2, h4]
        · by_cases e4 : y = Str.ofString "kwargs"
          · subst e4; simp [e1, e2, e3, h2]
          · by_cases e5 : y = Str.ofString "cls"
            · subst e5; simp [e1, e2, e3, e4, h1]
            · simp [e1, e2, e3, e4, e5]
  · intro m n h tk hS hF hN
    obtain ⟨o, kvs, es, b, nn, l, rfl, hD, hK, hk, h1, h2, h3, h4, hrun⟩ := hS
    cases hrun
    refine done m h tk o kvs _ hD hK hk (Fr.as hF fun y => ?_) hN
    by_cases e4 : y = Str.ofString "kwargs"
    · subst e4; simp [h2]
    · by_cases e5 : y = Str.ofString "cls"
      · subst e5; simp [e4, h1]
      · simp [e4, e5]
end
set_option maxRecDepth 100000 in
set_option maxHeartbeats 8000000 in
theorem isor_spec (w : World) (x : Str) (t : Tok) (fin : List (Str × Int)) (hx : x.length ≤ 300) (hasc : (Txt.slice x (some 1) none).cps.all (· < 128) = true) (hr : IsoRun (Txt.slice x (some 1) none).cps.toList true [] [] fin) : MeetsT w 9 (.ref 33) [.ref 108, .str x t] [] [] fun v new => ReadsTo w (ivOf fin) v new := by
  have bh : BindHint [(Str.ofString "cls", .ref 108), (Str.ofString "interval_str", .str x t)] := ⟨trivial⟩
  walk_at "mine enterK"
  repeat ((fail_if_success (with_reducible show wpAny _ _ (exec (Stmt.For _ _ _ _ _) _) _ _ _)); (first | walk1 | (k_unfold; (try dsimp only)) | (dsimp only; walk1)))
  refine wpAny_For ?_
  walk_at "mine to iter"
  (rename News _ _ _ _ => hN)
  refine isoLoop ?ha (by exact rfl) (by assumption) hN (by assumption) rfl rfl rfl rfl hr (by exact rfl) (by exact rfl) (by decide) (by decide) (by decide) (by decide) ?turn ?done
  case ha => exact hasc
  case done =>
    clear hN
    intro m h tk o kvs vo hD hK hk hF hN
    dsimp only
    have hz : fin.length ≤ 1000 := Nat.le_trans (dict_small hD hK hk) (by decide)
    walk_at "mine to make"
    walk_at "mine spread"
    walk_at "mine steps"
    dsimp only
    walk_at "mine done"
  case turn =>
    clear hN
    intro I hI hI2 hI3 c r u m it h tk o kvs es b nn l hD hK hk hrun hF hN
    cases hrun with
    | tee hrun =>
      walk_at "mine to ite"
      refine ite_t (by decide +kernel) ?_
      walk_at "mine steps"
      refine ⟨rfl, _, _, _, _, rfl, by assumption, News.sub (by assumption) (by walk_at "mine sub"), ?_, ⟨_, _, _, _, _, l, rfl, by assumption, by assumption, by assumption, rfl, rfl, rfl, rfl, hrun⟩⟩
      exact List.forall_mem_cons.mpr ⟨Nat.ne_of_lt hI2, List.forall_mem_cons.mpr ⟨Nat.ne_of_lt hI, List.forall_mem_nil _⟩⟩
    | dig h1 h2 h3 hrun =>
      have hl : l.length ≤ 30 := by simpa using h3
      walk_at "mine to ite"
      refine ite_f h2 ?_
      walk_at "mine to ite"
      refine ite_t h1 ?_
      refine ite_t rfl ?_
      walk_at "mine steps"
      (rename News _ _ _ _ => hN)
      rw [strValues_push] at hN
      refine ⟨rfl, _, _, _, _, rfl, by assumption, News.sub (by assumption) (by walk_at "mine sub"), ?_, ⟨_, _, _, _, _, l ++ [(_, _)], rfl, by assumption, by assumption, by assumption, rfl, rfl, rfl, rfl, (by rw [List.map_append]; exact hrun)⟩⟩
      exact List.forall_mem_cons.mpr ⟨Nat.ne_of_lt hI2, List.forall_mem_cons.mpr ⟨Nat.ne_of_lt hI, List.forall_mem_nil _⟩⟩
    | minus h3 hrun => 
      have hl : l.length ≤ 30 := by simpa using h3
      walk_at "mine to ite"
      refine ite_f (by decide +kernel) ?_
      walk_at "mine to ite"
      refine ite_f (by decide +kernel) ?_
      walk_at "mine to ite"
      refine ite_t (by decide +kernel) ?_
      rw [if_pos True.intro]
      (rename News _ _ _ _ => hN)
      replace hN := News.pick [1, 2, 3] hN
      change News _ _ _ [_, _, _] at hN
      walk_at "mine steps"
      (rename News _ _ _ _ => hN)
      rw [strValues_push] at hN
      refine ⟨rfl, _, _, _, _, rfl, by assumption, News.sub (by assumption) (by walk_at "mine sub"), ?_, ⟨_, _, _, _, _, l ++ [(_, _)], rfl, by assumption, by assumption, by assumption, rfl, rfl, rfl, rfl, (by rw [List.map_append]; exact hrun)⟩⟩
      exact List.forall_mem_cons.mpr ⟨Nat.ne_of_lt hI2, List.forall_mem_cons.mpr ⟨Nat.ne_of_lt hI, List.forall_mem_nil _⟩⟩
    | @letter _ _ _ _ _ _ nnn nm h1 h2 h3 h4 hlen hrun => 
      have hl : l.length ≤ 30 := by simpa using h3
      walk_at "mine to ite"
      refine ite_f (iso_facts h1).2.1 ?_
      walk_at "mine to ite"
      refine ite_f (iso_facts h1).2.2.1 ?_
      walk_at "mine to ite"
      have c1 := (iso_facts h1).2.2.2.2.1
      have c2 := (iso_facts h1).2.2.2.2.2
      have d1 : (Str.ofString "-" == (⟨#[c]⟩ : Str)) = false := by
        refine beq_false_of_ne fun e => c1 ?_
        have e' : (⟨#[45]⟩ : Str) = ⟨#[c]⟩ := e
        have := congrArg (fun x : Str => x.cps[0]!) e'
        exact this.symm
      have d2 : (Str.ofString "." == (⟨#[c]⟩ : Str)) = false := by
        refine beq_false_of_ne fun e => c2 ?_
        have e' : (⟨#[46]⟩ : Str) = ⟨#[c]⟩ := e
        have := congrArg (fun x : Str => x.cps[0]!) e'
        exact this.symm
      refine ite_f (by simp only [List.any_cons, List.any_nil, d1, d2, Bool.or_false]) ?_
      (rename News _ _ _ _ => hN)
      replace hN := News.pick [1, 2, 3] hN
      change News _ _ _ [_, _, _] at hN
      walk_at "mine to ifexp"
      have hjl : (Txt.join (Str.ofString "") (l.map (·.1))).length ≤ 640 := hlen
      refine cutVal (fun v => ∃ t, v = .int nnn t) (by assumption) (by assumption) ?_ ?_
      · walk_at "mine steps"
        all_goals walk_at "mine cutV end"
      intro v h' tk' ⟨tv, hv⟩ F' N'
      subst hv
      k_sweep
      clear hN
      walk_at "mine steps"
      dsimp only
      have hl0 : l.length ≠ 0 := by
        intro e
        rw [List.length_eq_zero_iff.mp e] at h2
        have h0 : PySem.intText? (Txt.join (Str.ofString "") []) = none := by decide +kernel
        rw [List.map_nil, h0] at h2
        cases h2
      refine kl_clear (its := (strValues l).toArray) (n := nn) (by assumption) (by assumption) (by k_upd) (by simpa [strValues] using hl0) (by simp only [strValues, List.length_map]; rw [PySem.sizeLine_eq]; omega) ?_
      have hk' : ∀ p ∈ putI es nm nnn, p.1 ∈ kwNames := putI_mem hk (iso_facts h1).1
      have hK' := KI.put (v := nnn) (t := tv) (k := nm) hK
      intro h' F' N'
      walk_at "mine steps"
      refine ⟨rfl, _, _, _, _, rfl, by assumption, News.sub (by assumption) (by walk_at "mine sub"), ?_, ⟨_, _, _, _, _, [], rfl, by assumption, by assumption, by assumption, rfl, rfl, rfl, rfl, hrun⟩⟩
      exact List.forall_mem_cons.mpr ⟨Nat.ne_of_lt hI2, List.forall_mem_cons.mpr ⟨Nat.ne_of_lt hI, List.forall_mem_nil _⟩⟩

end Mine
end
section
example : True := by (w_top off); trivial
open PySem PySem.W PyProof.Rows
set_option Elab.async false
namespace Mine
local macro_rules | `(tactic| walk_at "mine pad0") => `(tactic| skip)
local macro_rules | `(tactic| walk_at "mine pad1") => `(tactic| skip)
local macro_rules | `(tactic| walk_at "mine pad2") => `(tactic| skip)
local macro_rules | `(tactic| walk_at "mine pad3") => `(tactic| skip)
local macro_rules | `(tactic| walk_at "mine pad4") => `(tactic| skip)
example (w : World) : (∀ h, (lawTop.heap_39 w.params).In h → PySem.Challenge.rw_ew0023_01 = PySem.Challenge.rw_ew0023_01) := by k_fill; intros; rfl
local macro_rules | `(tactic| k_room) => `(tactic| ktr_room)
local macro_rules | `(tactic| walk_at "mine enter") => `(tactic| (rename BindHint _ => bh; unfold Meets; intro loose mean mg mb dp un gd cn sn sg sc sm a ccd cl outer A₀ base h₀ L m s Q E news B F X N ha T hd hu ret; refine wpAny_call ?_; k_dflt (first
  | (refine' enterM (by assumption) B F X N ha T ?kA ?kF ?kK ?k6 ?k7 ?k8 ?k9 ?kB ret ?_ ?c2 ?c3 ?c4 ?c5; (case kA => exact rfl); (case kF => exact rfl); (case kK => exact rfl); (case k6 => k_is); (case k7 => k_is); (case k8 => k_room); (case k9 => first | exact BindsTo.of_eq rfl | exact binds_K (Frag.In.keeps X (Fr.keep F)) rfl (by k_is) rfl rfl rfl); (case c5 => decide); (case kB => exact locs rfl); (case c2 => exact rfl); (case c3 => exact rfl); (case c4 => exact rfl); k_whole; clear B F X N ha T ret bh; intro g' L' h' F' N' l1 B' X' T'; (try k_lt l1); (try dsimp only); (try k_fold))
  | (refine' enterC (by assumption) B F X N ha T ?kA ?kF ?kK ?k6 ?k7 ?k8 ?k9 ?kB ?kD ret ?_ ?c2 ?c3 ?c4; (case kA => exact rfl); (case kF => exact rfl); (case kK => exact rfl); (case k6 => k_is); (case k7 => k_is); (case k8 => k_room); (case k9 => first | exact BindsTo.of_eq rfl | exact binds_K (Frag.In.keeps X (Fr.keep F)) rfl (by k_is) rfl rfl rfl); (case kB => exact rfl); (case kD => decide +kernel); (case c2 => exact rfl); (case c3 => exact rfl); (case c4 => exact rfl); k_whole; clear B F X N ha T ret bh; intro g' L' h' tk' cells' F' N' Y' l1 B' X' T'; (try k_lt l1); k_cells Y'; (try simp only [List.cons_append, List.nil_append] at N'); (try dsimp only); (try k_fold)))))
local macro_rules | `(tactic| walk_at "exec Assign cons ListComp") => `(tactic| (k_here; (with_reducible show wpAny _ _ (exec (Stmt.Assign _ (Expr.ListComp _ [⟨_, Expr.Tuple _ _ _, _, _⟩] _ _) _) _) _ _ _); k_dflt (refine assign_compTup (F₀ := by k_asm) (by rfl) (by with_unfolding_all rfl) (by with_unfolding_all rfl) (by decide) (by rfl) (by decide) (by rfl) (by rfl) (by rfl) ?_)))
local macro_rules | `(tactic| walk_at "TupSrc") => `(tactic| (k_here; k_dflt (refine TupSrc.of (by rfl) (by k_asm) (by k_asm) (by k_mem) (by first | size_fits | exact Nat.le_of_ble_eq_true rfl) ?_); intro g'; lcg_lit))
local macro_rules | `(tactic| lcg_src) => `(tactic| exact ⟨_, by k_mem, rfl, _, rfl⟩)
local macro_rules | `(tactic| walk_at "CompEnd") => `(tactic| (k_here; k_dflt (refine compEnd_same (by assumption) (by assumption) (by (simp only [LCg.Off3, and_true]; assumption)) (by lcg_src) ?_)))
local macro_rules | `(tactic| k_handed) => `(tactic| exact handed_optV _ _)
local macro_rules | `(tactic| walk_at "mine sub") => `(tactic| first | exact List.forall_mem_nil _ | (refine List.forall_mem_cons.mpr ⟨by k_mem, ?_⟩; walk_at "mine sub"))
local macro_rules | `(tactic| walk_at "mine off1") => `(tactic| first | exact List.forall_mem_nil _ | (refine List.forall_mem_cons.mpr ⟨by k_ne, ?_⟩; walk_at "mine off1"))
local macro_rules | `(tactic| walk_at "mine off") => `(tactic| first | exact List.forall_mem_nil _ | (refine List.forall_mem_cons.mpr ⟨?a, ?b⟩; (case a => walk_at "mine off1"); (case b => walk_at "mine off")))

local macro_rules | `(tactic| walk_at "mine done") => `(tactic| first | exact Done.intro (by assumption) (by assumption) ⟨_, rfl, rfl⟩ (by walk_at "mine sub") (by walk_at "mine sub") (by walk_at "mine off") | exact Done.intro (by assumption) (by assumption) ⟨_, _, rfl, rfl⟩ (by walk_at "mine sub") (by walk_at "mine sub") (by walk_at "mine off") | exact Done.intro (by assumption) (by assumption) ⟨_, _, _, rfl, rfl⟩ (by walk_at "mine sub") (by walk_at "mine sub") (by walk_at "mine off") | exact Done.intro (by assumption) (by assumption) ⟨_, _, _, _, rfl, rfl⟩ (by walk_at "mine sub") (by walk_at "mine sub") (by walk_at "mine off") | exact Done.intro (by assumption) (by assumption) ⟨_, _, _, _, _, rfl, rfl⟩ (by walk_at "mine sub") (by walk_at "mine sub") (by walk_at "mine off") | exact Done.intro (by assumption) (by assumption) ⟨_, _, _, _, _, _, rfl, rfl⟩ (by walk_at "mine sub") (by walk_at "mine sub") (by walk_at "mine off") | exact Done.intro (by assumption) (by assumption) ⟨_, _, _, _, _, _, _, rfl, rfl⟩ (by walk_at "mine sub") (by walk_at "mine sub") (by walk_at "mine off") | exact Done.intro (by assumption) (by assumption) ⟨_, _, _, _, _, _, _, _, rfl, rfl⟩ (by walk_at "mine sub") (by walk_at "mine sub") (by walk_at "mine off") | exact Done.intro (by assumption) (by assumption) ⟨_, _, _, _, _, _, _, _, _, rfl, rfl⟩ (by walk_at "mine sub") (by walk_at "mine sub") (by walk_at "mine off") | exact Done.intro (by assumption) (by assumption) ⟨_, _, _, _, _, _, _, _, _, _, rfl, rfl⟩ (by walk_at "mine sub") (by walk_at "mine sub") (by walk_at "mine off") | exact Done.intro (by assumption) (by assumption) ⟨_, _, _, _, _, _, _, _, _, _, _, rfl, rfl⟩ (by walk_at "mine sub") (by walk_at "mine sub") (by walk_at "mine off") | exact Done.intro (by assumption) (by assumption) ⟨_, _, _, _, _, _, _, _, _, _, _, _, rfl, rfl⟩ (by walk_at "mine sub") (by walk_at "mine sub") (by walk_at "mine off") | exact Done.intro (by assumption) (by assumption) ⟨_, _, _, _, _, _, _, _, _, _, _, _, _, rfl, rfl⟩ (by walk_at "mine sub") (by walk_at "mine sub") (by walk_at "mine off"))
local macro_rules | `(tactic| walk_at "mine steps") => `(tactic| repeat' (first | (k_unfold; (try dsimp only)) | walk1 | (dsimp only; walk1) | fail "no step"))
local macro_rules | `(tactic| walk_at "subscriptTail Name Constant ref int") => `(tactic| (k_here; k_dflt (refine' item_led ?k0 ?km ?k2 ?k3 ?k4 ?_ ?k6; (case k0 => k_asm); (case km => k_mem); (case k2 => decide); (case k3 => decide); (case k4 => exact rfl); (case k6 => with_unfolding_all rfl); k_whole)))
local macro_rules | `(tactic| walk_at "subscriptTail Name Name ref int") => `(tactic| (k_here; k_dflt (refine' item_led ?k0 ?km ?k2 ?k3 ?k4 ?_ ?k6; (case k0 => k_asm); (case km => k_mem); (case k2 => decide); (case k3 => decide); (case k4 => exact rfl); (case k6 => with_unfolding_all rfl); k_whole)))
local macro_rules | `(tactic| walk_at "mine to if") => `(tactic| repeat ((fail_if_success (with_reducible show wpAny _ _ (exec (Stmt.If _ _ _ _) _) _ _ _)); (first | walk1 | (k_unfold; (try dsimp only)) | (dsimp only; walk1))))
local macro_rules | `(tactic| walk_at "mine to cmp") => `(tactic| repeat ((fail_if_success (with_reducible show wpAny _ _ (exec (Stmt.If (Expr.Compare _ _ _ _) _ _ _) _) _ _ _)); (first | walk1 | (k_unfold; (try dsimp only)) | (dsimp only; walk1))))
local macro_rules | `(tactic| walk_at "mine cutS end") => `(tactic| exact ⟨rfl, _, _, _, rfl, (by first | assumption | exact Fr.same (by assumption) (by rfl)), (by first | assumption | exact News.sub (by assumption) (by walk_at "mine sub"))⟩)
local macro_rules | `(tactic| walk_at "mine len") => `(tactic| first | with_reducible assumption | (with_reducible refine' len_int ?a; (case a => omega)) | (with_reducible refine' len_add ?a ?b; (case a => walk_at "mine len"); (case b => walk_at "mine len")) | with_reducible exact Nat.le_refl _)
local macro_rules | `(tactic| walk_at "binaryOp Add str str") => `(tactic| (k_here; (with_reducible show wpAny _ _ (binaryOp Operator.Add (Value.str _ _) (Value.str _ _)) _ _ _); (refine' add_short ?a ?b ?c ?_; (case a => walk_at "mine len"); (case b => walk_at "mine len"); (case c => k_dflt exact rfl)); intro _ _))
local macro_rules | `(tactic| walk_at "eval Name") => `(tactic| ((with_reducible refine' ld ?F ?hv ?_ ?hk ?hl ?hd); (case F => first | with_reducible assumption | k_dflt assumption); (case hv => k_dflt exact rfl); (case hk => k_dflt exact rfl); (case hl => k_dflt exact rfl); (case hd => decide)))
local macro_rules | `(tactic| walk_at "mine to iter") => `(tactic| repeat ((fail_if_success (with_reducible show wpAny _ _ (pyIter _) _ _ _)); (first | walk1 | (k_unfold; (try dsimp only)) | (dsimp only; walk1))))
local macro_rules | `(tactic| size_fits) => `(tactic| exact strV_fits (by omega))
local macro_rules | `(tactic| walk_at "mine cutV end") => `(tactic| exact ⟨⟨_, rfl⟩, _, _, rfl, by assumption, by first | assumption | exact News.sub (by assumption) (by walk_at "mine sub")⟩)
local macro_rules | `(tactic| walk_at "mine to ifexp") => `(tactic| repeat ((fail_if_success (with_reducible show wpAny _ _ (eval (Expr.IfExp _ _ _ _) _) _ _ _)); (first | walk1 | (k_unfold; (try dsimp only)) | (dsimp only; walk1))))
local macro_rules | `(tactic| walk_at "mine tidy") => `(tactic| repeat (first | (with_reducible rename LCg.NsObj _ _ => q; clear q) | (with_reducible rename (_ ≠ _ ∧ _ ≠ _ ∧ _ ≠ _) => q; clear q) | (with_reducible rename ((_ ≠ _ ∧ _ ≠ _ ∧ _ ≠ _) ∧ _) => q; clear q) | (with_reducible rename (_[_]? = some _) => q; clear q) | (with_reducible rename (_ ≠ _ ∧ _) => q; clear q)))
local macro_rules | `(tactic| walk_at "mine lt") => `(tactic| first | exact List.forall_mem_nil _ | (refine List.forall_mem_cons.mpr ⟨by (show @LT.lt Nat _ _ _; omega), ?_⟩; walk_at "mine lt"))
local macro_rules | `(tactic| walk_at "mine cutB end") => `(tactic| refine ⟨?_, _, _, rfl, (by assumption), (by first | assumption | exact News.sub (by assumption) (by walk_at "mine sub"))⟩)
local macro_rules | `(tactic| walk_at "mine to make") => `(tactic| repeat ((fail_if_success (with_reducible show wpAny _ _ (callWith _ (Value.ref _) [] _ _) _ _ _)); (first | walk1 | (k_unfold; (try dsimp only)) | (dsimp only; walk1))))
local macro_rules | `(tactic| walk_at "mine KI") => `(tactic| first | assumption | exact All2.nil | exact KI.put All2.nil | exact KI.put (KI.put All2.nil) | exact KI.put (KI.put (KI.put All2.nil)) | exact KI.put (KI.put (KI.put (KI.put All2.nil))) | exact KI.put (KI.put (KI.put (KI.put (KI.put All2.nil)))) | exact KI.put (KI.put (KI.put (KI.put (KI.put (KI.put All2.nil))))) | exact KI.put (KI.put (KI.put (KI.put (KI.put (KI.put (KI.put All2.nil)))))) | exact KI.put (KI.put (KI.put (KI.put (KI.put (KI.put (KI.put (KI.put All2.nil))))))))
local macro_rules | `(tactic| walk_at "mine kw") => `(tactic| first | assumption | exact (List.forall_mem_nil _) | exact (putI_mem (List.forall_mem_nil _) (by decide)) | exact (putI_mem (putI_mem (List.forall_mem_nil _) (by decide)) (by decide)) | exact (putI_mem (putI_mem (putI_mem (List.forall_mem_nil _) (by decide)) (by decide)) (by decide)) | exact (putI_mem (putI_mem (putI_mem (putI_mem (List.forall_mem_nil _) (by decide)) (by decide)) (by decide)) (by decide)) | exact (putI_mem (putI_mem (putI_mem (putI_mem (putI_mem (List.forall_mem_nil _) (by decide)) (by decide)) (by decide)) (by decide)) (by decide)) | exact (putI_mem (putI_mem (putI_mem (putI_mem (putI_mem (putI_mem (List.forall_mem_nil _) (by decide)) (by decide)) (by decide)) (by decide)) (by decide)) (by decide)) | exact (putI_mem (putI_mem (putI_mem (putI_mem (putI_mem (putI_mem (putI_mem (List.forall_mem_nil _) (by decide)) (by decide)) (by decide)) (by decide)) (by decide)) (by decide)) (by decide)) | exact (putI_mem (putI_mem (putI_mem (putI_mem (putI_mem (putI_mem (putI_mem (putI_mem (List.forall_mem_nil _) (by decide)) (by decide)) (by decide)) (by decide)) (by decide)) (by decide)) (by decide)) (by decide)))
local macro_rules | `(tactic| walk_at "mine kz") => `(tactic| first | (refine Nat.le_trans (putI_len _ _ _) ?_; refine Nat.succ_le_succ ?_; walk_at "mine kz") | exact Nat.zero_le _ | (simp only [List.length_nil]; omega) | omega)
local macro_rules | `(tactic| walk_at "mine spread") => `(tactic| (k_here; k_dflt (refine' spread_iv ?zhL ?zhI ?zhk ?zhz ?zB ?zF ?zX ?zN ?zT ?zhd ?zhu ?zhkw ?zhm ?zhy ?zhky ?zhdb ?zhf ?zlo ?zD ?_; (case zhL => exact rfl); (case zF => k_asm); (case zhkw => exact rfl); (case zhy => exact rfl); (case zN => k_asm); (case zhm => k_mem); (case zD => assumption); (case zlo => assumption); (case zhI => walk_at "mine KI"); (case zhk => walk_at "mine kw"); (case zhz => walk_at "mine kz"); (case zB => k_asm); (case zX => k_asm); (case zT => k_asm); (case zhd => ktr_room); (case zhu => ktr_units); (case zhky => exact rfl); (case zhdb => decide); (case zhf => exact rfl)); intro x' dx' kk' tt' h' tk' F' N' hne'; (try simp only [List.cons_append, List.nil_append] at N'); replace hne' := offA_of hne'; simp only [OffA, OffL, and_true, true_and] at hne'; k_sweep))
local macro_rules | `(tactic| walk_at "mine enterK") => `(tactic| (rename BindHint _ => bh; refine MeetsT.of ?_; intro loose mean mg mb dp un gd cn sn sg sc sm a ccd cl outer A₀ base h₀ L m s Q E news B F X N ha T hd hu ret; k_dflt (first
  | (refine' enterM (by assumption) B F X N ha T ?kA ?kF ?kK ?k6 ?k7 ?k8 ?k9 ?kB ret ?_ ?c2 ?c3 ?c4 ?c5; (case kA => exact rfl); (case kF => exact rfl); (case kK => exact rfl); (case k6 => k_is); (case k7 => k_is); (case k8 => k_room); (case k9 => first | exact BindsTo.of_eq rfl | exact binds_K (Frag.In.keeps X (Fr.keep F)) rfl (by k_is) rfl rfl rfl); (case c5 => decide); (case kB => exact locs rfl); (case c2 => exact rfl); (case c3 => exact rfl); (case c4 => exact rfl); k_whole; clear B F X N ha T ret bh; intro g' L' h' F' N' l1 B' X' T'; (try k_lt l1); (try dsimp only); (try k_fold))
  | (refine' enterC (by assumption) B F X N ha T ?kA ?kF ?kK ?k6 ?k7 ?k8 ?k9 ?kB ?kD ret ?_ ?c2 ?c3 ?c4; (case kA => exact rfl); (case kF => exact rfl); (case kK => exact rfl); (case k6 => k_is); (case k7 => k_is); (case k8 => k_room); (case k9 => first | exact BindsTo.of_eq rfl | exact binds_K (Frag.In.keeps X (Fr.keep F)) rfl (by k_is) rfl rfl rfl); (case kB => exact rfl); (case kD => decide +kernel); (case c2 => exact rfl); (case c3 => exact rfl); (case c4 => exact rfl); k_whole; clear B F X N ha T ret bh; intro g' L' h' tk' cells' F' N' Y' l1 B' X' T'; (try k_lt l1); k_cells Y'; (try simp only [List.cons_append, List.nil_append] at N'); (try dsimp only); (try k_fold)))))
local macro_rules | `(tactic| walk_at "call ref") => `(tactic| (k_here; k_dflt (refine' Meets.use (make_spec _ _ _ _ _ _ _ _ _ _ _ _ _ _ ?hb) ?k1 ?k2 ?k3 ?k4 ?ka ?k5 ?kd ?ku ?_; (case k1 => k_asm); (case k2 => k_asm); (case k3 => k_asm); (case k4 => k_asm); (case ka => walk_at "mine sub"); (case hb => first | exact ib_mds _ _ _ _ | exact ib_wd _ _ _ | exact ib_d _ _ | exact ib_pos _ _ _ _ _ _ _ _ _ _ _ _); (case k5 => k_asm); (case kd => ktr_room); (case ku => ktr_units)); intro v' new' h' tk' hP F' N' hne'; obtain ⟨x', dx', k', e1', e2'⟩ := hP; subst e1' e2'; (try simp only [List.cons_append, List.nil_append] at N'); replace hne' := offA_of hne'; simp only [OffA, OffL, and_true, true_and] at hne'; skip; k_sweep))
local macro_rules | `(tactic| walk_at "mine enterT") => `(tactic| (rename BindHint _ => bh; unfold MeetsT; intro loose mean mg mb dp un gd cn sn sg sc sm a ccd cl outer A₀ base h₀ L m s Q news G F N ha hd hu ret; k_dflt (
  (refine' enterT (by assumption) G F N ha ?kA ?kF ?kK ?k6 ?k7 ?k8 ?k9 ?kB ret ?_ ?c2 ?c3 ?c4 ?c5; (case kA => exact rfl); (case kF => exact rfl); (case kK => exact rfl); (case k6 => k_is); (case k7 => k_is); (case k8 => k_room); (case k9 => first | exact BindsTo.of_eq rfl | exact binds_K (Frag.In.keeps (Ground3.X G) (Fr.keep F)) rfl (by k_is) rfl rfl rfl); (case c5 => decide); (case kB => exact locs rfl); (case c2 => exact rfl); (case c3 => exact rfl); (case c4 => exact rfl); k_whole; clear G F N ha ret bh; intro g' L' h' F' N' l1 G'; (try k_lt l1); (try dsimp only); (try k_fold); have B' := Ground3.B G'; have X' := Ground3.X G'; have T' := Ground3.T G'))))
local macro_rules | `(tactic| walk_at "mine to ite") => `(tactic| repeat ((fail_if_success (with_reducible show ite _ _ _)); (first | walk1 | (k_unfold; (try dsimp only)) | (dsimp only; walk1))))
local macro_rules | `(tactic| walk_at "mine ret") => `(tactic| (
  refine wpC.execs_cons (wpC.Return (wpC.methodCall ?_)); walk_at "mine steps"; k_dflt (refine' wpC.callWith_M ?k1 ?k2 ?k3 ?k4 ?_; (case k1 => k_asm); (case k2 => k_asm); (case k3 => k_mem); (case k4 => k_is)); walk_at "mine steps"; (try dsimp only);
  k_dflt (refine' MeetsT.callM (by assumption) ?k1 ?k2 ?k3 ?ka ?kq ?kd ?ku ?_; (case k1 => k_asm); (case k2 => k_asm); (case k3 => k_asm); (case ka => walk_at "mine sub"); (case kq => k_mem); (case kd => ktr_room); (case ku => ktr_units)); intro v' new' h' tk' g' hT' hP G' F' N' hne'; obtain ⟨x', dx', kk', tt', e1', e2'⟩ := hP; subst e1' e2'; (try simp only [List.cons_append, List.nil_append] at N'); dsimp only; refine ⟨_, hT', ?_⟩; walk_at "mine done"))
theorem words_two {α β : Type} {l : List (α × β)} {a b : α} {r : List α} (e : l.map (·.1) = a :: b :: r) : ∃ t u l', l = (a, t) :: (b, u) :: l' ∧ l'.map (·.1) = r := by
  obtain ⟨t, l1, rfl, e1⟩ := map_cons_of e
  obtain ⟨u, l2, rfl, e2⟩ := map_cons_of e1
  exact ⟨t, u, l2, rfl, e2⟩
section
variable {prog : Program} {w : World} {A : Around} {E : Value → Shared → Prop} {s : Shared} {h₀ : Heap} {L : Addr} {m : Str → Option Value} {news : List (Addr × Obj)} {x : Str} {t : Tok} {Q : Value → Shared → Prop}
theorem split_two {a b : Str} {r : List Str} (hF : Fr h₀ L s.heap m) (hN : News h₀ L s.heap news) (hw : Txt.words x = a :: b :: r) (hz : x.length ≤ 1000)
    (h : ∀ D ta tb (l' : List (Str × Tok)) h' k, l'.map (·.1) = r → Fr h₀ L h' m → News h₀ L h' ((D, W.listOf (strValues ((a, ta) :: (b, tb) :: l')).toArray 0) :: news) → (∀ p ∈ news, p.1 < D) → Q (.ref D) { s with heap := h', toks := k }) :
    wpAny (model prog w) A (call (.builtin "str.split") [.str x t]) Q E s :=
  split_ws hF hN hw hz fun D l h' k e F N lt => by
    obtain ⟨ta, tb, l', rfl, e'⟩ := words_two e
    exact h D ta tb l' h' k e' F N lt
end
theorem len_led {prog : Program} {w : World} {A : Around} {E : Value → Shared → Prop} {s : Shared} {h₀ : Heap} {L D : Addr} {news : List (Addr × Obj)} {l : List (Str × Tok)} {n : Nat} {Q : Value → Shared → Prop} (N : News h₀ L s.heap news) (hm : (D, W.listOf (strValues l).toArray n) ∈ news) (hl : l.length ≤ 10000)
    (h : Q (.int (l.length : Nat) (s.toks + 1)) { s with toks := s.toks + 1 + 1 }) : wpAny (model prog w) A (call (.builtin "len") [.ref D]) Q E s := by
  have e : (strValues l).toArray.size = l.length := by simp [strValues]
  refine PySem.Calls.call_len_list (PySem.IsL.isList (n := n) (N _ hm).1) (by rw [e]; omega) ?_
  rw [e]; exact h
local macro_rules | `(tactic| walk_at "call builtin:len") => `(tactic| (k_here; (with_reducible show wpAny _ _ (call (Value.builtin "len") [Value.ref _]) _ _ _); k_dflt (refine' len_led ?N ?m ?f ?_; (case N => k_asm); (case m => k_mem); (case f => (simp only [List.length_cons]; omega)))))
local macro_rules | `(tactic| walk_at "call builtin:str.split") => `(tactic| (k_here; (with_reducible show wpAny _ _ (call (Value.builtin "str.split") [_]) _ _ _); k_dflt (refine' split_w1 ?F ?N ?w ?z ?_; (case w => assumption); (case F => k_asm); (case N => k_asm); (case z => omega); intro D' t1' h' k' F' N' l1; (try k_lt l1); (try k_sweep))))
local macro_rules | `(tactic| walk_at "call builtin:str.split") => `(tactic| (k_here; (with_reducible show wpAny _ _ (call (Value.builtin "str.split") [_]) _ _ _); k_dflt (refine' split_two ?F ?N ?w ?z ?_; (case w => assumption); (case F => k_asm); (case N => k_asm); (case z => omega); intro D' t1' t2' l' h' k' e' F' N' l1; (try k_lt l1); have hll := congrArg List.length e'; rw [List.length_map] at hll; (try k_sweep))))
set_option maxRecDepth 100000 in
set_option maxHeartbeats 8000000 in
theorem fs_iso (w : World) (x : Str) (t : Tok) (a : Iv) (h1 : Txt.startswith x (Str.ofString "P") = true) (hc : ∀ t, MeetsT w 9 (.ref 33) [.ref 108, .str x t] [] [] fun v new => ReadsTo w a v new) : MeetsT w 14 (.ref 61) [.ref 108, .str x t] [] [] fun v new => ReadsTo w a v new := by
  have bh : BindHint [(Str.ofString "cls", .ref 108), (Str.ofString "interval_str", .str x t)] := ⟨trivial⟩
  walk_at "mine enterT"
  have hct := hc t
  refine wpC.execs_cons (wpC.If (wpC.any ?_))
  walk_at "mine to ite"
  refine ite_t h1 ?_
  walk_at "mine ret"
set_option maxRecDepth 100000 in
set_option maxHeartbeats 8000000 in
theorem fs_at (w : World) (x : Str) (t : Tok) (a : Iv) (h1 : Txt.startswith x (Str.ofString "P") = false) (h2 : Txt.startswith x (Str.ofString "@") = true) (hc : ∀ t, MeetsT w 9 (.ref 43) [.ref 108, .str x t] [] [] fun v new => ReadsTo w a v new) : MeetsT w 14 (.ref 61) [.ref 108, .str x t] [] [] fun v new => ReadsTo w a v new := by
  have bh : BindHint [(Str.ofString "cls", .ref 108), (Str.ofString "interval_str", .str x t)] := ⟨trivial⟩
  walk_at "mine enterT"
  have hct := hc t
  refine wpC.execs_cons (wpC.If (wpC.any ?_))
  walk_at "mine to ite"
  refine ite_f h1 ?_
  refine wpC.execs_cons (wpC.If (wpC.any ?_))
  walk_at "mine to ite"
  refine ite_t h2 ?_
  walk_at "mine ret"
set_option maxRecDepth 100000 in
set_option maxHeartbeats 8000000 in
theorem fs_one (w : World) (x w1 : Str) (t : Tok) (a : Iv) (b : Bool) (hx : x.length ≤ 300) (h1 : Txt.startswith x (Str.ofString "P") = false) (h2 : Txt.startswith x (Str.ofString "@") = false) (hw : Txt.words x = [w1]) (hb : hasColon w1 = b) (hc : ∀ t, MeetsT w 9 (.ref (if b then 43 else 51)) [.ref 108, .str x t] [] [] fun v new => ReadsTo w a v new) : MeetsT w 14 (.ref 61) [.ref 108, .str x t] [] [] fun v new => ReadsTo w a v new := by
  have bh : BindHint [(Str.ofString "cls", .ref 108), (Str.ofString "interval_str", .str x t)] := ⟨trivial⟩
  walk_at "mine enterT"
  have hct := hc t
  refine wpC.execs_cons (wpC.If (wpC.any ?_))
  walk_at "mine to ite"
  refine ite_f h1 ?_
  refine wpC.execs_cons (wpC.If (wpC.any ?_))
  walk_at "mine to ite"
  refine ite_f h2 ?_
  refine wpC.execs_cons (wpC.any ?_)
  walk_at "mine steps"
  dsimp only
  refine wpC.execs_cons (wpC.If (wpC.any ?_))
  walk_at "mine to ite"
  refine ite_f (by decide) ?_
  walk_at "mine to ite"
  refine ite_f rfl ?_
  walk_at "mine to ite"
  refine ite_t (by decide) ?_
  walk_at "mine to ite"
  cases b with
  | true =>
    refine ite_t hb ?_
    walk_at "mine to ite"
    refine ite_t rfl ?_
    walk_at "mine to ite"
    repeat (refine ite_t rfl ?_)
    have hct' : MeetsT w 9 (.ref 43) [.ref 108, .str x t] [] [] _ := hct
    walk_at "mine ret"
  | false =>
    refine ite_f hb ?_
    walk_at "mine to ite"
    refine ite_f rfl ?_
    walk_at "mine to ite"
    repeat (refine ite_f rfl ?_)
    have hct' : MeetsT w 9 (.ref 51) [.ref 108, .str x t] [] [] _ := hct
    walk_at "mine ret"
set_option maxRecDepth 100000 in
set_option maxHeartbeats 8000000 in
theorem fs_two (w : World) (x w1 w2 : Str) (ws : List Str) (t : Tok) (a : Iv) (b : Bool) (hx : x.length ≤ 300) (h1 : Txt.startswith x (Str.ofString "P") = false) (h2 : Txt.startswith x (Str.ofString "@") = false) (hw : Txt.words x = w1 :: w2 :: ws) (hwl : ws.length ≤ 1000) (hw2 : 1 ≤ w2.length) (hw3 : w2.length ≤ 300) (hb : Txt.isalpha (Txt.item w2 0) = b) (hc : ∀ t, MeetsT w 9 (.ref (if b then 43 else 51)) [.ref 108, .str x t] [] [] fun v new => ReadsTo w a v new) : MeetsT w 14 (.ref 61) [.ref 108, .str x t] [] [] fun v new => ReadsTo w a v new := by
  have bh : BindHint [(Str.ofString "cls", .ref 108), (Str.ofString "interval_str", .str x t)] := ⟨trivial⟩
  walk_at "mine enterT"
  have hct := hc t
  refine wpC.execs_cons (wpC.If (wpC.any ?_))
  walk_at "mine to ite"
  refine ite_f h1 ?_
  refine wpC.execs_cons (wpC.If (wpC.any ?_))
  walk_at "mine to ite"
  refine ite_f h2 ?_
  refine wpC.execs_cons (wpC.any ?_)
  walk_at "mine steps"
  dsimp only
  refine wpC.execs_cons (wpC.If (wpC.any ?_))
  walk_at "mine to ite"
  refine ite_t (by rw [decide_eq_true_eq, List.length_cons, List.length_cons]; omega) ?_
  walk_at "mine to ite"
  dsimp only
  walk_at "mine to ite"
  cases b with
  | true =>
    refine ite_t hb ?_
    walk_at "mine to ite"
    repeat (refine ite_t rfl ?_)
    have hct' : MeetsT w 9 (.ref 43) [.ref 108, .str x t] [] [] _ := hct
    walk_at "mine ret"
  | false =>
    refine ite_f hb ?_
    walk_at "mine to ite"
    refine ite_f rfl ?_
    walk_at "mine to ite"
    refine ite_f (beq_false_of_ne (by rw [List.length_cons, List.length_cons]; omega)) ?_
    walk_at "mine to ite"
    repeat (first | refine ite_f rfl ?_ | (walk_at "mine to ite"; refine ite_f rfl ?_))
    have hct' : MeetsT w 9 (.ref 51) [.ref 108, .str x t] [] [] _ := hct
    walk_at "mine ret"

end Mine
end
section
example : True := by (w_top off); trivial
open PySem PySem.W PyProof.Rows
set_option Elab.async false
namespace Mine
example (w : World) : (∀ h, (lawTop.heap_39 w.params).In h → PySem.Challenge.rw_ew0023_01 = PySem.Challenge.rw_ew0023_01) := by k_fill; intros; rfl
local macro_rules | `(tactic| k_room) => `(tactic| ktr_room)
local macro_rules | `(tactic| walk_at "mine enter") => `(tactic| (rename BindHint _ => bh; unfold Meets; intro loose mean mg mb dp un gd cn sn sg sc sm a ccd cl outer A₀ base h₀ L m s Q E news B F X N ha T hd hu ret; refine wpAny_call ?_; k_dflt (first
  | (refine' enterM (by assumption) B F X N ha T ?kA ?kF ?kK ?k6 ?k7 ?k8 ?k9 ?kB ret ?_ ?c2 ?c3 ?c4 ?c5; (case kA => exact rfl); (case kF => exact rfl); (case kK => exact rfl); (case k6 => k_is); (case k7 => k_is); (case k8 => k_room); (case k9 => first | exact BindsTo.of_eq rfl | exact binds_K (Frag.In.keeps X (Fr.keep F)) rfl (by k_is) rfl rfl rfl); (case c5 => decide); (case kB => exact locs rfl); (case c2 => exact rfl); (case c3 => exact rfl); (case c4 => exact rfl); k_whole; clear B F X N ha T ret bh; intro g' L' h' F' N' l1 B' X' T'; (try k_lt l1); (try dsimp only); (try k_fold))
  | (refine' enterC (by assumption) B F X N ha T ?kA ?kF ?kK ?k6 ?k7 ?k8 ?k9 ?kB ?kD ret ?_ ?c2 ?c3 ?c4; (case kA => exact rfl); (case kF => exact rfl); (case kK => exact rfl); (case k6 => k_is); (case k7 => k_is); (case k8 => k_room); (case k9 => first | exact BindsTo.of_eq rfl | exact binds_K (Frag.In.keeps X (Fr.keep F)) rfl (by k_is) rfl rfl rfl); (case kB => exact rfl); (case kD => decide +kernel); (case c2 => exact rfl); (case c3 => exact rfl); (case c4 => exact rfl); k_whole; clear B F X N ha T ret bh; intro g' L' h' tk' cells' F' N' Y' l1 B' X' T'; (try k_lt l1); k_cells Y'; (try simp only [List.cons_append, List.nil_append] at N'); (try dsimp only); (try k_fold)))))
local macro_rules | `(tactic| walk_at "exec Assign cons ListComp") => `(tactic| (k_here; (with_reducible show wpAny _ _ (exec (Stmt.Assign _ (Expr.ListComp _ [⟨_, Expr.Tuple _ _ _, _, _⟩] _ _) _) _) _ _ _); k_dflt (refine assign_compTup (F₀ := by k_asm) (by rfl) (by with_unfolding_all rfl) (by with_unfolding_all rfl) (by decide) (by rfl) (by decide) (by rfl) (by rfl) (by rfl) ?_)))
local macro_rules | `(tactic| walk_at "TupSrc") => `(tactic| (k_here; k_dflt (refine TupSrc.of (by rfl) (by k_asm) (by k_asm) (by k_mem) (by first | size_fits | exact Nat.le_of_ble_eq_true rfl) ?_); intro g'; lcg_lit))
local macro_rules | `(tactic| lcg_src) => `(tactic| exact ⟨_, by k_mem, rfl, _, rfl⟩)
local macro_rules | `(tactic| walk_at "CompEnd") => `(tactic| (k_here; k_dflt (refine compEnd_same (by assumption) (by assumption) (by (simp only [LCg.Off3, and_true]; assumption)) (by lcg_src) ?_)))
local macro_rules | `(tactic| k_handed) => `(tactic| exact handed_optV _ _)
local macro_rules | `(tactic| walk_at "mine sub") => `(tactic| first | exact List.forall_mem_nil _ | (refine List.forall_mem_cons.mpr ⟨by k_mem, ?_⟩; walk_at "mine sub"))
local macro_rules | `(tactic| walk_at "mine off1") => `(tactic| first | exact List.forall_mem_nil _ | (refine List.forall_mem_cons.mpr ⟨by k_ne, ?_⟩; walk_at "mine off1"))
local macro_rules | `(tactic| walk_at "mine off") => `(tactic| first | exact List.forall_mem_nil _ | (refine List.forall_mem_cons.mpr ⟨?a, ?b⟩; (case a => walk_at "mine off1"); (case b => walk_at "mine off")))

local macro_rules | `(tactic| walk_at "mine done") => `(tactic| first | exact Done.intro (by assumption) (by assumption) ⟨_, rfl, rfl⟩ (by walk_at "mine sub") (by walk_at "mine sub") (by walk_at "mine off") | exact Done.intro (by assumption) (by assumption) ⟨_, _, rfl, rfl⟩ (by walk_at "mine sub") (by walk_at "mine sub") (by walk_at "mine off") | exact Done.intro (by assumption) (by assumption) ⟨_, _, _, rfl, rfl⟩ (by walk_at "mine sub") (by walk_at "mine sub") (by walk_at "mine off") | exact Done.intro (by assumption) (by assumption) ⟨_, _, _, _, rfl, rfl⟩ (by walk_at "mine sub") (by walk_at "mine sub") (by walk_at "mine off") | exact Done.intro (by assumption) (by assumption) ⟨_, _, _, _, _, rfl, rfl⟩ (by walk_at "mine sub") (by walk_at "mine sub") (by walk_at "mine off") | exact Done.intro (by assumption) (by assumption) ⟨_, _, _, _, _, _, rfl, rfl⟩ (by walk_at "mine sub") (by walk_at "mine sub") (by walk_at "mine off") | exact Done.intro (by assumption) (by assumption) ⟨_, _, _, _, _, _, _, rfl, rfl⟩ (by walk_at "mine sub") (by walk_at "mine sub") (by walk_at "mine off") | exact Done.intro (by assumption) (by assumption) ⟨_, _, _, _, _, _, _, _, rfl, rfl⟩ (by walk_at "mine sub") (by walk_at "mine sub") (by walk_at "mine off") | exact Done.intro (by assumption) (by assumption) ⟨_, _, _, _, _, _, _, _, _, rfl, rfl⟩ (by walk_at "mine sub") (by walk_at "mine sub") (by walk_at "mine off") | exact Done.intro (by assumption) (by assumption) ⟨_, _, _, _, _, _, _, _, _, _, rfl, rfl⟩ (by walk_at "mine sub") (by walk_at "mine sub") (by walk_at "mine off") | exact Done.intro (by assumption) (by assumption) ⟨_, _, _, _, _, _, _, _, _, _, _, rfl, rfl⟩ (by walk_at "mine sub") (by walk_at "mine sub") (by walk_at "mine off") | exact Done.intro (by assumption) (by assumption) ⟨_, _, _, _, _, _, _, _, _, _, _, _, rfl, rfl⟩ (by walk_at "mine sub") (by walk_at "mine sub") (by walk_at "mine off") | exact Done.intro (by assumption) (by assumption) ⟨_, _, _, _, _, _, _, _, _, _, _, _, _, rfl, rfl⟩ (by walk_at "mine sub") (by walk_at "mine sub") (by walk_at "mine off"))
local macro_rules | `(tactic| walk_at "mine steps") => `(tactic| repeat' (first | (k_unfold; (try dsimp only)) | walk1 | (dsimp only; walk1) | fail "no step"))
local macro_rules | `(tactic| walk_at "subscriptTail Name Constant ref int") => `(tactic| (k_here; k_dflt (refine' item_led ?k0 ?km ?k2 ?k3 ?k4 ?_ ?k6; (case k0 => k_asm); (case km => k_mem); (case k2 => decide); (case k3 => decide); (case k4 => exact rfl); (case k6 => with_unfolding_all rfl); k_whole)))
local macro_rules | `(tactic| walk_at "subscriptTail Name Name ref int") => `(tactic| (k_here; k_dflt (refine' item_led ?k0 ?km ?k2 ?k3 ?k4 ?_ ?k6; (case k0 => k_asm); (case km => k_mem); (case k2 => decide); (case k3 => decide); (case k4 => exact rfl); (case k6 => with_unfolding_all rfl); k_whole)))
local macro_rules | `(tactic| walk_at "mine to if") => `(tactic| repeat ((fail_if_success (with_reducible show wpAny _ _ (exec (Stmt.If _ _ _ _) _) _ _ _)); (first | walk1 | (k_unfold; (try dsimp only)) | (dsimp only; walk1))))
local macro_rules | `(tactic| walk_at "mine to cmp") => `(tactic| repeat ((fail_if_success (with_reducible show wpAny _ _ (exec (Stmt.If (Expr.Compare _ _ _ _) _ _ _) _) _ _ _)); (first | walk1 | (k_unfold; (try dsimp only)) | (dsimp only; walk1))))
local macro_rules | `(tactic| walk_at "mine cutS end") => `(tactic| exact ⟨rfl, _, _, _, rfl, (by first | assumption | exact Fr.same (by assumption) (by rfl)), (by first | assumption | exact News.sub (by assumption) (by walk_at "mine sub"))⟩)
local macro_rules | `(tactic| walk_at "mine len") => `(tactic| first | with_reducible assumption | (with_reducible refine' len_int ?a; (case a => omega)) | (with_reducible refine' len_add ?a ?b; (case a => walk_at "mine len"); (case b => walk_at "mine len")) | with_reducible exact Nat.le_refl _)
local macro_rules | `(tactic| walk_at "binaryOp Add str str") => `(tactic| (k_here; (with_reducible show wpAny _ _ (binaryOp Operator.Add (Value.str _ _) (Value.str _ _)) _ _ _); (refine' add_short ?a ?b ?c ?_; (case a => walk_at "mine len"); (case b => walk_at "mine len"); (case c => k_dflt exact rfl)); intro _ _))
local macro_rules | `(tactic| walk_at "eval Name") => `(tactic| ((with_reducible refine' ld ?F ?hv ?_ ?hk ?hl ?hd); (case F => first | with_reducible assumption | k_dflt assumption); (case hv => k_dflt exact rfl); (case hk => k_dflt exact rfl); (case hl => k_dflt exact rfl); (case hd => decide)))
local macro_rules | `(tactic| walk_at "mine to iter") => `(tactic| repeat ((fail_if_success (with_reducible show wpAny _ _ (pyIter _) _ _ _)); (first | walk1 | (k_unfold; (try dsimp only)) | (dsimp only; walk1))))
local macro_rules | `(tactic| size_fits) => `(tactic| exact strV_fits (by omega))
local macro_rules | `(tactic| walk_at "mine cutV end") => `(tactic| exact ⟨⟨_, rfl⟩, _, _, rfl, by assumption, by first | assumption | exact News.sub (by assumption) (by walk_at "mine sub")⟩)
local macro_rules | `(tactic| walk_at "mine to ifexp") => `(tactic| repeat ((fail_if_success (with_reducible show wpAny _ _ (eval (Expr.IfExp _ _ _ _) _) _ _ _)); (first | walk1 | (k_unfold; (try dsimp only)) | (dsimp only; walk1))))
local macro_rules | `(tactic| walk_at "mine tidy") => `(tactic| repeat (first | (with_reducible rename LCg.NsObj _ _ => q; clear q) | (with_reducible rename (_ ≠ _ ∧ _ ≠ _ ∧ _ ≠ _) => q; clear q) | (with_reducible rename ((_ ≠ _ ∧ _ ≠ _ ∧ _ ≠ _) ∧ _) => q; clear q) | (with_reducible rename (_[_]? = some _) => q; clear q) | (with_reducible rename (_ ≠ _ ∧ _) => q; clear q)))
local macro_rules | `(tactic| walk_at "mine lt") => `(tactic| first | exact List.forall_mem_nil _ | (refine List.forall_mem_cons.mpr ⟨by (show @LT.lt Nat _ _ _; omega), ?_⟩; walk_at "mine lt"))
local macro_rules | `(tactic| walk_at "mine cutB end") => `(tactic| refine ⟨?_, _, _, rfl, (by assumption), (by first | assumption | exact News.sub (by assumption) (by walk_at "mine sub"))⟩)
local macro_rules | `(tactic| walk_at "mine to make") => `(tactic| repeat ((fail_if_success (with_reducible show wpAny _ _ (callWith _ (Value.ref _) [] _ _) _ _ _)); (first | walk1 | (k_unfold; (try dsimp only)) | (dsimp only; walk1))))
local macro_rules | `(tactic| walk_at "mine KI") => `(tactic| first | assumption | exact All2.nil | exact KI.put All2.nil | exact KI.put (KI.put All2.nil) | exact KI.put (KI.put (KI.put All2.nil)) | exact KI.put (KI.put (KI.put (KI.put All2.nil))) | exact KI.put (KI.put (KI.put (KI.put (KI.put All2.nil)))) | exact KI.put (KI.put (KI.put (KI.put (KI.put (KI.put All2.nil))))) | exact KI.put (KI.put (KI.put (KI.put (KI.put (KI.put (KI.put All2.nil)))))) | exact KI.put (KI.put (KI.put (KI.put (KI.put (KI.put (KI.put (KI.put All2.nil))))))))
local macro_rules | `(tactic| walk_at "mine kw") => `(tactic| first | assumption | exact (List.forall_mem_nil _) | exact (putI_mem (List.forall_mem_nil _) (by decide)) | exact (putI_mem (putI_mem (List.forall_mem_nil _) (by decide)) (by decide)) | exact (putI_mem (putI_mem (putI_mem (List.forall_mem_nil _) (by decide)) (by decide)) (by decide)) | exact (putI_mem (putI_mem (putI_mem (putI_mem (List.forall_mem_nil _) (by decide)) (by decide)) (by decide)) (by decide)) | exact (putI_mem (putI_mem (putI_mem (putI_mem (putI_mem (List.forall_mem_nil _) (by decide)) (by decide)) (by decide)) (by decide)) (by decide)) | exact (putI_mem (putI_mem (putI_mem (putI_mem (putI_mem (putI_mem (List.forall_mem_nil _) (by decide)) (by decide)) (by decide)) (by decide)) (by decide)) (by decide)) | exact (putI_mem (putI_mem (putI_mem (putI_mem (putI_mem (putI_mem (putI_mem (List.forall_mem_nil _) (by decide)) (by decide)) (by decide)) (by decide)) (by decide)) (by decide)) (by decide)) | exact (putI_mem (putI_mem (putI_mem (putI_mem (putI_mem (putI_mem (putI_mem (putI_mem (List.forall_mem_nil _) (by decide)) (by decide)) (by decide)) (by decide)) (by decide)) (by decide)) (by decide)) (by decide)))
local macro_rules | `(tactic| walk_at "mine kz") => `(tactic| first | (refine Nat.le_trans (putI_len _ _ _) ?_; refine Nat.succ_le_succ ?_; walk_at "mine kz") | exact Nat.zero_le _ | (simp only [List.length_nil]; omega) | omega)
local macro_rules | `(tactic| walk_at "mine spread") => `(tactic| (k_here; k_dflt (refine' spread_iv ?zhL ?zhI ?zhk ?zhz ?zB ?zF ?zX ?zN ?zT ?zhd ?zhu ?zhkw ?zhm ?zhy ?zhky ?zhdb ?zhf ?zlo ?zD ?_; (case zhL => exact rfl); (case zF => k_asm); (case zhkw => exact rfl); (case zhy => exact rfl); (case zN => k_asm); (case zhm => k_mem); (case zD => assumption); (case zlo => assumption); (case zhI => walk_at "mine KI"); (case zhk => walk_at "mine kw"); (case zhz => walk_at "mine kz"); (case zB => k_asm); (case zX => k_asm); (case zT => k_asm); (case zhd => ktr_room); (case zhu => ktr_units); (case zhky => exact rfl); (case zhdb => decide); (case zhf => exact rfl)); intro x' dx' kk' tt' h' tk' F' N' hne'; (try simp only [List.cons_append, List.nil_append] at N'); replace hne' := offA_of hne'; simp only [OffA, OffL, and_true, true_and] at hne'; k_sweep))
local macro_rules | `(tactic| walk_at "mine enterK") => `(tactic| (rename BindHint _ => bh; refine MeetsT.of ?_; intro loose mean mg mb dp un gd cn sn sg sc sm a ccd cl outer A₀ base h₀ L m s Q E news B F X N ha T hd hu ret; k_dflt (first
  | (refine' enterM (by assumption) B F X N ha T ?kA ?kF ?kK ?k6 ?k7 ?k8 ?k9 ?kB ret ?_ ?c2 ?c3 ?c4 ?c5; (case kA => exact rfl); (case kF => exact rfl); (case kK => exact rfl); (case k6 => k_is); (case k7 => k_is); (case k8 => k_room); (case k9 => first | exact BindsTo.of_eq rfl | exact binds_K (Frag.In.keeps X (Fr.keep F)) rfl (by k_is) rfl rfl rfl); (case c5 => decide); (case kB => exact locs rfl); (case c2 => exact rfl); (case c3 => exact rfl); (case c4 => exact rfl); k_whole; clear B F X N ha T ret bh; intro g' L' h' F' N' l1 B' X' T'; (try k_lt l1); (try dsimp only); (try k_fold))
  | (refine' enterC (by assumption) B F X N ha T ?kA ?kF ?kK ?k6 ?k7 ?k8 ?k9 ?kB ?kD ret ?_ ?c2 ?c3 ?c4; (case kA => exact rfl); (case kF => exact rfl); (case kK => exact rfl); (case k6 => k_is); (case k7 => k_is); (case k8 => k_room); (case k9 => first | exact BindsTo.of_eq rfl | exact binds_K (Frag.In.keeps X (Fr.keep F)) rfl (by k_is) rfl rfl rfl); (case kB => exact rfl); (case kD => decide +kernel); (case c2 => exact rfl); (case c3 => exact rfl); (case c4 => exact rfl); k_whole; clear B F X N ha T ret bh; intro g' L' h' tk' cells' F' N' Y' l1 B' X' T'; (try k_lt l1); k_cells Y'; (try simp only [List.cons_append, List.nil_append] at N'); (try dsimp only); (try k_fold)))))
set_option maxRecDepth 100000 in
set_option maxHeartbeats 8000000 in
theorem vd_spec (w : World) (x dx : Addr) (k t : Nat → Tok) (a : Iv) : Meets w 3 (.ref 84) [.ref x] [] (ivAt w x dx k t a) fun v new => ∃ D o kvs, v = .ref D ∧ new = [(D, o)] ∧ (D == sysModules) = false ∧ o.IsDictOf (strKind pg w) kvs ∧ KI kvs (esIv a) := by
  have bh : BindHint [(Str.ofString "self", .ref x)] := ⟨trivial⟩
  walk_at "mine enter"
  repeat ((fail_if_success (with_reducible show wpAny _ _ (eval (Expr.DictComp _ _ _ _ _) _) _ _ _)); (first | walk1 | (k_unfold; (try dsimp only)) | (dsimp only; walk1)))
  refine dictComp_eval (fs := fsIv a) (by exact rfl) (by decide) (by exact rfl) (by decide) (by exact rfl) (by exact rfl) (by decide) (by decide) (by decide) (by exact (by decide +kernel : ((fsIv {}).map (·.1)).Nodup)) (by exact (by decide : (fsIv {}).length ≤ 100)) (by assumption) ?_
  walk_at "mine steps"
  refine ⟨_, [_, _, _, _, _, _, _, _, _, _, _], _, rfl, by exact rfl, by assumption, by assumption, ⟨.head _, rfl, ?_⟩, ?_⟩
  · intro j b hj
    match j, hj with
    | 0, hj => cases hj; exact ⟨_, _, _, _, rfl, by k_mem⟩
    | 1, hj => cases hj; exact ⟨_, _, _, _, rfl, by k_mem⟩
    | 2, hj => cases hj; exact ⟨_, _, _, _, rfl, by k_mem⟩
    | 3, hj => cases hj; exact ⟨_, _, _, _, rfl, by k_mem⟩
    | 4, hj => cases hj; exact ⟨_, _, _, _, rfl, by k_mem⟩
    | 5, hj => cases hj; exact ⟨_, _, _, _, rfl, by k_mem⟩
    | 6, hj => cases hj; exact ⟨_, _, _, _, rfl, by k_mem⟩
    | 7, hj => cases hj; exact ⟨_, _, _, _, rfl, by k_mem⟩
    | 8, hj => cases hj; exact ⟨_, _, _, _, rfl, by k_mem⟩
    | 9, hj => cases hj; exact ⟨_, _, _, _, rfl, by k_mem⟩
    | 10, hj => cases hj; exact ⟨_, _, _, _, rfl, by k_mem⟩
    | j + 11, hj => simp at hj
  intro D o kvs h' tk F' N' lD hD hK
  dsimp only
  have hlow : (D == sysModules) = false := by
    have h1 : @LT.lt Nat _ _ D := lD _ (.head _)
    exact beq_false_of_ne (Nat.ne_of_gt (show @LT.lt Nat _ 1 D by omega))
  refine Done.intro (new := [(D, o)]) F' N' ⟨D, o, kvs, rfl, rfl, hlow, hD, hK⟩ (List.forall_mem_cons.mpr ⟨.head _, List.forall_mem_nil _⟩) (by walk_at "mine sub") (List.forall_mem_cons.mpr ⟨List.forall_mem_cons.mpr ⟨?_, List.forall_mem_cons.mpr ⟨?_, List.forall_mem_nil _⟩⟩, List.forall_mem_nil _⟩)
  · exact Nat.ne_of_lt (lD (x, instObj 108 dx) (by k_mem))
  · exact Nat.ne_of_lt (lD (dx, ivDict w.params k t a) (by k_mem))

end Mine
end
section
example : True := by (w_top off); trivial
open PySem PySem.W PyProof.Rows
set_option Elab.async false
namespace Mine
example (w : World) : (∀ h, (lawTop.heap_39 w.params).In h → PySem.Challenge.rw_ew0023_01 = PySem.Challenge.rw_ew0023_01) := by k_fill; intros; rfl
local macro_rules | `(tactic| k_room) => `(tactic| ktr_room)
local macro_rules | `(tactic| walk_at "mine enter") => `(tactic| (rename BindHint _ => bh; unfold Meets; intro loose mean mg mb dp un gd cn sn sg sc sm a ccd cl outer A₀ base h₀ L m s Q E news B F X N ha T hd hu ret; refine wpAny_call ?_; k_dflt (first
  | (refine' enterM (by assumption) B F X N ha T ?kA ?kF ?kK ?k6 ?k7 ?k8 ?k9 ?kB ret ?_ ?c2 ?c3 ?c4 ?c5; (case kA => exact rfl); (case kF => exact rfl); (case kK => exact rfl); (case k6 => k_is); (case k7 => k_is); (case k8 => k_room); (case k9 => first | exact BindsTo.of_eq rfl | exact binds_K (Frag.In.keeps X (Fr.keep F)) rfl (by k_is) rfl rfl rfl); (case c5 => decide); (case kB => exact locs rfl); (case c2 => exact rfl); (case c3 => exact rfl); (case c4 => exact rfl); k_whole; clear B F X N ha T ret bh; intro g' L' h' F' N' l1 B' X' T'; (try k_lt l1); (try dsimp only); (try k_fold))
  | (refine' enterC (by assumption) B F X N ha T ?kA ?kF ?kK ?k6 ?k7 ?k8 ?k9 ?kB ?kD ret ?_ ?c2 ?c3 ?c4; (case kA => exact rfl); (case kF => exact rfl); (case kK => exact rfl); (case k6 => k_is); (case k7 => k_is); (case k8 => k_room); (case k9 => first | exact BindsTo.of_eq rfl | exact binds_K (Frag.In.keeps X (Fr.keep F)) rfl (by k_is) rfl rfl rfl); (case kB => exact rfl); (case kD => decide +kernel); (case c2 => exact rfl); (case c3 => exact rfl); (case c4 => exact rfl); k_whole; clear B F X N ha T ret bh; intro g' L' h' tk' cells' F' N' Y' l1 B' X' T'; (try k_lt l1); k_cells Y'; (try simp only [List.cons_append, List.nil_append] at N'); (try dsimp only); (try k_fold)))))
local macro_rules | `(tactic| walk_at "exec Assign cons ListComp") => `(tactic| (k_here; (with_reducible show wpAny _ _ (exec (Stmt.Assign _ (Expr.ListComp _ [⟨_, Expr.Tuple _ _ _, _, _⟩] _ _) _) _) _ _ _); k_dflt (refine assign_compTup (F₀ := by k_asm) (by rfl) (by with_unfolding_all rfl) (by with_unfolding_all rfl) (by decide) (by rfl) (by decide) (by rfl) (by rfl) (by rfl) ?_)))
local macro_rules | `(tactic| walk_at "TupSrc") => `(tactic| (k_here; k_dflt (refine TupSrc.of (by rfl) (by k_asm) (by k_asm) (by k_mem) (by first | size_fits | exact Nat.le_of_ble_eq_true rfl) ?_); intro g'; lcg_lit))
local macro_rules | `(tactic| lcg_src) => `(tactic| exact ⟨_, by k_mem, rfl, _, rfl⟩)
local macro_rules | `(tactic| walk_at "CompEnd") => `(tactic| (k_here; k_dflt (refine compEnd_same (by assumption) (by assumption) (by (simp only [LCg.Off3, and_true]; assumption)) (by lcg_src) ?_)))
local macro_rules | `(tactic| k_handed) => `(tactic| exact handed_optV _ _)
local macro_rules | `(tactic| walk_at "mine sub") => `(tactic| first | exact List.forall_mem_nil _ | (refine List.forall_mem_cons.mpr ⟨by k_mem, ?_⟩; walk_at "mine sub"))
local macro_rules | `(tactic| walk_at "mine off1") => `(tactic| first | exact List.forall_mem_nil _ | (refine List.forall_mem_cons.mpr ⟨by k_ne, ?_⟩; walk_at "mine off1"))
local macro_rules | `(tactic| walk_at "mine off") => `(tactic| first | exact List.forall_mem_nil _ | (refine List.forall_mem_cons.mpr ⟨?a, ?b⟩; (case a => walk_at "mine off1"); (case b => walk_at "mine off")))

local macro_rules | `(tactic| walk_at "mine done") => `(tactic| first | exact Done.intro (by assumption) (by assumption) ⟨_, rfl, rfl⟩ (by walk_at "mine sub") (by walk_at "mine sub") (by walk_at "mine off") | exact Done.intro (by assumption) (by assumption) ⟨_, _, rfl, rfl⟩ (by walk_at "mine sub") (by walk_at "mine sub") (by walk_at "mine off") | exact Done.intro (by assumption) (by assumption) ⟨_, _, _, rfl, rfl⟩ (by walk_at "mine sub") (by walk_at "mine sub") (by walk_at "mine off") | exact Done.intro (by assumption) (by assumption) ⟨_, _, _, _, rfl, rfl⟩ (by walk_at "mine sub") (by walk_at "mine sub") (by walk_at "mine off") | exact Done.intro (by assumption) (by assumption) ⟨_, _, _, _, _, rfl, rfl⟩ (by walk_at "mine sub") (by walk_at "mine sub") (by walk_at "mine off") | exact Done.intro (by assumption) (by assumption) ⟨_, _, _, _, _, _, rfl, rfl⟩ (by walk_at "mine sub") (by walk_at "mine sub") (by walk_at "mine off") | exact Done.intro (by assumption) (by assumption) ⟨_, _, _, _, _, _, _, rfl, rfl⟩ (by walk_at "mine sub") (by walk_at "mine sub") (by walk_at "mine off") | exact Done.intro (by assumption) (by assumption) ⟨_, _, _, _, _, _, _, _, rfl, rfl⟩ (by walk_at "mine sub") (by walk_at "mine sub") (by walk_at "mine off") | exact Done.intro (by assumption) (by assumption) ⟨_, _, _, _, _, _, _, _, _, rfl, rfl⟩ (by walk_at "mine sub") (by walk_at "mine sub") (by walk_at "mine off") | exact Done.intro (by assumption) (by assumption) ⟨_, _, _, _, _, _, _, _, _, _, rfl, rfl⟩ (by walk_at "mine sub") (by walk_at "mine sub") (by walk_at "mine off") | exact Done.intro (by assumption) (by assumption) ⟨_, _, _, _, _, _, _, _, _, _, _, rfl, rfl⟩ (by walk_at "mine sub") (by walk_at "mine sub") (by walk_at "mine off") | exact Done.intro (by assumption) (by assumption) ⟨_, _, _, _, _, _, _, _, _, _, _, _, rfl, rfl⟩ (by walk_at "mine sub") (by walk_at "mine sub") (by walk_at "mine off") | exact Done.intro (by assumption) (by assumption) ⟨_, _, _, _, _, _, _, _, _, _, _, _, _, rfl, rfl⟩ (by walk_at "mine sub") (by walk_at "mine sub") (by walk_at "mine off"))
local macro_rules | `(tactic| walk_at "mine steps") => `(tactic| repeat' (first | (k_unfold; (try dsimp only)) | walk1 | (dsimp only; walk1) | fail "no step"))
local macro_rules | `(tactic| walk_at "subscriptTail Name Constant ref int") => `(tactic| (k_here; k_dflt (refine' item_led ?k0 ?km ?k2 ?k3 ?k4 ?_ ?k6; (case k0 => k_asm); (case km => k_mem); (case k2 => decide); (case k3 => decide); (case k4 => exact rfl); (case k6 => with_unfolding_all rfl); k_whole)))
local macro_rules | `(tactic| walk_at "subscriptTail Name Name ref int") => `(tactic| (k_here; k_dflt (refine' item_led ?k0 ?km ?k2 ?k3 ?k4 ?_ ?k6; (case k0 => k_asm); (case km => k_mem); (case k2 => decide); (case k3 => decide); (case k4 => exact rfl); (case k6 => with_unfolding_all rfl); k_whole)))
local macro_rules | `(tactic| walk_at "mine to if") => `(tactic| repeat ((fail_if_success (with_reducible show wpAny _ _ (exec (Stmt.If _ _ _ _) _) _ _ _)); (first | walk1 | (k_unfold; (try dsimp only)) | (dsimp only; walk1))))
local macro_rules | `(tactic| walk_at "mine to cmp") => `(tactic| repeat ((fail_if_success (with_reducible show wpAny _ _ (exec (Stmt.If (Expr.Compare _ _ _ _) _ _ _) _) _ _ _)); (first | walk1 | (k_unfold; (try dsimp only)) | (dsimp only; walk1))))
local macro_rules | `(tactic| walk_at "mine cutS end") => `(tactic| exact ⟨rfl, _, _, _, rfl, (by first | assumption | exact Fr.same (by assumption) (by rfl)), (by first | assumption | exact News.sub (by assumption) (by walk_at "mine sub"))⟩)
local macro_rules | `(tactic| walk_at "mine len") => `(tactic| first | with_reducible assumption | (with_reducible refine' len_int ?a; (case a => omega)) | (with_reducible refine' len_add ?a ?b; (case a => walk_at "mine len"); (case b => walk_at "mine len")) | with_reducible exact Nat.le_refl _)
local macro_rules | `(tactic| walk_at "binaryOp Add str str") => `(tactic| (k_here; (with_reducible show wpAny _ _ (binaryOp Operator.Add (Value.str _ _) (Value.str _ _)) _ _ _); (refine' add_short ?a ?b ?c ?_; (case a => walk_at "mine len"); (case b => walk_at "mine len"); (case c => k_dflt exact rfl)); intro _ _))
local macro_rules | `(tactic| walk_at "eval Name") => `(tactic| ((with_reducible refine' ld ?F ?hv ?_ ?hk ?hl ?hd); (case F => first | with_reducible assumption | k_dflt assumption); (case hv => k_dflt exact rfl); (case hk => k_dflt exact rfl); (case hl => k_dflt exact rfl); (case hd => decide)))
local macro_rules | `(tactic| walk_at "mine to iter") => `(tactic| repeat ((fail_if_success (with_reducible show wpAny _ _ (pyIter _) _ _ _)); (first | walk1 | (k_unfold; (try dsimp only)) | (dsimp only; walk1))))
local macro_rules | `(tactic| size_fits) => `(tactic| exact strV_fits (by omega))
local macro_rules | `(tactic| walk_at "mine cutV end") => `(tactic| exact ⟨⟨_, rfl⟩, _, _, rfl, by assumption, by first | assumption | exact News.sub (by assumption) (by walk_at "mine sub")⟩)
local macro_rules | `(tactic| walk_at "mine to ifexp") => `(tactic| repeat ((fail_if_success (with_reducible show wpAny _ _ (eval (Expr.IfExp _ _ _ _) _) _ _ _)); (first | walk1 | (k_unfold; (try dsimp only)) | (dsimp only; walk1))))
local macro_rules | `(tactic| walk_at "mine tidy") => `(tactic| repeat (first | (with_reducible rename LCg.NsObj _ _ => q; clear q) | (with_reducible rename (_ ≠ _ ∧ _ ≠ _ ∧ _ ≠ _) => q; clear q) | (with_reducible rename ((_ ≠ _ ∧ _ ≠ _ ∧ _ ≠ _) ∧ _) => q; clear q) | (with_reducible rename (_[_]? = some _) => q; clear q) | (with_reducible rename (_ ≠ _ ∧ _) => q; clear q)))
local macro_rules | `(tactic| walk_at "mine lt") => `(tactic| first | exact List.forall_mem_nil _ | (refine List.forall_mem_cons.mpr ⟨by (show @LT.lt Nat _ _ _; omega), ?_⟩; walk_at "mine lt"))
local macro_rules | `(tactic| walk_at "mine cutB end") => `(tactic| refine ⟨?_, _, _, rfl, (by assumption), (by first | assumption | exact News.sub (by assumption) (by walk_at "mine sub"))⟩)
local macro_rules | `(tactic| walk_at "mine to make") => `(tactic| repeat ((fail_if_success (with_reducible show wpAny _ _ (callWith _ (Value.ref _) [] _ _) _ _ _)); (first | walk1 | (k_unfold; (try dsimp only)) | (dsimp only; walk1))))
local macro_rules | `(tactic| walk_at "mine KI") => `(tactic| first | assumption | exact All2.nil | exact KI.put All2.nil | exact KI.put (KI.put All2.nil) | exact KI.put (KI.put (KI.put All2.nil)) | exact KI.put (KI.put (KI.put (KI.put All2.nil))) | exact KI.put (KI.put (KI.put (KI.put (KI.put All2.nil)))) | exact KI.put (KI.put (KI.put (KI.put (KI.put (KI.put All2.nil))))) | exact KI.put (KI.put (KI.put (KI.put (KI.put (KI.put (KI.put All2.nil)))))) | exact KI.put (KI.put (KI.put (KI.put (KI.put (KI.put (KI.put (KI.put All2.nil))))))))
local macro_rules | `(tactic| walk_at "mine kw") => `(tactic| first | assumption | exact (List.forall_mem_nil _) | exact (putI_mem (List.forall_mem_nil _) (by decide)) | exact (putI_mem (putI_mem (List.forall_mem_nil _) (by decide)) (by decide)) | exact (putI_mem (putI_mem (putI_mem (List.forall_mem_nil _) (by decide)) (by decide)) (by decide)) | exact (putI_mem (putI_mem (putI_mem (putI_mem (List.forall_mem_nil _) (by decide)) (by decide)) (by decide)) (by decide)) | exact (putI_mem (putI_mem (putI_mem (putI_mem (putI_mem (List.forall_mem_nil _) (by decide)) (by decide)) (by decide)) (by decide)) (by decide)) | exact (putI_mem (putI_mem (putI_mem (putI_mem (putI_mem (putI_mem (List.forall_mem_nil _) (by decide)) (by decide)) (by decide)) (by decide)) (by decide)) (by decide)) | exact (putI_mem (putI_mem (putI_mem (putI_mem (putI_mem (putI_mem (putI_mem (List.forall_mem_nil _) (by decide)) (by decide)) (by decide)) (by decide)) (by decide)) (by decide)) (by decide)) | exact (putI_mem (putI_mem (putI_mem (putI_mem (putI_mem (putI_mem (putI_mem (putI_mem (List.forall_mem_nil _) (by decide)) (by decide)) (by decide)) (by decide)) (by decide)) (by decide)) (by decide)) (by decide)))
local macro_rules | `(tactic| walk_at "mine kz") => `(tactic| first | (refine Nat.le_trans (putI_len _ _ _) ?_; refine Nat.succ_le_succ ?_; walk_at "mine kz") | exact Nat.zero_le _ | (simp only [List.length_nil]; omega) | omega)
local macro_rules | `(tactic| walk_at "mine spread") => `(tactic| (k_here; k_dflt (refine' spread_iv ?zhL ?zhI ?zhk ?zhz ?zB ?zF ?zX ?zN ?zT ?zhd ?zhu ?zhkw ?zhm ?zhy ?zhky ?zhdb ?zhf ?zlo ?zD ?_; (case zhL => exact rfl); (case zF => k_asm); (case zhkw => exact rfl); (case zhy => exact rfl); (case zN => k_asm); (case zhm => k_mem); (case zD => assumption); (case zlo => assumption); (case zhI => walk_at "mine KI"); (case zhk => walk_at "mine kw"); (case zhz => walk_at "mine kz"); (case zB => k_asm); (case zX => k_asm); (case zT => k_asm); (case zhd => ktr_room); (case zhu => ktr_units); (case zhky => exact rfl); (case zhdb => decide); (case zhf => exact rfl)); intro x' dx' kk' tt' h' tk' F' N' hne'; (try simp only [List.cons_append, List.nil_append] at N'); replace hne' := offA_of hne'; simp only [OffA, OffL, and_true, true_and] at hne'; k_sweep))
local macro_rules | `(tactic| walk_at "mine enterK") => `(tactic| (rename BindHint _ => bh; refine MeetsT.of ?_; intro loose mean mg mb dp un gd cn sn sg sc sm a ccd cl outer A₀ base h₀ L m s Q E news B F X N ha T hd hu ret; k_dflt (first
  | (refine' enterM (by assumption) B F X N ha T ?kA ?kF ?kK ?k6 ?k7 ?k8 ?k9 ?kB ret ?_ ?c2 ?c3 ?c4 ?c5; (case kA => exact rfl); (case kF => exact rfl); (case kK => exact rfl); (case k6 => k_is); (case k7 => k_is); (case k8 => k_room); (case k9 => first | exact BindsTo.of_eq rfl | exact binds_K (Frag.In.keeps X (Fr.keep F)) rfl (by k_is) rfl rfl rfl); (case c5 => decide); (case kB => exact locs rfl); (case c2 => exact rfl); (case c3 => exact rfl); (case c4 => exact rfl); k_whole; clear B F X N ha T ret bh; intro g' L' h' F' N' l1 B' X' T'; (try k_lt l1); (try dsimp only); (try k_fold))
  | (refine' enterC (by assumption) B F X N ha T ?kA ?kF ?kK ?k6 ?k7 ?k8 ?k9 ?kB ?kD ret ?_ ?c2 ?c3 ?c4; (case kA => exact rfl); (case kF => exact rfl); (case kK => exact rfl); (case k6 => k_is); (case k7 => k_is); (case k8 => k_room); (case k9 => first | exact BindsTo.of_eq rfl | exact binds_K (Frag.In.keeps X (Fr.keep F)) rfl (by k_is) rfl rfl rfl); (case kB => exact rfl); (case kD => decide +kernel); (case c2 => exact rfl); (case c3 => exact rfl); (case c4 => exact rfl); k_whole; clear B F X N ha T ret bh; intro g' L' h' tk' cells' F' N' Y' l1 B' X' T'; (try k_lt l1); k_cells Y'; (try simp only [List.cons_append, List.nil_append] at N'); (try dsimp only); (try k_fold)))))
local macro_rules | `(tactic| walk_at "mine enterS") => `(tactic| (rename BindHint _ => bh; unfold MeetsS; intro loose mean mg mb dp un gd cn sn sg sc sm a ccd cl outer A₀ base h₀ L m s Q news ps B F X N htr hoff ha T M4 hd hu ret; k_dflt (
  (refine' enterS (by assumption) B F X N hoff ha T M4 ?kA ?kF ?kK ?k6 ?k7 ?k8 ?k9 ?kB ret ?_ ?c2 ?c3 ?c4 ?c5; (case kA => exact rfl); (case kF => exact rfl); (case kK => exact rfl); (case k6 => k_is); (case k7 => k_is); (case k8 => k_room); (case k9 => first | exact BindsTo.of_eq rfl | exact binds_K (Frag.In.keeps X (Fr.keep F)) rfl (by k_is) rfl rfl rfl); (case c5 => decide); (case kB => exact locs rfl); (case c2 => exact rfl); (case c3 => exact rfl); (case c4 => exact rfl); k_whole; clear B F X N hoff ha T M4 ret bh; intro g' L' h' F' N' l1 hoff' B' X' T' M4'; (try k_lt l1); (try dsimp only); (try k_fold)))))
local macro_rules | `(tactic| walk_at "call ref") => `(tactic| (k_here; k_dflt (refine' Meets.use (vd_spec _ _ _ _ _ _) ?k1 ?k2 ?k3 ?k4 ?ka ?k5 ?kd ?ku ?_; (case k1 => k_asm); (case k2 => k_asm); (case k3 => k_asm); (case k4 => k_asm); (case ka => walk_at "mine sub"); (case k5 => k_asm); (case kd => ktr_room); (case ku => ktr_units)); intro v' new' h' tk' hP F' N' hne'; obtain ⟨D', o', kvs', e1', e2', lo', hD', hK'⟩ := hP; subst e1' e2'; (try simp only [List.cons_append, List.nil_append] at N'); replace hne' := offA_of hne'; simp only [OffA, OffL, and_true, true_and] at hne'; k_sweep))
/-- what __str__ tells -/
def ivText (a : Iv) : Str := Txt.join (Str.ofString " ") ((esIv a).map fun p => wordOf p.1 p.2)
set_option maxRecDepth 100000 in
set_option maxHeartbeats 8000000 in
theorem str_spec (w : World) (x dx : Addr) (k t : Nat → Tok) (a : Iv) (hb : ∀ p ∈ esIv a, -100000 < p.2 ∧ p.2 < 100000) : MeetsS w 8 (.ref 91) [.ref x] (ivAt w x dx k t a) fun v => ∃ t', v = .str (ivText a) t' := by
  have bh : BindHint [(Str.ofString "self", .ref x)] := ⟨trivial⟩
  walk_at "mine enterS"
  repeat ((fail_if_success (with_reducible show wpAny _ _ (eval (Expr.GeneratorExp _ _ _ _) _) _ _ _)); (first | walk1 | (k_unfold; (try dsimp only)) | (dsimp only; walk1)))
  have hes : ∀ p ∈ esIv a, p.1.length ≤ 100 ∧ -100000 < p.2 ∧ p.2 < 100000 := fun p hp => ⟨by
    have := keepE_sub hp
    have hz : ∀ n ∈ (fsIv a).map (·.1), n.length ≤ 100 := (by decide +kernel : ∀ n ∈ (fsIv {}).map (·.1), n.length ≤ 100)
    exact hz _ this, hb p hp⟩
  have hel : (esIv a).length ≤ 40 := Nat.le_trans (List.length_filterMap_le _ _) (by exact (by decide : (fsIv {}).length ≤ 40))
  have TT := topRead_of (by assumption : Top lawTop.view_39 _ _ _ _ _)
  refine strGen (es := esIv a) (by exact rfl) (by ktr_room) (by exact rfl) (by exact rfl) (by decide) (by exact rfl) (by exact rfl) (by exact rfl) (by decide) (by exact rfl) (by decide) (by decide) (by exact rfl) (by exact rfl) (by exact rfl) (by assumption) (TopRead.g TT) (by assumption) (TopRead.nolimit TT) hes hel (by assumption) ?_ (by intro _; rfl)
  walk_at "mine steps"
  refine ⟨_, _, _, _, _, [_, _, _, _], rfl, by assumption, News.pick [2, 0, 1, 3, 4] (by assumption), .head _, .tail _ (.head _), by assumption, by assumption, by assumption, ?_, ?_⟩
  · have hoffA : ∀ p ∈ ivAt w x dx k t a, @Ne Nat p.1 86 := by assumption
    refine List.forall_mem_cons.mpr ⟨?_, List.forall_mem_cons.mpr ⟨?_, List.forall_mem_cons.mpr ⟨hoffA (x, _) (.head _), List.forall_mem_cons.mpr ⟨hoffA (dx, _) (.tail _ (.head _)), List.forall_mem_nil _⟩⟩⟩⟩
    all_goals (show @Ne Nat _ _; omega)
  intro b h₅ tk gs hJ
  walk_at "mine steps"
  refine hJ _ _ ?_
  intro t' h₆ tk₆ gs₆ ps₆ htr₆ hb₆ F₆ N₆
  walk_at "mine steps"
  try dsimp only
  refine ⟨_, _, _, _, _, _, ps₆, rfl, F₆, N₆, ⟨_, rfl⟩, htr₆, hb₆, .head _, List.forall_mem_cons.mpr ⟨.tail _ (.tail _ (.tail _ (.head _))), List.forall_mem_cons.mpr ⟨.tail _ (.tail _ (.tail _ (.tail _ (.head _)))), List.forall_mem_nil _⟩⟩⟩

end Mine
end
section
example : True := by (w_top off); trivial
open PySem PySem.W PyProof.Rows
set_option Elab.async false
namespace Mine
local macro_rules | `(tactic| walk_at "mine pad0") => `(tactic| skip)
local macro_rules | `(tactic| walk_at "mine pad1") => `(tactic| skip)
local macro_rules | `(tactic| walk_at "mine pad2") => `(tactic| skip)
example (w : World) : (∀ h, (lawTop.heap_39 w.params).In h → PySem.Challenge.rw_ew0023_01 = PySem.Challenge.rw_ew0023_01) := by k_fill; intros; rfl
local macro_rules | `(tactic| k_room) => `(tactic| ktr_room)
local macro_rules | `(tactic| walk_at "mine enter") => `(tactic| (rename BindHint _ => bh; unfold Meets; intro loose mean mg mb dp un gd cn sn sg sc sm a ccd cl outer A₀ base h₀ L m s Q E news B F X N ha T hd hu ret; refine wpAny_call ?_; k_dflt (first
  | (refine' enterM (by assumption) B F X N ha T ?kA ?kF ?kK ?k6 ?k7 ?k8 ?k9 ?kB ret ?_ ?c2 ?c3 ?c4 ?c5; (case kA => exact rfl); (case kF => exact rfl); (case kK => exact rfl); (case k6 => k_is); (case k7 => k_is); (case k8 => k_room); (case k9 => first | exact BindsTo.of_eq rfl | exact binds_K (Frag.In.keeps X (Fr.keep F)) rfl (by k_is) rfl rfl rfl); (case c5 => decide); (case kB => exact locs rfl); (case c2 => exact rfl); (case c3 => exact rfl); (case c4 => exact rfl); k_whole; clear B F X N ha T ret bh; intro g' L' h' F' N' l1 B' X' T'; (try k_lt l1); (try dsimp only); (try k_fold))
  | (refine' enterC (by assumption) B F X N ha T ?kA ?kF ?kK ?k6 ?k7 ?k8 ?k9 ?kB ?kD ret ?_ ?c2 ?c3 ?c4; (case kA => exact rfl); (case kF => exact rfl); (case kK => exact rfl); (case k6 => k_is); (case k7 => k_is); (case k8 => k_room); (case k9 => first | exact BindsTo.of_eq rfl | exact binds_K (Frag.In.keeps X (Fr.keep F)) rfl (by k_is) rfl rfl rfl); (case kB => exact rfl); (case kD => decide +kernel); (case c2 => exact rfl); (case c3 => exact rfl); (case c4 => exact rfl); k_whole; clear B F X N ha T ret bh; intro g' L' h' tk' cells' F' N' Y' l1 B' X' T'; (try k_lt l1); k_cells Y'; (try simp only [List.cons_append, List.nil_append] at N'); (try dsimp only); (try k_fold)))))
local macro_rules | `(tactic| walk_at "exec Assign cons ListComp") => `(tactic| (k_here; (with_reducible show wpAny _ _ (exec (Stmt.Assign _ (Expr.ListComp _ [⟨_, Expr.Tuple _ _ _, _, _⟩] _ _) _) _) _ _ _); k_dflt (refine assign_compTup (F₀ := by k_asm) (by rfl) (by with_unfolding_all rfl) (by with_unfolding_all rfl) (by decide) (by rfl) (by decide) (by rfl) (by rfl) (by rfl) ?_)))
local macro_rules | `(tactic| walk_at "TupSrc") => `(tactic| (k_here; k_dflt (refine TupSrc.of (by rfl) (by k_asm) (by k_asm) (by k_mem) (by first | size_fits | exact Nat.le_of_ble_eq_true rfl) ?_); intro g'; lcg_lit))
local macro_rules | `(tactic| lcg_src) => `(tactic| exact ⟨_, by k_mem, rfl, _, rfl⟩)
local macro_rules | `(tactic| walk_at "CompEnd") => `(tactic| (k_here; k_dflt (refine compEnd_same (by assumption) (by assumption) (by (simp only [LCg.Off3, and_true]; assumption)) (by lcg_src) ?_)))
local macro_rules | `(tactic| k_handed) => `(tactic| exact handed_optV _ _)
local macro_rules | `(tactic| walk_at "mine sub") => `(tactic| first | exact List.forall_mem_nil _ | (refine List.forall_mem_cons.mpr ⟨by k_mem, ?_⟩; walk_at "mine sub"))
local macro_rules | `(tactic| walk_at "mine off1") => `(tactic| first | exact List.forall_mem_nil _ | (refine List.forall_mem_cons.mpr ⟨by k_ne, ?_⟩; walk_at "mine off1"))
local macro_rules | `(tactic| walk_at "mine off") => `(tactic| first | exact List.forall_mem_nil _ | (refine List.forall_mem_cons.mpr ⟨?a, ?b⟩; (case a => walk_at "mine off1"); (case b => walk_at "mine off")))

local macro_rules | `(tactic| walk_at "mine done") => `(tactic| first | exact Done.intro (by assumption) (by assumption) ⟨_, rfl, rfl⟩ (by walk_at "mine sub") (by walk_at "mine sub") (by walk_at "mine off") | exact Done.intro (by assumption) (by assumption) ⟨_, _, rfl, rfl⟩ (by walk_at "mine sub") (by walk_at "mine sub") (by walk_at "mine off") | exact Done.intro (by assumption) (by assumption) ⟨_, _, _, rfl, rfl⟩ (by walk_at "mine sub") (by walk_at "mine sub") (by walk_at "mine off") | exact Done.intro (by assumption) (by assumption) ⟨_, _, _, _, rfl, rfl⟩ (by walk_at "mine sub") (by walk_at "mine sub") (by walk_at "mine off") | exact Done.intro (by assumption) (by assumption) ⟨_, _, _, _, _, rfl, rfl⟩ (by walk_at "mine sub") (by walk_at "mine sub") (by walk_at "mine off") | exact Done.intro (by assumption) (by assumption) ⟨_, _, _, _, _, _, rfl, rfl⟩ (by walk_at "mine sub") (by walk_at "mine sub") (by walk_at "mine off") | exact Done.intro (by assumption) (by assumption) ⟨_, _, _, _, _, _, _, rfl, rfl⟩ (by walk_at "mine sub") (by walk_at "mine sub") (by walk_at "mine off") | exact Done.intro (by assumption) (by assumption) ⟨_, _, _, _, _, _, _, _, rfl, rfl⟩ (by walk_at "mine sub") (by walk_at "mine sub") (by walk_at "mine off") | exact Done.intro (by assumption) (by assumption) ⟨_, _, _, _, _, _, _, _, _, rfl, rfl⟩ (by walk_at "mine sub") (by walk_at "mine sub") (by walk_at "mine off") | exact Done.intro (by assumption) (by assumption) ⟨_, _, _, _, _, _, _, _, _, _, rfl, rfl⟩ (by walk_at "mine sub") (by walk_at "mine sub") (by walk_at "mine off") | exact Done.intro (by assumption) (by assumption) ⟨_, _, _, _, _, _, _, _, _, _, _, rfl, rfl⟩ (by walk_at "mine sub") (by walk_at "mine sub") (by walk_at "mine off") | exact Done.intro (by assumption) (by assumption) ⟨_, _, _, _, _, _, _, _, _, _, _, _, rfl, rfl⟩ (by walk_at "mine sub") (by walk_at "mine sub") (by walk_at "mine off") | exact Done.intro (by assumption) (by assumption) ⟨_, _, _, _, _, _, _, _, _, _, _, _, _, rfl, rfl⟩ (by walk_at "mine sub") (by walk_at "mine sub") (by walk_at "mine off"))
local macro_rules | `(tactic| walk_at "mine steps") => `(tactic| repeat' (first | (k_unfold; (try dsimp only)) | walk1 | (dsimp only; walk1) | fail "no step"))
local macro_rules | `(tactic| walk_at "subscriptTail Name Constant ref int") => `(tactic| (k_here; k_dflt (refine' item_led ?k0 ?km ?k2 ?k3 ?k4 ?_ ?k6; (case k0 => k_asm); (case km => k_mem); (case k2 => decide); (case k3 => decide); (case k4 => exact rfl); (case k6 => with_unfolding_all rfl); k_whole)))
local macro_rules | `(tactic| walk_at "subscriptTail Name Name ref int") => `(tactic| (k_here; k_dflt (refine' item_led ?k0 ?km ?k2 ?k3 ?k4 ?_ ?k6; (case k0 => k_asm); (case km => k_mem); (case k2 => decide); (case k3 => decide); (case k4 => exact rfl); (case k6 => with_unfolding_all rfl); k_whole)))
local macro_rules | `(tactic| walk_at "mine to if") => `(tactic| repeat ((fail_if_success (with_reducible show wpAny _ _ (exec (Stmt.If _ _ _ _) _) _ _ _)); (first | walk1 | (k_unfold; (try dsimp only)) | (dsimp only; walk1))))
local macro_rules | `(tactic| walk_at "mine to cmp") => `(tactic| repeat ((fail_if_success (with_reducible show wpAny _ _ (exec (Stmt.If (Expr.Compare _ _ _ _) _ _ _) _) _ _ _)); (first | walk1 | (k_unfold; (try dsimp only)) | (dsimp only; walk1))))
local macro_rules | `(tactic| walk_at "mine cutS end") => `(tactic| exact ⟨rfl, _, _, _, rfl, (by first | assumption | exact Fr.same (by assumption) (by rfl)), (by first | assumption | exact News.sub (by assumption) (by walk_at "mine sub"))⟩)
local macro_rules | `(tactic| walk_at "mine len") => `(tactic| first | with_reducible assumption | (with_reducible refine' len_int ?a; (case a => omega)) | (with_reducible refine' len_add ?a ?b; (case a => walk_at "mine len"); (case b => walk_at "mine len")) | with_reducible exact Nat.le_refl _)
local macro_rules | `(tactic| walk_at "binaryOp Add str str") => `(tactic| (k_here; (with_reducible show wpAny _ _ (binaryOp Operator.Add (Value.str _ _) (Value.str _ _)) _ _ _); (refine' add_short ?a ?b ?c ?_; (case a => walk_at "mine len"); (case b => walk_at "mine len"); (case c => k_dflt exact rfl)); intro _ _))
local macro_rules | `(tactic| walk_at "eval Name") => `(tactic| ((with_reducible refine' ld ?F ?hv ?_ ?hk ?hl ?hd); (case F => first | with_reducible assumption | k_dflt assumption); (case hv => k_dflt exact rfl); (case hk => k_dflt exact rfl); (case hl => k_dflt exact rfl); (case hd => decide)))
local macro_rules | `(tactic| walk_at "mine to iter") => `(tactic| repeat ((fail_if_success (with_reducible show wpAny _ _ (pyIter _) _ _ _)); (first | walk1 | (k_unfold; (try dsimp only)) | (dsimp only; walk1))))
local macro_rules | `(tactic| size_fits) => `(tactic| exact strV_fits (by omega))
local macro_rules | `(tactic| walk_at "mine cutV end") => `(tactic| exact ⟨⟨_, rfl⟩, _, _, rfl, by assumption, by first | assumption | exact News.sub (by assumption) (by walk_at "mine sub")⟩)
local macro_rules | `(tactic| walk_at "mine to ifexp") => `(tactic| repeat ((fail_if_success (with_reducible show wpAny _ _ (eval (Expr.IfExp _ _ _ _) _) _ _ _)); (first | walk1 | (k_unfold; (try dsimp only)) | (dsimp only; walk1))))
local macro_rules | `(tactic| walk_at "mine tidy") => `(tactic| repeat (first | (with_reducible rename LCg.NsObj _ _ => q; clear q) | (with_reducible rename (_ ≠ _ ∧ _ ≠ _ ∧ _ ≠ _) => q; clear q) | (with_reducible rename ((_ ≠ _ ∧ _ ≠ _ ∧ _ ≠ _) ∧ _) => q; clear q) | (with_reducible rename (_[_]? = some _) => q; clear q) | (with_reducible rename (_ ≠ _ ∧ _) => q; clear q)))
local macro_rules | `(tactic| walk_at "mine lt") => `(tactic| first | exact List.forall_mem_nil _ | (refine List.forall_mem_cons.mpr ⟨by (show @LT.lt Nat _ _ _; omega), ?_⟩; walk_at "mine lt"))
local macro_rules | `(tactic| walk_at "mine cutB end") => `(tactic| refine ⟨?_, _, _, rfl, (by assumption), (by first | assumption | exact News.sub (by assumption) (by walk_at "mine sub"))⟩)
local macro_rules | `(tactic| walk_at "mine to make") => `(tactic| repeat ((fail_if_success (with_reducible show wpAny _ _ (callWith _ (Value.ref _) [] _ _) _ _ _)); (first | walk1 | (k_unfold; (try dsimp only)) | (dsimp only; walk1))))
local macro_rules | `(tactic| walk_at "mine KI") => `(tactic| first | assumption | exact All2.nil | exact KI.put All2.nil | exact KI.put (KI.put All2.nil) | exact KI.put (KI.put (KI.put All2.nil)) | exact KI.put (KI.put (KI.put (KI.put All2.nil))) | exact KI.put (KI.put (KI.put (KI.put (KI.put All2.nil)))) | exact KI.put (KI.put (KI.put (KI.put (KI.put (KI.put All2.nil))))) | exact KI.put (KI.put (KI.put (KI.put (KI.put (KI.put (KI.put All2.nil)))))) | exact KI.put (KI.put (KI.put (KI.put (KI.put (KI.put (KI.put (KI.put All2.nil))))))))
local macro_rules | `(tactic| walk_at "mine kw") => `(tactic| first | assumption | exact (List.forall_mem_nil _) | exact (putI_mem (List.forall_mem_nil _) (by decide)) | exact (putI_mem (putI_mem (List.forall_mem_nil _) (by decide)) (by decide)) | exact (putI_mem (putI_mem (putI_mem (List.forall_mem_nil _) (by decide)) (by decide)) (by decide)) | exact (putI_mem (putI_mem (putI_mem (putI_mem (List.forall_mem_nil _) (by decide)) (by decide)) (by decide)) (by decide)) | exact (putI_mem (putI_mem (putI_mem (putI_mem (putI_mem (List.forall_mem_nil _) (by decide)) (by decide)) (by decide)) (by decide)) (by decide)) | exact (putI_mem (putI_mem (putI_mem (putI_mem (putI_mem (putI_mem (List.forall_mem_nil _) (by decide)) (by decide)) (by decide)) (by decide)) (by decide)) (by decide)) | exact (putI_mem (putI_mem (putI_mem (putI_mem (putI_mem (putI_mem (putI_mem (List.forall_mem_nil _) (by decide)) (by decide)) (by decide)) (by decide)) (by decide)) (by decide)) (by decide)) | exact (putI_mem (putI_mem (putI_mem (putI_mem (putI_mem (putI_mem (putI_mem (putI_mem (List.forall_mem_nil _) (by decide)) (by decide)) (by decide)) (by decide)) (by decide)) (by decide)) (by decide)) (by decide)))
local macro_rules | `(tactic| walk_at "mine kz") => `(tactic| first | (refine Nat.le_trans (putI_len _ _ _) ?_; refine Nat.succ_le_succ ?_; walk_at "mine kz") | exact Nat.zero_le _ | (simp only [List.length_nil]; omega) | omega)
local macro_rules | `(tactic| walk_at "mine spread") => `(tactic| (k_here; k_dflt (refine' spread_iv ?zhL ?zhI ?zhk ?zhz ?zB ?zF ?zX ?zN ?zT ?zhd ?zhu ?zhkw ?zhm ?zhy ?zhky ?zhdb ?zhf ?zlo ?zD ?_; (case zhL => exact rfl); (case zF => k_asm); (case zhkw => exact rfl); (case zhy => exact rfl); (case zN => k_asm); (case zhm => k_mem); (case zD => assumption); (case zlo => assumption); (case zhI => walk_at "mine KI"); (case zhk => walk_at "mine kw"); (case zhz => walk_at "mine kz"); (case zB => k_asm); (case zX => k_asm); (case zT => k_asm); (case zhd => ktr_room); (case zhu => ktr_units); (case zhky => exact rfl); (case zhdb => decide); (case zhf => exact rfl)); intro x' dx' kk' tt' h' tk' F' N' hne'; (try simp only [List.cons_append, List.nil_append] at N'); replace hne' := offA_of hne'; simp only [OffA, OffL, and_true, true_and] at hne'; k_sweep))
local macro_rules | `(tactic| walk_at "mine enterK") => `(tactic| (rename BindHint _ => bh; refine MeetsT.of ?_; intro loose mean mg mb dp un gd cn sn sg sc sm a ccd cl outer A₀ base h₀ L m s Q E news B F X N ha T hd hu ret; k_dflt (first
  | (refine' enterM (by assumption) B F X N ha T ?kA ?kF ?kK ?k6 ?k7 ?k8 ?k9 ?kB ret ?_ ?c2 ?c3 ?c4 ?c5; (case kA => exact rfl); (case kF => exact rfl); (case kK => exact rfl); (case k6 => k_is); (case k7 => k_is); (case k8 => k_room); (case k9 => first | exact BindsTo.of_eq rfl | exact binds_K (Frag.In.keeps X (Fr.keep F)) rfl (by k_is) rfl rfl rfl); (case c5 => decide); (case kB => exact locs rfl); (case c2 => exact rfl); (case c3 => exact rfl); (case c4 => exact rfl); k_whole; clear B F X N ha T ret bh; intro g' L' h' F' N' l1 B' X' T'; (try k_lt l1); (try dsimp only); (try k_fold))
  | (refine' enterC (by assumption) B F X N ha T ?kA ?kF ?kK ?k6 ?k7 ?k8 ?k9 ?kB ?kD ret ?_ ?c2 ?c3 ?c4; (case kA => exact rfl); (case kF => exact rfl); (case kK => exact rfl); (case k6 => k_is); (case k7 => k_is); (case k8 => k_room); (case k9 => first | exact BindsTo.of_eq rfl | exact binds_K (Frag.In.keeps X (Fr.keep F)) rfl (by k_is) rfl rfl rfl); (case kB => exact rfl); (case kD => decide +kernel); (case c2 => exact rfl); (case c3 => exact rfl); (case c4 => exact rfl); k_whole; clear B F X N ha T ret bh; intro g' L' h' tk' cells' F' N' Y' l1 B' X' T'; (try k_lt l1); k_cells Y'; (try simp only [List.cons_append, List.nil_append] at N'); (try dsimp only); (try k_fold)))))
local macro_rules | `(tactic| walk_at "call ref") => `(tactic| (k_here; k_dflt (refine' Meets.use (read_spec _ _ _ _ _ _) ?k1 ?k2 ?k3 ?k4 ?ka ?k5 ?kd ?ku ?_; (case k1 => k_asm); (case k2 => k_asm); (case k3 => k_asm); (case k4 => k_asm); (case ka => walk_at "mine sub"); (case k5 => k_asm); (case kd => ktr_room); (case ku => ktr_units)); intro v' new' h' tk' hP F' N' hne'; obtain ⟨l', n', e1', e2'⟩ := hP; subst e1' e2'; (try simp only [List.cons_append, List.nil_append] at N'); replace hne' := offA_of hne'; simp only [OffA, OffL, and_true, true_and] at hne'; skip; k_sweep))
local macro_rules | `(tactic| walk_at "call ref") => `(tactic| (k_here; k_dflt (refine' Meets.use (rest_spec _ _ _ _ _ _) ?k1 ?k2 ?k3 ?k4 ?ka ?k5 ?kd ?ku ?_; (case k1 => k_asm); (case k2 => k_asm); (case k3 => k_asm); (case k4 => k_asm); (case ka => walk_at "mine sub"); (case k5 => k_asm); (case kd => ktr_room); (case ku => ktr_units)); intro v' new' h' tk' hP F' N' hne'; obtain ⟨l', n', e1', e2'⟩ := hP; subst e1' e2'; (try simp only [List.cons_append, List.nil_append] at N'); replace hne' := offA_of hne'; simp only [OffA, OffL, and_true, true_and] at hne'; skip; k_sweep))
local macro_rules | `(tactic| walk_at "mine enterP") => `(tactic| (rename BindHint _ => bh; unfold MeetsP; intro loose mean mg mb dp un gd cn sn sg sc sm a ccd cl outer A₀ base h₀ L m s Q news ps G M4 F N htr hoff ha hd hu ret; k_dflt (
  (refine' enterP (by assumption) G M4 F N hoff ha ?kA ?kF ?kK ?k6 ?k7 ?k8 ?k9 ?kB ret ?_ ?c2 ?c3 ?c4 ?c5; (case kA => exact rfl); (case kF => exact rfl); (case kK => exact rfl); (case k6 => k_is); (case k7 => k_is); (case k8 => k_room); (case k9 => first | exact BindsTo.of_eq rfl | exact binds_K (Frag.In.keeps (Ground3.X G) (Fr.keep F)) rfl (by k_is) rfl rfl rfl); (case c5 => decide); (case kB => exact locs rfl); (case c2 => exact rfl); (case c3 => exact rfl); (case c4 => exact rfl); k_whole; clear G F N hoff ha M4 ret bh; intro g' L' h' F' N' l1 hoff' G' M4'; (try k_lt l1); (try dsimp only); (try k_fold); have B' := Ground3.B G'; have X' := Ground3.X G'; have T' := Ground3.T G'))))
local macro_rules | `(tactic| walk_at "mine to ite") => `(tactic| repeat ((fail_if_success (with_reducible show ite _ _ _)); (first | walk1 | (k_unfold; (try dsimp only)) | (dsimp only; walk1))))
local macro_rules | `(tactic| walk_at "call ref") => `(tactic| (k_here; (with_reducible show wpAny _ _ (call (Value.ref 91) _) _ _ _); k_dflt (refine' MeetsS.call (str_spec _ _ _ _ _ _ ?hb) ?k1 ?k2 ?k3 ?k4 ?kt ?ko ?ka ?k5 ?km ?kd ?ku ?_; (case hb => assumption); (case k1 => k_asm); (case k2 => k_asm); (case k3 => k_asm); (case k4 => k_asm); (case kt => assumption); (case ko => assumption); (case ka => walk_at "mine sub"); (case k5 => k_asm); (case km => assumption); (case kd => ktr_room); (case ku => ktr_units)); intro v' h' tk' gs' ps' hP htr' hbb' F' N'; obtain ⟨t', e1'⟩ := hP; subst e1'; (try simp only [List.cons_append, List.nil_append] at N')))
local macro_rules | `(tactic| walk_at "call type:str") => `(tactic| (k_here; (with_reducible show wpAny _ _ (call (Value.type "str") [Value.ref _]) _ _ _); k_dflt (refine' kso_call ?k1 ?k2 ?k3 ?k4 ?k5 ?_; (case k1 => ktr_units); (case k2 => k_in); (case k3 => k_inst); (case k4 => k_is); (case k5 => k_is); k_whole)))
local macro_rules | `(tactic| walk_at "compareOp Eq ref ref") => `(tactic| (k_here; (with_reducible show wpAny _ _ (compareOp CmpOp.Eq (Value.ref _) (Value.ref _)) _ _ _); k_dflt (first
  | (refine' eq_listR ?k1 ?k2 ?k3 ?k6 ?_; (case k1 => k_asm); (case k2 => k_mem); (case k3 => k_mem); (case k6 => ktr_units))
  | (refine' eq_listX ?k1 ?k2 ?k3 ?k6 ?_; (case k1 => k_asm); (case k2 => k_mem); (case k3 => k_mem); (case k6 => ktr_units)))))
set_option maxRecDepth 100000 in
set_option maxHeartbeats 8000000 in
theorem isb_spec (w : World) (x dx : Addr) (k t : Nat → Tok) (a : Iv) (hb : ∀ p ∈ esIv a, -100000 < p.2 ∧ p.2 < 100000) (hne : (ivText a == Str.ofString "") = false) (hc : ∀ t, MeetsT w 14 (.ref 61) [.ref 108, .str (ivText a) t] [] [] fun v new => ReadsTo w a v new) :
  MeetsP w 20 (.ref 179) [.ref x] (ivAt w x dx k t a) fun v => v = .bool true := by
  have bh : BindHint [(Str.ofString "thing", .ref x)] := ⟨trivial⟩
  walk_at "mine enterP"
  refine wpC.execs_cons (wpC.any ?_)
  walk_at "mine steps"
  dsimp only [StrBack]
  walk_at "mine steps"
  dsimp only
  refine wpC.execs_cons (wpC.If (wpC.any ?_))
  walk_at "mine to ite"
  refine ite_f hne ?_
  refine wpC.execs_nil ?_
  dsimp only
  refine wpC.execs_cons (wpC.Assign (wpC.methodCall ?_))
  walk_at "mine steps"
  k_dflt (refine' wpC.callWith_M ?k1 ?k2 ?k3 ?k4 ?_; (case k1 => k_asm); (case k2 => k_asm); (case k3 => k_mem); (case k4 => k_is))
  walk_at "mine steps"
  try dsimp only
  k_dflt (refine' MeetsT.callM (hc _) ?k1 ?k2 ?k3 ?ka ?kq ?kd ?ku ?_; (case k1 => k_asm); (case k2 => k_asm); (case k3 => k_asm); (case ka => walk_at "mine sub"); (case kq => k_mem); (case kd => ktr_room); (case ku => ktr_units))
  intro v₂ new₂ h₂ tk₂ g₂ hT₂ hP₂ G₂ F₂ N₂ hne₂
  obtain ⟨x₂, dx₂, k₂, t₂, rfl, rfl⟩ := hP₂
  replace hne₂ := offA_of hne₂
  simp only [OffA, OffL, and_true, true_and] at hne₂
  simp only [List.cons_append, List.nil_append] at N₂
  have B₂ := Ground3.B G₂
  have X₂ := Ground3.X G₂
  have T₂ := Ground3.T G₂
  walk_at "mine steps"
  dsimp only
  refine wpC.execs_cons (wpC.any ?_)
  walk_at "mine steps"
  try dsimp only

  refine ⟨g₂, hT₂, _, _, _, _, _, _, _, rfl, by assumption, by assumption, rfl, by assumption, by assumption, by k_mem, by walk_at "mine sub"⟩
local macro_rules | `(tactic| walk_at "compareOp Eq ref ref") => `(tactic| (k_here; (with_reducible show wpAny _ _ (compareOp CmpOp.Eq (Value.ref _) (Value.ref _)) _ _ _); k_dflt (refine' eq_same (os := [none, none, none, none, none, none, none, none, none, none, none]) ?k1 ?k2 ?k3 ?k4 ?k5 ?k6 ?_; (case k1 => k_asm); (case k2 => k_mem); (case k3 => k_mem); (case k4 => exact optN11); (case k5 => exact optN11); (case k6 => ktr_units))))
set_option maxRecDepth 100000 in
set_option maxHeartbeats 8000000 in
theorem isb_none (w : World) (x dx : Addr) (k t : Nat → Tok) : MeetsP w 20 (.ref 179) [.ref x] (ivAt w x dx k t {}) fun v => v = .bool true := by
  have bh : BindHint [(Str.ofString "thing", .ref x)] := ⟨trivial⟩
  have hb : ∀ p ∈ esIv {}, -100000 < p.2 ∧ p.2 < 100000 := fun p hp => nomatch hp
  have he : (ivText {} == Str.ofString "") = true := by decide +kernel
  walk_at "mine enterP"
  refine wpC.any ?_
  walk_at "mine to ite"
  dsimp only [StrBack]
  walk_at "mine to ite"
  refine ite_t he ?_
  repeat ((fail_if_success (with_reducible show wpAny _ _ (compareOp _ _ _) _ _ _)); (first | walk1 | (k_unfold; (try dsimp only)) | (dsimp only; walk1)))
  walk_at "mine steps"
  try dsimp only
  refine ⟨_, .refl, _, _, _, _, _, _, _, rfl, by assumption, by assumption, rfl, by assumption, by assumption, by k_mem, by walk_at "mine sub"⟩

end Mine
end
section
example : True := by (w_top off); trivial
open PySem PySem.W PyProof.Rows
set_option Elab.async false
namespace Mine
local macro_rules | `(tactic| walk_at "mine pad0") => `(tactic| skip)
local macro_rules | `(tactic| walk_at "mine pad1") => `(tactic| skip)
local macro_rules | `(tactic| walk_at "mine pad2") => `(tactic| skip)
local macro_rules | `(tactic| walk_at "mine pad3") => `(tactic| skip)
local macro_rules | `(tactic| walk_at "mine pad4") => `(tactic| skip)
local macro_rules | `(tactic| walk_at "mine pad5") => `(tactic| skip)
local macro_rules | `(tactic| walk_at "mine pad6") => `(tactic| skip)
local macro_rules | `(tactic| walk_at "mine pad7") => `(tactic| skip)
local macro_rules | `(tactic| walk_at "mine pad8") => `(tactic| skip)
example (w : World) : (∀ h, (lawTop.heap_39 w.params).In h → PySem.Challenge.rw_ew0023_01 = PySem.Challenge.rw_ew0023_01) := by k_fill; intros; rfl
local macro_rules | `(tactic| k_room) => `(tactic| ktr_room)
local macro_rules | `(tactic| walk_at "mine enter") => `(tactic| (rename BindHint _ => bh; unfold Meets; intro loose mean mg mb dp un gd cn sn sg sc sm a ccd cl outer A₀ base h₀ L m s Q E news B F X N ha T hd hu ret; refine wpAny_call ?_; k_dflt (first
  | (refine' enterM (by assumption) B F X N ha T ?kA ?kF ?kK ?k6 ?k7 ?k8 ?k9 ?kB ret ?_ ?c2 ?c3 ?c4 ?c5; (case kA => exact rfl); (case kF => exact rfl); (case kK => exact rfl); (case k6 => k_is); (case k7 => k_is); (case k8 => k_room); (case k9 => first | exact BindsTo.of_eq rfl | exact binds_K (Frag.In.keeps X (Fr.keep F)) rfl (by k_is) rfl rfl rfl); (case c5 => decide); (case kB => exact locs rfl); (case c2 => exact rfl); (case c3 => exact rfl); (case c4 => exact rfl); k_whole; clear B F X N ha T ret bh; intro g' L' h' F' N' l1 B' X' T'; (try k_lt l1); (try dsimp only); (try k_fold))
  | (refine' enterC (by assumption) B F X N ha T ?kA ?kF ?kK ?k6 ?k7 ?k8 ?k9 ?kB ?kD ret ?_ ?c2 ?c3 ?c4; (case kA => exact rfl); (case kF => exact rfl); (case kK => exact rfl); (case k6 => k_is); (case k7 => k_is); (case k8 => k_room); (case k9 => first | exact BindsTo.of_eq rfl | exact binds_K (Frag.In.keeps X (Fr.keep F)) rfl (by k_is) rfl rfl rfl); (case kB => exact rfl); (case kD => decide +kernel); (case c2 => exact rfl); (case c3 => exact rfl); (case c4 => exact rfl); k_whole; clear B F X N ha T ret bh; intro g' L' h' tk' cells' F' N' Y' l1 B' X' T'; (try k_lt l1); k_cells Y'; (try simp only [List.cons_append, List.nil_append] at N'); (try dsimp only); (try k_fold)))))
local macro_rules | `(tactic| walk_at "exec Assign cons ListComp") => `(tactic| (k_here; (with_reducible show wpAny _ _ (exec (Stmt.Assign _ (Expr.ListComp _ [⟨_, Expr.Tuple _ _ _, _, _⟩] _ _) _) _) _ _ _); k_dflt (refine assign_compTup (F₀ := by k_asm) (by rfl) (by with_unfolding_all rfl) (by with_unfolding_all rfl) (by decide) (by rfl) (by decide) (by rfl) (by rfl) (by rfl) ?_)))
local macro_rules | `(tactic| walk_at "TupSrc") => `(tactic| (k_here; k_dflt (refine TupSrc.of (by rfl) (by k_asm) (by k_asm) (by k_mem) (by first | size_fits | exact Nat.le_of_ble_eq_true rfl) ?_); intro g'; lcg_lit))
local macro_rules | `(tactic| lcg_src) => `(tactic| exact ⟨_, by k_mem, rfl, _, rfl⟩)
local macro_rules | `(tactic| walk_at "CompEnd") => `(tactic| (k_here; k_dflt (refine compEnd_same (by assumption) (by assumption) (by (simp only [LCg.Off3, and_true]; assumption)) (by lcg_src) ?_)))
local macro_rules | `(tactic| k_handed) => `(tactic| exact handed_optV _ _)
local macro_rules | `(tactic| walk_at "mine sub") => `(tactic| first | exact List.forall_mem_nil _ | (refine List.forall_mem_cons.mpr ⟨by k_mem, ?_⟩; walk_at "mine sub"))
local macro_rules | `(tactic| walk_at "mine off1") => `(tactic| first | exact List.forall_mem_nil _ | (refine List.forall_mem_cons.mpr ⟨by k_ne, ?_⟩; walk_at "mine off1"))
local macro_rules | `(tactic| walk_at "mine off") => `(tactic| first | exact List.forall_mem_nil _ | (refine List.forall_mem_cons.mpr ⟨?a, ?b⟩; (case a => walk_at "mine off1"); (case b => walk_at "mine off")))

local macro_rules | `(tactic| walk_at "mine done") => `(tactic| first | exact Done.intro (by assumption) (by assumption) ⟨_, rfl, rfl⟩ (by walk_at "mine sub") (by walk_at "mine sub") (by walk_at "mine off") | exact Done.intro (by assumption) (by assumption) ⟨_, _, rfl, rfl⟩ (by walk_at "mine sub") (by walk_at "mine sub") (by walk_at "mine off") | exact Done.intro (by assumption) (by assumption) ⟨_, _, _, rfl, rfl⟩ (by walk_at "mine sub") (by walk_at "mine sub") (by walk_at "mine off") | exact Done.intro (by assumption) (by assumption) ⟨_, _, _, _, rfl, rfl⟩ (by walk_at "mine sub") (by walk_at "mine sub") (by walk_at "mine off") | exact Done.intro (by assumption) (by assumption) ⟨_, _, _, _, _, rfl, rfl⟩ (by walk_at "mine sub") (by walk_at "mine sub") (by walk_at "mine off") | exact Done.intro (by assumption) (by assumption) ⟨_, _, _, _, _, _, rfl, rfl⟩ (by walk_at "mine sub") (by walk_at "mine sub") (by walk_at "mine off") | exact Done.intro (by assumption) (by assumption) ⟨_, _, _, _, _, _, _, rfl, rfl⟩ (by walk_at "mine sub") (by walk_at "mine sub") (by walk_at "mine off") | exact Done.intro (by assumption) (by assumption) ⟨_, _, _, _, _, _, _, _, rfl, rfl⟩ (by walk_at "mine sub") (by walk_at "mine sub") (by walk_at "mine off") | exact Done.intro (by assumption) (by assumption) ⟨_, _, _, _, _, _, _, _, _, rfl, rfl⟩ (by walk_at "mine sub") (by walk_at "mine sub") (by walk_at "mine off") | exact Done.intro (by assumption) (by assumption) ⟨_, _, _, _, _, _, _, _, _, _, rfl, rfl⟩ (by walk_at "mine sub") (by walk_at "mine sub") (by walk_at "mine off") | exact Done.intro (by assumption) (by assumption) ⟨_, _, _, _, _, _, _, _, _, _, _, rfl, rfl⟩ (by walk_at "mine sub") (by walk_at "mine sub") (by walk_at "mine off") | exact Done.intro (by assumption) (by assumption) ⟨_, _, _, _, _, _, _, _, _, _, _, _, rfl, rfl⟩ (by walk_at "mine sub") (by walk_at "mine sub") (by walk_at "mine off") | exact Done.intro (by assumption) (by assumption) ⟨_, _, _, _, _, _, _, _, _, _, _, _, _, rfl, rfl⟩ (by walk_at "mine sub") (by walk_at "mine sub") (by walk_at "mine off"))
local macro_rules | `(tactic| walk_at "mine steps") => `(tactic| repeat' (first | (k_unfold; (try dsimp only)) | walk1 | (dsimp only; walk1) | fail "no step"))
local macro_rules | `(tactic| walk_at "subscriptTail Name Constant ref int") => `(tactic| (k_here; k_dflt (refine' item_led ?k0 ?km ?k2 ?k3 ?k4 ?_ ?k6; (case k0 => k_asm); (case km => k_mem); (case k2 => decide); (case k3 => decide); (case k4 => exact rfl); (case k6 => with_unfolding_all rfl); k_whole)))
local macro_rules | `(tactic| walk_at "subscriptTail Name Name ref int") => `(tactic| (k_here; k_dflt (refine' item_led ?k0 ?km ?k2 ?k3 ?k4 ?_ ?k6; (case k0 => k_asm); (case km => k_mem); (case k2 => decide); (case k3 => decide); (case k4 => exact rfl); (case k6 => with_unfolding_all rfl); k_whole)))
local macro_rules | `(tactic| walk_at "mine to if") => `(tactic| repeat ((fail_if_success (with_reducible show wpAny _ _ (exec (Stmt.If _ _ _ _) _) _ _ _)); (first | walk1 | (k_unfold; (try dsimp only)) | (dsimp only; walk1))))
local macro_rules | `(tactic| walk_at "mine to cmp") => `(tactic| repeat ((fail_if_success (with_reducible show wpAny _ _ (exec (Stmt.If (Expr.Compare _ _ _ _) _ _ _) _) _ _ _)); (first | walk1 | (k_unfold; (try dsimp only)) | (dsimp only; walk1))))
local macro_rules | `(tactic| walk_at "mine cutS end") => `(tactic| exact ⟨rfl, _, _, _, rfl, (by first | assumption | exact Fr.same (by assumption) (by rfl)), (by first | assumption | exact News.sub (by assumption) (by walk_at "mine sub"))⟩)
local macro_rules | `(tactic| walk_at "mine len") => `(tactic| first | with_reducible assumption | (with_reducible refine' len_int ?a; (case a => omega)) | (with_reducible refine' len_add ?a ?b; (case a => walk_at "mine len"); (case b => walk_at "mine len")) | with_reducible exact Nat.le_refl _)
local macro_rules | `(tactic| walk_at "binaryOp Add str str") => `(tactic| (k_here; (with_reducible show wpAny _ _ (binaryOp Operator.Add (Value.str _ _) (Value.str _ _)) _ _ _); (refine' add_short ?a ?b ?c ?_; (case a => walk_at "mine len"); (case b => walk_at "mine len"); (case c => k_dflt exact rfl)); intro _ _))
local macro_rules | `(tactic| walk_at "eval Name") => `(tactic| ((with_reducible refine' ld ?F ?hv ?_ ?hk ?hl ?hd); (case F => first | with_reducible assumption | k_dflt assumption); (case hv => k_dflt exact rfl); (case hk => k_dflt exact rfl); (case hl => k_dflt exact rfl); (case hd => decide)))
local macro_rules | `(tactic| walk_at "mine to iter") => `(tactic| repeat ((fail_if_success (with_reducible show wpAny _ _ (pyIter _) _ _ _)); (first | walk1 | (k_unfold; (try dsimp only)) | (dsimp only; walk1))))
local macro_rules | `(tactic| size_fits) => `(tactic| exact strV_fits (by omega))
local macro_rules | `(tactic| walk_at "mine cutV end") => `(tactic| exact ⟨⟨_, rfl⟩, _, _, rfl, by assumption, by first | assumption | exact News.sub (by assumption) (by walk_at "mine sub")⟩)
local macro_rules | `(tactic| walk_at "mine to ifexp") => `(tactic| repeat ((fail_if_success (with_reducible show wpAny _ _ (eval (Expr.IfExp _ _ _ _) _) _ _ _)); (first | walk1 | (k_unfold; (try dsimp only)) | (dsimp only; walk1))))
local macro_rules | `(tactic| walk_at "mine tidy") => `(tactic| repeat (first | (with_reducible rename LCg.NsObj _ _ => q; clear q) | (with_reducible rename (_ ≠ _ ∧ _ ≠ _ ∧ _ ≠ _) => q; clear q) | (with_reducible rename ((_ ≠ _ ∧ _ ≠ _ ∧ _ ≠ _) ∧ _) => q; clear q) | (with_reducible rename (_[_]? = some _) => q; clear q) | (with_reducible rename (_ ≠ _ ∧ _) => q; clear q)))
local macro_rules | `(tactic| walk_at "mine lt") => `(tactic| first | exact List.forall_mem_nil _ | (refine List.forall_mem_cons.mpr ⟨by (show @LT.lt Nat _ _ _; omega), ?_⟩; walk_at "mine lt"))
local macro_rules | `(tactic| walk_at "mine cutB end") => `(tactic| refine ⟨?_, _, _, rfl, (by assumption), (by first | assumption | exact News.sub (by assumption) (by walk_at "mine sub"))⟩)
local macro_rules | `(tactic| walk_at "mine to make") => `(tactic| repeat ((fail_if_success (with_reducible show wpAny _ _ (callWith _ (Value.ref _) [] _ _) _ _ _)); (first | walk1 | (k_unfold; (try dsimp only)) | (dsimp only; walk1))))
local macro_rules | `(tactic| walk_at "mine KI") => `(tactic| first | assumption | exact All2.nil | exact KI.put All2.nil | exact KI.put (KI.put All2.nil) | exact KI.put (KI.put (KI.put All2.nil)) | exact KI.put (KI.put (KI.put (KI.put All2.nil))) | exact KI.put (KI.put (KI.put (KI.put (KI.put All2.nil)))) | exact KI.put (KI.put (KI.put (KI.put (KI.put (KI.put All2.nil))))) | exact KI.put (KI.put (KI.put (KI.put (KI.put (KI.put (KI.put All2.nil)))))) | exact KI.put (KI.put (KI.put (KI.put (KI.put (KI.put (KI.put (KI.put All2.nil))))))))
local macro_rules | `(tactic| walk_at "mine kw") => `(tactic| first | assumption | exact (List.forall_mem_nil _) | exact (putI_mem (List.forall_mem_nil _) (by decide)) | exact (putI_mem (putI_mem (List.forall_mem_nil _) (by decide)) (by decide)) | exact (putI_mem (putI_mem (putI_mem (List.forall_mem_nil _) (by decide)) (by decide)) (by decide)) | exact (putI_mem (putI_mem (putI_mem (putI_mem (List.forall_mem_nil _) (by decide)) (by decide)) (by decide)) (by decide)) | exact (putI_mem (putI_mem (putI_mem (putI_mem (putI_mem (List.forall_mem_nil _) (by decide)) (by decide)) (by decide)) (by decide)) (by decide)) | exact (putI_mem (putI_mem (putI_mem (putI_mem (putI_mem (putI_mem (List.forall_mem_nil _) (by decide)) (by decide)) (by decide)) (by decide)) (by decide)) (by decide)) | exact (putI_mem (putI_mem (putI_mem (putI_mem (putI_mem (putI_mem (putI_mem (List.forall_mem_nil _) (by decide)) (by decide)) (by decide)) (by decide)) (by decide)) (by decide)) (by decide)) | exact (putI_mem (putI_mem (putI_mem (putI_mem (putI_mem (putI_mem (putI_mem (putI_mem (List.forall_mem_nil _) (by decide)) (by decide)) (by decide)) (by decide)) (by decide)) (by decide)) (by decide)) (by decide)))
local macro_rules | `(tactic| walk_at "mine kz") => `(tactic| first | (refine Nat.le_trans (putI_len _ _ _) ?_; refine Nat.succ_le_succ ?_; walk_at "mine kz") | exact Nat.zero_le _ | (simp only [List.length_nil]; omega) | omega)
local macro_rules | `(tactic| walk_at "mine spread") => `(tactic| (k_here; k_dflt (refine' spread_iv ?zhL ?zhI ?zhk ?zhz ?zB ?zF ?zX ?zN ?zT ?zhd ?zhu ?zhkw ?zhm ?zhy ?zhky ?zhdb ?zhf ?zlo ?zD ?_; (case zhL => exact rfl); (case zF => k_asm); (case zhkw => exact rfl); (case zhy => exact rfl); (case zN => k_asm); (case zhm => k_mem); (case zD => assumption); (case zlo => assumption); (case zhI => walk_at "mine KI"); (case zhk => walk_at "mine kw"); (case zhz => walk_at "mine kz"); (case zB => k_asm); (case zX => k_asm); (case zT => k_asm); (case zhd => ktr_room); (case zhu => ktr_units); (case zhky => exact rfl); (case zhdb => decide); (case zhf => exact rfl)); intro x' dx' kk' tt' h' tk' F' N' hne'; (try simp only [List.cons_append, List.nil_append] at N'); replace hne' := offA_of hne'; simp only [OffA, OffL, and_true, true_and] at hne'; k_sweep))
local macro_rules | `(tactic| walk_at "mine enterK") => `(tactic| (rename BindHint _ => bh; refine MeetsT.of ?_; intro loose mean mg mb dp un gd cn sn sg sc sm a ccd cl outer A₀ base h₀ L m s Q E news B F X N ha T hd hu ret; k_dflt (first
  | (refine' enterM (by assumption) B F X N ha T ?kA ?kF ?kK ?k6 ?k7 ?k8 ?k9 ?kB ret ?_ ?c2 ?c3 ?c4 ?c5; (case kA => exact rfl); (case kF => exact rfl); (case kK => exact rfl); (case k6 => k_is); (case k7 => k_is); (case k8 => k_room); (case k9 => first | exact BindsTo.of_eq rfl | exact binds_K (Frag.In.keeps X (Fr.keep F)) rfl (by k_is) rfl rfl rfl); (case c5 => decide); (case kB => exact locs rfl); (case c2 => exact rfl); (case c3 => exact rfl); (case c4 => exact rfl); k_whole; clear B F X N ha T ret bh; intro g' L' h' F' N' l1 B' X' T'; (try k_lt l1); (try dsimp only); (try k_fold))
  | (refine' enterC (by assumption) B F X N ha T ?kA ?kF ?kK ?k6 ?k7 ?k8 ?k9 ?kB ?kD ret ?_ ?c2 ?c3 ?c4; (case kA => exact rfl); (case kF => exact rfl); (case kK => exact rfl); (case k6 => k_is); (case k7 => k_is); (case k8 => k_room); (case k9 => first | exact BindsTo.of_eq rfl | exact binds_K (Frag.In.keeps X (Fr.keep F)) rfl (by k_is) rfl rfl rfl); (case kB => exact rfl); (case kD => decide +kernel); (case c2 => exact rfl); (case c3 => exact rfl); (case c4 => exact rfl); k_whole; clear B F X N ha T ret bh; intro g' L' h' tk' cells' F' N' Y' l1 B' X' T'; (try k_lt l1); k_cells Y'; (try simp only [List.cons_append, List.nil_append] at N'); (try dsimp only); (try k_fold)))))
local macro_rules | `(tactic| walk_at "call ref") => `(tactic| (k_here; k_dflt (refine' Meets.use (eq_spec _ _ _ _ _ _ _ _ _ _ _ ?hs ?hs2) ?k1 ?k2 ?k3 ?k4 ?ka ?k5 ?kd ?ku ?_; (case k1 => k_asm); (case k2 => k_asm); (case k3 => k_asm); (case k4 => k_asm); (case ka => walk_at "mine sub"); (case hs => first | exact rfl | assumption); (case hs2 => first | exact rfl | assumption); (case k5 => k_asm); (case kd => ktr_room); (case ku => ktr_units)); intro v' new' h' tk' hP F' N' hne'; obtain ⟨e1', e2'⟩ := hP; subst e1' e2'; (try simp only [List.cons_append, List.nil_append] at N'); replace hne' := offA_of hne'; simp only [OffA, OffL, and_true, true_and] at hne'; skip; k_sweep))
local macro_rules | `(tactic| walk_at "call ref") => `(tactic| (k_here; k_dflt (refine' Meets.use (rest_spec _ _ _ _ _ _) ?k1 ?k2 ?k3 ?k4 ?ka ?k5 ?kd ?ku ?_; (case k1 => k_asm); (case k2 => k_asm); (case k3 => k_asm); (case k4 => k_asm); (case ka => walk_at "mine sub"); (case k5 => k_asm); (case kd => ktr_room); (case ku => ktr_units)); intro v' new' h' tk' hP F' N' hne'; obtain ⟨l', n', e1', e2'⟩ := hP; subst e1' e2'; (try simp only [List.cons_append, List.nil_append] at N'); replace hne' := offA_of hne'; simp only [OffA, OffL, and_true, true_and] at hne'; skip; k_sweep))
local macro_rules | `(tactic| walk_at "mine enterP") => `(tactic| (rename BindHint _ => bh; unfold MeetsP; intro loose mean mg mb dp un gd cn sn sg sc sm a ccd cl outer A₀ base h₀ L m s Q news ps G M4 F N htr hoff ha hd hu ret; k_dflt (
  (refine' enterP (by assumption) G M4 F N hoff ha ?kA ?kF ?kK ?k6 ?k7 ?k8 ?k9 ?kB ret ?_ ?c2 ?c3 ?c4 ?c5; (case kA => exact rfl); (case kF => exact rfl); (case kK => exact rfl); (case k6 => k_is); (case k7 => k_is); (case k8 => k_room); (case k9 => first | exact BindsTo.of_eq rfl | exact binds_K (Frag.In.keeps (Ground3.X G) (Fr.keep F)) rfl (by k_is) rfl rfl rfl); (case c5 => decide); (case kB => exact locs rfl); (case c2 => exact rfl); (case c3 => exact rfl); (case c4 => exact rfl); k_whole; clear G F N hoff ha M4 ret bh; intro g' L' h' F' N' l1 hoff' G' M4'; (try k_lt l1); (try dsimp only); (try k_fold); have B' := Ground3.B G'; have X' := Ground3.X G'; have T' := Ground3.T G'))))
local macro_rules | `(tactic| walk_at "mine to ite") => `(tactic| repeat ((fail_if_success (with_reducible show ite _ _ _)); (first | walk1 | (k_unfold; (try dsimp only)) | (dsimp only; walk1))))

theorem opt5 {a b c d e : Int} {t0 t1 t2 t3 t4 : Tok} : OptAre [.int a t0, .int b t1, .int c t2, .int d t3, .int e t4] [some a, some b, some c, some d, some e] := .cons (o := some a) (.cons (o := some b) (.cons (o := some c) (.cons (o := some d) (.cons (o := some e) .nil))))
local macro_rules | `(tactic| walk_at "compareOp NotEq ref ref") => `(tactic| (k_here; (with_reducible show wpAny _ _ (compareOp CmpOp.NotEq (Value.ref _) (Value.ref _)) _ _ _); k_dflt (refine' ne_same ?k1 ?k2 ?k3 ?k4 ?k5 ?k6 ?_; (case k1 => k_asm); (case k2 => k_mem); (case k3 => k_mem); (case k4 => exact optX); (case k5 => exact opt5); (case k6 => ktr_units))))
local macro_rules | `(tactic| walk_at "compareOp Eq ref") => `(tactic| (k_here; (with_reducible show wpAny _ _ (compareOp CmpOp.Eq (Value.ref _) _) _ _ _); (refine cmp_ofEq ?_); k_dflt (refine' cmp_K ?k1 ?k2 ?k3 ?k4 ?k5 ?k6 ?k7 ?k8 ?_; (case k1 => ktr_units); (case k2 => k_asm); (case k3 => k_asm); (case k4 => k_inst); (case k5 => k_typeOf); (case k6 => k_is); (case k7 => k_is); (case k8 => k_is); k_whole)))
local macro_rules | `(tactic| walk_at "compareOp Eq ref ref") => `(tactic| (k_here; (with_reducible show wpAny _ _ (compareOp CmpOp.Eq (Value.ref _) _) _ _ _); (refine cmp_ofEq ?_); k_dflt (refine' cmp_K ?k1 ?k2 ?k3 ?k4 ?k5 ?k6 ?k7 ?k8 ?_; (case k1 => ktr_units); (case k2 => k_asm); (case k3 => k_asm); (case k4 => k_inst); (case k5 => k_typeOf); (case k6 => k_is); (case k7 => k_is); (case k8 => k_is); k_whole)))
theorem Meets.mono {w : World} {d : Nat} {f : Value} {vals : List Value} {kw : List (Str × Value)} {args : List (Addr × Obj)} {P P' : Value → List (Addr × Obj) → Prop} (h : Meets w d f vals kw args P) (hP : ∀ v new, P v new → P' v new) : Meets w d f vals kw args P' := by
  unfold Meets at h ⊢
  intro loose mean mg mb dp un gd cn sn sg sc sm a ccd cl outer A₀ base h₀ L m s Q E news B F X N ha T hd hu ret
  exact h loose mean mg mb dp un gd cn sn sg sc sm a ccd cl outer A₀ base h₀ L m s Q E news B F X N ha T hd hu fun v new h' tk' hp => ret v new h' tk' (hP v new hp)
set_option maxRecDepth 100000 in
set_option maxHeartbeats 8000000 in
/-- an interval against a number -/
theorem eq_int_spec (w : World) (x dx : Addr) (k t : Nat → Tok) (a : Iv) (n : Int) (u : Tok) : Meets w 5 (.ref 105) [.ref x, .int n u] [] (ivAt w x dx k t a) fun v new => v = .bool false ∧ new = [] := by
  have bh : BindHint [(Str.ofString "self", .ref x), (Str.ofString "other", .int n u)] := ⟨trivial⟩
  walk_at "mine enter"
  walk_at "mine steps"
  dsimp only
  exact Done.intro (by assumption) (by assumption) ⟨rfl, rfl⟩ (List.forall_mem_nil _) (by walk_at "mine sub") (List.forall_mem_nil _)
abbrev ivU (a b c d : Int) : Iv := { ml := some a, ce := some b, de := some c, y := some 3, wk := some b, d := some a, h := some 0, s := some b, us := some d }
theorem mk11 (w : World) (a b c d : Int) (t0 t1 t2 t3 t5 t6 t7 t9 t10 : Tok) : Meets w 5 (.ref 108) [.int a t0, .int b t1, .int c t2, .int 3 t3, .none, .int b t5, .int a t6, .int 0 t7, .none, .int b t9, .int d t10] [] [] fun v new => ReadsTo w (ivU a b c d) v new :=
  Meets.mono (make_spec w _ _ _ _ _ _ _ _ _ _ _ _ _ (ib_pos w _ _ _ _ _ _ _ _ _ _ _)) fun v new ⟨x, dx, k, e1, e2⟩ => ⟨x, dx, k, fun i => ([t0, t1, t2, t3, 0, t5, t6, t7, 0, t9, t10] : List Tok).getD i 0, e1, e2⟩
theorem mkWD (w : World) (a b : Int) (t u : Tok) : Meets w 5 (.ref 108) [] [(Str.ofString "weeks", .int a t), (Str.ofString "days", .int b u)] [] fun v new => ReadsTo w { wk := some a, d := some b } v new :=
  Meets.mono (make_spec w _ _ _ _ _ _ _ _ _ _ _ _ _ (ib_wd w _ _)) fun v new ⟨x, dx, k, e1, e2⟩ => ⟨x, dx, k, fun i => ([0, 0, 0, 0, 0, t, u, 0, 0, 0, 0] : List Tok).getD i 0, e1, e2⟩
theorem mkD (w : World) (b : Int) (u : Tok) : Meets w 5 (.ref 108) [] [(Str.ofString "days", .int b u)] [] fun v new => ReadsTo w { d := some b } v new :=
  Meets.mono (make_spec w _ _ _ _ _ _ _ _ _ _ _ _ _ (ib_d w _)) fun v new ⟨x, dx, k, e1, e2⟩ => ⟨x, dx, k, fun i => ([0, 0, 0, 0, 0, 0, u, 0, 0, 0, 0] : List Tok).getD i 0, e1, e2⟩
local macro_rules | `(tactic| walk_at "mine mk") => `(tactic| (intro v' new' h' tk' hP F' N' hne'; obtain ⟨x', dx', kk', tt', e1', e2'⟩ := hP; subst e1' e2'; (try simp only [List.cons_append, List.nil_append] at N'); replace hne' := offA_of hne'; simp only [OffA, OffL, and_true, true_and] at hne'; k_sweep))
local macro_rules | `(tactic| walk_at "call ref") => `(tactic| (k_here; k_dflt (first
  | (refine' Meets.use (mk11 _ _ _ _ _ _ _ _ _ _ _ _ _ _) ?k1 ?k2 ?k3 ?k4 ?ka ?k5 ?kd ?ku ?_; (case k1 => k_asm); (case k2 => k_asm); (case k3 => k_asm); (case k4 => k_asm); (case ka => walk_at "mine sub"); (case k5 => k_asm); (case kd => ktr_room); (case ku => ktr_units); walk_at "mine mk")
  | (refine' Meets.use (mkWD _ _ _ _ _) ?k1 ?k2 ?k3 ?k4 ?ka ?k5 ?kd ?ku ?_; (case k1 => k_asm); (case k2 => k_asm); (case k3 => k_asm); (case k4 => k_asm); (case ka => walk_at "mine sub"); (case k5 => k_asm); (case kd => ktr_room); (case ku => ktr_units); walk_at "mine mk")
  | (refine' Meets.use (mkD _ _ _) ?k1 ?k2 ?k3 ?k4 ?ka ?k5 ?kd ?ku ?_; (case k1 => k_asm); (case k2 => k_asm); (case k3 => k_asm); (case k4 => k_asm); (case ka => walk_at "mine sub"); (case k5 => k_asm); (case kd => ktr_room); (case ku => ktr_units); walk_at "mine mk"))))
set_option maxRecDepth 100000 in
set_option maxHeartbeats 8000000 in
theorem units_spec (w : World) (c : Int) (t : Tok)
    (back : ∀ a : Iv, esIv a ≠ [] → (∀ p ∈ esIv a, -100000 < p.2 ∧ p.2 < 100000) → (ivText a == Str.ofString "") = false ∧ ∀ t, MeetsT w 14 (.ref 61) [.ref 108, .str (ivText a) t] [] [] fun v new => ReadsTo w a v new) : MeetsP w 40 (.ref 186) [.int c t] [] fun v => v = .bool true := by
  have bh : BindHint [(Str.ofString "cell", .int c t)] := ⟨trivial⟩
  walk_at "mine enterP"
  refine wpC.execs_cons (wpC.any ?_)
  walk_at "mine steps"
  have b1 := Int.fmod_nonneg_of_pos (if c < 0 then -c else c) (show (0 : Int) < 9 by decide)
  have b2 := Int.fmod_lt_of_pos (if c < 0 then -c else c) (show (0 : Int) < 9 by decide)
  have b3 := Int.fmod_nonneg_of_pos ((if c < 0 then -c else c).fdiv 9) (show (0 : Int) < 30 by decide)
  have b4 := Int.fmod_lt_of_pos ((if c < 0 then -c else c).fdiv 9) (show (0 : Int) < 30 by decide)
  generalize (if c < 0 then -c else c).fmod 9 = f0 at *
  generalize ((if c < 0 then -c else c).fdiv 9).fmod 30 = m0 at *
  generalize hfe : f0 - 4 = few at *
  generalize hme : m0 - 9 = many at *
  have f1 : -4 ≤ few ∧ few ≤ 4 := by omega
  have m1 : -9 ≤ many ∧ many ≤ 20 := by omega
  clear b1 b2 b3 b4 hfe hme
  rename News _ _ _ _ => hN
  replace hN := News.pick [1] hN
  change News _ _ _ [_] at hN
  refine wpC.execs_cons (wpC.any ?_)
  have fm : -80 ≤ few * many ∧ few * many ≤ 80 := by
    have h1 : few * many ≤ 80 := by
      have : few = -4 ∨ few = -3 ∨ few = -2 ∨ few = -1 ∨ few = 0 ∨ few = 1 ∨ few = 2 ∨ few = 3 ∨ few = 4 := by omega
      rcases this with h | h | h | h | h | h | h | h | h <;> subst h <;> omega
    have h2 : -80 ≤ few * many := by
      have : few = -4 ∨ few = -3 ∨ few = -2 ∨ few = -1 ∨ few = 0 ∨ few = 1 ∨ few = 2 ∨ few = 3 ∨ few = 4 := by omega
      rcases this with h | h | h | h | h | h | h | h | h <;> subst h <;> omega
    exact ⟨h2, h1⟩
  repeat ((fail_if_success (with_reducible show wpAny _ _ (call (Value.ref 108) _ _) _ _ _)); (first | walk1 | (k_unfold; (try dsimp only)) | (dsimp only; walk1)))
  walk_at "call ref"
  walk_at "mine steps"
  dsimp only
  refine wpC.execs_cons (wpC.any ?_)
  walk_at "mine steps"
  dsimp only
  rename News _ _ _ _ => hN
  replace hN := News.pick [7, 5, 6, 3, 4, 1, 2] hN
  change News _ _ _ [_, _, _, _, _, _, _] at hN
  refine wpC.execs_cons (wpC.If (wpC.isTrue_or (wpC.isTrue_not (wpC.isTrue_value (wpC.nameCall ?_)))))
  walk_at "mine steps"
  k_dflt (refine' wpC.callWith_K ?k1 ?k2 ?_; (case k1 => k_asm); (case k2 => k_is))
  walk_at "mine steps"
  have q1 : esIv (ivU few many (few + 1) (few * many)) = [(Str.ofString "millennia", few), (Str.ofString "centuries", many), (Str.ofString "decades", few + 1), (Str.ofString "years", 3), (Str.ofString "weeks", many), (Str.ofString "days", few), (Str.ofString "hours", 0), (Str.ofString "seconds", many), (Str.ofString "microseconds", few * many)] := by rfl
  have q2 : ∀ p ∈ esIv (ivU few many (few + 1) (few * many)), -100000 < p.2 ∧ p.2 < 100000 := by
    rw [q1]; simp only [List.forall_mem_cons]; refine ⟨?_, ?_, ?_, ?_, ?_, ?_, ?_, ?_, ?_, List.forall_mem_nil _⟩ <;> ((try dsimp only); omega)
  have q3 := back _ (by rw [q1]; simp) q2
  refine MeetsP.call (isb_spec w _ _ _ _ _ q2 q3.1 q3.2) (by assumption) (by assumption) (by assumption) hN (by assumption) ?ho (by walk_at "mine sub") (by ktr_room) (by ktr_units) ?_
  case ho =>
    refine List.forall_mem_cons.mpr ⟨?_, List.forall_mem_cons.mpr ⟨?_, List.forall_mem_cons.mpr ⟨?_, List.forall_mem_cons.mpr ⟨?_, List.forall_mem_cons.mpr ⟨?_, List.forall_mem_cons.mpr ⟨?_, List.forall_mem_nil _⟩⟩⟩⟩⟩⟩
    all_goals (show @Ne Nat _ _; omega)
  intro v₂ h₂ tk₂ gs₂ ps₂ g₂ hT₂ hv₂ htr₂ hb₂ G₂ M₂ F₂ N₂
  subst hv₂
  clear hN
  have B₂ := Ground3.B G₂
  have X₂ := Ground3.X G₂
  have T₂ := Ground3.T G₂
  walk_at "mine to ite"
  dsimp only
  refine ite_f rfl ?_
  refine wpC.isTrue_or (wpC.isTrue_not (wpC.isTrue_value (wpC.nameCall ?_)))
  walk_at "mine steps"
  k_dflt (refine' wpC.callWith_K ?k1 ?k2 ?_; (case k1 => k_asm); (case k2 => k_is))
  walk_at "mine steps"
  have q4 : esIv { wk := some many, d := some few } = [(Str.ofString "weeks", many), (Str.ofString "days", few)] := by rfl
  have q5 : ∀ p ∈ esIv { wk := some many, d := some few }, -100000 < p.2 ∧ p.2 < 100000 := by
    rw [q4]; simp only [List.forall_mem_cons]; refine ⟨?_, ?_, List.forall_mem_nil _⟩ <;> ((try dsimp only); omega)
  have q6 := back _ (by rw [q4]; simp) q5
  (rename News _ _ _ _ => hN)
  refine MeetsP.call (isb_spec w _ _ _ _ _ q5 q6.1 q6.2) (by assumption) (by assumption) (by assumption) hN (by assumption) ?ho (by walk_at "mine sub") (by ktr_room) (by ktr_units) ?_
  case ho =>
    refine List.forall_mem_cons.mpr ⟨?_, List.forall_mem_cons.mpr ⟨?_, List.forall_mem_cons.mpr ⟨?_, List.forall_mem_cons.mpr ⟨?_, List.forall_mem_cons.mpr ⟨?_, List.forall_mem_cons.mpr ⟨?_, List.forall_mem_nil _⟩⟩⟩⟩⟩⟩
    all_goals (show @Ne Nat _ _; omega)
  intro v₃ h₃ tk₃ gs₃ ps₃ g₃ hT₃ hv₃ htr₃ hb₃ G₃ M₃ F₃ N₃
  subst hv₃
  clear hN
  have B₃ := Ground3.B G₃
  have X₃ := Ground3.X G₃
  have T₃ := Ground3.T G₃
  walk_at "mine to ite"
  dsimp only
  refine ite_f rfl ?_
  refine wpC.isTrue_or (wpC.any ?_)
  walk_at "mine to ite"
  refine ite_f rfl ?_
  refine wpC.isTrue_or_nil ?_
  refine ite_f rfl ?_
  refine wpC.execs_nil ?_
  dsimp only
  refine wpC.execs_cons (wpC.any ?_)
  repeat ((fail_if_success (with_reducible show wpAny _ _ (compareOp _ _ _) _ _ _)); (first | walk1 | (k_unfold; (try dsimp only)) | (dsimp only; walk1)))
  walk_at "compareOp Eq ref ref"
  walk_at "call ref"
  dsimp only [W.CmpBack]
  have n1 : nrm { wk := some many, d := some few } = nrm { d := some (7 * many + few) } := by
    show ((0 : Int), 0 + few + many * 7, (0 : Int)) = (0, 0 + (7 * many + few), 0)
    rw [show 0 + few + many * 7 = 0 + (7 * many + few) by omega]
  rw [decide_eq_true n1]
  iterate 40 (try ((fail_if_success (with_reducible show wpAny _ _ (compareOp _ _ _) _ _ _)); (first | walk1 | (k_unfold; (try dsimp only)) | (dsimp only; walk1))))
  have n2 : nrm { wk := some many, d := some few } ≠ nrm { d := some (7 * many + few + 1) } := by
    intro e
    have e1 : ((0 : Int), 0 + few + many * 7, (0 : Int)) = (0, 0 + (7 * many + few + 1), 0) := e
    simp only [Prod.mk.injEq] at e1
    omega
  walk_at "compareOp Eq ref ref"
  walk_at "call ref"
  dsimp only [W.CmpBack]
  rw [decide_eq_false n2]
  iterate 40 (try ((fail_if_success (with_reducible show wpAny _ _ (compareOp _ _ _) _ _ _)); (first | walk1 | (k_unfold; (try dsimp only)) | (dsimp only; walk1))))
  walk_at "compareOp Eq ref"
  k_dflt (refine' Meets.use (eq_int_spec _ _ _ _ _ _ _ _) ?k1 ?k2 ?k3 ?k4 ?ka ?k5 ?kd ?ku ?_; (case k1 => k_asm); (case k2 => k_asm); (case k3 => k_asm); (case k4 => k_asm); (case ka => walk_at "mine sub"); (case k5 => k_asm); (case kd => ktr_room); (case ku => ktr_units))
  intro v' new' h' tk' hP F' N' hne'
  obtain ⟨e1', e2'⟩ := hP
  subst e1' e2'
  dsimp only [W.CmpBack]
  try simp only [List.nil_append] at N'
  walk_at "mine steps"
  try dsimp only
  exact ⟨g₃, hT₂.trans hT₃, _, _, _, _, _, gs₃, ps₃, rfl, by assumption, by assumption, rfl, by assumption, fun h => hb₃ (hb₂ h), by k_mem, List.forall_mem_nil _⟩

end Mine
end
section
example : True := by (w_top off); trivial
open PySem PySem.W PyProof.Rows PySem.Calls PySem.NumText
set_option Elab.async false
set_option maxRecDepth 100000
namespace Mine
/-- a text's signs -/
abbrev sg (x : Str) : List Nat := x.cps.toList
theorem sg_app (a b : Str) : sg (a ++ b) = sg a ++ sg b := KT.app_list a b
theorem sg_len (x : Str) : (sg x).length = x.length := Array.length_toList
theorem sg_ext {a b : Str} (h : sg a = sg b) : a = b := Str.ext' (Array.toList_inj.mp h)
abbrev numS (n : Int) : Str := Str.ofString (toString n)
theorem digits_all (m : Nat) : AllDigits ((Nat.toDigits 10 m).map Char.toNat) := by
  intro c hc
  obtain ⟨ch, hch, e⟩ := List.mem_map.mp hc
  have r := digit_range (Nat.isDigit_of_mem_toDigits (by decide) (by decide) hch)
  rw [← e]
  exact r
theorem digits_ne (m : Nat) : (Nat.toDigits 10 m).map Char.toNat ≠ [] := by
  intro e
  have h := toDigits_len_ge 10 m
  rw [List.map_eq_nil_iff.mp e] at h
  exact absurd h (by decide)
theorem neg_signs (m : Nat) : sg (numS (Int.negSucc m)) = 45 :: (Nat.toDigits 10 (m + 1)).map Char.toNat := by
  rw [sg, numS, signs_ofString]
  show ("-" ++ Nat.repr (m + 1)).toList.map Char.toNat = _
  rw [String.toList_append, List.map_append, Nat.toList_repr]
  rfl
theorem pos_signs (m : Nat) : sg (numS (m : Int)) = (Nat.toDigits 10 m).map Char.toNat := KIN.signs_num m
theorem num_chars (n : Int) : ∀ c ∈ sg (numS n), c = 45 ∨ (48 ≤ c ∧ c ≤ 57) := by
  intro c hc
  cases n with
  | ofNat m =>
    rw [show (Int.ofNat m) = (m : Int) from rfl, pos_signs] at hc
    exact Or.inr (digits_all m c hc)
  | negSucc m =>
    rw [neg_signs] at hc
    rcases List.mem_cons.mp hc with e | hc
    · exact Or.inl e
    · exact Or.inr (digits_all _ c hc)
theorem num_len1 (n : Int) : 1 ≤ (numS n).length := by
  rw [← sg_len]
  cases n with
  | ofNat m =>
    rw [show (Int.ofNat m) = (m : Int) from rfl, pos_signs]
    have := digits_ne m
    cases h : (Nat.toDigits 10 m).map Char.toNat with
    | nil => exact absurd h this
    | cons a r => exact Nat.succ_le_succ (Nat.zero_le _)
  | negSucc m => rw [neg_signs]; exact Nat.succ_le_succ (Nat.zero_le _)
theorem num_len {n : Int} (h : -1000000 < n ∧ n < 1000000) : (numS n).length ≤ 11 := by
  cases n with
  | ofNat m => exact Nat.le_trans (KT.len_num (n := (m : Int)) (by omega) (by have := h.2; change (m : Int) < _ at this; omega)) (by decide)
  | negSucc m =>
    have h1 := KT.len_num (n := ((m + 1 : Nat) : Int)) (by omega) (by have := h.1; omega)
    have h2 := pos_signs (m + 1)
    rw [← sg_len] at h1 ⊢
    rw [neg_signs]
    have h1' : (sg (numS ((m + 1 : Nat) : Int))).length ≤ 10 := h1
    rw [h2] at h1'
    rw [List.length_cons]
    omega
theorem num_int {n : Int} (h : -1000000 < n ∧ n < 1000000) : PySem.intText? (numS n) = some n := by
  cases n with
  | ofNat m => exact KIN.num_reads (n := (m : Int)) (by omega) (by have := h.2; change (m : Int) < _ at this; omega)
  | negSucc m =>
    have e := intText_neg (x := numS (Int.negSucc m)) (neg_signs m) (digits_all _) (digits_ne _) (Nat.le_trans (num_len h) (by decide))
    rw [e, KIN.val_back]
    rfl
theorem hasColon_eq (x : Str) : hasColon x = decide (58 ∈ sg x) := StrLaws.found_one x 58
/-- a word that tells a number -/
structure NumW (x : Str) (n : Int) : Prop where
  len1 : 1 ≤ x.length
  len : x.length ≤ 12
  cs : ∀ c ∈ sg x, c = 43 ∨ c = 45 ∨ (48 ≤ c ∧ c ≤ 57)
  val : PySem.intText? x = some n
theorem numW_num {n : Int} (h : -1000000 < n ∧ n < 1000000) : NumW (numS n) n :=
  ⟨num_len1 n, Nat.le_succ_of_le (num_len h), fun c hc => Or.inr (num_chars n c hc), num_int h⟩
theorem NumW.colon {x : Str} {n : Int} (h : NumW x n) : hasColon x = false := by
  rw [hasColon_eq, decide_eq_false]
  intro q
  have := h.cs _ q
  omega
theorem NumW.at {x : Str} {n : Int} (h : NumW x n) : (x == Str.ofString "@") = false := beq_false_of_ne fun e => by
  have := h.cs 64 (by rw [e]; decide)
  omega
theorem NumW.ago {x : Str} {n : Int} (h : NumW x n) : (x == Str.ofString "ago") = false := beq_false_of_ne fun e => by
  have := h.cs 97 (by rw [e]; decide)
  omega
theorem dig_space : ∀ c : Nat, c = 43 ∨ c = 45 ∨ (48 ≤ c ∧ c ≤ 57) → Unicode.isSpace c = false := by
  intro c h
  have : c = 43 ∨ c = 45 ∨ c = 48 ∨ c = 49 ∨ c = 50 ∨ c = 51 ∨ c = 52 ∨ c = 53 ∨ c = 54 ∨ c = 55 ∨ c = 56 ∨ c = 57 := by omega
  rcases this with e | e | e | e | e | e | e | e | e | e | e | e <;> subst e <;> decide +kernel
theorem NumW.nospace {x : Str} {n : Int} (h : NumW x n) : ∀ c ∈ sg x, Unicode.isSpace c = false := fun c hc => dig_space c (h.cs c hc)
/-- a word that names a unit -/
structure UnitW (x u : Str) : Prop where
  tab : unitTab.lookup x = some u
  val : PySem.intText? x = none
  len1 : 1 ≤ x.length
  len : x.length ≤ 20
  colon : hasColon x = false
  at' : (x == Str.ofString "@") = false
  ago : (x == Str.ofString "ago") = false
  nospace : ∀ c ∈ sg x, Unicode.isSpace c = false
  alpha : Txt.isalpha (Txt.item x 0) = true
def unitOk (x : Str) (u : Str) : Bool :=
  decide (unitTab.lookup x = some u) && ((PySem.intText? x).isNone && (decide (1 ≤ x.length) && (decide (x.length ≤ 20) && (!decide (58 ∈ sg x) && (!(x == Str.ofString "@") && (!(x == Str.ofString "ago") && ((sg x).all (fun c => !Unicode.isSpace c) && Txt.isalpha (Txt.item x 0))))))))
theorem unitW_of {x u : Str} (h : unitOk x u = true) : UnitW x u := by
  unfold unitOk at h
  simp only [Bool.and_eq_true, decide_eq_true_eq, Option.isNone_iff_eq_none, Bool.not_eq_true', decide_eq_false_iff_not, List.all_eq_true] at h
  obtain ⟨a1, a2, a3, a4, a5, a6, a7, a8, a9⟩ := h
  exact ⟨a1, a2, a3, a4, by rw [hasColon_eq]; exact decide_eq_false a5, a6, a7, a8, a9⟩
theorem units_all : ([("year", "years"), ("years", "years"), ("mon", "months"), ("mons", "months"), ("day", "days"), ("days", "days"), ("hour", "hours"), ("hours", "hours"), ("minute", "minutes"), ("mins", "minutes"), ("second", "seconds"), ("secs", "seconds"), ("millennia", "millennia"), ("centuries", "centuries"), ("decades", "decades"), ("months", "months"), ("weeks", "weeks"), ("minutes", "minutes"), ("seconds", "seconds"), ("microseconds", "microseconds")] : List (String × String)).all (fun p => unitOk (Str.ofString p.1) (Str.ofString p.2)) = true := by decide +kernel
theorem unitW_at {a b : String} (h : (a, b) ∈ ([("year", "years"), ("years", "years"), ("mon", "months"), ("mons", "months"), ("day", "days"), ("days", "days"), ("hour", "hours"), ("hours", "hours"), ("minute", "minutes"), ("mins", "minutes"), ("second", "seconds"), ("secs", "seconds"), ("millennia", "millennia"), ("centuries", "centuries"), ("decades", "decades"), ("months", "months"), ("weeks", "weeks"), ("minutes", "minutes"), ("seconds", "seconds"), ("microseconds", "microseconds")] : List (String × String))) : UnitW (Str.ofString a) (Str.ofString b) :=
  unitW_of (List.all_eq_true.mp units_all _ h)
/-- the words that a text holds -/
def Scans (x : Str) (ws : List Str) : Prop := ∃ ini last, ws = ini ++ [last] ∧ last.length ≠ 0 ∧ ∀ acc, (sg x).foldl KWd.step (acc, Str.empty) = (acc ++ ini, last)
theorem scan_run : ∀ (cs : List Nat) (acc : List Str) (r : Str), (∀ c ∈ cs, Unicode.isSpace c = false) → cs.foldl KWd.step (acc, r) = (acc, r ++ ⟨cs.toArray⟩)
  | [], acc, r, _ => by
    refine Prod.ext rfl (sg_ext ?_)
    rw [sg_app]; simp [sg]
  | c :: cs, acc, r, h => by
    rw [List.foldl_cons]
    have e : KWd.step (acc, r) c = (acc, r ++ ⟨#[c]⟩) := if_neg (by rw [h c (.head _)]; exact Bool.false_ne_true)
    rw [e, scan_run cs acc _ fun d hd => h d (.tail _ hd)]
    refine Prod.ext rfl (sg_ext ?_)
    simp only [sg_app, List.append_assoc]
    rfl
theorem Scans.word {x : Str} (h1 : 1 ≤ x.length) (h : ∀ c ∈ sg x, Unicode.isSpace c = false) : Scans x [x] :=
  ⟨[], x, rfl, by omega, fun acc => by
    rw [scan_run _ _ _ h, List.append_nil]
    refine Prod.ext rfl (sg_ext ?_)
    rw [sg_app]; rfl⟩
theorem Scans.cat {x y : Str} {a b : List Str} (hx : Scans x a) (hy : Scans y b) : Scans (x ++ Str.ofString " " ++ y) (a ++ b) := by
  obtain ⟨i1, l1, rfl, n1, e1⟩ := hx
  obtain ⟨i2, l2, rfl, n2, e2⟩ := hy
  refine ⟨i1 ++ [l1] ++ i2, l2, by simp only [List.append_assoc], n2, fun acc => ?_⟩
  rw [sg_app, sg_app, List.foldl_append, List.foldl_append, e1]
  have e : (sg (Str.ofString " ")).foldl KWd.step (acc ++ i1, l1) = (acc ++ i1 ++ [l1], Str.empty) := by
    show KWd.step (acc ++ i1, l1) 32 = _
    have h32 : Unicode.isSpace 32 = true := by decide +kernel
    unfold KWd.step
    rw [if_pos h32, if_neg n1]
  rw [e, e2]
  simp only [List.append_assoc]
theorem Scans.words {x : Str} {a : List Str} (hx : Scans x a) : Txt.words x = a := by
  obtain ⟨i, l, rfl, n, e⟩ := hx
  have : KWd.scan x = (i, l) := e []
  rw [KWd.words_of this, if_neg n]
theorem join_eq (s : Str) (l : List Str) : Txt.join s l = Str.join s l := StrLaws.glued_eq_join s l
theorem Scans.join : ∀ {xs : List Str} {wss : List (List Str)}, All2 Scans xs wss → xs ≠ [] → Scans (Txt.join (Str.ofString " ") xs) wss.flatten
  | _, _, .nil, h => absurd rfl h
  | _, _, .cons h .nil, _ => by
    rw [join_eq]
    show Scans _ _
    simp only [List.flatten_cons, List.flatten_nil, List.append_nil]
    exact h
  | _, _, .cons (a := x) (l := y :: l) h (.cons h' r), _ => by
    have ih := Scans.join (.cons h' r) (List.cons_ne_nil _ _)
    rw [join_eq] at ih ⊢
    rw [List.flatten_cons]
    exact h.cat ih
/-- words of numbers and their units -/
abbrev Slot := (Str × Str) × (Str × Int)
def SlotOk (q : Slot) : Prop := NumW q.1.1 q.2.2 ∧ UnitW q.1.2 q.2.1
theorem run_pairs {r : List Str} {fin : List (Str × Int)} : ∀ (sl : List Slot) (es : List (Str × Int)) (c : Option Int), (∀ q ∈ sl, SlotOk q) → (∀ c', PgRun r (sl.foldl (fun es q => putI es q.2.1 q.2.2) es) c' fin) → PgRun (sl.flatMap (fun q => [q.1.1, q.1.2]) ++ r) es c fin
  | [], es, c, _, h => h c
  | ((x, u), (k, n)) :: sl, es, c, hq, h => by
    obtain ⟨hn, hu⟩ := hq _ (.head _)
    dsimp only at hn hu
    show PgRun (x :: u :: (sl.flatMap (fun q => [q.1.1, q.1.2]) ++ r)) es c fin
    exact .num (by have := hn.len; omega) hn.colon hn.at hn.ago hn.val (.unit (by have := hu.len; omega) hu.colon hu.at' hu.ago hu.val hu.tab
      (run_pairs sl _ _ (fun q hq' => hq q (.tail _ hq')) h))
theorem put_fresh {es : List (Str × Int)} {k : Str} {n : Int} (h : k ∉ es.map (·.1)) : putI es k n = es ++ [(k, n)] := by
  unfold putI
  refine if_neg ?_
  simp only [List.any_eq_true, decide_eq_true_eq, not_exists, not_and]
  intro p hp e
  exact h (e ▸ List.mem_map_of_mem hp)
theorem foldl_put : ∀ (sl : List Slot) (es : List (Str × Int)), ((es ++ sl.map (·.2)).map (·.1)).Nodup → sl.foldl (fun es q => putI es q.2.1 q.2.2) es = es ++ sl.map (·.2)
  | [], es, _ => by simp
  | q :: sl, es, h => by
    rw [List.foldl_cons, put_fresh, foldl_put]
    · rw [List.map_cons, List.append_assoc]; rfl
    · rw [List.append_assoc]; exact h
    · intro hm
      rw [List.map_append, List.map_cons, List.map_cons] at h
      exact (List.nodup_append.mp h).2.2 _ hm _ (.head _) rfl
theorem keepE_nodup {fs : List (Str × Option Int)} (h : (fs.map (·.1)).Nodup) : ((keepE fs).map (·.1)).Nodup := by
  induction fs with
  | nil => exact List.nodup_nil
  | cons p fs ih =>
    rw [List.map_cons, List.nodup_cons] at h
    obtain ⟨k, v⟩ := p
    cases v with
    | none => exact ih h.2
    | some i =>
      show ((k, i) :: keepE fs).map (·.1) |>.Nodup
      rw [List.map_cons, List.nodup_cons]
      refine ⟨fun hm => ?_, ih h.2⟩
      obtain ⟨q, hq, e⟩ := List.mem_map.mp hm
      have := keepE_sub hq
      rw [e] at this
      exact h.1 this
theorem keepE_lookup {k : Str} : ∀ {fs : List (Str × Option Int)}, (fs.map (·.1)).Nodup → (keepE fs).lookup k = (fs.lookup k).join
  | [], _ => rfl
  | (x, v) :: fs, h => by
    rw [List.map_cons, List.nodup_cons] at h
    have ih := keepE_lookup (k := k) h.2
    rw [List.lookup_cons]
    by_cases e : k = x
    · subst e
      rw [beq_self_eq_true]
      cases v with
      | some i => show ((k, i) :: keepE fs).lookup k = _; rw [List.lookup_cons, beq_self_eq_true]; rfl
      | none =>
        show (keepE fs).lookup k = none
        rw [ih]
        have : fs.lookup k = none := by
          rw [List.lookup_eq_none_iff]
          intro p hp
          refine bne_iff_ne.mpr fun e => ?_
          exact h.1 (List.mem_map.mpr ⟨p, hp, e.symm⟩)
        rw [this]; rfl
    · rw [beq_false_of_ne e]
      cases v with
      | some i => show ((x, i) :: keepE fs).lookup k = _; rw [List.lookup_cons, beq_false_of_ne e]; exact ih
      | none => exact ih
end Mine
end
section
example : True := by (w_top off); trivial
open PySem PySem.W PyProof.Rows PySem.Calls PySem.NumText
set_option Elab.async false
set_option maxRecDepth 100000
namespace Mine
theorem starts_one (x : Str) (c : Nat) : Txt.startswith x ⟨#[c]⟩ = decide ((sg x)[0]? = some c) := by
  have h := StrLaws.subAt_one x c 0
  unfold Txt.startswith
  by_cases q : (sg x)[0]? = some c
  · have := h.mpr q
    rw [decide_eq_true q, Bool.and_eq_true]
    exact ⟨decide_eq_true this.1, this.2⟩
  · rw [decide_eq_false q, Bool.eq_false_iff]
    intro e
    rw [Bool.and_eq_true] at e
    exact q (h.mp ⟨of_decide_eq_true e.1, e.2⟩)
theorem slice1 (x : Str) (h : 1 ≤ x.length) : sg (Txt.slice x (some 1) none) = (sg x).drop 1 := by
  have e0 : Builtin.Str.strSliceIndices (some 1) none 1 x.length = Builtin.Str.strSliceIndices (some ((1 : Nat) : Int)) (some (x.length : Int)) 1 x.length := StrLaws.sliceIdx_none_hi _ _
  have e1 := StrLaws.strSliceIndices_plain (a := 1) (b := x.length) h (Nat.le_refl _)
  have e3 := StrLaws.sliced_plain x (a := 1) (b := x.length) h (Nat.le_refl _)
  unfold Txt.slice
  rw [e0]
  have e2 : ((1 : Int) == 1 && (Builtin.Str.strSliceIndices (some ((1 : Nat) : Int)) (some (x.length : Int)) 1 x.length).length == x.length) = false := by
    rw [e1, List.length_map, List.length_range, Bool.and_eq_false_iff]
    right
    exact beq_false_of_ne (by omega)
  rw [e2]
  show (Builtin.Str.strSliceIndices (some ((1 : Nat) : Int)) (some (x.length : Int)) 1 x.length).filterMap (x.cps[·]?) = _
  rw [e3]
  exact List.take_of_length_le (by rw [List.length_drop]; have : x.cps.toList.length = x.length := sg_len x; omega)
/-- join by one sign: what is between two of them is told by the whole -/
theorem cut_inj {c : Nat} : ∀ {a b x y : List Nat}, c ∉ a → c ∉ b → a ++ c :: x = b ++ c :: y → a = b ∧ x = y
  | [], [], _, _, _, _, e => ⟨rfl, (List.cons.inj e).2⟩
  | [], q :: b, _, _, _, hb, e => absurd (by rw [(List.cons.inj e).1]; exact .head _) hb
  | p :: a, [], _, _, ha, _, e => absurd (by rw [← (List.cons.inj e).1]; exact .head _) ha
  | p :: a, q :: b, x, y, ha, hb, e => by
    have e1 := List.cons.inj e
    obtain ⟨h1, h2⟩ := cut_inj (fun h => ha (.tail _ h)) (fun h => hb (.tail _ h)) e1.2
    exact ⟨by rw [e1.1, h1], h2⟩
theorem join_sg (c : Nat) (p q : Str) (r : List Str) : sg (Str.join ⟨#[c]⟩ (p :: q :: r)) = sg p ++ c :: sg (Str.join ⟨#[c]⟩ (q :: r)) := by
  show sg (p ++ ⟨#[c]⟩ ++ Str.join ⟨#[c]⟩ (q :: r)) = _
  rw [sg_app, sg_app, List.append_assoc]; rfl
theorem join_inj {c : Nat} : ∀ {ps qs : List Str}, ps ≠ [] → qs ≠ [] → (∀ p ∈ ps, c ∉ sg p) → (∀ q ∈ qs, c ∉ sg q) → sg (Str.join ⟨#[c]⟩ ps) = sg (Str.join ⟨#[c]⟩ qs) → ps = qs
  | [], _, h, _, _, _, _ => absurd rfl h
  | _, [], _, h, _, _, _ => absurd rfl h
  | [p], [q], _, _, _, _, e => by rw [sg_ext (a := p) (b := q) e]
  | [p], q :: q' :: r, _, _, hp, _, e => by
    rw [join_sg] at e
    have e' : sg p = _ := e
    exact absurd (by rw [e']; exact List.mem_append_right _ (.head _)) (hp p (.head _))
  | p :: p' :: r, [q], _, _, _, hq, e => by
    rw [join_sg] at e
    have e' : _ = sg q := e
    exact absurd (by rw [← e']; exact List.mem_append_right _ (.head _)) (hq q (.head _))
  | p :: p' :: r, q :: q' :: r', _, _, hp, hq, e => by
    rw [join_sg, join_sg] at e
    obtain ⟨h1, h2⟩ := cut_inj (hp p (.head _)) (hq q (.head _)) e
    rw [sg_ext h1, join_inj (List.cons_ne_nil _ _) (List.cons_ne_nil _ _) (fun x hx => hp x (.tail _ hx)) (fun x hx => hq x (.tail _ hx)) h2]
theorem split_of {c : Nat} {x : Str} {ps : List Str} (hne : ps ≠ []) (h0 : sg x ≠ []) (hf : ∀ p ∈ ps, c ∉ sg p) (e : sg x = sg (Str.join ⟨#[c]⟩ ps)) : Txt.split x ⟨#[c]⟩ = ps := by
  refine join_inj ?_ hne (StrLaws.split_free x c) hf ?_
  · intro q
    have := StrLaws.join_split x ⟨#[c]⟩
    rw [q] at this
    exact h0 (by rw [← this]; rfl)
  · rw [StrLaws.join_split, e]
def twoOk (n : Nat) : Bool :=
  (sg (two n)).all (fun c => decide (48 ≤ c) && decide (c ≤ 57)) && (decide ((two n).length ≤ 4) && (decide (1 ≤ (two n).length) && (decide (PySem.intText? (two n) = some (n : Int)) && (decide (PySem.intText? (Str.ofString "-" ++ two n) = some (-(n : Int))) && (decide (PySem.intText? (Str.ofString "+" ++ two n) = some (n : Int)) &&
  (decide (PySem.intText? (Str.ofString "-" ++ numS n) = some (-(n : Int))) && decide (PySem.intText? (Str.ofString "+" ++ numS n) = some (n : Int))))))))
theorem two_all : (List.range 60).all twoOk = true := by decide +kernel
structure TwoW (n : Int) : Prop where
  cs : ∀ c ∈ sg (two n), 48 ≤ c ∧ c ≤ 57
  len : (two n).length ≤ 4
  len1 : 1 ≤ (two n).length
  v0 : PySem.intText? (two n) = some n
  vm : PySem.intText? (Str.ofString "-" ++ two n) = some (-n)
  vp : PySem.intText? (Str.ofString "+" ++ two n) = some n
  nm : PySem.intText? (Str.ofString "-" ++ numS n) = some (-n)
  np : PySem.intText? (Str.ofString "+" ++ numS n) = some n
theorem twoW {n : Int} (h : 0 ≤ n ∧ n < 60) : TwoW n := by
  obtain ⟨m, rfl⟩ := Int.eq_ofNat_of_zero_le h.1
  have := List.all_eq_true.mp two_all m (List.mem_range.mpr (by omega))
  unfold twoOk at this
  simp only [Bool.and_eq_true, decide_eq_true_eq, List.all_eq_true] at this
  obtain ⟨a1, a2, a3, a4, a5, a6, a7, a8⟩ := this
  exact ⟨a1, a2, a3, a4, a5, a6, a7, a8⟩
theorem numW_plus {n : Int} (h : 0 ≤ n ∧ n < 60) : NumW (Str.ofString "+" ++ numS n) n := by
  have l : (Str.ofString "+" ++ numS n).length = 1 + (numS n).length := Str.length_append _ _
  have l1 := num_len1 n
  have l2 := num_len (n := n) (by omega)
  refine ⟨by omega, by omega, fun c hc => ?_, (twoW h).np⟩
  rw [sg_app] at hc
  rcases List.mem_append.mp hc with hc | hc
  · exact Or.inl (List.mem_singleton.mp hc)
  · exact Or.inr (num_chars n c hc)
/-- a word that tells a time -/
structure TimeW (x : Str) (h mi s : Int) : Prop where
  len : x.length ≤ 40
  cs : ∀ c ∈ sg x, c = 43 ∨ c = 45 ∨ (48 ≤ c ∧ c ≤ 58)
  ne : sg x ≠ []
  colon : hasColon x = true
  parts : ∃ a b d, Txt.split x (Str.ofString ":") = [a, b, d] ∧ PySem.intText? a = some h ∧ PySem.intText? b = some mi ∧ PySem.intText? d = some s ∧ a.length ≤ 300 ∧ b.length ≤ 300 ∧ d.length ≤ 300
theorem timeW_of {x a b d : Str} {h mi s : Int} (e : sg x = sg a ++ 58 :: (sg b ++ 58 :: sg d)) (ha : ∀ c ∈ sg a, c = 43 ∨ c = 45 ∨ (48 ≤ c ∧ c ≤ 57)) (hb : ∀ c ∈ sg b, 48 ≤ c ∧ c ≤ 57) (hd : ∀ c ∈ sg d, 48 ≤ c ∧ c ≤ 57)
    (la : a.length ≤ 15) (lb : b.length ≤ 4) (ld : d.length ≤ 4) (va : PySem.intText? a = some h) (vb : PySem.intText? b = some mi) (vd : PySem.intText? d = some s) : TimeW x h mi s := by
  refine ⟨?_, ?_, ?_, ?_, a, b, d, ?_, va, vb, vd, by omega, by omega, by omega⟩
  · rw [← sg_len, e, List.length_append, List.length_cons, List.length_append, List.length_cons, sg_len, sg_len, sg_len]; omega
  · intro c hc
    rw [e] at hc
    rcases List.mem_append.mp hc with hc | hc
    · have := ha c hc; omega
    · rcases List.mem_cons.mp hc with hc | hc
      · omega
      · rcases List.mem_append.mp hc with hc | hc
        · have := hb c hc; omega
        · rcases List.mem_cons.mp hc with hc | hc
          · omega
          · have := hd c hc; omega
  · rw [e]; exact fun q => absurd (List.append_eq_nil_iff.mp q).2 (List.cons_ne_nil _ _)
  · rw [hasColon_eq, decide_eq_true_eq, e]; exact List.mem_append_right _ (.head _)
  · refine split_of (c := 58) (List.cons_ne_nil _ _) ?_ ?_ ?_
    · rw [e]; exact fun q => absurd (List.append_eq_nil_iff.mp q).2 (List.cons_ne_nil _ _)
    · intro p hp q
      simp only [List.mem_cons, List.not_mem_nil, or_false] at hp
      rcases hp with rfl | rfl | rfl
      · have := ha _ q; omega
      · have := hb _ q; omega
      · have := hd _ q; omega
    · rw [e, join_sg, join_sg]; rfl
end Mine
end
section
example : True := by (w_top off); trivial
open PySem PySem.W PyProof.Rows PySem.Calls PySem.NumText
set_option Elab.async false
set_option maxRecDepth 100000
namespace Mine
/-- a text begins as a number does -/
def Hd (x : Str) : Prop := ∃ c r, sg x = c :: r ∧ (c = 43 ∨ c = 45 ∨ (48 ≤ c ∧ c ≤ 57))
theorem Hd.app {a : Str} (h : Hd a) (b : Str) : Hd (a ++ b) := by
  obtain ⟨c, r, e, k⟩ := h
  exact ⟨c, r ++ sg b, by rw [sg_app, e]; rfl, k⟩
theorem Hd.join {a : Str} (h : Hd a) (s : Str) : ∀ r, Hd (Txt.join s (a :: r))
  | [] => by rw [join_eq]; exact h
  | b :: r => by
    rw [join_eq]
    show Hd (a ++ s ++ Str.join s (b :: r))
    exact (h.app s).app _
theorem NumW.hd {x : Str} {n : Int} (h : NumW x n) : Hd x := by
  have l := h.len1
  rw [← sg_len] at l
  cases e : sg x with
  | nil => rw [e] at l; exact absurd l (by decide)
  | cons c r => exact ⟨c, r, e, h.cs c (by rw [e]; exact .head _)⟩
theorem Hd.not {x : Str} (h : Hd x) (d : Nat) (hd : d ≠ 43 ∧ d ≠ 45 ∧ 58 ≤ d) : Txt.startswith x ⟨#[d]⟩ = false := by
  obtain ⟨c, r, e, k⟩ := h
  rw [starts_one, e]
  refine decide_eq_false fun q => ?_
  have : c = d := Option.some.inj q
  omega
theorem Hd.notP {x : Str} (h : Hd x) : Txt.startswith x (Str.ofString "P") = false := h.not 80 (by decide)
theorem Hd.notAt {x : Str} (h : Hd x) : Txt.startswith x (Str.ofString "@") = false := h.not 64 (by decide)
theorem All2.len {α β : Type} {R : α → β → Prop} : ∀ {l : List α} {r : List β}, All2 R l r → l.length = r.length
  | _, _, .nil => rfl
  | _, _, .cons _ h => congrArg (· + 1) (All2.len h)
theorem All2.app {α β : Type} {R : α → β → Prop} {l' : List α} {r' : List β} (h' : All2 R l' r') : ∀ {l : List α} {r : List β}, All2 R l r → All2 R (l ++ l') (r ++ r')
  | _, _, .nil => h'
  | _, _, .cons a h => .cons a (All2.app h' h)
theorem keepE_len (fs : List (Str × Option Int)) : (keepE fs).length ≤ fs.length := List.length_filterMap_le _ _
theorem fresh_keep {k : Str} {fs : List (Str × Option Int)} (h : k ∉ fs.map (·.1)) : k ∉ (keepE fs).map (·.1) := fun hm => by
  obtain ⟨q, hq, e⟩ := List.mem_map.mp hm
  exact h (e ▸ keepE_sub hq)
theorem putNZ_fresh {es : List (Str × Int)} {k : Str} {n : Int} (h : k ∉ es.map (·.1)) : putNZ es k n = es ++ keepE [(k, keepI n)] := by
  unfold putNZ keepI
  split
  · show es = es ++ []; rw [List.append_nil]
  · exact put_fresh h
theorem ivOf_six (a b c d e g : Option Int) : ivOf (keepE [(Str.ofString "years", a), (Str.ofString "months", b), (Str.ofString "days", c), (Str.ofString "hours", d), (Str.ofString "minutes", e), (Str.ofString "seconds", g)]) = { y := a, mo := b, d := c, h := d, mi := e, s := g } := by
  have hn : ([(Str.ofString "years", a), (Str.ofString "months", b), (Str.ofString "days", c), (Str.ofString "hours", d), (Str.ofString "minutes", e), (Str.ofString "seconds", g)].map (·.1)).Nodup := by
    exact (by decide +kernel : ([Str.ofString "years", Str.ofString "months", Str.ofString "days", Str.ofString "hours", Str.ofString "minutes", Str.ofString "seconds"] : List Str).Nodup)
  unfold ivOf
  simp only [keepE_lookup hn]
  cases a <;> cases b <;> cases c <;> cases d <;> cases e <;> cases g <;> rfl
/-- the words of units that stand so far -/
structure PgSt (W : List Str × Bool) (sl : List Slot) : Prop where
  sc : All2 Scans W.1 (sl.map fun q => [q.1.1, q.1.2])
  ok : ∀ q ∈ sl, SlotOk q
  len : ∀ x ∈ W.1, x.length ≤ 40
  hd : ∀ x ∈ W.1, Hd x
theorem pgAdd_st {W : List Str × Bool} {sl : List Slot} {n : Int} {one many k : Str} (h : PgSt W sl) (hn : -60 < n ∧ n < 60) (h1 : UnitW one k) (h2 : UnitW many k) :
    ∃ sl', PgSt (pgAdd W n one many) sl' ∧ sl'.map (·.2) = sl.map (·.2) ++ keepE [(k, keepI n)] := by
  unfold pgAdd
  by_cases h0 : n = 0
  · rw [if_neg (by simpa using h0)]
    exact ⟨sl, h, by rw [keepI, if_pos h0]; show _ = _ ++ []; rw [List.append_nil]⟩
  · rw [if_pos h0]
    have hu : ∃ u, (if n = 1 then one else many) = u ∧ UnitW u k := by
      split
      · exact ⟨_, rfl, h1⟩
      · exact ⟨_, rfl, h2⟩
    obtain ⟨u, eu, hu⟩ := hu
    rw [eu]
    have hx : ∃ x, (if W.2 = true ∧ 0 < n then Str.ofString "+" else Str.ofString "") ++ Str.ofString (toString n) = x ∧ NumW x n := by
      split
      · exact ⟨_, rfl, numW_plus (by omega)⟩
      · refine ⟨_, rfl, ?_⟩
        rw [show Str.ofString "" = Str.empty from rfl, KT.empty_app]
        exact numW_num (by omega)
    obtain ⟨x, ex, hx⟩ := hx
    rw [ex]
    refine ⟨sl ++ [((x, u), (k, n))], ⟨?_, ?_, ?_, ?_⟩, ?_⟩
    · rw [List.map_append]
      exact h.sc.append ((Scans.word hx.len1 hx.nospace).cat (Scans.word hu.len1 hu.nospace))
    · intro q hq
      rcases List.mem_append.mp hq with hq | hq
      · exact h.ok q hq
      · rw [List.mem_singleton.mp hq]; exact ⟨hx, hu⟩
    · intro y hy
      rcases List.mem_append.mp hy with hy | hy
      · exact h.len y hy
      · rw [List.mem_singleton.mp hy, Str.length_append, Str.length_append]
        have a1 := hx.len
        have a2 := hu.len
        have a3 : (Str.ofString " ").length = 1 := rfl
        omega
    · intro y hy
      rcases List.mem_append.mp hy with hy | hy
      · exact h.hd y hy
      · rw [List.mem_singleton.mp hy]; exact (hx.hd.app _).app _
    · rw [List.map_append, keepI, if_neg h0]; rfl
theorem flat_len : ∀ r : List Slot, ((r.map fun q => [q.1.1, q.1.2]).flatten).length = 2 * r.length
  | [] => rfl
  | q :: r => by
    rw [List.map_cons, List.flatten_cons, List.length_append, flat_len r]
    show 2 + 2 * r.length = 2 * (r.length + 1)
    omega
theorem pg_state (f : Fld) (hf : FOk f) : ∃ sl, PgSt (pgW 3 f) sl ∧ sl.map (·.2) = keepE [(Str.ofString "years", keepI f.y), (Str.ofString "months", keepI f.mo), (Str.ofString "days", keepI f.d)] := by
  have h0 : PgSt ([], false) [] := ⟨.nil, fun _ h => (nomatch h), fun _ h => (nomatch h), fun _ h => (nomatch h)⟩
  obtain ⟨s1, h1, e1⟩ := pgAdd_st h0 (n := f.y) (by have := hf.y; omega) (unitW_at (a := "year") (b := "years") (by decide)) (unitW_at (a := "years") (b := "years") (by decide))
  obtain ⟨s2, h2, e2⟩ := pgAdd_st h1 (n := f.mo) (by have := hf.mo; omega) (unitW_at (a := "mon") (b := "months") (by decide)) (unitW_at (a := "mons") (b := "months") (by decide))
  obtain ⟨s3, h3, e3⟩ := pgAdd_st h2 (n := f.d) (by have := hf.d; omega) (unitW_at (a := "day") (b := "days") (by decide)) (unitW_at (a := "days") (b := "days") (by decide))
  refine ⟨s3, h3, ?_⟩
  rw [e3, e2, e1, List.map_nil, List.nil_append, ← keepE_append, ← keepE_append]
  rfl
theorem pgTime {f : Fld} (hf : FOk f) (ok : pgOk f = true) (b : Bool) : TimeW (timeText f b) f.h f.mi f.s := by
  obtain ⟨hy, hmo, hd, hh, hmi, hs, hym, hhms⟩ := hf
  have ok' := of_decide_eq_true ok
  have ch := twoW (n := absI f.h) (by unfold absI; split <;> omega)
  have cm := twoW (n := absI f.mi) (by unfold absI; split <;> omega)
  have cs := twoW (n := absI f.s) (by unfold absI; split <;> omega)
  have e : ∀ p : Str, sg (p ++ Txt.join (Str.ofString ":") [two (absI f.h), two (absI f.mi), two (absI f.s)]) = sg (p ++ two (absI f.h)) ++ 58 :: (sg (two (absI f.mi)) ++ 58 :: sg (two (absI f.s))) := fun p => by
    rw [join_eq, sg_app, sg_app]
    show _ ++ sg (Str.join ⟨#[58]⟩ _) = _
    rw [join_sg, join_sg, List.append_assoc]
    rfl
  have la : ∀ p : Str, p.length ≤ 1 → (p ++ two (absI f.h)).length ≤ 15 := fun p hp => by
    rw [Str.length_append]
    have := ch.len; omega
  have ca : ∀ p : Str, (∀ c ∈ sg p, c = 43 ∨ c = 45 ∨ (48 ≤ c ∧ c ≤ 57)) → ∀ c ∈ sg (p ++ two (absI f.h)), c = 43 ∨ c = 45 ∨ (48 ≤ c ∧ c ≤ 57) := fun p hp c hc => by
    rw [sg_app] at hc
    rcases List.mem_append.mp hc with hc | hc
    · exact hp c hc
    · exact Or.inr (Or.inr (ch.cs c hc))
  unfold timeText pgSign
  by_cases hneg : f.h < 0 ∨ f.mi < 0 ∨ f.s < 0
  · rw [if_pos hneg]
    have hm0 : f.mi = 0 := by omega
    have hs0 : f.s = 0 := by omega
    have e1 : absI f.h = -f.h := if_pos (by omega)
    have e2 : absI f.mi = f.mi := if_neg (by omega)
    have e3 : absI f.s = f.s := if_neg (by omega)
    refine timeW_of (e _) (ca _ (by decide)) cm.cs cs.cs (la _ (by decide)) cm.len cs.len ?_ ?_ ?_
    · rw [ch.vm, e1, Int.neg_neg]
    · rw [cm.v0, e2]
    · rw [cs.v0, e3]
  · rw [if_neg hneg]
    have e1 : absI f.h = f.h := if_neg (by omega)
    have e2 : absI f.mi = f.mi := if_neg (by omega)
    have e3 : absI f.s = f.s := if_neg (by omega)
    split
    · refine timeW_of (e _) (ca _ (by decide)) cm.cs cs.cs (la _ (by decide)) cm.len cs.len ?_ ?_ ?_
      · rw [ch.vp, e1]
      · rw [cm.v0, e2]
      · rw [cs.v0, e3]
    · refine timeW_of (e _) (ca _ (by decide)) cm.cs cs.cs (la _ (by decide)) cm.len cs.len ?_ ?_ ?_
      · rw [show Str.ofString "" = Str.empty from rfl, KT.empty_app, ch.v0, e1]
      · rw [cm.v0, e2]
      · rw [cs.v0, e3]
theorem timeHd {f : Fld} (hf : FOk f) (b : Bool) : Hd (timeText f b) := by
  obtain ⟨hy, hmo, hd, hh, hmi, hs, hym, hhms⟩ := hf
  have ch := twoW (n := absI f.h) (by unfold absI; split <;> omega)
  have h2 : Hd (two (absI f.h)) := by
    have l := ch.len1
    rw [← sg_len] at l
    cases e : sg (two (absI f.h)) with
    | nil => rw [e] at l; exact absurd l (by decide)
    | cons c r => exact ⟨c, r, e, Or.inr (Or.inr (ch.cs c (by rw [e]; exact .head _)))⟩
  unfold timeText pgSign
  split
  · exact ⟨45, _, by rw [sg_app]; rfl, by decide⟩
  · split
    · exact ⟨43, _, by rw [sg_app]; rfl, by decide⟩
    · rw [show Str.ofString "" = Str.empty from rfl, KT.empty_app]
      exact h2.join _ _
theorem TimeW.nospace {x : Str} {h mi s : Int} (T : TimeW x h mi s) : ∀ c ∈ sg x, Unicode.isSpace c = false := fun c hc => by
  have := T.cs c hc
  by_cases q : c = 58
  · subst q; decide +kernel
  · exact dig_space c (by omega)
theorem TimeW.len1 {x : Str} {h mi s : Int} (T : TimeW x h mi s) : 1 ≤ x.length := by
  rw [← sg_len]
  exact List.length_pos_iff.mpr T.ne
/-- postgres' words read -/
theorem pg_run {f : Fld} (hf : FOk f) (ok : pgOk f = true) : ∃ ws, Txt.words (pgText f) = ws ∧ (pgText f).length ≤ 300 ∧ Hd (pgText f) ∧ PgRun ws [] none (keepE [(Str.ofString "years", keepI f.y), (Str.ofString "months", keepI f.mo), (Str.ofString "days", keepI f.d), (Str.ofString "hours", keepI f.h), (Str.ofString "minutes", keepI f.mi), (Str.ofString "seconds", keepI f.s)]) ∧
    ((∃ x, ws = [x] ∧ hasColon x = true) ∨ ∃ x u r k, ws = x :: u :: r ∧ r.length ≤ 10 ∧ UnitW u k) := by
  obtain ⟨sl, st, es⟩ := pg_state f hf
  have T := pgTime hf ok (pgW 3 f).2
  have TH := timeHd hf (pgW 3 f).2
  have hlen : sl.length ≤ 3 := by
    have := congrArg List.length es
    rw [List.length_map] at this
    rw [this]; exact keepE_len _
  have hW := st.sc.len
  rw [List.length_map] at hW
  have hfold : sl.foldl (fun es q => putI es q.2.1 q.2.2) [] = keepE [(Str.ofString "years", keepI f.y), (Str.ofString "months", keepI f.mo), (Str.ofString "days", keepI f.d)] := by
    rw [foldl_put, List.nil_append, es]
    rw [List.nil_append, es]
    exact keepE_nodup (by exact (by decide +kernel : ([Str.ofString "years", Str.ofString "months", Str.ofString "days"] : List Str).Nodup))
  have run1 : ∀ c, PgRun [timeText f (pgW 3 f).2] (keepE [(Str.ofString "years", keepI f.y), (Str.ofString "months", keepI f.mo), (Str.ofString "days", keepI f.d)]) c (keepE [(Str.ofString "years", keepI f.y), (Str.ofString "months", keepI f.mo), (Str.ofString "days", keepI f.d), (Str.ofString "hours", keepI f.h), (Str.ofString "minutes", keepI f.mi), (Str.ofString "seconds", keepI f.s)]) := fun c => by
    obtain ⟨a, b, d, h1, h2, h3, h4, h5, h6, h7⟩ := T.parts
    obtain ⟨hy, hmo, hd, hh, hmi, hs, hym, hhms⟩ := hf
    refine .time (by have := T.len; omega) T.colon h1 h2 h3 h4 h5 h6 h7 (by omega) (by omega) (by omega) ?_
    have e1 : putNZ (putNZ (putNZ (keepE [(Str.ofString "years", keepI f.y), (Str.ofString "months", keepI f.mo), (Str.ofString "days", keepI f.d)]) (Str.ofString "hours") f.h) (Str.ofString "minutes") f.mi) (Str.ofString "seconds") f.s =
        keepE [(Str.ofString "years", keepI f.y), (Str.ofString "months", keepI f.mo), (Str.ofString "days", keepI f.d), (Str.ofString "hours", keepI f.h), (Str.ofString "minutes", keepI f.mi), (Str.ofString "seconds", keepI f.s)] := by
      rw [putNZ_fresh (fresh_keep (by exact (by decide +kernel : Str.ofString "hours" ∉ ([Str.ofString "years", Str.ofString "months", Str.ofString "days"] : List Str)))), ← keepE_append]
      rw [putNZ_fresh (fresh_keep (by exact (by decide +kernel : Str.ofString "minutes" ∉ ([Str.ofString "years", Str.ofString "months", Str.ofString "days", Str.ofString "hours"] : List Str)))), ← keepE_append]
      rw [putNZ_fresh (fresh_keep (by exact (by decide +kernel : Str.ofString "seconds" ∉ ([Str.ofString "years", Str.ofString "months", Str.ofString "days", Str.ofString "hours", Str.ofString "minutes"] : List Str)))), ← keepE_append]
      rfl
    rw [e1]
    exact .nil
  unfold pgText pgWords
  by_cases told : pgTold f (pgW 3 f).1 = true
  · rw [if_pos told]
    have S : Scans (Txt.join (Str.ofString " ") ((pgW 3 f).1 ++ [timeText f (pgW 3 f).2])) ((sl.map fun q => [q.1.1, q.1.2]) ++ [[timeText f (pgW 3 f).2]]).flatten :=
      Scans.join (All2.app (.cons (Scans.word T.len1 T.nospace) .nil) st.sc) (by simp)
    rw [List.flatten_append] at S
    refine ⟨_, S.words, ?_, ?_, ?_, ?_⟩
    · refine Nat.le_trans (len_join (k := 40) fun x hx => ?_) ?_
      · rcases List.mem_append.mp hx with hx | hx
        · exact st.len x hx
        · rw [List.mem_singleton.mp hx]; exact T.len
      · rw [List.length_append, List.length_singleton]
        have a3 : (Str.ofString " ").length = 1 := rfl
        rw [a3]; omega
    · cases e : (pgW 3 f).1 with
      | nil => exact TH.join _ _
      | cons a r => exact (st.hd a (by rw [e]; exact .head _)).join _ _
    · refine run_pairs sl [] none st.ok fun c => ?_
      rw [hfold]; exact run1 c
    · cases sl with
      | nil => exact Or.inl ⟨_, rfl, T.colon⟩
      | cons q r =>
        refine Or.inr ⟨q.1.1, q.1.2, (r.map fun q => [q.1.1, q.1.2]).flatten ++ [timeText f (pgW 3 f).2], q.2.1, rfl, ?_, (st.ok q (.head _)).2⟩
        rw [List.length_cons] at hlen
        have := flat_len r
        rw [List.length_append, this]; simp; omega
  · rw [if_neg told]
    have told' := of_decide_eq_false (Bool.eq_false_iff.mpr told)
    have hz : [f.h, f.mi, f.s] = [0, 0, 0] := Classical.byContradiction fun q => told' (Or.inl q)
    have hne : (pgW 3 f).1 ≠ [] := fun q => told' (Or.inr q)
    simp only [List.cons.injEq, and_true] at hz
    obtain ⟨z1, z2, z3⟩ := hz
    have S := Scans.join st.sc hne
    have hsl : sl ≠ [] := fun q => by
      rw [q] at hW
      exact hne (List.eq_nil_of_length_eq_zero hW)
    refine ⟨_, S.words, ?_, ?_, ?_, ?_⟩
    · refine Nat.le_trans (len_join (k := 40) fun x hx => st.len x hx) ?_
      have a3 : (Str.ofString " ").length = 1 := rfl
      rw [a3]; omega
    · cases e : (pgW 3 f).1 with
      | nil => exact absurd e hne
      | cons a r => exact (st.hd a (by rw [e]; exact .head _)).join _ _
    · have := run_pairs (r := []) (fin := keepE [(Str.ofString "years", keepI f.y), (Str.ofString "months", keepI f.mo), (Str.ofString "days", keepI f.d), (Str.ofString "hours", keepI f.h), (Str.ofString "minutes", keepI f.mi), (Str.ofString "seconds", keepI f.s)]) sl [] none st.ok fun c => by
        rw [hfold, z1, z2, z3]
        have : keepE [(Str.ofString "years", keepI f.y), (Str.ofString "months", keepI f.mo), (Str.ofString "days", keepI f.d), (Str.ofString "hours", keepI 0), (Str.ofString "minutes", keepI 0), (Str.ofString "seconds", keepI 0)] = keepE ([(Str.ofString "years", keepI f.y), (Str.ofString "months", keepI f.mo), (Str.ofString "days", keepI f.d)] ++ [(Str.ofString "hours", keepI 0), (Str.ofString "minutes", keepI 0), (Str.ofString "seconds", keepI 0)]) := rfl
        rw [this, keepE_append]
        show PgRun [] _ c (_ ++ [])
        rw [List.append_nil]
        exact .nil
      rw [List.append_nil] at this
      exact this
    · cases sl with
      | nil => exact absurd rfl hsl
      | cons q r =>
        refine Or.inr ⟨q.1.1, q.1.2, (r.map fun q => [q.1.1, q.1.2]).flatten, q.2.1, rfl, ?_, (st.ok q (.head _)).2⟩
        rw [List.length_cons] at hlen
        have := flat_len r
        rw [this]; omega
theorem pg_back (w : World) {f : Fld} (hf : FOk f) (ok : pgOk f = true) (t : Tok) : MeetsT w 14 (.ref 61) [.ref 108, .str (pgText f) t] [] [] fun v new => ReadsTo w (keptIv f) v new := by
  obtain ⟨ws, hw, hl, hh, hr, hc⟩ := pg_run hf ok
  have main : ∀ t, MeetsT w 9 (.ref 43) [.ref 108, .str (pgText f) t] [] [] fun v new => ReadsTo w (keptIv f) v new := fun t => by
    have := pgr_spec w (pgText f) t ws _ hl hw hr
    rw [ivOf_six] at this
    exact this
  rcases hc with ⟨x, rfl, hx⟩ | ⟨x, u, r, k, rfl, hr', hu⟩
  · exact fs_one w _ _ t _ true hl hh.notP hh.notAt hw hx main
  · exact fs_two w _ _ _ _ t _ true hl hh.notP hh.notAt hw (by omega) hu.len1 (by have := hu.len; omega) hu.alpha main
end Mine
end
section
example : True := by (w_top off); trivial
open PySem PySem.W PyProof.Rows PySem.Calls PySem.NumText
set_option Elab.async false
set_option maxRecDepth 100000
namespace Mine
abbrev six (a b c d e g : Option Int) : List (Str × Option Int) := [(Str.ofString "years", a), (Str.ofString "months", b), (Str.ofString "days", c), (Str.ofString "hours", d), (Str.ofString "minutes", e), (Str.ofString "seconds", g)]
theorem six_nodup (a b c d e g : Option Int) : ((six a b c d e g).map (·.1)).Nodup := by
  exact (by decide +kernel : ([Str.ofString "years", Str.ofString "months", Str.ofString "days", Str.ofString "hours", Str.ofString "minutes", Str.ofString "seconds"] : List Str).Nodup)
/-! the text of __str__ -/
abbrev ivNames : List Str := [Str.ofString "millennia", Str.ofString "centuries", Str.ofString "decades", Str.ofString "years", Str.ofString "months", Str.ofString "weeks", Str.ofString "days", Str.ofString "hours", Str.ofString "minutes", Str.ofString "seconds", Str.ofString "microseconds"]
theorem ivName_unit : ∀ n ∈ ivNames, UnitW n n ∧ n.length ≤ 12 := by
  simp only [List.forall_mem_cons]
  refine ⟨⟨unitW_at (by decide), by decide⟩, ⟨unitW_at (by decide), by decide⟩, ⟨unitW_at (by decide), by decide⟩, ⟨unitW_at (by decide), by decide⟩, ⟨unitW_at (by decide), by decide⟩, ⟨unitW_at (by decide), by decide⟩, ⟨unitW_at (by decide), by decide⟩, ⟨unitW_at (by decide), by decide⟩, ⟨unitW_at (by decide), by decide⟩, ⟨unitW_at (by decide), by decide⟩, ⟨unitW_at (by decide), by decide⟩, List.forall_mem_nil _⟩
theorem ivOf_es (a : Iv) : ivOf (esIv a) = a := by
  have hn : ((fsIv a).map (·.1)).Nodup := by exact (by decide +kernel : ivNames.Nodup)
  unfold ivOf esIv
  simp only [keepE_lookup hn]
  rfl
theorem iv_scans : ∀ (es : List (Str × Int)), (∀ p ∈ es, UnitW p.1 p.1 ∧ (-100000 < p.2 ∧ p.2 < 100000)) → All2 Scans (es.map fun p => wordOf p.1 p.2) ((es.map fun p => (((numS p.2, p.1), p) : Slot)).map fun q => [q.1.1, q.1.2])
  | [], _ => .nil
  | p :: es, h => by
    have hp := h p (.head _)
    have hx := numW_num (n := p.2) (by omega)
    exact .cons ((Scans.word hx.len1 hx.nospace).cat (Scans.word hp.1.len1 hp.1.nospace)) (iv_scans es fun q hq => h q (.tail _ hq))
theorem iv_back (w : World) (a : Iv) (hne : esIv a ≠ []) (hb : ∀ p ∈ esIv a, -100000 < p.2 ∧ p.2 < 100000) :
    (ivText a == Str.ofString "") = false ∧ ∀ t, MeetsT w 14 (.ref 61) [.ref 108, .str (ivText a) t] [] [] fun v new => ReadsTo w a v new := by
  have hu : ∀ p ∈ esIv a, UnitW p.1 p.1 ∧ p.1.length ≤ 12 := fun p hp => ivName_unit p.1 (keepE_sub hp)
  have S := Scans.join (iv_scans (esIv a) fun p hp => ⟨(hu p hp).1, hb p hp⟩) (by simpa using hne)
  have hl : (esIv a).length ≤ 11 := keepE_len _
  have hlen : (ivText a).length ≤ 300 := by
    refine Nat.le_trans (len_join (k := 24) fun x hx => ?_) ?_
    · obtain ⟨p, hp, rfl⟩ := List.mem_map.mp hx
      have h1 := num_len (n := p.2) (by have := hb p hp; omega)
      have h2 := (hu p hp).2
      rw [Str.length_append, Str.length_append]
      have a3 : (Str.ofString " ").length = 1 := rfl
      have h1' : (Str.ofString (toString p.2)).length ≤ 11 := h1
      omega
    · rw [List.length_map]
      have a3 : (Str.ofString " ").length = 1 := rfl
      rw [a3]; omega
  have hn : ((esIv a).map (·.1)).Nodup := keepE_nodup (by exact (by decide +kernel : ivNames.Nodup))
  generalize hes : esIv a = es at *
  have e2 : (es.map fun p => (((numS p.2, p.1), p) : Slot)).map (·.2) = es := by rw [List.map_map]; exact List.map_id _
  have hok : ∀ q ∈ es.map (fun p => (((numS p.2, p.1), p) : Slot)), SlotOk q := fun q hq => by
    obtain ⟨p, hp, rfl⟩ := List.mem_map.mp hq
    exact ⟨numW_num (by have := hb p hp; omega), (hu p hp).1⟩
  have hr := run_pairs (r := []) (fin := es) (es.map fun p => (((numS p.2, p.1), p) : Slot)) [] none hok fun c => by
    rw [foldl_put _ _ (by rw [List.nil_append, e2]; exact hn), List.nil_append, e2]
    exact .nil
  rw [List.append_nil] at hr
  have hh : Hd (ivText a) ∧ ∃ x u r, ((es.map fun p => (((numS p.2, p.1), p) : Slot)).map fun q => [q.1.1, q.1.2]).flatten = x :: u :: r ∧ r.length ≤ 1000 ∧ UnitW u u := by
    unfold ivText
    rw [hes]
    cases es with
    | nil => exact absurd rfl hne
    | cons p r =>
      refine ⟨Hd.join ((((numW_num (n := p.2) (by have := hb p (.head _); omega)).hd).app _).app _) _ _, numS p.2, p.1, ((r.map fun p => (((numS p.2, p.1), p) : Slot)).map fun q => [q.1.1, q.1.2]).flatten, rfl, ?_, (hu p (.head _)).1⟩
      have := flat_len (r.map fun p => (((numS p.2, p.1), p) : Slot))
      rw [List.length_map] at this
      rw [List.length_cons] at hl
      show ((r.map fun p => (((numS p.2, p.1), p) : Slot)).map fun q => [q.1.1, q.1.2]).flatten.length ≤ 1000
      rw [this]; omega
  have S' : Scans (ivText a) ((es.map fun p => (((numS p.2, p.1), p) : Slot)).map fun q => [q.1.1, q.1.2]).flatten := by unfold ivText; rw [hes]; exact S
  obtain ⟨hh, x, u, r, ew, hrl, hxu⟩ := hh
  refine ⟨?_, fun t => ?_⟩
  · obtain ⟨c, q, e, _⟩ := hh
    refine beq_false_of_ne fun z => ?_
    rw [z] at e
    cases e
  · have main : ∀ t, MeetsT w 9 (.ref 43) [.ref 108, .str (ivText a) t] [] [] fun v new => ReadsTo w a v new := fun t => by
      have := pgr_spec w (ivText a) t _ _ hlen S'.words hr
      rw [← hes, ivOf_es] at this
      exact this
    exact fs_two w _ _ _ _ t _ true hlen hh.notP hh.notAt (S'.words.trans ew) hrl hxu.len1 (by have := hxu.len; omega) hxu.alpha main
/-! the verbose text -/
def vbName (i : Nat) : Str := pick6 i (Str.ofString "years") (Str.ofString "months") (Str.ofString "days") (Str.ofString "hours") (Str.ofString "minutes") (Str.ofString "seconds")
def vbSl (f : Fld) : Nat → List Slot
  | 0 => []
  | i + 1 => if fget f i ≠ 0 then vbSl f i ++ [((numS (vbTurn f * fget f i), if vbTurn f * fget f i = 1 then vbOne i else vbMany i), (vbName i, vbTurn f * fget f i))] else vbSl f i
theorem vbW_eq (f : Fld) : ∀ i, vbW f i = Str.ofString "@" :: ((vbSl f i).map fun q => [q.1.1, q.1.2]).flatten
  | 0 => rfl
  | i + 1 => by
    unfold vbW vbSl
    split
    · rw [vbW_eq f i, List.map_append, List.flatten_append]; rfl
    · exact vbW_eq f i
theorem vbTurn_pm (f : Fld) : vbTurn f = 1 ∨ vbTurn f = -1 := by
  unfold vbTurn
  split
  · exact Or.inl rfl
  · split
    · exact Or.inr rfl
    · exact Or.inl rfl
theorem fget_bound {f : Fld} (hf : FOk f) : ∀ i, -60 < fget f i ∧ fget f i < 60 := by
  obtain ⟨hy, hmo, hd, hh, hmi, hs, hym, hhms⟩ := hf
  intro i
  unfold fget pick6
  split <;> omega
theorem vb_unit : ∀ i, i < 6 → UnitW (vbOne i) (vbName i) ∧ UnitW (vbMany i) (vbName i)
  | 0, _ => ⟨unitW_at (a := "year") (b := "years") (by decide), unitW_at (a := "years") (b := "years") (by decide)⟩
  | 1, _ => ⟨unitW_at (a := "mon") (b := "months") (by decide), unitW_at (a := "mons") (b := "months") (by decide)⟩
  | 2, _ => ⟨unitW_at (a := "day") (b := "days") (by decide), unitW_at (a := "days") (b := "days") (by decide)⟩
  | 3, _ => ⟨unitW_at (a := "hour") (b := "hours") (by decide), unitW_at (a := "hours") (b := "hours") (by decide)⟩
  | 4, _ => ⟨unitW_at (a := "minute") (b := "minutes") (by decide), unitW_at (a := "mins") (b := "minutes") (by decide)⟩
  | 5, _ => ⟨unitW_at (a := "second") (b := "seconds") (by decide), unitW_at (a := "secs") (b := "seconds") (by decide)⟩
  | i + 6, h => by omega
def vbE (f : Fld) : Nat → List (Str × Option Int)
  | 0 => []
  | i + 1 => vbE f i ++ [(vbName i, keepI (vbTurn f * fget f i))]
theorem vbSl_spec {f : Fld} (hf : FOk f) : ∀ i, i ≤ 6 → (∀ q ∈ vbSl f i, SlotOk q) ∧ (vbSl f i).map (·.2) = keepE (vbE f i) ∧ (vbSl f i).length ≤ i
  | 0, _ => ⟨fun _ h => (nomatch h), rfl, Nat.le_refl _⟩
  | i + 1, h => by
    obtain ⟨h1, h2, h3⟩ := vbSl_spec hf i (by omega)
    have hb := fget_bound hf i
    have ht := vbTurn_pm f
    have hu := vb_unit i (by omega)
    unfold vbSl vbE
    rw [keepE_append]
    by_cases q : fget f i = 0
    · rw [if_neg (by simpa using q), q, Int.mul_zero]
      refine ⟨h1, ?_, by omega⟩
      rw [h2]; show _ = _ ++ []; rw [List.append_nil]
    · rw [if_pos q]
      have hq : vbTurn f * fget f i ≠ 0 := by rcases ht with e | e <;> rw [e] <;> omega
      have hqb : -1000000 < vbTurn f * fget f i ∧ vbTurn f * fget f i < 1000000 := by rcases ht with e | e <;> rw [e] <;> omega
      refine ⟨fun z hz => ?_, ?_, by rw [List.length_append, List.length_singleton]; omega⟩
      · rcases List.mem_append.mp hz with hz | hz
        · exact h1 z hz
        · rw [List.mem_singleton.mp hz]
          refine ⟨numW_num hqb, ?_⟩
          show UnitW (if vbTurn f * fget f i = 1 then vbOne i else vbMany i) (vbName i)
          split
          · exact hu.1
          · exact hu.2
      · rw [List.map_append, h2, keepI, if_neg hq]; rfl
theorem negK : ∀ l : List (Str × Int), (keepE (l.map fun p => (p.1, keepI (-1 * p.2)))).map (fun p => (p.1, -1 * p.2)) = keepE (l.map fun p => (p.1, keepI p.2))
  | [] => rfl
  | (k, n) :: l => by
    have ih := negK l
    by_cases h : n = 0
    · subst h; exact ih
    · have h' : -1 * n ≠ 0 := by omega
      have e1 : keepE (((k, n) :: l).map fun p => (p.1, keepI (-1 * p.2))) = (k, -1 * n) :: keepE (l.map fun p => (p.1, keepI (-1 * p.2))) := by
        rw [List.map_cons]; show keepE ((k, keepI (-1 * n)) :: _) = _; rw [keepI, if_neg h']; rfl
      have e2 : keepE (((k, n) :: l).map fun p => (p.1, keepI p.2)) = (k, n) :: keepE (l.map fun p => (p.1, keepI p.2)) := by
        rw [List.map_cons]; show keepE ((k, keepI n) :: _) = _; rw [keepI, if_neg h]; rfl
      rw [e1, e2, List.map_cons, ih]
      congr 2
      show -1 * (-1 * n) = n
      omega
theorem vb_clean {f : Fld} (hf : FOk f) : ∀ x ∈ vbW f 6 ++ (if vbTurn f < 0 then [Str.ofString "ago"] else []), 1 ≤ x.length ∧ x.length ≤ 20 ∧ ∀ c ∈ sg x, Unicode.isSpace c = false := by
  intro x hx
  rcases List.mem_append.mp hx with hx | hx
  · rw [vbW_eq] at hx
    rcases List.mem_cons.mp hx with rfl | hx
    · exact ⟨by decide, by decide, by decide +kernel⟩
    · obtain ⟨l, hl, hx⟩ := List.mem_flatten.mp hx
      obtain ⟨q, hq, rfl⟩ := List.mem_map.mp hl
      have ok := (vbSl_spec hf 6 (Nat.le_refl _)).1 q hq
      rcases List.mem_cons.mp hx with rfl | hx
      · exact ⟨ok.1.len1, by have := ok.1.len; omega, ok.1.nospace⟩
      · rw [List.mem_singleton.mp hx]
        exact ⟨ok.2.len1, ok.2.len, ok.2.nospace⟩
  · split at hx
    · rw [List.mem_singleton.mp hx]
      exact ⟨by decide, by decide, by decide +kernel⟩
    · exact nomatch hx
theorem scans_each : ∀ (l : List Str), (∀ x ∈ l, 1 ≤ x.length ∧ x.length ≤ 20 ∧ ∀ c ∈ sg x, Unicode.isSpace c = false) → All2 Scans l (l.map fun x => [x])
  | [], _ => .nil
  | x :: l, h => .cons (Scans.word (h x (.head _)).1 (h x (.head _)).2.2) (scans_each l fun y hy => h y (.tail _ hy))
theorem flat_each : ∀ l : List Str, (l.map fun x => [x]).flatten = l
  | [] => rfl
  | x :: l => by rw [List.map_cons, List.flatten_cons, flat_each l]; rfl
theorem vbE_six (f : Fld) : vbE f 6 = six (keepI (vbTurn f * f.y)) (keepI (vbTurn f * f.mo)) (keepI (vbTurn f * f.d)) (keepI (vbTurn f * f.h)) (keepI (vbTurn f * f.mi)) (keepI (vbTurn f * f.s)) := rfl
theorem vb_back (w : World) {f : Fld} (hf : FOk f) (t : Tok) : MeetsT w 14 (.ref 61) [.ref 108, .str (vbText f) t] [] [] fun v new => ReadsTo w (keptIv f) v new := by
  unfold vbText
  by_cases h0 : vbFirst f = []
  · rw [if_pos h0]
    unfold vbFirst at h0
    simp only [List.filter_eq_nil_iff, List.mem_cons, List.not_mem_nil, or_false, forall_eq_or_imp, forall_eq, bne_iff_ne, ne_eq, Classical.not_not] at h0
    obtain ⟨z1, z2, z3, z4, z5, z6⟩ := h0
    have ek : keptIv f = ivOf [] := by unfold keptIv; rw [z1, z2, z3, z4, z5, z6]; rfl
    have hw : Txt.words (Str.ofString "@ 0") = [Str.ofString "@", Str.ofString "0"] := by decide +kernel
    refine fs_at w _ t _ (by decide +kernel) (by decide +kernel) fun t => ?_
    rw [ek]
    exact pgr_spec w _ t _ _ (by decide) hw (.mark (.num (n := 0) (by decide) (by decide +kernel) (by decide +kernel) (by decide +kernel) (by decide +kernel) .nil))
  · rw [if_neg h0]
    have cl := vb_clean hf
    obtain ⟨h1, h2, h3⟩ := vbSl_spec hf 6 (Nat.le_refl _)
    have ht := vbTurn_pm f
    have S := Scans.join (scans_each _ cl) (by rw [vbW_eq]; exact List.cons_ne_nil _ _)
    rw [flat_each] at S
    have hlen : (Txt.join (Str.ofString " ") (vbW f 6 ++ (if vbTurn f < 0 then [Str.ofString "ago"] else []))).length ≤ 300 := by
      refine Nat.le_trans (len_join (k := 20) fun x hx => (cl x hx).2.1) ?_
      have a3 : (Str.ofString " ").length = 1 := rfl
      rw [a3, List.length_append, vbW_eq, List.length_cons, flat_len]
      have : (if vbTurn f < 0 then [Str.ofString "ago"] else []).length ≤ 1 := by split <;> decide
      omega
    obtain ⟨q0, hs0⟩ : ∃ q, sg (Txt.join (Str.ofString " ") (vbW f 6 ++ (if vbTurn f < 0 then [Str.ofString "ago"] else []))) = 64 :: q := by
      rw [vbW_eq, join_eq, List.cons_append]
      cases ((vbSl f 6).map fun q => [q.1.1, q.1.2]).flatten ++ (if vbTurn f < 0 then [Str.ofString "ago"] else []) with
      | nil => exact ⟨[], rfl⟩
      | cons y r =>
        refine ⟨sg (Str.ofString " ") ++ sg (Str.join (Str.ofString " ") (y :: r)), ?_⟩
        show sg (Str.ofString "@" ++ Str.ofString " " ++ Str.join (Str.ofString " ") (y :: r)) = _
        rw [sg_app, sg_app]; rfl
    have hP : Txt.startswith (Txt.join (Str.ofString " ") (vbW f 6 ++ (if vbTurn f < 0 then [Str.ofString "ago"] else []))) (Str.ofString "P") = false := by
      refine (starts_one _ 80).trans ?_
      rw [hs0]; rfl
    have hA : Txt.startswith (Txt.join (Str.ofString " ") (vbW f 6 ++ (if vbTurn f < 0 then [Str.ofString "ago"] else []))) (Str.ofString "@") = true := by
      refine (starts_one _ 64).trans ?_
      rw [hs0]; rfl
    have hfold : (vbSl f 6).foldl (fun es q => putI es q.2.1 q.2.2) [] = keepE (vbE f 6) := by
      rw [foldl_put, List.nil_append, h2]
      rw [List.nil_append, h2]
      exact keepE_nodup (six_nodup _ _ _ _ _ _)
    have run : PgRun (vbW f 6 ++ (if vbTurn f < 0 then [Str.ofString "ago"] else [])) [] none (keepE (six (keepI f.y) (keepI f.mo) (keepI f.d) (keepI f.h) (keepI f.mi) (keepI f.s))) := by
      rw [vbW_eq, List.cons_append]
      refine .mark (run_pairs (vbSl f 6) [] none h1 fun c => ?_)
      rw [hfold, vbE_six]
      rcases ht with e | e
      · rw [e, if_neg (by decide)]
        simp only [Int.one_mul]
        exact .nil
      · rw [e, if_pos (by decide)]
        refine .ago (fun p hp => ?_) ?_
        · have hp' := hp
          obtain ⟨hy, hmo, hd, hh, hmi, hs, hym, hhms⟩ := hf
          unfold keepE at hp'
          obtain ⟨q, hq, eq⟩ := List.mem_filterMap.mp hp'
          have key : ∀ n : Int, (-60 < n ∧ n < 60) → ∀ k, (Option.map (fun i => (k, i)) (keepI (-1 * n)) : Option (Str × Int)) = some p → -1000 < p.2 ∧ p.2 < 1000 := by
            intro n hn k e
            unfold keepI at e
            split at e
            · cases e
            · cases e; dsimp only; omega
          simp only [List.mem_cons, List.not_mem_nil, or_false] at hq
          rcases hq with rfl | rfl | rfl | rfl | rfl | rfl
          · exact key f.y (by omega) _ eq
          · exact key f.mo (by omega) _ eq
          · exact key f.d (by omega) _ eq
          · exact key f.h (by omega) _ eq
          · exact key f.mi (by omega) _ eq
          · exact key f.s (by omega) _ eq
        · have := negK [(Str.ofString "years", f.y), (Str.ofString "months", f.mo), (Str.ofString "days", f.d), (Str.ofString "hours", f.h), (Str.ofString "minutes", f.mi), (Str.ofString "seconds", f.s)]
          simp only [List.map_cons, List.map_nil] at this
          rw [this]
          exact .nil
    refine fs_at w _ t _ hP hA fun t => ?_
    have := pgr_spec w _ t _ _ hlen S.words run
    rw [ivOf_six] at this
    exact this
end Mine
end
section
example : True := by (w_top off); trivial
open PySem PySem.W PyProof.Rows PySem.Calls PySem.NumText
set_option Elab.async false
set_option maxRecDepth 100000
namespace Mine
/-! the ISO text -/
def isoP (n : Int) (c : Nat) : List Nat := if n ≠ 0 then sg (numS n) ++ [c] else []
theorem isoAdd_sg (x : Str) (n : Int) (c : Nat) : sg (isoAdd x n ⟨#[c]⟩) = sg x ++ isoP n c := by
  unfold isoAdd isoP
  split
  · rw [sg_app, sg_app, List.append_assoc]
  · rw [List.append_nil]
def isoTL (f : Fld) : List Nat := if [f.h, f.mi, f.s] = [0, 0, 0] then [] else [84]
theorem isoT_sg (f : Fld) (x : Str) : sg (isoT f x) = sg x ++ isoTL f := by
  unfold isoT isoTL
  split
  · rw [List.append_nil]
  · rw [sg_app]; rfl
def isoRest (f : Fld) : List Nat := isoP f.y 89 ++ (isoP f.mo 77 ++ (isoP f.d 68 ++ (isoTL f ++ (isoP f.h 72 ++ (isoP f.mi 77 ++ isoP f.s 83)))))
theorem iso6_sg (f : Fld) : sg (iso6 f) = 80 :: isoRest f := by
  have e : sg (iso6 f) = sg (Str.ofString "P") ++ isoP f.y 89 ++ isoP f.mo 77 ++ isoP f.d 68 ++ isoTL f ++ isoP f.h 72 ++ isoP f.mi 77 ++ isoP f.s 83 := by
    show sg (isoAdd (isoAdd (isoAdd (isoT f (isoAdd (isoAdd (isoAdd (Str.ofString "P") f.y ⟨#[89]⟩) f.mo ⟨#[77]⟩) f.d ⟨#[68]⟩)) f.h ⟨#[72]⟩) f.mi ⟨#[77]⟩) f.s ⟨#[83]⟩) = _
    rw [isoAdd_sg, isoAdd_sg, isoAdd_sg, isoT_sg, isoAdd_sg, isoAdd_sg, isoAdd_sg]
  rw [e]
  unfold isoRest
  simp only [List.append_assoc]
  rfl
theorem dig_isdigit : ∀ c : Nat, (48 ≤ c ∧ c ≤ 57) → Txt.isdigit ⟨#[c]⟩ = true ∧ ((⟨#[c]⟩ : Str) == Str.ofString "T") = false := by
  intro c h
  have : c = 48 ∨ c = 49 ∨ c = 50 ∨ c = 51 ∨ c = 52 ∨ c = 53 ∨ c = 54 ∨ c = 55 ∨ c = 56 ∨ c = 57 := by omega
  rcases this with e | e | e | e | e | e | e | e | e | e <;> subst e <;> decide +kernel
theorem iso_num {r : List Nat} {b : Bool} {es fin : List (Str × Int)} : ∀ (cs : List Nat) (vs : List Str), (∀ c ∈ cs, c = 45 ∨ (48 ≤ c ∧ c ≤ 57)) → vs.length + cs.length ≤ 30 → IsoRun r b (vs ++ cs.map (fun c => (⟨#[c]⟩ : Str))) es fin → IsoRun (cs ++ r) b vs es fin
  | [], vs, _, _, h => by rw [List.map_nil, List.append_nil] at h; exact h
  | c :: cs, vs, hc, hl, h => by
    rw [List.length_cons] at hl
    have ih : IsoRun (cs ++ r) b (vs ++ [⟨#[c]⟩]) es fin := iso_num cs _ (fun d hd => hc d (.tail _ hd)) (by rw [List.length_append, List.length_singleton]; omega) (by rw [List.append_assoc]; exact h)
    rcases hc c (.head _) with e | e
    · subst e
      exact .minus (by omega) ih
    · have := dig_isdigit c e
      exact .dig this.1 this.2 (by omega) ih
theorem join_single : ∀ cs : List Nat, sg (Txt.join (Str.ofString "") (cs.map fun c => (⟨#[c]⟩ : Str))) = cs
  | [] => rfl
  | [c] => by rw [join_eq]; rfl
  | c :: d :: r => by
    have ih := join_single (d :: r)
    rw [join_eq] at ih ⊢
    show sg (⟨#[c]⟩ ++ Str.ofString "" ++ Str.join (Str.ofString "") ((d :: r).map fun c => (⟨#[c]⟩ : Str))) = _
    rw [sg_app, sg_app, ih]; rfl
theorem iso_part {r : List Nat} {b : Bool} {es fin : List (Str × Int)} {n : Int} {c : Nat} {name : Str} (hn : -60 < n ∧ n < 60) (ht : isoTab b c = some name) (hf : name ∉ es.map (·.1)) (h : IsoRun r b [] (es ++ keepE [(name, keepI n)]) fin) : IsoRun (isoP n c ++ r) b [] es fin := by
  unfold isoP
  by_cases h0 : n = 0
  · rw [if_neg (by simpa using h0)]
    have e : keepE [(name, keepI n)] = [] := by rw [keepI, if_pos h0]; rfl
    rw [e, List.append_nil] at h
    exact h
  · rw [if_pos h0, List.append_assoc]
    have hl := num_len (n := n) (by omega)
    rw [← sg_len] at hl
    have ej : Txt.join (Str.ofString "") ((sg (numS n)).map fun c => (⟨#[c]⟩ : Str)) = numS n := sg_ext (join_single _)
    refine iso_num _ _ (num_chars n) (by rw [List.length_nil]; omega) ?_
    rw [List.nil_append]
    refine .letter ht (by rw [ej]; exact num_int (by omega)) (by rw [List.length_map]; omega) (fun y hy => ?_) (by rw [ej, ← sg_len]; omega) ?_
    · obtain ⟨d, _, rfl⟩ := List.mem_map.mp hy
      exact (by decide : 1 ≤ 1000)
    · rw [put_fresh hf]
      rw [keepI, if_neg h0] at h
      exact h
theorem iso_run {f : Fld} (hf : FOk f) : IsoRun (isoRest f) true [] [] (keepE (six (keepI f.y) (keepI f.mo) (keepI f.d) (keepI f.h) (keepI f.mi) (keepI f.s))) := by
  obtain ⟨hy, hmo, hd, hh, hmi, hs, hym, hhms⟩ := hf
  unfold isoRest
  refine iso_part (name := Str.ofString "years") (by omega) (by rfl) (by simp) ?_
  rw [List.nil_append]
  refine iso_part (name := Str.ofString "months") (by omega) (by rfl) (fresh_keep (by exact (by decide +kernel : Str.ofString "months" ∉ ([Str.ofString "years"] : List Str)))) ?_
  rw [← keepE_append]
  refine iso_part (name := Str.ofString "days") (by omega) (by rfl) (fresh_keep (by exact (by decide +kernel : Str.ofString "days" ∉ ([Str.ofString "years", Str.ofString "months"] : List Str)))) ?_
  rw [← keepE_append]
  unfold isoTL
  split
  · next e =>
    simp only [List.cons.injEq, and_true] at e
    obtain ⟨z1, z2, z3⟩ := e
    rw [z1, z2, z3]
    show IsoRun [] true [] _ _
    have : keepE (six (keepI f.y) (keepI f.mo) (keepI f.d) (keepI 0) (keepI 0) (keepI 0)) = keepE ([(Str.ofString "years", keepI f.y)] ++ [(Str.ofString "months", keepI f.mo)] ++ [(Str.ofString "days", keepI f.d)]) := by
      show keepE (([(Str.ofString "years", keepI f.y)] ++ [(Str.ofString "months", keepI f.mo)] ++ [(Str.ofString "days", keepI f.d)]) ++ [(Str.ofString "hours", keepI 0), (Str.ofString "minutes", keepI 0), (Str.ofString "seconds", keepI 0)]) = _
      rw [keepE_append]
      exact List.append_nil _
    rw [this]
    exact .nil
  · refine .tee ?_
    refine iso_part (name := Str.ofString "hours") (by omega) (by rfl) (fresh_keep (by exact (by decide +kernel : Str.ofString "hours" ∉ ([Str.ofString "years", Str.ofString "months", Str.ofString "days"] : List Str)))) ?_
    rw [← keepE_append]
    refine iso_part (name := Str.ofString "minutes") (by omega) (by rfl) (fresh_keep (by exact (by decide +kernel : Str.ofString "minutes" ∉ ([Str.ofString "years", Str.ofString "months", Str.ofString "days", Str.ofString "hours"] : List Str)))) ?_
    rw [← keepE_append]
    have := iso_part (r := []) (b := false) (es := keepE ([(Str.ofString "years", keepI f.y)] ++ [(Str.ofString "months", keepI f.mo)] ++ [(Str.ofString "days", keepI f.d)] ++ [(Str.ofString "hours", keepI f.h)] ++ [(Str.ofString "minutes", keepI f.mi)])) (n := f.s) (c := 83) (name := Str.ofString "seconds") (by omega) (by rfl) (fresh_keep (by exact (by decide +kernel : Str.ofString "seconds" ∉ ([Str.ofString "years", Str.ofString "months", Str.ofString "days", Str.ofString "hours", Str.ofString "minutes"] : List Str)))) .nil
    rw [List.append_nil, ← keepE_append] at this
    exact this
theorem isoP_ok {n : Int} {c : Nat} (hn : -60 < n ∧ n < 60) (hc : c < 128) : (∀ d ∈ isoP n c, d < 128) ∧ (isoP n c).length ≤ 12 := by
  unfold isoP
  split
  · have hl := num_len (n := n) (by omega)
    rw [← sg_len] at hl
    refine ⟨fun d hd => ?_, by rw [List.length_append, List.length_singleton]; omega⟩
    rcases List.mem_append.mp hd with hd | hd
    · have := num_chars n d hd; omega
    · rw [List.mem_singleton.mp hd]; exact hc
  · exact ⟨fun _ h => (nomatch h), by decide⟩
theorem isoRest_ok {f : Fld} (hf : FOk f) : (∀ d ∈ isoRest f, d < 128) ∧ (isoRest f).length ≤ 100 := by
  obtain ⟨hy, hmo, hd, hh, hmi, hs, hym, hhms⟩ := hf
  have p1 := isoP_ok (n := f.y) (c := 89) (by omega) (by decide)
  have p2 := isoP_ok (n := f.mo) (c := 77) (by omega) (by decide)
  have p3 := isoP_ok (n := f.d) (c := 68) (by omega) (by decide)
  have p4 := isoP_ok (n := f.h) (c := 72) (by omega) (by decide)
  have p5 := isoP_ok (n := f.mi) (c := 77) (by omega) (by decide)
  have p6 := isoP_ok (n := f.s) (c := 83) (by omega) (by decide)
  have pt : (∀ d ∈ isoTL f, d < 128) ∧ (isoTL f).length ≤ 1 := by
    unfold isoTL
    split
    · exact ⟨fun _ h => (nomatch h), by decide⟩
    · exact ⟨by decide, by decide⟩
  unfold isoRest
  refine ⟨fun d hd => ?_, ?_⟩
  · simp only [List.mem_append] at hd
    rcases hd with h | h | h | h | h | h | h
    · exact p1.1 d h
    · exact p2.1 d h
    · exact p3.1 d h
    · exact pt.1 d h
    · exact p4.1 d h
    · exact p5.1 d h
    · exact p6.1 d h
  · simp only [List.length_append]; omega
theorem isoRest_ne {f : Fld} (h : [f.y, f.mo, f.d, f.h, f.mi, f.s] ≠ [0, 0, 0, 0, 0, 0]) : isoRest f ≠ [] := by
  intro e
  unfold isoRest at e
  simp only [List.append_eq_nil_iff] at e
  obtain ⟨e1, e2, e3, _, e4, e5, e6⟩ := e
  have key : ∀ {n : Int} {c : Nat}, isoP n c = [] → n = 0 := by
    intro n c e
    unfold isoP at e
    split at e
    · exact absurd (List.append_eq_nil_iff.mp e).2 (List.cons_ne_nil _ _)
    · next q => exact Classical.not_not.mp q
  exact h (by rw [key e1, key e2, key e3, key e4, key e5, key e6])
theorem iso_back1 (w : World) {f : Fld} (hf : FOk f) (hz : [f.y, f.mo, f.d, f.h, f.mi, f.s] ≠ [0, 0, 0, 0, 0, 0]) (t : Tok) : MeetsT w 14 (.ref 61) [.ref 108, .str (isoText f) t] [] [] fun v new => ReadsTo w (keptIv f) v new := by
  have e6 := iso6_sg f
  have hne : (iso6 f != Str.ofString "P") = true := bne_iff_ne.mpr fun e => by
    rw [e] at e6
    have e6' : [80] = 80 :: isoRest f := e6
    exact isoRest_ne hz (List.cons.inj e6').2.symm
  have ok := isoRest_ok hf
  unfold isoText
  rw [if_pos hne]
  have hlen : (iso6 f).length ≤ 300 := by rw [← sg_len, e6, List.length_cons]; omega
  have hl1 : 1 ≤ (iso6 f).length := by rw [← sg_len, e6, List.length_cons]; omega
  have hs := slice1 (iso6 f) hl1
  rw [e6, List.drop_one, List.tail_cons] at hs
  refine fs_iso w _ t _ ?_ fun t => ?_
  · refine (starts_one _ 80).trans ?_
    rw [e6]; rfl
  · have := isor_spec w (iso6 f) t _ hlen ?_ (by rw [show (Txt.slice (iso6 f) (some 1) none).cps.toList = isoRest f from hs]; exact iso_run hf)
    · rw [ivOf_six] at this
      exact this
    · rw [← Array.all_toList, show (Txt.slice (iso6 f) (some 1) none).cps.toList = isoRest f from hs, List.all_eq_true]
      exact fun d hd => decide_eq_true (ok.1 d hd)
theorem iso_back0 (w : World) {f : Fld} (hz : [f.y, f.mo, f.d, f.h, f.mi, f.s] = [0, 0, 0, 0, 0, 0]) (t : Tok) : MeetsT w 14 (.ref 61) [.ref 108, .str (isoText f) t] [] [] fun v new => ReadsTo w { keptIv f with s := some 0 } v new := by
  simp only [List.cons.injEq, and_true] at hz
  obtain ⟨z1, z2, z3, z4, z5, z6⟩ := hz
  have e6 := iso6_sg f
  have er : isoRest f = [] := by unfold isoRest isoTL; rw [z1, z2, z3, z4, z5, z6]; rfl
  rw [er] at e6
  have ep : iso6 f = Str.ofString "P" := sg_ext e6
  have et : isoText f = Str.ofString "PT0S" := by
    unfold isoText
    rw [ep]
    exact if_neg (by decide +kernel)
  rw [et]
  have ek : ({ keptIv f with s := some 0 } : Iv) = ivOf [(Str.ofString "seconds", 0)] := by unfold keptIv; rw [z1, z2, z3, z4, z5, z6]; rfl
  rw [ek]
  have es : Txt.slice (Str.ofString "PT0S") (some 1) none = Str.ofString "T0S" := by decide +kernel
  refine fs_iso w _ t _ (by decide +kernel) fun t => ?_
  refine isor_spec w _ t _ (by decide) (by rw [es]; decide +kernel) ?_
  rw [es]
  show IsoRun [84, 48, 83] true [] [] _
  refine .tee (.dig (by decide +kernel) (by decide +kernel) (by decide) (.letter (n := 0) (name := Str.ofString "seconds") (by rfl) (by decide +kernel) (by decide) (by decide) (by decide +kernel) ?_))
  exact .nil
end Mine
end
section
example : True := by (w_top off); trivial
open PySem PySem.W PyProof.Rows PySem.Calls PySem.NumText
set_option Elab.async false
set_option maxRecDepth 100000
namespace Mine
/-! the SQL text -/
theorem item0 {x : Str} {c : Nat} {r : List Nat} (e : sg x = c :: r) : Txt.item x 0 = ⟨#[c]⟩ := by
  have : x = ⟨(c :: r).toArray⟩ := sg_ext e
  rw [this]
  unfold Txt.item Txt.charAt
  have h1 : seqIndex? 0 (⟨(c :: r).toArray⟩ : Str).length = some 0 := by
    have l : (⟨(c :: r).toArray⟩ : Str).length = r.length + 1 := by show (c :: r).toArray.size = _; simp
    rw [l]
    unfold seqIndex?
    simp
    try omega
  rw [h1]
  rfl
theorem Hd.notAlpha {x : Str} (h : Hd x) : Txt.isalpha (Txt.item x 0) = false := by
  obtain ⟨c, r, e, k⟩ := h
  rw [item0 e]
  have : c = 43 ∨ c = 45 ∨ c = 48 ∨ c = 49 ∨ c = 50 ∨ c = 51 ∨ c = 52 ∨ c = 53 ∨ c = 54 ∨ c = 55 ∨ c = 56 ∨ c = 57 := by omega
  rcases this with e | e | e | e | e | e | e | e | e | e | e | e <;> subst e <;> decide +kernel
/-- digits alone -/
structure DigW (x : Str) (n : Int) : Prop where
  cs : ∀ c ∈ sg x, 48 ≤ c ∧ c ≤ 57
  len1 : 1 ≤ x.length
  len : x.length ≤ 12
  v0 : PySem.intText? x = some n
  vm : PySem.intText? (Str.ofString "-" ++ x) = some (-n)
  vp : PySem.intText? (Str.ofString "+" ++ x) = some n
theorem digW {n : Int} (h : 0 ≤ n ∧ n < 60) : DigW (numS n) n := by
  have t := twoW h
  have l := num_len (n := n) (by omega)
  refine ⟨fun c hc => ?_, num_len1 n, by omega, num_int (by omega), t.nm, t.np⟩
  obtain ⟨m, rfl⟩ := Int.eq_ofNat_of_zero_le h.1
  rw [pos_signs] at hc
  exact digits_all m c hc
/-- a sign ahead of a part -/
inductive Sgn : Str → Int → Prop
  | neg : Sgn (Str.ofString "-") (-1)
  | plus : Sgn (Str.ofString "+") 1
  | no : Sgn (Str.ofString "") 1
theorem Sgn.val {p x : Str} {g n : Int} (h : Sgn p g) (d : DigW x n) : PySem.intText? (p ++ x) = some (n * g) := by
  cases h with
  | neg => rw [d.vm]; congr 1; omega
  | plus => rw [d.vp]; congr 1; omega
  | no => rw [show Str.ofString "" = Str.empty from rfl, KT.empty_app, d.v0]; congr 1; omega
theorem Sgn.hd {p x : Str} {g n : Int} (h : Sgn p g) (d : DigW x n) : Hd (p ++ x) := by
  cases h with
  | neg => exact ⟨45, _, by rw [sg_app]; rfl, by decide⟩
  | plus => exact ⟨43, _, by rw [sg_app]; rfl, by decide⟩
  | no =>
    rw [show Str.ofString "" = Str.empty from rfl, KT.empty_app]
    have l := d.len1
    rw [← sg_len] at l
    cases e : sg x with
    | nil => rw [e] at l; exact absurd l (by decide)
    | cons c r => exact ⟨c, r, e, Or.inr (Or.inr (d.cs c (by rw [e]; exact .head _)))⟩
theorem Sgn.len {p : Str} {g : Int} (h : Sgn p g) : p.length ≤ 1 ∧ ∀ c ∈ sg p, c = 43 ∨ c = 45 := by
  cases h
  · exact ⟨by decide, by decide⟩
  · exact ⟨by decide, by decide⟩
  · exact ⟨by decide, by decide⟩
/-- the reader's sign of a part: its first piece a, what follows t -/
theorem sgn_cut {p a : Str} {g n : Int} (h : Sgn p g) (d : DigW a n) (t : Str) : ∃ a', sgP (p ++ a ++ t) = (g, a' ++ t) ∧ (∀ c ∈ sg a', c = 43 ∨ (48 ≤ c ∧ c ≤ 57)) ∧ a'.length ≤ 13 ∧ PySem.intText? a' = some n := by
  have ld := d.len
  cases h with
  | neg =>
    have e0 : sg (Str.ofString "-" ++ a ++ t) = 45 :: sg (a ++ t) := by rw [sg_app, sg_app, sg_app]; rfl
    have e1 : Txt.startswith (Str.ofString "-" ++ a ++ t) (Str.ofString "-") = true := by
      refine (starts_one _ 45).trans ?_
      rw [e0]; rfl
    have e2 : Txt.slice (Str.ofString "-" ++ a ++ t) (some 1) none = a ++ t := sg_ext (by
      rw [slice1 _ (by rw [← sg_len, e0, List.length_cons]; omega), e0]; rfl)
    exact ⟨a, by rw [sgP, if_pos e1, e2], fun c hc => Or.inr (d.cs c hc), by omega, d.v0⟩
  | plus =>
    have e0 : sg (Str.ofString "+" ++ a ++ t) = 43 :: sg (a ++ t) := by rw [sg_app, sg_app, sg_app]; rfl
    have e1 : Txt.startswith (Str.ofString "+" ++ a ++ t) (Str.ofString "-") = false := by
      refine (starts_one _ 45).trans ?_
      rw [e0]; rfl
    refine ⟨Str.ofString "+" ++ a, by rw [sgP, if_neg (by rw [e1]; exact Bool.false_ne_true)], fun c hc => ?_, ?_, d.vp⟩
    · rw [sg_app] at hc
      rcases List.mem_append.mp hc with hc | hc
      · exact Or.inl (List.mem_singleton.mp hc)
      · exact Or.inr (d.cs c hc)
    · rw [Str.length_append]
      have : (Str.ofString "+").length = 1 := rfl
      omega
  | no =>
    rw [show Str.ofString "" = Str.empty from rfl, KT.empty_app]
    have e1 : Txt.startswith (a ++ t) (Str.ofString "-") = false := by
      refine (starts_one _ 45).trans ?_
      rw [sg_app]
      have l := d.len1
      rw [← sg_len] at l
      cases e : sg a with
      | nil => rw [e] at l; exact absurd l (by decide)
      | cons c r =>
        have := d.cs c (by rw [e]; exact .head _)
        refine decide_eq_false fun q => ?_
        have : c = 45 := Option.some.inj q
        omega
    exact ⟨a, by rw [sgP, if_neg (by rw [e1]; exact Bool.false_ne_true)], fun c hc => Or.inr (d.cs c hc), by omega, d.v0⟩
theorem nospace_of {x : Str} (h : ∀ c ∈ sg x, c = 43 ∨ c = 45 ∨ (48 ≤ c ∧ c ≤ 58)) : ∀ c ∈ sg x, Unicode.isSpace c = false := fun c hc => by
  have := h c hc
  by_cases q : c = 58
  · subst q; decide +kernel
  · exact dig_space c (by omega)
/-- years and months -/
structure YmW (x : Str) (y mo : Int) : Prop where
  len : x.length ≤ 40
  len1 : 1 ≤ x.length
  cs : ∀ c ∈ sg x, c = 43 ∨ c = 45 ∨ (48 ≤ c ∧ c ≤ 57)
  hd : Hd x
  parts : ∃ a b n k, Txt.split (sgP x).2 (Str.ofString "-") = [a, b] ∧ PySem.intText? a = some n ∧ PySem.intText? b = some k ∧ a.length ≤ 300 ∧ b.length ≤ 300 ∧ (-1000 < n ∧ n < 1000) ∧ (-1000 < k ∧ k < 1000) ∧ n * (sgP x).1 = y ∧ k * (sgP x).1 = mo
theorem ymW_of {p a b : Str} {g n k : Int} (h : Sgn p g) (da : DigW a n) (db : DigW b k) (hn : -1000 < n ∧ n < 1000) (hk : -1000 < k ∧ k < 1000) : YmW (p ++ a ++ Str.ofString "-" ++ b) (n * g) (k * g) := by
  have la := da.len
  have lb := db.len
  have la1 := da.len1
  have hp := h.len
  have e : p ++ a ++ Str.ofString "-" ++ b = p ++ a ++ (Str.ofString "-" ++ b) := sg_ext (by simp only [sg_app, List.append_assoc])
  rw [e]
  obtain ⟨a', ea, ca, la', va⟩ := sgn_cut h da (Str.ofString "-" ++ b)
  refine ⟨?_, ?_, ?_, (h.hd da).app _, a', b, n, k, ?_, va, db.v0, by omega, by omega, hn, hk, by rw [ea], by rw [ea]⟩
  · simp only [Str.length_append]
    have : (Str.ofString "-").length = 1 := rfl
    omega
  · simp only [Str.length_append]; omega
  · intro c hc
    simp only [sg_app, List.mem_append] at hc
    rcases hc with (hc | hc) | hc | hc
    · have := hp.2 c hc; omega
    · have := da.cs c hc; omega
    · have : c = 45 := List.mem_singleton.mp hc
      omega
    · have := db.cs c hc; omega
  · rw [ea]
    refine split_of (c := 45) (List.cons_ne_nil _ _) ?_ ?_ ?_
    · show sg (a' ++ (Str.ofString "-" ++ b)) ≠ []
      rw [sg_app, sg_app]
      exact fun q => absurd (List.append_eq_nil_iff.mp q).2 (List.cons_ne_nil _ _)
    · intro x hx q
      simp only [List.mem_cons, List.not_mem_nil, or_false] at hx
      rcases hx with rfl | rfl
      · have := ca _ q; omega
      · have := db.cs _ q; omega
    · show sg (a' ++ (Str.ofString "-" ++ b)) = _
      rw [join_sg, sg_app, sg_app]; rfl
/-- a time with its sign -/
structure HmW (x : Str) (h mi s : Int) : Prop where
  len : x.length ≤ 40
  len1 : 1 ≤ x.length
  cs : ∀ c ∈ sg x, c = 43 ∨ c = 45 ∨ (48 ≤ c ∧ c ≤ 58)
  hd : Hd x
  parts : ∃ a b d n k j, Txt.split (sgP x).2 (Str.ofString ":") = [a, b, d] ∧ PySem.intText? a = some n ∧ PySem.intText? b = some k ∧ PySem.intText? d = some j ∧ a.length ≤ 300 ∧ b.length ≤ 300 ∧ d.length ≤ 300 ∧ (-1000 < n ∧ n < 1000) ∧ (-1000 < k ∧ k < 1000) ∧ (-1000 < j ∧ j < 1000) ∧
    n * (sgP x).1 = h ∧ k * (sgP x).1 = mi ∧ j * (sgP x).1 = s
theorem hmW_of {p a : Str} {g n k j : Int} (h : Sgn p g) (da : DigW a n) (db : TwoW k) (dd : TwoW j) (hn : -1000 < n ∧ n < 1000) (hk : -1000 < k ∧ k < 1000) (hj : -1000 < j ∧ j < 1000) : HmW (p ++ a ++ Str.ofString ":" ++ two k ++ Str.ofString ":" ++ two j) (n * g) (k * g) (j * g) := by
  have la := da.len
  have lb := db.len
  have ld := dd.len
  have la1 := da.len1
  have hp := h.len
  have e : p ++ a ++ Str.ofString ":" ++ two k ++ Str.ofString ":" ++ two j = p ++ a ++ (Str.ofString ":" ++ two k ++ Str.ofString ":" ++ two j) := sg_ext (by simp only [sg_app, List.append_assoc])
  rw [e]
  obtain ⟨a', ea, ca, la', va⟩ := sgn_cut h da (Str.ofString ":" ++ two k ++ Str.ofString ":" ++ two j)
  refine ⟨?_, ?_, ?_, (h.hd da).app _, a', two k, two j, n, k, j, ?_, va, db.v0, dd.v0, by omega, by omega, by omega, hn, hk, hj, by rw [ea], by rw [ea], by rw [ea]⟩
  · simp only [Str.length_append]
    have : (Str.ofString ":").length = 1 := rfl
    omega
  · simp only [Str.length_append]; omega
  · intro c hc
    simp only [sg_app, List.mem_append] at hc
    rcases hc with (hc | hc) | ((hc | hc) | hc) | hc
    · have := hp.2 c hc; omega
    · have := da.cs c hc; omega
    · have : c = 58 := List.mem_singleton.mp hc
      omega
    · have := db.cs c hc; omega
    · have : c = 58 := List.mem_singleton.mp hc
      omega
    · have := dd.cs c hc; omega
  · rw [ea]
    refine split_of (c := 58) (List.cons_ne_nil _ _) ?_ ?_ ?_
    · show sg (a' ++ (Str.ofString ":" ++ two k ++ Str.ofString ":" ++ two j)) ≠ []
      rw [sg_app, sg_app, sg_app, sg_app]
      exact fun q => absurd (List.append_eq_nil_iff.mp (List.append_eq_nil_iff.mp (List.append_eq_nil_iff.mp (List.append_eq_nil_iff.mp q).2).1).1).1 (List.cons_ne_nil _ _)
    · intro x hx q
      simp only [List.mem_cons, List.not_mem_nil, or_false] at hx
      rcases hx with rfl | rfl | rfl
      · have := ca _ q; omega
      · have := db.cs _ q; omega
      · have := dd.cs _ q; omega
    · show sg (a' ++ (Str.ofString ":" ++ two k ++ Str.ofString ":" ++ two j)) = _
      rw [join_sg, join_sg]
      simp only [sg_app, List.append_assoc]
      rfl
theorem scans_each' : ∀ (l : List Str), (∀ x ∈ l, Scans x [x]) → All2 Scans l (l.map fun x => [x])
  | [], _ => .nil
  | x :: l, h => .cons (h x (.head _)) (scans_each' l fun y hy => h y (.tail _ hy))
theorem stPlus_sgn (f : Fld) : Sgn (stPlus f) 1 := by
  unfold stPlus
  split
  · exact .plus
  · exact .no
theorem mulneg (n : Int) (h : n ≤ 0) : (if n < 0 then -n else n) * -1 = n := by split <;> omega
theorem mulpos (n : Int) (h : 0 ≤ n) : (if n < 0 then -n else n) * 1 = n := by split <;> omega
theorem st_w1 {f : Fld} (hf : FOk f) : YmW (stW1 f) f.y f.mo := by
  obtain ⟨hy, hmo, hd, hh, hmi, hs, hym, hhms⟩ := hf
  have dy := digW (n := absI f.y) (by unfold absI; split <;> omega)
  have dm := digW (n := absI f.mo) (by unfold absI; split <;> omega)
  have by' : -1000 < absI f.y ∧ absI f.y < 1000 := by unfold absI; split <;> omega
  have bm' : -1000 < absI f.mo ∧ absI f.mo < 1000 := by unfold absI; split <;> omega
  unfold stW1 stSign1
  split
  · have := ymW_of .neg dy dm by' bm'
    rw [show absI f.y * -1 = f.y from mulneg _ (by omega), show absI f.mo * -1 = f.mo from mulneg _ (by omega)] at this
    exact this
  · have := ymW_of (stPlus_sgn f) dy dm by' bm'
    rw [show absI f.y * 1 = f.y from mulpos _ (by omega), show absI f.mo * 1 = f.mo from mulpos _ (by omega)] at this
    exact this
theorem st_w2 {f : Fld} (hf : FOk f) : NumW (stW2 f) f.d ∧ Hd (stW2 f) := by
  obtain ⟨hy, hmo, hd, hh, hmi, hs, hym, hhms⟩ := hf
  have dd := digW (n := absI f.d) (by unfold absI; split <;> omega)
  have l := num_len (n := absI f.d) (by unfold absI; split <;> omega)
  have key : ∀ {p g}, Sgn p g → absI f.d * g = f.d → NumW (p ++ Str.ofString (toString (absI f.d))) f.d ∧ Hd (p ++ Str.ofString (toString (absI f.d))) := fun {p g} h e => by
    have hp := h.len
    have l1 : 1 ≤ (Str.ofString (toString (absI f.d))).length := dd.len1
    have l' : (Str.ofString (toString (absI f.d))).length ≤ 11 := l
    refine ⟨⟨by rw [Str.length_append]; omega, by rw [Str.length_append]; omega, fun c hc => ?_, by rw [h.val dd, e]⟩, h.hd dd⟩
    rw [sg_app] at hc
    rcases List.mem_append.mp hc with hc | hc
    · have := hp.2 c hc; omega
    · have := dd.cs c hc; omega
  unfold stW2 stSign2
  split
  · exact key .neg (mulneg _ (by omega))
  · exact key (stPlus_sgn f) (mulpos _ (by omega))
theorem st_w3 {f : Fld} (hf : FOk f) : HmW (stW3 f) f.h f.mi f.s := by
  obtain ⟨hy, hmo, hd, hh, hmi, hs, hym, hhms⟩ := hf
  have dh := digW (n := absI f.h) (by unfold absI; split <;> omega)
  have dm := twoW (n := absI f.mi) (by unfold absI; split <;> omega)
  have ds := twoW (n := absI f.s) (by unfold absI; split <;> omega)
  have bh' : -1000 < absI f.h ∧ absI f.h < 1000 := by unfold absI; split <;> omega
  have bm' : -1000 < absI f.mi ∧ absI f.mi < 1000 := by unfold absI; split <;> omega
  have bs' : -1000 < absI f.s ∧ absI f.s < 1000 := by unfold absI; split <;> omega
  unfold stW3 stSign3
  split
  · have := hmW_of .neg dh dm ds bh' bm' bs'
    rw [show absI f.h * -1 = f.h from mulneg _ (by omega), show absI f.mi * -1 = f.mi from mulneg _ (by omega), show absI f.s * -1 = f.s from mulneg _ (by omega)] at this
    exact this
  · have := hmW_of (stPlus_sgn f) dh dm ds bh' bm' bs'
    rw [show absI f.h * 1 = f.h from mulpos _ (by omega), show absI f.mi * 1 = f.mi from mulpos _ (by omega), show absI f.s * 1 = f.s from mulpos _ (by omega)] at this
    exact this
theorem st_back (w : World) {f : Fld} (hf : FOk f) (hz : [f.y, f.mo, f.d, f.h, f.mi, f.s] ≠ [0, 0, 0, 0, 0, 0]) (t : Tok) : MeetsT w 14 (.ref 61) [.ref 108, .str (stText f) t] [] [] fun v new => ReadsTo w (stIv f) v new := by
  have W1 := st_w1 hf
  have W2 := st_w2 hf
  have W3 := st_w3 hf
  have S1 : Scans (stW1 f) [stW1 f] := Scans.word W1.len1 (nospace_of fun c hc => by have := W1.cs c hc; omega)
  have S2 : Scans (stW2 f) [stW2 f] := Scans.word W2.1.len1 W2.1.nospace
  have S3 : Scans (stW3 f) [stW3 f] := Scans.word W3.len1 (nospace_of W3.cs)
  have l1 := W1.len
  have l2 := W2.1.len
  have l3 := W3.len
  have a3 : (Str.ofString " ").length = 1 := rfl
  have key : ∀ ws : List Str, ws ≠ [] → (∀ x ∈ ws, x = stW1 f ∨ x = stW2 f ∨ x = stW3 f) → ws.length ≤ 3 → Txt.words (Txt.join (Str.ofString " ") ws) = ws ∧ (Txt.join (Str.ofString " ") ws).length ≤ 300 ∧ Hd (Txt.join (Str.ofString " ") ws) := fun ws hne h hl => by
    have : All2 Scans ws (ws.map fun x => [x]) := scans_each' ws fun x hx => by
      rcases h x hx with rfl | rfl | rfl <;> assumption
    have S := Scans.join this hne
    rw [flat_each] at S
    refine ⟨S.words, Nat.le_trans (len_join (k := 40) fun x hx => ?_) ?_, ?_⟩
    · rcases h x hx with rfl | rfl | rfl <;> omega
    · rw [a3]; omega
    · cases ws with
      | nil => exact absurd rfl hne
      | cons x r =>
        refine Hd.join ?_ _ _
        rcases h x (.head _) with rfl | rfl | rfl
        · exact W1.hd
        · exact W2.2
        · exact W3.hd
  obtain ⟨a, b, n, k, hs1, va, vb, la, lb, bn, bk, ey, em⟩ := W1.parts
  obtain ⟨a', b', d', n', k', j', hs3, va', vb', vd', la', lb', ld', bn', bk', bj', eh, emi, ese⟩ := W3.parts
  have hd2 : -1000 < f.d ∧ f.d < 1000 := by have := hf.d; omega
  unfold stText stIv
  by_cases q1 : [f.y, f.mo] = [0, 0]
  · by_cases q2 : [f.d, f.h, f.mi, f.s] = [0, 0, 0, 0]
    · refine absurd ?_ hz
      simp only [List.cons.injEq, and_true] at q1 q2 ⊢
      exact ⟨q1.1, q1.2, q2⟩
    · simp only [if_pos q1, if_neg q2, List.nil_append]
      obtain ⟨hw, hl, hh⟩ := key [stW2 f, stW3 f] (by simp) (by simp) (by simp)
      refine fs_two w _ _ _ [] t _ false hl hh.notP hh.notAt hw (by decide) W3.len1 (by omega) W3.hd.notAlpha fun t => ?_
      have := sql2_spec w _ (stW2 f) (stW3 f) a' b' d' t f.d n' k' j' hl hw (by omega) (by omega) W2.1.val hs3 va' vb' vd' la' lb' ld' hd2 bn' bk' bj'
      rw [eh, emi, ese] at this
      exact this
  · by_cases q2 : [f.d, f.h, f.mi, f.s] = [0, 0, 0, 0]
    · simp only [if_neg q1, if_pos q2, List.append_nil]
      obtain ⟨hw, hl, hh⟩ := key [stW1 f] (by simp) (by simp) (by simp)
      refine fs_one w _ _ t _ false hl hh.notP hh.notAt hw ?_ fun t => ?_
      · rw [hasColon_eq]
        refine decide_eq_false fun q => ?_
        have := W1.cs _ q
        omega
      · have := sql1_spec w _ (stW1 f) a b t n k hl hw (by omega) hs1 va vb la lb bn bk
        rw [ey, em] at this
        exact this
    · simp only [if_neg q1, if_neg q2]
      obtain ⟨hw, hl, hh⟩ := key [stW1 f, stW2 f, stW3 f] (by simp) (by simp) (by simp)
      refine fs_two w _ _ _ [stW3 f] t _ false hl hh.notP hh.notAt hw (by simp) W2.1.len1 (by omega) W2.2.notAlpha fun t => ?_
      have := sql3_spec w _ (stW1 f) (stW2 f) (stW3 f) a' b' d' a b t n k f.d n' k' j' hl hw (by omega) (by omega) (by omega) hs1 va vb la lb bn bk W2.1.val hs3 va' vb' vd' la' lb' ld' hd2 bn' bk' bj'
      rw [ey, em, eh, emi, ese] at this
      exact this
end Mine
end
section
example : True := by (w_top off); trivial
open PySem PySem.W PyProof.Rows PySem.Calls PySem.NumText
set_option Elab.async false
set_option maxRecDepth 100000
namespace Mine
theorem fields_ok (c : Int) : FOk (fieldsOf c) := by
  have b0 := Int.fmod_nonneg_of_pos (seedOf c) (show (0 : Int) < 5 by decide)
  have b0' := Int.fmod_lt_of_pos (seedOf c) (show (0 : Int) < 5 by decide)
  have b1 := Int.fmod_nonneg_of_pos ((seedOf c).fdiv 5) (show (0 : Int) < 12 by decide)
  have b1' := Int.fmod_lt_of_pos ((seedOf c).fdiv 5) (show (0 : Int) < 12 by decide)
  have b2 := Int.fmod_nonneg_of_pos ((seedOf c).fdiv 60) (show (0 : Int) < 40 by decide)
  have b2' := Int.fmod_lt_of_pos ((seedOf c).fdiv 60) (show (0 : Int) < 40 by decide)
  have b3 := Int.fmod_nonneg_of_pos ((seedOf c).fdiv 2400) (show (0 : Int) < 30 by decide)
  have b3' := Int.fmod_lt_of_pos ((seedOf c).fdiv 2400) (show (0 : Int) < 30 by decide)
  have b4 := Int.fmod_nonneg_of_pos ((seedOf c).fdiv 72000) (show (0 : Int) < 60 by decide)
  have b4' := Int.fmod_lt_of_pos ((seedOf c).fdiv 72000) (show (0 : Int) < 60 by decide)
  have b5 := Int.fmod_nonneg_of_pos ((seedOf c).fdiv 4320000) (show (0 : Int) < 60 by decide)
  have b5' := Int.fmod_lt_of_pos ((seedOf c).fdiv 4320000) (show (0 : Int) < 60 by decide)
  have sg : ∀ k, sgOf c k = 1 ∨ sgOf c k = -1 := fun k => by
    have h1 := Int.fmod_nonneg_of_pos (((seedOf c).fdiv 259200000).fdiv k) (show (0 : Int) < 2 by decide)
    have h2 := Int.fmod_lt_of_pos (((seedOf c).fdiv 259200000).fdiv k) (show (0 : Int) < 2 by decide)
    unfold sgOf
    omega
  refine ⟨?_, ?_, ?_, ?_, ?_, ?_, ?_, ?_⟩ <;> unfold fieldsOf <;> dsimp only
  · rcases sg 1 with e | e <;> rw [e] <;> omega
  · rcases sg 1 with e | e <;> rw [e] <;> omega
  · rcases sg 2 with e | e <;> rw [e] <;> omega
  · rcases sg 4 with e | e <;> rw [e] <;> omega
  · rcases sg 4 with e | e <;> rw [e] <;> omega
  · rcases sg 4 with e | e <;> rw [e] <;> omega
  · rcases sg 1 with e | e <;> rw [e] <;> omega
  · rcases sg 4 with e | e <;> rw [e] <;> omega
/-- an interval that a reading of f may give -/
structure DueOk (f : Fld) (a : Iv) : Prop where
  nrm : nrm a = wholeOf f
  us : a.us = none
  rest : a.ml = none ∧ a.ce = none ∧ a.de = none ∧ a.wk = none ∧ a.us = none
  small : ∀ p ∈ esIv a, -100000 < p.2 ∧ p.2 < 100000
theorem keepI_add (z n : Int) : addO z (keepI n) = z + n := by
  unfold keepI
  split
  · next e => subst e; show z = z + 0; omega
  · rfl
theorem small_of {a : Iv} (h : ∀ o ∈ (fsIv a).map (·.2), ∀ n, o = some n → -100000 < n ∧ n < 100000) : ∀ p ∈ esIv a, -100000 < p.2 ∧ p.2 < 100000 := fun p hp => by
  obtain ⟨q, hq, e⟩ := List.mem_filterMap.mp hp
  cases e2 : q.2 with
  | none => rw [e2] at e; cases e
  | some n =>
    rw [e2] at e
    cases e
    exact h _ (List.mem_map_of_mem hq) n e2
theorem keepI_some {m n : Int} (h : keepI m = some n) : n = m := by
  unfold keepI at h
  split at h
  · cases h
  · cases h; rfl
theorem kept_ok {f : Fld} (hf : FOk f) : DueOk f (keptIv f) := by
  have hf0 := hf
  obtain ⟨hy, hmo, hd, hh, hmi, hs, hym, hhms⟩ := hf
  refine ⟨?_, rfl, ⟨rfl, rfl, rfl, rfl, rfl⟩, small_of fun o ho n e => ?_⟩
  · have am : ∀ z n k : Int, addO z ((keepI n).map (· * k)) = z + n * k := fun z n k => by
      unfold keepI
      split
      · next e => subst e; show z = z + 0 * k; rw [Int.zero_mul, Int.add_zero]
      · rfl
    have am2 : ∀ z n : Int, addO z ((keepI n).map (· * 60 * 60)) = z + n * 60 * 60 := fun z n => by
      unfold keepI
      split
      · next e => subst e; show z = z + 0 * 60 * 60; omega
      · rfl
    show (addO (addO 0 (keepI f.mo)) ((keepI f.y).map (· * 12)), addO (addO 0 (keepI f.d)) none, addO (addO (addO 0 ((keepI f.h).map (· * 60 * 60))) ((keepI f.mi).map (· * 60))) (keepI f.s)) = (12 * f.y + f.mo, f.d, 3600 * f.h + 60 * f.mi + f.s)
    rw [keepI_add, am, keepI_add, am2, am, keepI_add]
    show ((0 + f.mo + f.y * 12, 0 + f.d, 0 + f.h * 60 * 60 + f.mi * 60 + f.s) : Int × Int × Int) = _
    rw [show 0 + f.mo + f.y * 12 = 12 * f.y + f.mo by omega, show 0 + f.d = f.d by omega, show 0 + f.h * 60 * 60 + f.mi * 60 + f.s = 3600 * f.h + 60 * f.mi + f.s by omega]
  · simp only [fsIv, keptIv, List.map_cons, List.map_nil, List.mem_cons, List.not_mem_nil, or_false] at ho
    rcases ho with rfl | rfl | rfl | rfl | rfl | rfl | rfl | rfl | rfl | rfl | rfl <;> first | (cases e; done) | (have := keepI_some e; omega)
theorem kept0_ok {f : Fld} (hf : FOk f) (hz : f.s = 0) : DueOk f { keptIv f with s := some 0 } := by
  have h := kept_ok hf
  refine ⟨?_, rfl, ⟨rfl, rfl, rfl, rfl, rfl⟩, small_of fun o ho n e => ?_⟩
  · rw [← h.nrm]
    have ks : (keptIv f).s = none := if_pos hz
    show (addO (addO 0 (keptIv f).mo) ((keptIv f).y.map (· * 12)), addO (addO 0 (keptIv f).d) ((keptIv f).wk.map (· * 7)), addO (addO (addO 0 ((keptIv f).h.map (· * 60 * 60))) ((keptIv f).mi.map (· * 60))) (some 0)) =
      (addO (addO 0 (keptIv f).mo) ((keptIv f).y.map (· * 12)), addO (addO 0 (keptIv f).d) ((keptIv f).wk.map (· * 7)), addO (addO (addO 0 ((keptIv f).h.map (· * 60 * 60))) ((keptIv f).mi.map (· * 60))) (keptIv f).s)
    rw [ks]
    show (_, _, addO (addO 0 ((keptIv f).h.map (· * 60 * 60))) ((keptIv f).mi.map (· * 60)) + 0) = _
    rw [Int.add_zero]
    rfl
  · obtain ⟨hy, hmo, hd, hh, hmi, hs, hym, hhms⟩ := hf
    simp only [fsIv, keptIv, List.map_cons, List.map_nil, List.mem_cons, List.not_mem_nil, or_false] at ho
    rcases ho with rfl | rfl | rfl | rfl | rfl | rfl | rfl | rfl | rfl | rfl | rfl <;> first | (cases e; done) | (have := keepI_some e; omega) | (cases e; decide)
theorem st_ok {f : Fld} (hf : FOk f) : DueOk f (stIv f) := by
  obtain ⟨hy, hmo, hd, hh, hmi, hs, hym, hhms⟩ := hf
  have fin : ∀ a b c d e g : Option Int, (∀ o ∈ [a, b, c, d, e, g], ∀ n, o = some n → -100000 < n ∧ n < 100000) → ∀ o ∈ (fsIv { y := a, mo := b, d := c, h := d, mi := e, s := g }).map (·.2), ∀ n, o = some n → -100000 < n ∧ n < 100000 := by
    intro a b c d e g h o ho n en
    simp only [fsIv, List.map_cons, List.map_nil, List.mem_cons, List.not_mem_nil, or_false] at ho
    rcases ho with rfl | rfl | rfl | rfl | rfl | rfl | rfl | rfl | rfl | rfl | rfl <;> first | (cases en; done) | exact h _ (by simp) n en
  unfold stIv
  by_cases q1 : [f.y, f.mo] = [0, 0]
  · by_cases q2 : [f.d, f.h, f.mi, f.s] = [0, 0, 0, 0]
    · simp only [if_pos q1, if_pos q2]
      simp only [List.cons.injEq, and_true] at q1 q2
      refine ⟨?_, rfl, ⟨rfl, rfl, rfl, rfl, rfl⟩, small_of (fin _ _ _ _ _ _ ?_)⟩
      · simp only [nrm, addO, wholeOf, Option.map_none, Prod.mk.injEq]; omega
      · simp
    · simp only [if_pos q1, if_neg q2]
      simp only [List.cons.injEq, and_true] at q1
      refine ⟨?_, rfl, ⟨rfl, rfl, rfl, rfl, rfl⟩, small_of (fin _ _ _ _ _ _ ?_)⟩
      · simp only [nrm, addO, wholeOf, Option.map_none, Option.map_some, Prod.mk.injEq]; omega
      · simp; omega
  · by_cases q2 : [f.d, f.h, f.mi, f.s] = [0, 0, 0, 0]
    · simp only [if_neg q1, if_pos q2]
      simp only [List.cons.injEq, and_true] at q2
      refine ⟨?_, rfl, ⟨rfl, rfl, rfl, rfl, rfl⟩, small_of (fin _ _ _ _ _ _ ?_)⟩
      · simp only [nrm, addO, wholeOf, Option.map_none, Option.map_some, Prod.mk.injEq]; omega
      · simp; omega
    · simp only [if_neg q1, if_neg q2]
      refine ⟨?_, rfl, ⟨rfl, rfl, rfl, rfl, rfl⟩, small_of (fin _ _ _ _ _ _ ?_)⟩
      · simp only [nrm, addO, wholeOf, Option.map_none, Option.map_some, Prod.mk.injEq]; omega
      · simp; omega
theorem ways_facts {f : Fld} (hf : FOk f) : ∀ u ∈ ways f, DueOk f u.due ∧ ∀ w t, MeetsT w 14 (.ref 61) [.ref 108, .str u.tx t] [] [] fun v new => ReadsTo w u.due v new := by
  intro u hu
  unfold ways at hu
  have hk := kept_ok hf
  have hs := st_ok hf
  split at hu
  · next hz =>
    have hz' := hz
    simp only [List.cons.injEq, and_true] at hz'
    have okp : pgOk f = true := decide_eq_true (by omega)
    simp only [List.mem_cons, List.not_mem_nil, or_false] at hu
    rcases hu with rfl | rfl | rfl
    · exact ⟨kept0_ok hf (by omega), fun w t => iso_back0 w hz t⟩
    · exact ⟨hk, fun w t => vb_back w hf t⟩
    · exact ⟨hk, fun w t => pg_back w hf okp t⟩
  · next hz =>
    split at hu
    · next okp =>
      simp only [List.mem_cons, List.not_mem_nil, or_false] at hu
      rcases hu with rfl | rfl | rfl | rfl
      · exact ⟨hk, fun w t => iso_back1 w hf hz t⟩
      · exact ⟨hk, fun w t => vb_back w hf t⟩
      · exact ⟨hk, fun w t => pg_back w hf okp t⟩
      · exact ⟨hs, fun w t => st_back w hf hz t⟩
    · simp only [List.mem_cons, List.not_mem_nil, or_false] at hu
      rcases hu with rfl | rfl | rfl
      · exact ⟨hk, fun w t => iso_back1 w hf hz t⟩
      · exact ⟨hk, fun w t => vb_back w hf t⟩
      · exact ⟨hs, fun w t => st_back w hf hz t⟩
theorem ways_len (f : Fld) : 3 ≤ (ways f).length ∧ (ways f).length ≤ 4 := by
  unfold ways
  split
  · exact ⟨Nat.le_refl _, by simp⟩
  · split
    · exact ⟨by simp, by simp⟩
    · exact ⟨Nat.le_refl _, by simp⟩
/-- __str__'s text is read back, or there is nothing to tell -/
theorem isb_any (w : World) (x dx : Addr) (k t : Nat → Tok) (a : Iv) (hb : ∀ p ∈ esIv a, -100000 < p.2 ∧ p.2 < 100000) : MeetsP w 20 (.ref 179) [.ref x] (ivAt w x dx k t a) fun v => v = .bool true := by
  by_cases h : esIv a = []
  · have e : a = {} := by
      have := ivOf_es a
      rw [h] at this
      exact this.symm
    subst e
    exact isb_none w x dx k t
  · have := iv_back w a h hb
    exact isb_spec w x dx k t a hb this.1 this.2
theorem units_ok (w : World) (c : Int) (t : Tok) : MeetsP w 40 (.ref 186) [.int c t] [] fun v => v = .bool true :=
  units_spec w c t fun a h hb => iv_back w a h hb
end Mine
end
section
example : True := by (w_top off); trivial
open PySem PySem.W PyProof.Rows PySem.Calls
set_option Elab.async false
set_option maxRecDepth 100000
namespace Mine
/-- an interval that a reading of f gave -/
def ThingAt (w : World) (rest : List (Addr × Obj)) (f : Fld) (v : Value) : Prop := ∃ x dx, ∃ k t : Nat → Tok, ∃ a, v = .ref x ∧ (x, instObj 108 dx) ∈ rest ∧ (dx, ivDict w.params k t a) ∈ rest ∧ DueOk f a
theorem ThingAt.sub {w : World} {r r' : List (Addr × Obj)} {f : Fld} {v : Value} (h : ThingAt w r f v) (hs : ∀ p ∈ r, p ∈ r') : ThingAt w r' f v := by
  obtain ⟨x, dx, k, t, a, e, h1, h2, h3⟩ := h
  exact ⟨x, dx, k, t, a, e, hs _ h1, hs _ h2, h3⟩
theorem WayAt.sub {r r' : List (Addr × Obj)} {v : Value} {u : Way} (h : WayAt r v u) (hs : ∀ p ∈ r, p ∈ r') : WayAt r' v u := by
  obtain ⟨p, t, q, ts, n, e, h1, h2⟩ := h
  exact ⟨p, t, q, ts, n, e, hs _ h1, hs _ h2⟩
theorem All2.imp {α β : Type} {R R' : α → β → Prop} (h : ∀ a b, R a b → R' a b) : ∀ {l : List α} {r : List β}, All2 R l r → All2 R' l r
  | _, _, .nil => .nil
  | _, _, .cons a r => .cons (h _ _ a) (All2.imp h r)
/-- the three names that the inner loop keeps -/
def Kept (la Dt fl : Addr) (m : Str → Option Value) : Prop := m (Str.ofString "script") = some (.ref la) ∧ m (Str.ofString "told") = some (.ref Dt) ∧ m (Str.ofString "fields") = some (.ref fl)
theorem Kept.map {la Dt fl : Addr} {m : Str → Option Value} (h : Kept la Dt fl m) : ∀ y, m y = if y = Str.ofString "fields" then some (.ref fl) else if y = Str.ofString "told" then some (.ref Dt) else if y = Str.ofString "script" then some (.ref la) else m y := by
  intro y
  obtain ⟨h1, h2, h3⟩ := h
  by_cases e1 : y = Str.ofString "fields"
  · subst e1; rw [if_pos rfl]; exact h3
  · rw [if_neg e1]
    by_cases e2 : y = Str.ofString "told"
    · subst e2; rw [if_pos rfl]; exact h2
    · rw [if_neg e2]
      by_cases e3 : y = Str.ofString "script"
      · subst e3; rw [if_pos rfl]; exact h1
      · rw [if_neg e3]
/-- between two texts -/
def InnS (w : World) (f : Fld) (la Dt fl T : Addr) (bs : List (Addr × Obj)) (n : Nat) (r : List Value) (m : Str → Option Value) (l : List (Addr × Obj)) : Prop :=
  ∃ (xs : List Value) (nn : Nat) (rest : List (Addr × Obj)) (us : List Way), l = (T, W.listOf xs.toArray nn) :: (rest ++ bs) ∧ (∀ v ∈ xs, ThingAt w rest f v) ∧ (∀ p ∈ rest ++ bs, @Ne Nat p.1 T) ∧ All2 (WayAt bs) r us ∧ (∀ u ∈ us, u ∈ ways f) ∧ xs.length + r.length = n ∧ Kept la Dt fl m ∧ (∀ z ∈ rest, ∀ y ∈ bs, @Ne Nat z.1 y.1)
section
variable {w : World} {A₀ A : Around} {base g₀ : Heap} {outer : List Env} {loose : List Str} {mean : ExcName → Option Value} {mg mb : Str → Option Value} {s : Shared} {env : Env} {elts : List Expr} {xc : Nat} {tp : Pos} {body : List Stmt} {Q : Flow → Shared → Prop}
  {m₀ : Str → Option Value} {ax la Dt fl T : Addr} {rs : List Value} {nr : Nat} {bs : List (Addr × Obj)} {f : Fld}
theorem inLoop (hh : A.handled = none) (G : Ground3 w A₀ base outer loose mean mg mb g₀) (F : Fr g₀ env.locals s.heap m₀) {nn : Nat} (N : News g₀ env.locals s.heap ((T, W.listOf #[] nn) :: bs)) (hm : (ax, W.listOf rs.toArray nr) ∈ bs) (hT : ∀ p ∈ bs, @Ne Nat p.1 T)
    (hr : All2 (WayAt bs) rs (ways f)) (hdue : ∀ u ∈ ways f, DueOk f u.due) (hk : Kept la Dt fl m₀)
    (turn : ∀ I : Addr, (∀ p ∈ (T, W.listOf #[] nn) :: bs, p.1 < I) → @Ne Nat T I → ∀ g (p : Addr) (t : Tok) (q : Addr) (ts : Nat → Tok) (nq : Nat) (u : Way) (r : List Value) (m : Str → Option Value) it h tk (xs : List Value) (nn' : Nat) (rest : List (Addr × Obj)), KtsTurn (framesOf outer) g₀ g → Ground3 w A₀ base outer loose mean mg mb g → u ∈ ways f → (p, wayTup u.tx t q) ∈ bs → (q, listR u.due ts nq) ∈ bs → xs.length ≤ 4 → (∀ z ∈ rest ++ bs, @Ne Nat z.1 I) → (∀ z ∈ rest ++ bs, @Ne Nat z.1 T) →
      Fr g env.locals h (fun y => if y = Str.ofString "fields" then some (.ref fl) else if y = Str.ofString "told" then some (.ref Dt) else if y = Str.ofString "script" then some (.ref la) else m y) → News g env.locals h ((I, it) :: (T, W.listOf xs.toArray nn') :: (q, listR u.due ts nq) :: (p, wayTup u.tx t q) :: (rest ++ bs)) →
      (∀ g' h' tk' m' (x dx : Addr) (kk tt : Nat → Tok) (nn'' : Nat), KtsTurn (framesOf outer) g g' → Ground3 w A₀ base outer loose mean mg mb g' → Fr g' env.locals h' m' → News g' env.locals h' ((I, it) :: (T, W.listOf (xs ++ [Value.ref x]).toArray nn'') :: (x, instObj 108 dx) :: (dx, ivDict w.params kk tt u.due) :: (rest ++ bs)) → @Ne Nat x I → @Ne Nat dx I → @Ne Nat x T → @Ne Nat dx T → (∀ y ∈ bs, @Ne Nat x y.1) → (∀ y ∈ bs, @Ne Nat dx y.1) → Kept la Dt fl m' → TurnEnd w A₀ base outer loose mean mg mb g env.locals { s with heap := h, toks := tk } I it (ax, W.listOf rs.toArray nr) (InnS w f la Dt fl T bs rs.length r) Q .next { s with heap := h', toks := tk' }) →
      wpAny (model pg w) A (assign (.Tuple elts xc tp) env (.ref p)) (fun _ s₂ => wpC (model pg w) A (execs body env) (TurnEnd w A₀ base outer loose mean mg mb g env.locals { s with heap := h, toks := tk } I it (ax, W.listOf rs.toArray nr) (InnS w f la Dt fl T bs rs.length r) Q) NoE s₂) NoE { s with heap := h, toks := tk })
    (done : ∀ g (m : Str → Option Value) h tk (xs : List Value) (nn' : Nat) (rest : List (Addr × Obj)), KtsTurn (framesOf outer) g₀ g → Ground3 w A₀ base outer loose mean mg mb g → xs.length = rs.length → (∀ v ∈ xs, ThingAt w rest f v) → (∀ z ∈ rest ++ bs, @Ne Nat z.1 T) → (∀ z ∈ rest, ∀ y ∈ bs, @Ne Nat z.1 y.1) → Fr g env.locals h (fun y => if y = Str.ofString "fields" then some (.ref fl) else if y = Str.ofString "told" then some (.ref Dt) else if y = Str.ofString "script" then some (.ref la) else m y) →
      News g env.locals h ((T, W.listOf xs.toArray nn') :: (rest ++ bs)) → Q .next { s with heap := h, toks := tk }) :
    wpAny (model pg w) A (pyIter (.ref ax)) (fun it s₂ => codeC (model pg w) A (.forLoop (.Tuple elts xc tp) it body [] env) (fun r s' => match r with | .ok f => Q f s' | .error e => cameBackBy (model pg w) A env NoE e s') s₂) NoE s := by
  have hl4 : rs.length ≤ 4 := by rw [hr.len]; exact (ways_len f).2
  refine iter_listC (InnS w f la Dt fl T bs rs.length) hh G F (news := (T, W.listOf #[] nn) :: bs) N (.tail _ hm) rfl rfl ?_ ?_ ?_ ?_
  · intro I s' i v Q' hi hv hQ
    have : ∃ p, v = .ref p := by
      clear hm turn done hl4
      revert hr
      generalize ways f = us
      intro hr
      induction hr with
      | nil => cases hv
      | cons h _ ih =>
        rcases List.mem_cons.mp hv with rfl | hv
        · obtain ⟨p, _, _, _, _, e, _⟩ := h; exact ⟨p, e⟩
        · exact ih hv
    obtain ⟨p, rfl⟩ := this
    exact wpAny_letOwnedTupleGo_listiter hi hQ
  · exact ⟨[], nn, [], ways f, rfl, fun _ h => (nomatch h), hT, hr, fun _ h => h, by simp, hk, fun _ h => (nomatch h)⟩
  · intro I hI g v r m news' it h tk hT' hG hS hic hoff hF hN
    obtain ⟨xs, nn', rest, us, rfl, hxs, hrT, hw, hus, hlen, hkm, hapart⟩ := hS
    cases hw with
    | cons hv hw' =>
      rename_i u us
      obtain ⟨p, t, q, ts, nq, rfl, h1, h2⟩ := hv
      rw [List.length_cons] at hlen
      refine turn I hI (hoff (T, _) (.head _)) g p t q ts nq u r m it h tk xs nn' rest hT' hG (hus u (.head _)) h1 h2 (by omega) (fun z hz => hoff z (.tail _ hz)) hrT (Fr.as hF hkm.map) (News.sub hN ?_) ?_
      · intro z hz
        simp only [List.mem_cons, List.mem_append] at hz ⊢
        rcases hz with rfl | rfl | rfl | rfl | hz
        · exact Or.inl rfl
        · exact Or.inr (Or.inl rfl)
        · exact Or.inr (Or.inr (Or.inr h2))
        · exact Or.inr (Or.inr (Or.inr h1))
        · exact Or.inr (Or.inr hz)
      · intro g' h' tk' m' x dx kk tt nn'' KT G' F' N' e1 e2 e3 e4 e5 e6 hk'
        refine TurnEnd.next (n' := (T, W.listOf (xs ++ [Value.ref x]).toArray nn'') :: (((x, instObj 108 dx) :: (dx, ivDict w.params kk tt u.due) :: rest) ++ bs)) KT G' F' N' (.tail _ (List.mem_append_right _ hm)) ?_ ?_
        · intro z hz
          rcases List.mem_cons.mp hz with rfl | hz
          · exact (hoff (T, W.listOf xs.toArray nn') (.head _) : @Ne Nat T I)
          · rcases List.mem_cons.mp hz with rfl | hz
            · exact e1
            · rcases List.mem_cons.mp hz with rfl | hz
              · exact e2
              · exact hoff z (.tail _ hz)
        · refine ⟨xs ++ [Value.ref x], nn'', (x, instObj 108 dx) :: (dx, ivDict w.params kk tt u.due) :: rest, us, rfl, ?_, ?_, hw', fun v hv => hus v (.tail _ hv), ?_, hk', ?_⟩
          · intro v hv
            rcases List.mem_append.mp hv with hv | hv
            · exact (hxs v hv).sub fun z hz => .tail _ (.tail _ hz)
            · rw [List.mem_singleton.mp hv]
              exact ⟨x, dx, kk, tt, u.due, rfl, .head _, .tail _ (.head _), hdue u (hus u (.head _))⟩
          · intro z hz
            rcases List.mem_cons.mp hz with rfl | hz
            · exact e3
            · rcases List.mem_cons.mp hz with rfl | hz
              · exact e4
              · exact hrT z hz
          · rw [List.length_append, List.length_singleton]; omega
          · intro z hz
            rcases List.mem_cons.mp hz with rfl | hz
            · exact e5
            · rcases List.mem_cons.mp hz with rfl | hz
              · exact e6
              · exact hapart z hz
  · intro g m news' h tk hT' hG hS hF hN
    obtain ⟨xs, nn', rest, us, rfl, hxs, hrT, hw, hus, hlen, hkm, hapart⟩ := hS
    exact done g m h tk xs nn' rest hT' hG (by simpa using hlen) hxs hrT hapart (Fr.as hF hkm.map) hN
end
/-- what stands for a cell of the script once it is done -/
abbrev toldTup (x q : Addr) : Obj := { cls := .type "tuple", data := .seq #[.ref x, .ref q] }
def ToldAt (w : World) (rest : List (Addr × Obj)) (r : Value) (f : Fld) : Prop := ∃ p x dx q, ∃ k t : Nat → Tok, ∃ a t0 t1 t2 n, r = .ref p ∧ (p, toldTup x q) ∈ rest ∧ (x, instObj 108 dx) ∈ rest ∧ (dx, ivDict w.params k t a) ∈ rest ∧ (q, listW (wholeOf f) t0 t1 t2 n) ∈ rest ∧ nrm a = wholeOf f ∧ a.us = none
theorem ToldAt.sub {w : World} {r r' : List (Addr × Obj)} {v : Value} {f : Fld} (h : ToldAt w r v f) (hs : ∀ p ∈ r, p ∈ r') : ToldAt w r' v f := by
  obtain ⟨p, x, dx, q, k, t, a, t0, t1, t2, n, e, h1, h2, h3, h4, h5, h6⟩ := h
  exact ⟨p, x, dx, q, k, t, a, t0, t1, t2, n, e, hs _ h1, hs _ h2, hs _ h3, hs _ h4, h5, h6⟩
/-- the two names that the outer loop keeps -/
def Kept2 (la Dt : Addr) (m : Str → Option Value) : Prop := m (Str.ofString "script") = some (.ref la) ∧ m (Str.ofString "told") = some (.ref Dt)
theorem Kept2.map {la Dt : Addr} {m : Str → Option Value} (h : Kept2 la Dt m) : ∀ y, m y = if y = Str.ofString "told" then some (.ref Dt) else if y = Str.ofString "script" then some (.ref la) else m y := by
  intro y
  obtain ⟨h1, h2⟩ := h
  by_cases e2 : y = Str.ofString "told"
  · subst e2; rw [if_pos rfl]; exact h2
  · rw [if_neg e2]
    by_cases e3 : y = Str.ofString "script"
    · subst e3; rw [if_pos rfl]; exact h1
    · rw [if_neg e3]
/-- between two cells of the script -/
def OutS (w : World) (la Dt C : Addr) (lp : Addr × Obj) (n : Nat) (r : List Value) (m : Str → Option Value) (l : List (Addr × Obj)) : Prop :=
  ∃ (rs : List Value) (fs : List Fld) (nn : Nat) (o : Obj) (ov : Option Value) (ps : Array Value) (rest : List (Addr × Obj)) (cs : List Int), l = (Dt, W.listOf rs.toArray nn) :: (C, o) :: (86, tabO ps) :: lp :: rest ∧ o.data = .cell ov ∧ TriplesOk ps.toList ∧ All2 (ToldAt w rest) rs fs ∧
    (∀ p ∈ rest, @Ne Nat p.1 Dt) ∧ (∀ p ∈ rest, @Ne Nat p.1 C) ∧ (∀ p ∈ rest, @Ne Nat p.1 86) ∧ IntsAre r cs ∧ rs.length + r.length = n ∧ Kept2 la Dt m
section
variable {w : World} {A₀ A : Around} {base g₀ : Heap} {outer : List Env} {loose : List Str} {mean : ExcName → Option Value} {mg mb : Str → Option Value} {s : Shared} {env : Env} {px : Pos} {body : List Stmt} {Q : Flow → Shared → Prop}
  {m₀ : Str → Option Value} {ax la Dt C : Addr} {vs : List Value} {cs : List Int} {nr nn : Nat} {o₀ : Obj} {ov₀ : Option Value} {ps₀ : Array Value}
theorem outLoop (hh : A.handled = none) (G : Ground3 w A₀ base outer loose mean mg mb g₀) (F : Fr g₀ env.locals s.heap m₀) (N : News g₀ env.locals s.heap [(Dt, W.listOf #[] nn), (C, o₀), (86, tabO ps₀), (ax, W.listOf vs.toArray nr)]) (ho : o₀.data = .cell ov₀) (hps : TriplesOk ps₀.toList) (hI : IntsAre vs cs) (hk : Kept2 la Dt m₀) (hv6 : vs.length ≤ 6)
    (hx : env.kindOf (Str.ofString "cell") = some .local) (hp : (env.scope.kind == .class || (env.scope.kind == .module && env.locals != env.globals)) = false)
    (turn : ∀ I : Addr, @LT.lt Nat _ Dt I → @LT.lt Nat _ C I → @LT.lt Nat _ 86 I → @LT.lt Nat _ ax I → ∀ g (c : Int) (u : Tok) (r : List Value) (m : Str → Option Value) it h tk gs (rs : List Value) (fs : List Fld) (nn' : Nat) (o : Obj) (ov : Option Value) (ps : Array Value) (rest : List (Addr × Obj)), KtsTurn (framesOf outer) g₀ g → Ground3 w A₀ base outer loose mean mg mb g → o.data = .cell ov → TriplesOk ps.toList → All2 (ToldAt w rest) rs fs →
      (∀ p ∈ rest, @Ne Nat p.1 Dt) → (∀ p ∈ rest, @Ne Nat p.1 C) → (∀ p ∈ rest, @Ne Nat p.1 86) → (∀ p ∈ rest, @Ne Nat p.1 I) → rs.length ≤ 6 →
      Fr g env.locals h (fun y => if y = Str.ofString "cell" then some (.int c u) else if y = Str.ofString "told" then some (.ref Dt) else if y = Str.ofString "script" then some (.ref la) else m y) →
      News g env.locals h ((I, it) :: (Dt, W.listOf rs.toArray nn') :: (C, o) :: (86, tabO ps) :: (ax, W.listOf vs.toArray nr) :: rest) →
      (∀ g' h' tk' gs' m' (p x dx q : Addr) (kk tt : Nat → Tok) (a : Iv) (t0 t1 t2 : Tok) (n nn'' : Nat) (o' : Obj) (ov' : Option Value) (ps' : Array Value), (AllBare gs → AllBare gs') → KtsTurn (framesOf outer) g g' → Ground3 w A₀ base outer loose mean mg mb g' → Fr g' env.locals h' m' → o'.data = .cell ov' → TriplesOk ps'.toList → nrm a = wholeOf (fieldsOf c) → a.us = none →
        News g' env.locals h' ((I, it) :: (Dt, W.listOf (rs ++ [Value.ref p]).toArray nn'') :: (C, o') :: (86, tabO ps') :: (ax, W.listOf vs.toArray nr) :: (p, toldTup x q) :: (x, instObj 108 dx) :: (dx, ivDict w.params kk tt a) :: (q, listW (wholeOf (fieldsOf c)) t0 t1 t2 n) :: rest) →
        (∀ z ∈ [p, x, dx, q], @Ne Nat z I ∧ @Ne Nat z Dt ∧ @Ne Nat z C ∧ @Ne Nat z 86) → Kept2 la Dt m' → TurnEndP w A₀ base outer loose mean mg mb g env.locals { s with heap := h, toks := tk, gens := gs } I it (ax, W.listOf vs.toArray nr) (OutS w la Dt C (ax, W.listOf vs.toArray nr) vs.length r) Q .next { s with heap := h', toks := tk', gens := gs' }) →
      wpC (model pg w) A (execs body env) (TurnEndP w A₀ base outer loose mean mg mb g env.locals { s with heap := h, toks := tk, gens := gs } I it (ax, W.listOf vs.toArray nr) (OutS w la Dt C (ax, W.listOf vs.toArray nr) vs.length r) Q) NoE { s with heap := h, toks := tk, gens := gs })
    (done : ∀ g (m : Str → Option Value) h tk gs (rs : List Value) (fs : List Fld) (nn' : Nat) (o : Obj) (ov : Option Value) (ps : Array Value) (rest : List (Addr × Obj)), (AllBare s.gens → AllBare gs) → KtsTurn (framesOf outer) g₀ g → Ground3 w A₀ base outer loose mean mg mb g → o.data = .cell ov → TriplesOk ps.toList → All2 (ToldAt w rest) rs fs → rs.length = vs.length → (∀ p ∈ rest, @Ne Nat p.1 Dt) → (∀ p ∈ rest, @Ne Nat p.1 C) → (∀ p ∈ rest, @Ne Nat p.1 86) →
      Fr g env.locals h (fun y => if y = Str.ofString "told" then some (.ref Dt) else if y = Str.ofString "script" then some (.ref la) else m y) → News g env.locals h ((Dt, W.listOf rs.toArray nn') :: (C, o) :: (86, tabO ps) :: (ax, W.listOf vs.toArray nr) :: rest) → Q .next { s with heap := h, toks := tk, gens := gs }) :
    wpAny (model pg w) A (pyIter (.ref ax)) (fun it s₂ => codeC (model pg w) A (.forLoop (.Name (Str.ofString "cell") px) it body [] env) (fun r s' => match r with | .ok f => Q f s' | .error e => cameBackBy (model pg w) A env NoE e s') s₂) NoE s := by
  refine iter_listP (OutS w la Dt C (ax, W.listOf vs.toArray nr) vs.length) hh G F N (.tail _ (.tail _ (.tail _ (.head _)))) rfl rfl (by intros; exact wpAny_pure (by assumption)) ?_ ?_ ?_
  · exact ⟨[], [], nn, o₀, ov₀, ps₀, [], cs, rfl, ho, hps, .nil, (fun _ h => (nomatch h)), (fun _ h => (nomatch h)), (fun _ h => (nomatch h)), hI, by simp, hk⟩
  · intro I hI g v r m news' it h tk gs hgs hT' hG hS hic hoff hF hN
    obtain ⟨rs, fs, nn', o, ov, ps, rest, cs', rfl, hod, hps', hall, hr1, hr2, hr3, hcs, hlen, hkm⟩ := hS
    cases hcs with
    | cons c u hcs' =>
      rw [List.length_cons] at hlen
      refine wpAny_assign_Name (wpAny_storeName_local hx hF.ns (fun h₂ hn₂ hs₂ => ?_) hp)
      have hF₂ := hF.set hn₂ hs₂
      have hN₂ : News g env.locals h₂ ((I, it) :: (Dt, W.listOf rs.toArray nn') :: (C, o) :: (86, tabO ps) :: (ax, W.listOf vs.toArray nr) :: rest) := fun p hp => ⟨(hs₂.2 p.1 (hN p hp).2.1).trans (hN p hp).1, (hN p hp).2⟩
      refine wpC.mono (turn I (hI (Dt, _) (.head _)) (hI (C, _) (.tail _ (.head _))) (hI (86, _) (.tail _ (.tail _ (.head _)))) (hI (ax, _) (.tail _ (.tail _ (.tail _ (.head _))))) g c u r m it h₂ _ gs rs fs nn' o ov ps rest hT' hG hod hps' hall hr1 hr2 hr3 (fun z hz => hoff z (.tail _ (.tail _ (.tail _ (.tail _ hz))))) (by omega)
        (Fr.as hF₂ fun y => by
          by_cases e : y = Str.ofString "cell"
          · simp [e]
          · simp only [e, if_false]; exact hkm.map y) hN₂ ?_) (fun f s₃ h₃ => by cases f <;> exact h₃) fun _ _ x => x
      intro g' h' tk' gs' m' p x dx q kk tt a t0 t1 t2 n nn'' o' ov' ps' hgs' KT G' F' ho' hps'' ea eu N' hz hk'
      have z1 := hz p (.head _)
      have z2 := hz x (.tail _ (.head _))
      have z3 := hz dx (.tail _ (.tail _ (.head _)))
      have z4 := hz q (.tail _ (.tail _ (.tail _ (.head _))))
      refine ⟨g', h', tk', gs', m', (Dt, W.listOf (rs ++ [Value.ref p]).toArray nn'') :: (C, o') :: (86, tabO ps') :: (ax, W.listOf vs.toArray nr) :: (p, toldTup x q) :: (x, instObj 108 dx) :: (dx, ivDict w.params kk tt a) :: (q, listW (wholeOf (fieldsOf c)) t0 t1 t2 n) :: rest, rfl, hgs', KT, G', F', N', .tail _ (.tail _ (.tail _ (.head _))), ?_, ?_⟩
      · intro y hy
        simp only [List.mem_cons] at hy
        rcases hy with rfl | rfl | rfl | rfl | rfl | rfl | rfl | rfl | hy
        · exact (hoff (Dt, W.listOf rs.toArray nn') (.head _) : @Ne Nat Dt I)
        · exact (hoff (C, o) (.tail _ (.head _)) : @Ne Nat C I)
        · exact (hoff (86, tabO ps) (.tail _ (.tail _ (.head _))) : @Ne Nat 86 I)
        · exact hoff (ax, _) (.tail _ (.tail _ (.tail _ (.head _))))
        · exact z1.1
        · exact z2.1
        · exact z3.1
        · exact z4.1
        · exact hoff y (.tail _ (.tail _ (.tail _ (.tail _ hy))))
      · have off : ∀ b : Addr, (@Ne Nat p b) → (@Ne Nat x b) → (@Ne Nat dx b) → (@Ne Nat q b) → (∀ y ∈ rest, @Ne Nat y.1 b) → ∀ y ∈ (p, toldTup x q) :: (x, instObj 108 dx) :: (dx, ivDict w.params kk tt a) :: (q, listW (wholeOf (fieldsOf c)) t0 t1 t2 n) :: rest, @Ne Nat y.1 b := by
          intro b e1 e2 e3 e4 e5 y hy
          simp only [List.mem_cons] at hy
          rcases hy with rfl | rfl | rfl | rfl | hy
          · exact e1
          · exact e2
          · exact e3
          · exact e4
          · exact e5 y hy
        refine ⟨rs ++ [Value.ref p], fs ++ [fieldsOf c], nn'', o', ov', ps', _, _, rfl, ho', hps'', ?_, off Dt z1.2.1 z2.2.1 z3.2.1 z4.2.1 hr1, off C z1.2.2.1 z2.2.2.1 z3.2.2.1 z4.2.2.1 hr2, off 86 z1.2.2.2 z2.2.2.2 z3.2.2.2 z4.2.2.2 hr3, hcs', by rw [List.length_append, List.length_singleton]; omega, hk'⟩
        refine (All2.imp (fun v f h => h.sub fun y hy => .tail _ (.tail _ (.tail _ (.tail _ hy)))) hall).append ?_
        exact ⟨p, x, dx, q, kk, tt, a, t0, t1, t2, n, rfl, .head _, .tail _ (.head _), .tail _ (.tail _ (.head _)), .tail _ (.tail _ (.tail _ (.head _))), ea, eu⟩
  · intro g m news' h tk gs hgs hT' hG hS hF hN
    obtain ⟨rs, fs, nn', o, ov, ps, rest, cs', rfl, hod, hps', hall, hr1, hr2, hr3, hcs, hlen, hkm⟩ := hS
    exact done g m h tk gs rs fs nn' o ov ps rest hgs hT' hG hod hps' hall (by simpa using hlen) hr1 hr2 hr3 (Fr.as hF hkm.map) hN
end
end Mine
end
section
example : True := by (w_top off); trivial
open PySem PySem.W PyProof.Rows
set_option Elab.async false
namespace Mine
local macro_rules | `(tactic| walk_at "mine pad0") => `(tactic| skip)
local macro_rules | `(tactic| walk_at "mine pad1") => `(tactic| skip)
local macro_rules | `(tactic| walk_at "mine pad2") => `(tactic| skip)
local macro_rules | `(tactic| walk_at "mine pad3") => `(tactic| skip)
local macro_rules | `(tactic| walk_at "mine pad4") => `(tactic| skip)
local macro_rules | `(tactic| walk_at "mine pad5") => `(tactic| skip)
local macro_rules | `(tactic| walk_at "mine pad6") => `(tactic| skip)
local macro_rules | `(tactic| walk_at "mine pad7") => `(tactic| skip)
local macro_rules | `(tactic| walk_at "mine pad8") => `(tactic| skip)
local macro_rules | `(tactic| walk_at "mine pad9") => `(tactic| skip)
example (w : World) : (∀ h, (lawTop.heap_39 w.params).In h → PySem.Challenge.rw_ew0023_01 = PySem.Challenge.rw_ew0023_01) := by k_fill; intros; rfl
local macro_rules | `(tactic| k_room) => `(tactic| ktr_room)
local macro_rules | `(tactic| walk_at "mine enter") => `(tactic| (rename BindHint _ => bh; unfold Meets; intro loose mean mg mb dp un gd cn sn sg sc sm a ccd cl outer A₀ base h₀ L m s Q E news B F X N ha T hd hu ret; refine wpAny_call ?_; k_dflt (first
  | (refine' enterM (by assumption) B F X N ha T ?kA ?kF ?kK ?k6 ?k7 ?k8 ?k9 ?kB ret ?_ ?c2 ?c3 ?c4 ?c5; (case kA => exact rfl); (case kF => exact rfl); (case kK => exact rfl); (case k6 => k_is); (case k7 => k_is); (case k8 => k_room); (case k9 => first | exact BindsTo.of_eq rfl | exact binds_K (Frag.In.keeps X (Fr.keep F)) rfl (by k_is) rfl rfl rfl); (case c5 => decide); (case kB => exact locs rfl); (case c2 => exact rfl); (case c3 => exact rfl); (case c4 => exact rfl); k_whole; clear B F X N ha T ret bh; intro g' L' h' F' N' l1 B' X' T'; (try k_lt l1); (try dsimp only); (try k_fold))
  | (refine' enterC (by assumption) B F X N ha T ?kA ?kF ?kK ?k6 ?k7 ?k8 ?k9 ?kB ?kD ret ?_ ?c2 ?c3 ?c4; (case kA => exact rfl); (case kF => exact rfl); (case kK => exact rfl); (case k6 => k_is); (case k7 => k_is); (case k8 => k_room); (case k9 => first | exact BindsTo.of_eq rfl | exact binds_K (Frag.In.keeps X (Fr.keep F)) rfl (by k_is) rfl rfl rfl); (case kB => exact rfl); (case kD => decide +kernel); (case c2 => exact rfl); (case c3 => exact rfl); (case c4 => exact rfl); k_whole; clear B F X N ha T ret bh; intro g' L' h' tk' cells' F' N' Y' l1 B' X' T'; (try k_lt l1); k_cells Y'; (try simp only [List.cons_append, List.nil_append] at N'); (try dsimp only); (try k_fold)))))
local macro_rules | `(tactic| walk_at "exec Assign cons ListComp") => `(tactic| (k_here; (with_reducible show wpAny _ _ (exec (Stmt.Assign _ (Expr.ListComp _ [⟨_, Expr.Tuple _ _ _, _, _⟩] _ _) _) _) _ _ _); k_dflt (refine assign_compTup (F₀ := by k_asm) (by rfl) (by with_unfolding_all rfl) (by with_unfolding_all rfl) (by decide) (by rfl) (by decide) (by rfl) (by rfl) (by rfl) ?_)))
local macro_rules | `(tactic| walk_at "TupSrc") => `(tactic| (k_here; k_dflt (refine TupSrc.of (by rfl) (by k_asm) (by k_asm) (by k_mem) (by first | size_fits | exact Nat.le_of_ble_eq_true rfl) ?_); intro g'; lcg_lit))
local macro_rules | `(tactic| lcg_src) => `(tactic| exact ⟨_, by k_mem, rfl, _, rfl⟩)
local macro_rules | `(tactic| walk_at "CompEnd") => `(tactic| (k_here; k_dflt (refine compEnd_same (by assumption) (by assumption) (by (simp only [LCg.Off3, and_true]; assumption)) (by lcg_src) ?_)))
local macro_rules | `(tactic| k_handed) => `(tactic| exact handed_optV _ _)
local macro_rules | `(tactic| walk_at "mine sub") => `(tactic| first | exact List.forall_mem_nil _ | (refine List.forall_mem_cons.mpr ⟨by k_mem, ?_⟩; walk_at "mine sub"))
local macro_rules | `(tactic| walk_at "mine off1") => `(tactic| first | exact List.forall_mem_nil _ | (refine List.forall_mem_cons.mpr ⟨by k_ne, ?_⟩; walk_at "mine off1"))
local macro_rules | `(tactic| walk_at "mine off") => `(tactic| first | exact List.forall_mem_nil _ | (refine List.forall_mem_cons.mpr ⟨?a, ?b⟩; (case a => walk_at "mine off1"); (case b => walk_at "mine off")))

local macro_rules | `(tactic| walk_at "mine done") => `(tactic| first | exact Done.intro (by assumption) (by assumption) ⟨_, rfl, rfl⟩ (by walk_at "mine sub") (by walk_at "mine sub") (by walk_at "mine off") | exact Done.intro (by assumption) (by assumption) ⟨_, _, rfl, rfl⟩ (by walk_at "mine sub") (by walk_at "mine sub") (by walk_at "mine off") | exact Done.intro (by assumption) (by assumption) ⟨_, _, _, rfl, rfl⟩ (by walk_at "mine sub") (by walk_at "mine sub") (by walk_at "mine off") | exact Done.intro (by assumption) (by assumption) ⟨_, _, _, _, rfl, rfl⟩ (by walk_at "mine sub") (by walk_at "mine sub") (by walk_at "mine off") | exact Done.intro (by assumption) (by assumption) ⟨_, _, _, _, _, rfl, rfl⟩ (by walk_at "mine sub") (by walk_at "mine sub") (by walk_at "mine off") | exact Done.intro (by assumption) (by assumption) ⟨_, _, _, _, _, _, rfl, rfl⟩ (by walk_at "mine sub") (by walk_at "mine sub") (by walk_at "mine off") | exact Done.intro (by assumption) (by assumption) ⟨_, _, _, _, _, _, _, rfl, rfl⟩ (by walk_at "mine sub") (by walk_at "mine sub") (by walk_at "mine off") | exact Done.intro (by assumption) (by assumption) ⟨_, _, _, _, _, _, _, _, rfl, rfl⟩ (by walk_at "mine sub") (by walk_at "mine sub") (by walk_at "mine off") | exact Done.intro (by assumption) (by assumption) ⟨_, _, _, _, _, _, _, _, _, rfl, rfl⟩ (by walk_at "mine sub") (by walk_at "mine sub") (by walk_at "mine off") | exact Done.intro (by assumption) (by assumption) ⟨_, _, _, _, _, _, _, _, _, _, rfl, rfl⟩ (by walk_at "mine sub") (by walk_at "mine sub") (by walk_at "mine off") | exact Done.intro (by assumption) (by assumption) ⟨_, _, _, _, _, _, _, _, _, _, _, rfl, rfl⟩ (by walk_at "mine sub") (by walk_at "mine sub") (by walk_at "mine off") | exact Done.intro (by assumption) (by assumption) ⟨_, _, _, _, _, _, _, _, _, _, _, _, rfl, rfl⟩ (by walk_at "mine sub") (by walk_at "mine sub") (by walk_at "mine off") | exact Done.intro (by assumption) (by assumption) ⟨_, _, _, _, _, _, _, _, _, _, _, _, _, rfl, rfl⟩ (by walk_at "mine sub") (by walk_at "mine sub") (by walk_at "mine off"))
local macro_rules | `(tactic| walk_at "mine steps") => `(tactic| repeat' (first | (k_unfold; (try dsimp only)) | walk1 | (dsimp only; walk1) | fail "no step"))
local macro_rules | `(tactic| walk_at "subscriptTail Name Constant ref int") => `(tactic| (k_here; k_dflt (refine' item_led ?k0 ?km ?k2 ?k3 ?k4 ?_ ?k6; (case k0 => k_asm); (case km => k_mem); (case k2 => decide); (case k3 => decide); (case k4 => exact rfl); (case k6 => with_unfolding_all rfl); k_whole)))
local macro_rules | `(tactic| walk_at "subscriptTail Name Name ref int") => `(tactic| (k_here; k_dflt (refine' item_led ?k0 ?km ?k2 ?k3 ?k4 ?_ ?k6; (case k0 => k_asm); (case km => k_mem); (case k2 => decide); (case k3 => decide); (case k4 => exact rfl); (case k6 => with_unfolding_all rfl); k_whole)))
local macro_rules | `(tactic| walk_at "mine to if") => `(tactic| repeat ((fail_if_success (with_reducible show wpAny _ _ (exec (Stmt.If _ _ _ _) _) _ _ _)); (first | walk1 | (k_unfold; (try dsimp only)) | (dsimp only; walk1))))
local macro_rules | `(tactic| walk_at "mine to cmp") => `(tactic| repeat ((fail_if_success (with_reducible show wpAny _ _ (exec (Stmt.If (Expr.Compare _ _ _ _) _ _ _) _) _ _ _)); (first | walk1 | (k_unfold; (try dsimp only)) | (dsimp only; walk1))))
local macro_rules | `(tactic| walk_at "mine cutS end") => `(tactic| exact ⟨rfl, _, _, _, rfl, (by first | assumption | exact Fr.same (by assumption) (by rfl)), (by first | assumption | exact News.sub (by assumption) (by walk_at "mine sub"))⟩)
local macro_rules | `(tactic| walk_at "mine len") => `(tactic| first | with_reducible assumption | (with_reducible refine' len_int ?a; (case a => omega)) | (with_reducible refine' len_add ?a ?b; (case a => walk_at "mine len"); (case b => walk_at "mine len")) | with_reducible exact Nat.le_refl _)
local macro_rules | `(tactic| walk_at "binaryOp Add str str") => `(tactic| (k_here; (with_reducible show wpAny _ _ (binaryOp Operator.Add (Value.str _ _) (Value.str _ _)) _ _ _); (refine' add_short ?a ?b ?c ?_; (case a => walk_at "mine len"); (case b => walk_at "mine len"); (case c => k_dflt exact rfl)); intro _ _))
local macro_rules | `(tactic| walk_at "eval Name") => `(tactic| ((with_reducible refine' ld ?F ?hv ?_ ?hk ?hl ?hd); (case F => first | with_reducible assumption | k_dflt assumption); (case hv => k_dflt exact rfl); (case hk => k_dflt exact rfl); (case hl => k_dflt exact rfl); (case hd => decide)))
local macro_rules | `(tactic| walk_at "mine to iter") => `(tactic| repeat ((fail_if_success (with_reducible show wpAny _ _ (pyIter _) _ _ _)); (first | walk1 | (k_unfold; (try dsimp only)) | (dsimp only; walk1))))
local macro_rules | `(tactic| size_fits) => `(tactic| exact strV_fits (by omega))
local macro_rules | `(tactic| walk_at "mine cutV end") => `(tactic| exact ⟨⟨_, rfl⟩, _, _, rfl, by assumption, by first | assumption | exact News.sub (by assumption) (by walk_at "mine sub")⟩)
local macro_rules | `(tactic| walk_at "mine to ifexp") => `(tactic| repeat ((fail_if_success (with_reducible show wpAny _ _ (eval (Expr.IfExp _ _ _ _) _) _ _ _)); (first | walk1 | (k_unfold; (try dsimp only)) | (dsimp only; walk1))))
local macro_rules | `(tactic| walk_at "mine tidy") => `(tactic| repeat (first | (with_reducible rename LCg.NsObj _ _ => q; clear q) | (with_reducible rename (_ ≠ _ ∧ _ ≠ _ ∧ _ ≠ _) => q; clear q) | (with_reducible rename ((_ ≠ _ ∧ _ ≠ _ ∧ _ ≠ _) ∧ _) => q; clear q) | (with_reducible rename (_[_]? = some _) => q; clear q) | (with_reducible rename (_ ≠ _ ∧ _) => q; clear q)))
local macro_rules | `(tactic| walk_at "mine lt") => `(tactic| first | exact List.forall_mem_nil _ | (refine List.forall_mem_cons.mpr ⟨by (show @LT.lt Nat _ _ _; omega), ?_⟩; walk_at "mine lt"))
local macro_rules | `(tactic| walk_at "mine cutB end") => `(tactic| refine ⟨?_, _, _, rfl, (by assumption), (by first | assumption | exact News.sub (by assumption) (by walk_at "mine sub"))⟩)
local macro_rules | `(tactic| walk_at "mine to make") => `(tactic| repeat ((fail_if_success (with_reducible show wpAny _ _ (callWith _ (Value.ref _) [] _ _) _ _ _)); (first | walk1 | (k_unfold; (try dsimp only)) | (dsimp only; walk1))))
local macro_rules | `(tactic| walk_at "mine KI") => `(tactic| first | assumption | exact All2.nil | exact KI.put All2.nil | exact KI.put (KI.put All2.nil) | exact KI.put (KI.put (KI.put All2.nil)) | exact KI.put (KI.put (KI.put (KI.put All2.nil))) | exact KI.put (KI.put (KI.put (KI.put (KI.put All2.nil)))) | exact KI.put (KI.put (KI.put (KI.put (KI.put (KI.put All2.nil))))) | exact KI.put (KI.put (KI.put (KI.put (KI.put (KI.put (KI.put All2.nil)))))) | exact KI.put (KI.put (KI.put (KI.put (KI.put (KI.put (KI.put (KI.put All2.nil))))))))
local macro_rules | `(tactic| walk_at "mine kw") => `(tactic| first | assumption | exact (List.forall_mem_nil _) | exact (putI_mem (List.forall_mem_nil _) (by decide)) | exact (putI_mem (putI_mem (List.forall_mem_nil _) (by decide)) (by decide)) | exact (putI_mem (putI_mem (putI_mem (List.forall_mem_nil _) (by decide)) (by decide)) (by decide)) | exact (putI_mem (putI_mem (putI_mem (putI_mem (List.forall_mem_nil _) (by decide)) (by decide)) (by decide)) (by decide)) | exact (putI_mem (putI_mem (putI_mem (putI_mem (putI_mem (List.forall_mem_nil _) (by decide)) (by decide)) (by decide)) (by decide)) (by decide)) | exact (putI_mem (putI_mem (putI_mem (putI_mem (putI_mem (putI_mem (List.forall_mem_nil _) (by decide)) (by decide)) (by decide)) (by decide)) (by decide)) (by decide)) | exact (putI_mem (putI_mem (putI_mem (putI_mem (putI_mem (putI_mem (putI_mem (List.forall_mem_nil _) (by decide)) (by decide)) (by decide)) (by decide)) (by decide)) (by decide)) (by decide)) | exact (putI_mem (putI_mem (putI_mem (putI_mem (putI_mem (putI_mem (putI_mem (putI_mem (List.forall_mem_nil _) (by decide)) (by decide)) (by decide)) (by decide)) (by decide)) (by decide)) (by decide)) (by decide)))
local macro_rules | `(tactic| walk_at "mine kz") => `(tactic| first | (refine Nat.le_trans (putI_len _ _ _) ?_; refine Nat.succ_le_succ ?_; walk_at "mine kz") | exact Nat.zero_le _ | (simp only [List.length_nil]; omega) | omega)
local macro_rules | `(tactic| walk_at "mine spread") => `(tactic| (k_here; k_dflt (refine' spread_iv ?zhL ?zhI ?zhk ?zhz ?zB ?zF ?zX ?zN ?zT ?zhd ?zhu ?zhkw ?zhm ?zhy ?zhky ?zhdb ?zhf ?zlo ?zD ?_; (case zhL => exact rfl); (case zF => k_asm); (case zhkw => exact rfl); (case zhy => exact rfl); (case zN => k_asm); (case zhm => k_mem); (case zD => assumption); (case zlo => assumption); (case zhI => walk_at "mine KI"); (case zhk => walk_at "mine kw"); (case zhz => walk_at "mine kz"); (case zB => k_asm); (case zX => k_asm); (case zT => k_asm); (case zhd => ktr_room); (case zhu => ktr_units); (case zhky => exact rfl); (case zhdb => decide); (case zhf => exact rfl)); intro x' dx' kk' tt' h' tk' F' N' hne'; (try simp only [List.cons_append, List.nil_append] at N'); replace hne' := offA_of hne'; simp only [OffA, OffL, and_true, true_and] at hne'; k_sweep))
local macro_rules | `(tactic| walk_at "mine enterK") => `(tactic| (rename BindHint _ => bh; refine MeetsT.of ?_; intro loose mean mg mb dp un gd cn sn sg sc sm a ccd cl outer A₀ base h₀ L m s Q E news B F X N ha T hd hu ret; k_dflt (first
  | (refine' enterM (by assumption) B F X N ha T ?kA ?kF ?kK ?k6 ?k7 ?k8 ?k9 ?kB ret ?_ ?c2 ?c3 ?c4 ?c5; (case kA => exact rfl); (case kF => exact rfl); (case kK => exact rfl); (case k6 => k_is); (case k7 => k_is); (case k8 => k_room); (case k9 => first | exact BindsTo.of_eq rfl | exact binds_K (Frag.In.keeps X (Fr.keep F)) rfl (by k_is) rfl rfl rfl); (case c5 => decide); (case kB => exact locs rfl); (case c2 => exact rfl); (case c3 => exact rfl); (case c4 => exact rfl); k_whole; clear B F X N ha T ret bh; intro g' L' h' F' N' l1 B' X' T'; (try k_lt l1); (try dsimp only); (try k_fold))
  | (refine' enterC (by assumption) B F X N ha T ?kA ?kF ?kK ?k6 ?k7 ?k8 ?k9 ?kB ?kD ret ?_ ?c2 ?c3 ?c4; (case kA => exact rfl); (case kF => exact rfl); (case kK => exact rfl); (case k6 => k_is); (case k7 => k_is); (case k8 => k_room); (case k9 => first | exact BindsTo.of_eq rfl | exact binds_K (Frag.In.keeps X (Fr.keep F)) rfl (by k_is) rfl rfl rfl); (case kB => exact rfl); (case kD => decide +kernel); (case c2 => exact rfl); (case c3 => exact rfl); (case c4 => exact rfl); k_whole; clear B F X N ha T ret bh; intro g' L' h' tk' cells' F' N' Y' l1 B' X' T'; (try k_lt l1); k_cells Y'; (try simp only [List.cons_append, List.nil_append] at N'); (try dsimp only); (try k_fold)))))
local macro_rules | `(tactic| walk_at "call ref") => `(tactic| (k_here; k_dflt (refine' Meets.use (fields_spec _ _ _) ?k1 ?k2 ?k3 ?k4 ?ka ?k5 ?kd ?ku ?_; (case k1 => k_asm); (case k2 => k_asm); (case k3 => k_asm); (case k4 => k_asm); (case ka => walk_at "mine sub"); (case k5 => k_asm); (case kd => ktr_room); (case ku => ktr_units)); intro v' new' h' tk' hP F' N' hne'; obtain ⟨l', u0', u1', u2', u3', u4', u5', n', e1', e2'⟩ := hP; subst e1' e2'; (try simp only [List.cons_append, List.nil_append] at N'); replace hne' := offA_of hne'; simp only [OffA, OffL, and_true, true_and] at hne'; skip; k_sweep))
local macro_rules | `(tactic| walk_at "call ref") => `(tactic| (k_here; k_dflt (refine' Meets.use (whole_spec _ _ _ _ _ _ _ _ _ _) ?k1 ?k2 ?k3 ?k4 ?ka ?k5 ?kd ?ku ?_; (case k1 => k_asm); (case k2 => k_asm); (case k3 => k_asm); (case k4 => k_asm); (case ka => walk_at "mine sub"); (case k5 => k_asm); (case kd => ktr_room); (case ku => ktr_units)); intro v' new' h' tk' hP F' N' hne'; obtain ⟨l', u0', u1', u2', n', e1', e2'⟩ := hP; subst e1' e2'; (try simp only [List.cons_append, List.nil_append] at N'); replace hne' := offA_of hne'; simp only [OffA, OffL, and_true, true_and] at hne'; skip; k_sweep))
local macro_rules | `(tactic| walk_at "call ref") => `(tactic| (k_here; k_dflt (refine' Meets.use (read_spec _ _ _ _ _ _) ?k1 ?k2 ?k3 ?k4 ?ka ?k5 ?kd ?ku ?_; (case k1 => k_asm); (case k2 => k_asm); (case k3 => k_asm); (case k4 => k_asm); (case ka => walk_at "mine sub"); (case k5 => k_asm); (case kd => ktr_room); (case ku => ktr_units)); intro v' new' h' tk' hP F' N' hne'; obtain ⟨l', n', e1', e2'⟩ := hP; subst e1' e2'; (try simp only [List.cons_append, List.nil_append] at N'); replace hne' := offA_of hne'; simp only [OffA, OffL, and_true, true_and] at hne'; skip; k_sweep))
local macro_rules | `(tactic| walk_at "call ref") => `(tactic| (k_here; k_dflt (refine' Meets.use (rest_spec _ _ _ _ _ _) ?k1 ?k2 ?k3 ?k4 ?ka ?k5 ?kd ?ku ?_; (case k1 => k_asm); (case k2 => k_asm); (case k3 => k_asm); (case k4 => k_asm); (case ka => walk_at "mine sub"); (case k5 => k_asm); (case kd => ktr_room); (case ku => ktr_units)); intro v' new' h' tk' hP F' N' hne'; obtain ⟨l', n', e1', e2'⟩ := hP; subst e1' e2'; (try simp only [List.cons_append, List.nil_append] at N'); replace hne' := offA_of hne'; simp only [OffA, OffL, and_true, true_and] at hne'; skip; k_sweep))
local macro_rules | `(tactic| walk_at "call ref") => `(tactic| (k_here; k_dflt (refine' Meets.use (norm_spec _ _ _ _ _ _ ?hs) ?k1 ?k2 ?k3 ?k4 ?ka ?k5 ?kd ?ku ?_; (case k1 => k_asm); (case k2 => k_asm); (case k3 => k_asm); (case k4 => k_asm); (case ka => walk_at "mine sub"); (case hs => first | exact rfl | assumption); (case k5 => k_asm); (case kd => ktr_room); (case ku => ktr_units)); intro v' new' h' tk' hP F' N' hne'; obtain ⟨x', dx', k', t', e1', e2'⟩ := hP; subst e1' e2'; (try simp only [List.cons_append, List.nil_append] at N'); replace hne' := offA_of hne'; simp only [OffA, OffL, and_true, true_and] at hne'; skip; k_sweep))
local macro_rules | `(tactic| walk_at "call ref") => `(tactic| (k_here; k_dflt (refine' Meets.use (eq_spec _ _ _ _ _ _ _ _ _ _ _ ?hs ?hs2) ?k1 ?k2 ?k3 ?k4 ?ka ?k5 ?kd ?ku ?_; (case k1 => k_asm); (case k2 => k_asm); (case k3 => k_asm); (case k4 => k_asm); (case ka => walk_at "mine sub"); (case hs => first | exact rfl | assumption); (case hs2 => first | exact rfl | assumption); (case k5 => k_asm); (case kd => ktr_room); (case ku => ktr_units)); intro v' new' h' tk' hP F' N' hne'; obtain ⟨e1', e2'⟩ := hP; subst e1' e2'; (try simp only [List.cons_append, List.nil_append] at N'); replace hne' := offA_of hne'; simp only [OffA, OffL, and_true, true_and] at hne'; skip; k_sweep))
local macro_rules | `(tactic| walk_at "mine to ite") => `(tactic| repeat ((fail_if_success (with_reducible show ite _ _ _)); (first | walk1 | (k_unfold; (try dsimp only)) | (dsimp only; walk1))))
local macro_rules | `(tactic| k_all) => `(tactic| assumption)
theorem optX0 {a : Iv} {t : Nat → Tok} (h : a.ml = none ∧ a.ce = none ∧ a.de = none ∧ a.wk = none ∧ a.us = none) : OptAre [optV a.ml (t 0), optV a.ce (t 1), optV a.de (t 2), optV a.wk (t 5), optV a.us (t 10)] [none, none, none, none, none] := by
  obtain ⟨h1, h2, h3, h4, h5⟩ := h
  rw [h1, h2, h3, h4, h5]
  exact .cons (o := none) (t := 0) (.cons (o := none) (t := 0) (.cons (o := none) (t := 0) (.cons (o := none) (t := 0) (.cons (o := none) (t := 0) .nil))))
theorem optW {z z' : Int × Int × Int} {t u v : Tok} (h : z = z') : OptAre [optV (some z.1) t, optV (some z.2.1) u, optV (some z.2.2) v] [some z'.1, some z'.2.1, some z'.2.2] := h ▸ .cons (.cons (.cons .nil))
theorem optW3 {z' : Int × Int × Int} {t u v : Tok} : OptAre [.int z'.1 t, .int z'.2.1 u, .int z'.2.2 v] [some z'.1, some z'.2.1, some z'.2.2] := .cons (o := some z'.1) (.cons (o := some z'.2.1) (.cons (o := some z'.2.2) .nil))
theorem optN5 : OptAre [.none, .none, .none, .none, .none] [none, none, none, none, none] := .cons (o := none) (t := 0) (.cons (o := none) (t := 0) (.cons (o := none) (t := 0) (.cons (o := none) (t := 0) (.cons (o := none) (t := 0) .nil))))
local macro_rules | `(tactic| walk_at "compareOp NotEq ref ref") => `(tactic| (k_here; (with_reducible show wpAny _ _ (compareOp CmpOp.NotEq (Value.ref _) (Value.ref _)) _ _ _); k_dflt (first
  | (refine' ne_same ?k1 ?k2 ?k3 ?k4 ?k5 ?k6 ?_; (case k1 => k_asm); (case k2 => k_mem); (case k3 => k_mem); (case k4 => exact optR); (case k5 => exact optR); (case k6 => ktr_units))
  | (refine' ne_same ?k1 ?k2 ?k3 ?k4 ?k5 ?k6 ?_; (case k1 => k_asm); (case k2 => k_mem); (case k3 => k_mem); (case k4 => exact optX0 (by assumption)); (case k5 => exact optN5); (case k6 => ktr_units))
  | (refine' ne_same ?k1 ?k2 ?k3 ?k4 ?k5 ?k6 ?_; (case k1 => k_asm); (case k2 => k_mem); (case k3 => k_mem); (case k4 => exact optW (by assumption)); (case k5 => exact optW3); (case k6 => ktr_units)))))
local macro_rules | `(tactic| walk_at "compareOp Eq ref ref") => `(tactic| (k_here; (with_reducible show wpAny _ _ (compareOp CmpOp.Eq (Value.ref _) _) _ _ _); (refine cmp_ofEq ?_); k_dflt (refine' cmp_K ?k1 ?k2 ?k3 ?k4 ?k5 ?k6 ?k7 ?k8 ?_; (case k1 => ktr_units); (case k2 => k_asm); (case k3 => k_asm); (case k4 => k_inst); (case k5 => k_typeOf); (case k6 => k_is); (case k7 => k_is); (case k8 => k_is); k_whole)))
theorem Meets.imp {w : World} {d : Nat} {f : Value} {vals : List Value} {kw : List (Str × Value)} {args : List (Addr × Obj)} {P P' : Value → List (Addr × Obj) → Prop} (h : Meets w d f vals kw args P) (hP : ∀ v new, P v new → P' v new) : Meets w d f vals kw args P' := Meets.mono h hP
theorem eqZ_spec (w : World) (x dx x2 dx2 : Addr) (k t k2 t2 : Nat → Tok) (a b : Iv) (ha : a.us = none) (hb : b.us = none) {z z' : Int × Int × Int} (h1 : nrm a = z) (h2 : nrm b = z') : Meets w 9 (.ref 105) [.ref x, .ref x2] [] (ivAt2 w x dx k t a x2 dx2 k2 t2 b) fun v new => v = .bool (decide (z = z')) ∧ new = [] :=
  Meets.mono (eq_spec w x dx x2 dx2 k t k2 t2 a b ha hb) fun v new ⟨e1, e2⟩ => ⟨by rw [e1, h1, h2], e2⟩
local macro_rules | `(tactic| walk_at "call ref") => `(tactic| (k_here; (with_reducible show wpAny _ _ (call (Value.ref 105) _ _) _ _ _); k_dflt (refine' Meets.use (eqZ_spec _ _ _ _ _ _ _ _ _ _ _ ?hs ?hs2 ?hs3 ?hs4) ?k1 ?k2 ?k3 ?k4 ?ka ?k5 ?kd ?ku ?_; (case k1 => k_asm); (case k2 => k_asm); (case k3 => k_asm); (case k4 => k_asm); (case ka => walk_at "mine sub"); (case hs => assumption); (case hs2 => assumption); (case hs3 => with_reducible assumption); (case hs4 => with_reducible assumption); (case k5 => k_asm); (case kd => ktr_room); (case ku => ktr_units)); intro v' new' h' tk' hP F' N' hne'; obtain ⟨e1', e2'⟩ := hP; subst e1' e2'; clear hne'; dsimp only [W.CmpBack]; (try simp only [List.nil_append] at N'); k_sweep))
theorem eqT_spec (w : World) (x dx x2 dx2 : Addr) (k t k2 t2 : Nat → Tok) (a b : Iv) (ha : a.us = none) (hb : b.us = none) {z : Int × Int × Int} (h1 : nrm a = z) (h2 : nrm b = z) : Meets w 9 (.ref 105) [.ref x, .ref x2] [] (ivAt2 w x dx k t a x2 dx2 k2 t2 b) fun v new => v = .bool true ∧ new = [] :=
  Meets.mono (eq_spec w x dx x2 dx2 k t k2 t2 a b ha hb) fun v new ⟨e1, e2⟩ => ⟨by rw [e1, h1, h2, decide_eq_true rfl], e2⟩
local macro_rules | `(tactic| walk_at "call ref") => `(tactic| (k_here; (with_reducible show wpAny _ _ (call (Value.ref 105) _ _) _ _ _); k_dflt (refine' Meets.use (eqT_spec _ _ _ _ _ _ _ _ _ _ _ ?hs ?hs2 ?hs3 ?hs4) ?k1 ?k2 ?k3 ?k4 ?ka ?k5 ?kd ?ku ?_; (case k1 => k_asm); (case k2 => k_asm); (case k3 => k_asm); (case k4 => k_asm); (case ka => walk_at "mine sub"); (case hs => assumption); (case hs2 => assumption); (case hs3 => assumption); (case hs4 => assumption); (case k5 => k_asm); (case kd => ktr_room); (case ku => ktr_units)); intro v' new' h' tk' hP F' N' hne'; obtain ⟨e1', e2'⟩ := hP; subst e1' e2'; clear hne'; dsimp only [W.CmpBack]; (try simp only [List.nil_append] at N'); k_sweep))
local macro_rules | `(tactic| walk_at "binaryOp Mult ref int") => `(tactic| (k_here; (with_reducible show wpAny _ _ (binaryOp Operator.Mult (Value.ref _) (Value.int _ _)) _ _ _); k_dflt (refine' KMa.mul (vs := [.none]) (ws := [.none, .none, .none, .none, .none]) ?yF ?yN ?yl ?ylo ?yhi ?yz ?ye ?_; (case yF => k_asm); (case yN => k_asm); (case yl => exact PySem.IsL.isList (n := 0) (News.get (by assumption) (by k_mem))); (case ylo => decide); (case yhi => decide); (case yz => decide); (case ye => rfl)); intro D' h' F' N' l1; (try k_lt l1); (try k_sweep)))
local macro_rules | `(tactic| walk_at "call builtin:list.append") => `(tactic| (k_here; (with_reducible show wpAny _ _ (call (Value.builtin "list.append") [Value.ref _, Value.ref _]) _ _ _); k_dflt (refine' append_K ?yF ?yN ?yU ?_ ?yz; (case yF => k_asm); (case yN => k_asm); (case yU => k_upd); (case yz => first | assumption | size_fits)); intro h' F' N'; (try k_sweep)))
local macro_rules | `(tactic| k_ne) => `(tactic| (refine neN ?_; (try dsimp only); first | with_reducible assumption | (with_reducible refine Ne.symm ?_; with_reducible assumption)))
theorem OffL.all {x : Addr} : ∀ {l : List (Addr × Obj)}, OffL x l → ∀ p ∈ l, @Ne Nat p.1 x
  | [], _, _, h => nomatch h
  | _ :: _, h, p, hp => by
    rcases List.mem_cons.mp hp with rfl | hp
    · exact h.1
    · exact OffL.all h.2 p hp
theorem len3 {α : Type} : ∀ {l : List α}, l.length = 3 → ∃ a b c, l = [a, b, c]
  | [a, b, c], _ => ⟨a, b, c, rfl⟩
theorem len4 {α : Type} : ∀ {l : List α}, l.length = 4 → ∃ a b c d, l = [a, b, c, d]
  | [a, b, c, d], _ => ⟨a, b, c, d, rfl⟩
theorem len_any {prog : Program} {w : World} {A : Around} {E : Value → Shared → Prop} {s : Shared} {h₀ : Heap} {L D : Addr} {news : List (Addr × Obj)} {l : List Value} {n : Nat} {Q : Value → Shared → Prop} (N : News h₀ L s.heap news) (hm : (D, W.listOf l.toArray n) ∈ news) (hl : l.length ≤ 10000)
    (h : Q (.int (l.length : Nat) (s.toks + 1)) { s with toks := s.toks + 1 + 1 }) : wpAny (model prog w) A (call (.builtin "len") [.ref D]) Q E s := by
  have e : l.toArray.size = l.length := List.size_toArray
  refine PySem.Calls.call_len_list (PySem.IsL.isList (n := n) (N _ hm).1) (by rw [e]; omega) ?_
  rw [e]; exact h
local macro_rules | `(tactic| walk_at "call builtin:len") => `(tactic| (k_here; (with_reducible show wpAny _ _ (call (Value.builtin "len") [Value.ref _]) _ _ _); k_dflt (refine' len_any ?yN ?ym ?yf ?_; (case yN => k_asm); (case ym => k_mem); (case yf => assumption))))
theorem range_small : ∀ n, n ≤ 6 → 1 ≤ n → Builtin.Range.small 1 ((n : Nat) : Int) 1 = true ∧ Builtin.Range.rangeSize 1 ((n : Nat) : Int) 1 = ((n - 1 : Nat) : Int)
  | 0, _, h => absurd h (by decide)
  | 1, _, _ => by decide
  | 2, _, _ => by decide
  | 3, _, _ => by decide
  | 4, _, _ => by decide
  | 5, _, _ => by decide
  | 6, _, _ => by decide
  | n + 7, h, _ => absurd h (by omega)
theorem All2.get {α β : Type} {R : α → β → Prop} : ∀ {l : List α} {r : List β}, All2 R l r → ∀ i, i < l.length → ∃ a b, l[i]? = some a ∧ r[i]? = some b ∧ R a b
  | _, _, .nil, _, h => absurd h (by simp)
  | _, _, .cons h _, 0, _ => ⟨_, _, rfl, rfl, h⟩
  | _, _, .cons _ r, i + 1, hi => by
    obtain ⟨a, b, e1, e2, e3⟩ := All2.get r i (by simpa using hi)
    exact ⟨a, b, by simpa using e1, by simpa using e2, e3⟩
/-- between two steps of the last loop -/
def LastS (la Dt : Addr) (_ : Str → Option Value) (news₀ : List (Addr × Obj)) (_ : Nat) (m : Str → Option Value) (news : List (Addr × Obj)) : Prop := Kept2 la Dt m ∧ news = news₀
theorem eq_W {prog : Program} {w : World} {A : Around} {E : Value → Shared → Prop} {s : Shared} {h₀ : Heap} {L l l2 : Addr} {news : List (Addr × Obj)} {n n2 : Nat} {z z' : Int × Int × Int} {t0 t1 t2 v0 v1 v2 : Tok} {Q : Value → Shared → Prop} (N : News h₀ L s.heap news) (hm : (l, listW z t0 t1 t2 n) ∈ news) (hm2 : (l2, listW z' v0 v1 v2 n2) ∈ news) (hu : A.units + 64 < cLine) (h : Q (.bool (decide (z = z'))) s) :
    wpAny (model prog w) A (compareOp .Eq (.ref l) (.ref l2)) Q E s := by
  refine kqd_eq N hm rfl rfl optW3.dat (fun _ h => nomatch h) hm2 rfl rfl optW3.dat (fun _ h => nomatch h) (optD_ok _) (optD_ok _) hu ?_
  have hiff : (([some z.1, some z.2.1, some z.2.2] : List (Option Int)).map optD = ([some z'.1, some z'.2.1, some z'.2.2] : List (Option Int)).map optD) ↔ z = z' := by
    obtain ⟨a, b, c⟩ := z
    obtain ⟨a', b', c'⟩ := z'
    simp [optD]
  have key : ∀ inst : Decidable (([some z.1, some z.2.1, some z.2.2] : List (Option Int)).map optD = ([some z'.1, some z'.2.1, some z'.2.2] : List (Option Int)).map optD), @decide _ inst = decide (z = z') := fun inst => (@decide_eq_decide _ _ inst _).mpr hiff
  rw [key]; exact h
theorem ne_self {prog : Program} {w : World} {A : Around} {E : Value → Shared → Prop} {s : Shared} {b : Bool} {Q : Value → Shared → Prop} (h : Q (.bool false) s) : wpAny (model prog w) A (compareOp .NotEq (.bool b) (.bool b)) Q E s :=
  PyProof.Rows.ne_bool (by rw [bne_self_eq_false]; exact h)
local macro_rules | `(tactic| walk_at "compareOp NotEq bool bool") => `(tactic| (k_here; (with_reducible show wpAny _ _ (compareOp CmpOp.NotEq (Value.bool _) (Value.bool _)) _ _ _); with_reducible refine ne_self ?_))
local macro_rules | `(tactic| walk_at "compareOp Eq ref ref") => `(tactic| (k_here; (with_reducible show wpAny _ _ (compareOp CmpOp.Eq (Value.ref _) (Value.ref _)) _ _ _); k_dflt (refine' eq_W ?k1 ?k2 ?k3 ?k6 ?_; (case k1 => k_asm); (case k2 => k_mem); (case k3 => k_mem); (case k6 => ktr_units))))
local macro_rules | `(tactic| walk_at "mine at") => `(tactic| (k_here; (with_reducible show wpAny _ _ (subscriptTail _ _ (Value.ref _) (Value.int _ _)) _ _ _); k_dflt (refine' item_led ?k0 ?km ?k2 ?k3 ?k4 ?_ ?k6; (case k0 => k_asm); (case km => k_mem); (case k2 => first | with_reducible assumption | decide); (case k3 => first | with_reducible assumption | decide); (case k4 => with_reducible assumption); (case k6 => with_unfolding_all rfl); k_whole)))
local macro_rules | `(tactic| walk_at "subscriptTail Name Name ref int") => `(tactic| walk_at "mine at")
local macro_rules | `(tactic| walk_at "subscriptTail Name BinOp ref int") => `(tactic| walk_at "mine at")
local macro_rules | `(tactic| walk_at "subscriptTail Name Constant ref int") => `(tactic| walk_at "mine at")
theorem AllLt.ne {d : Addr} : ∀ {l : List (Addr × Obj)}, AllLt d l → ∀ p ∈ l, @Ne Nat p.1 d
  | [], _, _, h => nomatch h
  | _ :: _, h, p, hp => by
    rcases List.mem_cons.mp hp with rfl | hp
    · exact Nat.ne_of_lt h.1
    · exact AllLt.ne h.2 p hp
set_option maxRecDepth 100000 in
set_option maxHeartbeats 8000000 in
theorem law_holds : PySem.Challenge.rw_ew0023_01.Holds := by
  refine lawHead (by rfl) (by rfl) (by rfl) ?_
  intro w s₀ s₁ mg mb G Y fa o pm cd doc dV kV ho hd hcd hD hmg hg args vals as hpre hlay hrd hwl hlo
  have KX := kIn_of Y
  refine Ground.open G ?_
  intro T B D TE TW
  have hfa : fa = 191 := by
    obtain ⟨og, es, ep, h1, h2, _, h3⟩ := T.g
    have h4 : s₁.heap.get? 3 = _ := KX 3 _ rfl
    rw [show (3 : Addr) = mainGlobals from rfl, h1] at h4
    cases h4
    cases h2
    have := (h3 (Str.ofString "law")).trans hmg
    have e : (some (.ref 191) : Option Value) = some (.ref fa) := this
    cases e
    rfl
  subst hfa
  clear ho hd hcd hD hmg B D TE TW G Y
  wrow_args hpre hlay hrd hwl hlo
  rename IntsAre _ _ => hI
  rename Heap.IsList _ _ _ => hL
  rename (PyData.layable0 _ = true) => hlay
  rename (¬ _ < _) => hlen
  rename List Int => ns
  rename Addr => la
  rename List Value => vs
  obtain ⟨lo, hlo, hlc, nn, hld⟩ := hL
  refine wpC.mono (Q := fun v s' => v = .bool true ∧ OldK s₁.heap s'.heap ∧ s'.os = s₁.os ∧ (AllBare s₁.gens → AllBare s'.gens)) (E := NoE) ?_ ?_ (fun _ _ x => x.elim)
  · have hl6 : la ≠ 86 := fun e => by
      have h1 : s₁.heap.get? 86 = some (tabO #[]) := KX 86 _ rfl
      rw [e, h1] at hlo
      cases hlo
      cases hlc
    refine wpC.call (codeC.mono (R := fun r s' => match r with | .ok (.ret v) => v = .bool true ∧ OldK s₁.heap s'.heap ∧ s'.os = s₁.os ∧ (AllBare s₁.gens → AllBare s'.gens) | _ => False) ?main ?_)
    case main =>
      k_dflt (refine' enterTop (binds := [(Str.ofString "script", .ref la)]) (la := la) (lo := lo) T KX hlo ?k6 ?ko ?kc ?kb ?kk ?kd ?_ ?c1 ?c2 ?c3; (case k6 => exact hl6); (case ko => k_is); (case kc => k_is); (case kb => exact BindsTo.of_eq rfl); (case kk => exact rfl); (case kd => decide +kernel); (case c1 => exact rfl); (case c2 => exact rfl); (case c3 => exact rfl); k_whole; clear T KX; intro g' L' h' tk' cells' F' N' Y' l6 ll G' M4' hla'; k_cells Y'; (try simp only [List.cons_append, List.nil_append] at N'); (try dsimp only); (try k_fold))
      have B' := Ground3.B G'
      have X' := Ground3.X G'
      have T' := Ground3.T G'
      refine wpC.execs_cons (wpC.any ?_)
      walk_at "mine steps"
      dsimp only
      rename_i Dt hx0 lDt hx1 hx2 hx3
      refine wpC.execs_cons (wpC.For ?_)
      iterate 8 (first | walk1 | (k_unfold; (try dsimp only)) | (dsimp only; walk1))
      have hz : vs.toArray.size ≤ sizeLine := by
        have h1 := hI.length
        have h2 : ns.length ≤ 63 := by omega
        rw [PySem.sizeLine_eq, List.size_toArray]
        omega
      k_dflt (refine' kmk_slice_ints (vs := vs) (ns := ns) (ms := ns.take 4) ?yF ?yN ?yl ?yp ?yq ?yi ?ym rfl ?_ ?ys ?yt ?yz; (case yF => k_asm); (case yN => k_asm); (case yl => exact ⟨lo, Fr.keep (by assumption) _ _ hla', hlc, nn, hld⟩); (case yp => kmk_part); (case yq => kmk_part); (case yi => exact hI); (case ym => exact kmk_upto hI (by decide)); (case ys => with_unfolding_all rfl); (case yt => kmk_pure); (case yz => assumption))
      intro D' ws' h' F' N' l1 hI' hC' hL'
      k_lt l1
      k_sweep
      iterate 8 (first | walk1 | (k_unfold; (try dsimp only)) | (dsimp only; walk1))
      rename_i lit hy0 llit ax wsv hy1 Fw Nw hIw lax
      have hN := News.pick [3, 4, 5, 0] Nw
      clear Nw
      change News _ _ _ [_, _, _, _] at hN
      have hlenw : (ns.take 4 ++ [1814400121, 26290000]).length ≤ 6 := by rw [List.length_append, List.length_take]; simp; omega
      rw [← hIw.length] at hlenw
      refine outLoop (la := la) (by rfl) (by assumption) (by assumption) hN (by assumption) (by exact trivial) hIw ⟨by rfl, by rfl⟩ hlenw (by rfl) (by rfl) ?_ ?_
      · intro I lI1 lI2 lI3 lI4 g c u r m it h tk gs rs fs nn' o ov ps rest KT G₁ hod hps hall hr1 hr2 hr3 hr4 hr6 F₁ N₁ fin
        have B₁ := Ground3.B G₁
        have X₁ := Ground3.X G₁
        have T₁ := Ground3.T G₁
        clear hN
        clear hL' hIw hlenw hz
        refine wpC.execs_cons (wpC.any ?_)
        walk_at "mine steps"
        dsimp only
        have hFO := fields_ok c
        rename (_ ∧ _ ∧ _ ∧ _ ∧ _ ∧ _ ∧ AllLt _ _) => lT
        rename_i h₁ tk₁ fl u0 u1 u2 u3 u4 u5 nf hfl T hq1 Dtup hq2 lDtup hq3 hq4 hq5 oC F₃ N₃ dC
        have hrT := AllLt.ne lT.2.2.2.2.2.2
        refine wpC.execs_cons (wpC.For ?_)
        repeat ((fail_if_success (with_reducible show wpAny _ _ (call (Value.ref 151) _ _) _ _ _)); (first | walk1 | (k_unfold; (try dsimp only)) | (dsimp only; walk1)))
        k_dflt (refine' Meets.use (ways_spec _ _ _ hFO _ _ _ _ _ _ _) ?k1 ?k2 ?k3 ?k4 ?ka ?k5 ?kd ?ku ?_; (case k1 => k_asm); (case k2 => k_asm); (case k3 => k_asm); (case k4 => k_asm); (case ka => walk_at "mine sub"); (case k5 => k_asm); (case kd => ktr_room); (case ku => ktr_units))
        intro v₂ new₂ h₂ tk₂ hP₂ F₂ N₂ hne₂
        obtain ⟨al, nal, rs₂, e₂, hal, hw₂⟩ := hP₂
        subst e₂
        walk_at "mine to iter"
        obtain ⟨bs, hbs⟩ : ∃ bs : List (Addr × Obj), bs = (L' + 1, oC) :: (I, it) :: (Dt, W.listOf rs.toArray nn') :: (86, tabO ps) :: (ax, W.listOf wsv.toArray 0) :: (fl, fobj (fieldsOf c) u0 u1 u2 u3 u4 u5 nf) :: (new₂ ++ rest) := ⟨_, rfl⟩
        have N₄ : News g L' h₂ ((T, W.listOf #[] 0) :: bs) := by
          rw [hbs]
          refine News.sub N₂ fun z hz => ?_
          simp only [List.mem_cons, List.mem_append] at hz ⊢
          rcases hz with hz | hz | hz | hz | hz | hz | hz | hz | hz <;> simp only [hz, true_or, or_true]
        have hbn : ∀ z ∈ new₂ ++ rest, z ∈ bs := fun z hz => by rw [hbs]; exact .tail _ (.tail _ (.tail _ (.tail _ (.tail _ (.tail _ hz)))))
        have hbC : (L' + 1, oC) ∈ bs := by rw [hbs]; exact .head _
        have hTn : ∀ z ∈ new₂, @Ne Nat z.1 T := fun z hz e => hne₂ z hz (T, _) (.tail _ (.head _)) e.symm
        have hbT : ∀ z ∈ bs, @Ne Nat z.1 T := by
          rw [hbs]
          refine List.forall_mem_cons.mpr ⟨?_, List.forall_mem_cons.mpr ⟨?_, List.forall_mem_cons.mpr ⟨?_, List.forall_mem_cons.mpr ⟨?_, List.forall_mem_cons.mpr ⟨?_, List.forall_mem_cons.mpr ⟨?_, ?_⟩⟩⟩⟩⟩⟩
          rotate_right
          · intro z hz
            rcases List.mem_append.mp hz with hz | hz
            · exact hTn z hz
            · exact hrT z hz
          all_goals (show @Ne Nat _ _; dsimp only; omega)
        refine inLoop (f := fieldsOf c) (la := la) (fl := fl) (Dt := Dt) (by rfl) G₁ F₂ N₄ (hbn _ (List.mem_append_left _ hal)) hbT (All2.imp (fun _ _ x => x.sub fun z hz => hbn z (List.mem_append_left _ hz)) hw₂) (fun u hu => (ways_facts hFO u hu).1) ⟨by rfl, by rfl, by rfl⟩ ?_ ?_
        · intro J hJ hTJ g₂ p t q ts nq u₂ r₂ m₂ it₂ h₃ tk₃ xs nx rest₂ KT₂ G₂ hu hp hq hx4 hJr hTr F₅ N₅ fin₂
          have B₂ := Ground3.B G₂
          have X₂ := Ground3.X G₂
          have T₂ := Ground3.T G₂
          have N₆ : News g₂ L' h₃ ((J, it₂) :: (T, W.listOf xs.toArray nx) :: (L' + 1, oC) :: (q, listR u₂.due ts nq) :: (p, { cls := .type "tuple", data := .seq #[.str u₂.tx t, .ref q] }) :: (rest₂ ++ bs)) := by
            refine News.sub N₅ fun z hz => ?_
            simp only [List.mem_cons, List.mem_append] at hz ⊢
            rcases hz with hz | hz | hz | hz | hz | hz
            · exact Or.inl hz
            · exact Or.inr (Or.inl hz)
            · rw [hz]; exact Or.inr (Or.inr (Or.inr (Or.inr (Or.inr hbC))))
            · exact Or.inr (Or.inr (Or.inl hz))
            · exact Or.inr (Or.inr (Or.inr (Or.inl hz)))
            · exact Or.inr (Or.inr (Or.inr (Or.inr hz)))
          have hqT : @Ne Nat q T := hTr _ (List.mem_append_right _ hq)
          have hpT : @Ne Nat p T := hTr _ (List.mem_append_right _ hp)
          have hqJ : @Ne Nat q J := hJr _ (List.mem_append_right _ hq)
          have hpJ : @Ne Nat p J := hJr _ (List.mem_append_right _ hp)
          clear N₅ N₄ N₂ F₂ F₃ N₃
          have hre := (ways_facts hFO _ hu).1.rest
          walk_at "mine steps"
          try dsimp only
          refine wpC.execs_cons (wpC.Assign (wpC.methodCall ?_))
          walk_at "mine steps"
          k_dflt (refine' wpC.callWith_M ?k1 ?k2 ?k3 ?k4 ?_; (case k1 => k_asm); (case k2 => k_asm); (case k3 => k_mem); (case k4 => k_is))
          walk_at "mine steps"
          try dsimp only
          k_dflt (refine' MeetsT.callM ((ways_facts hFO _ hu).2 w _) ?k1 ?k2 ?k3 ?ka ?kq ?kd ?ku ?_; (case k1 => k_asm); (case k2 => k_asm); (case k3 => k_asm); (case ka => walk_at "mine sub"); (case kq => k_mem); (case kd => ktr_room); (case ku => ktr_units))
          intro v₄ new₄ h₄ tk₄ g₄ hT₄ hP₄ G₄ F₄ N₄ hne₄
          obtain ⟨x₄, dx₄, k₄, t₄, rfl, rfl⟩ := hP₄
          replace hne₄ := offA_of hne₄
          simp only [OffA, OffL, and_true, true_and] at hne₄
          simp only [List.cons_append, List.nil_append] at N₄
          have B₄ := Ground3.B G₄
          have X₄ := Ground3.X G₄
          have T₄ := Ground3.T G₄
          walk_at "mine steps"
          dsimp only
          refine wpC.execs_cons (wpC.any ?_)
          walk_at "mine steps"
          try dsimp only
          rename News _ _ _ _ => hN5
          have N₇ := News.sub (l := (J, it₂) :: (T, W.listOf xs.toArray nx) :: (x₄, instObj 108 dx₄) :: (dx₄, ivDict w.params k₄ t₄ u₂.due) :: (L' + 1, oC) :: (rest₂ ++ bs)) hN5 (fun z hz => by
            simp only [List.mem_cons, List.mem_append] at hz ⊢
            rcases hz with hz | hz | hz | hz | hz | hz | hz <;> simp only [hz, true_or, or_true])
          clear hN5
          refine wpC.execs_cons (wpC.any ?_)
          have hJT : @Ne Nat J T := Ne.symm hTJ
          have hCT : @Ne Nat (L' + 1) T := by have := lT.2.2.2.1; show @Ne Nat _ _; omega
          have hxT : @Ne Nat x₄ T := Ne.symm hne₄.1.2.2.1
          have hdT : @Ne Nat dx₄ T := Ne.symm hne₄.2.2.2.1
          have hxs : xs.toArray.size ≤ sizeLine := by rw [PySem.sizeLine_eq]; exact Nat.le_trans (Nat.le_trans (Nat.le_of_eq List.size_toArray) hx4) (by decide)
          walk_at "mine steps"
          refine wpC.execs_nil ?_
          dsimp only
          rename News _ _ _ _ => hN8
          rw [show xs.toArray.push (Value.ref x₄) = (xs ++ [Value.ref x₄]).toArray from by simp] at hN8
          refine fin₂ g₄ _ _ _ x₄ dx₄ k₄ t₄ (nx + 1) hT₄ G₄ (by assumption) (News.sub hN8 (fun z hz => ?_)) (Ne.symm hne₄.1.2.1) (Ne.symm hne₄.2.2.1) hxT hdT (fun y hy => Ne.symm (OffL.all hne₄.1.2.2.2.2.2.2 y (List.mem_append_right _ hy))) (fun y hy => Ne.symm (OffL.all hne₄.2.2.2.2.2.2.2 y (List.mem_append_right _ hy))) ⟨by rfl, by rfl, by rfl⟩
          simp only [List.mem_cons, List.mem_append] at hz ⊢
          rcases hz with hz | hz | hz | hz | hz | hz <;> simp only [hz, true_or, or_true]
        · intro g₃ m₃ h₃ tk₃ xs nx rest₃ KT₃ G₃ hxl hxs hTr hap F₅ N₅
          have B₃ := Ground3.B G₃
          have X₃ := Ground3.X G₃
          have T₃ := Ground3.T G₃
          have hl34 : xs.length = 3 ∨ xs.length = 4 := by
            have h1 := hw₂.len
            have h2 := ways_len (fieldsOf c)
            omega
          have hbI : (I, it) ∈ bs := by rw [hbs]; exact .tail _ (.head _)
          have hbD : (Dt, W.listOf rs.toArray nn') ∈ bs := by rw [hbs]; exact .tail _ (.tail _ (.head _))
          have hb86 : (86, tabO ps) ∈ bs := by rw [hbs]; exact .tail _ (.tail _ (.tail _ (.head _)))
          have hbax : (ax, W.listOf wsv.toArray 0) ∈ bs := by rw [hbs]; exact .tail _ (.tail _ (.tail _ (.tail _ (.head _))))
          have hbfl : (fl, fobj (fieldsOf c) u0 u1 u2 u3 u4 u5 nf) ∈ bs := by rw [hbs]; exact .tail _ (.tail _ (.tail _ (.tail _ (.tail _ (.head _)))))
          rcases hl34 with hl3 | hl3
          · obtain ⟨v0, v1, v2, rfl⟩ := len3 hl3
            obtain ⟨x0, dx0, k0, t0, a0, rfl, m00, m01, D0⟩ := hxs v0 (by simp)
            obtain ⟨x1, dx1, k1, t1, a1, rfl, m10, m11, D1⟩ := hxs v1 (by simp)
            obtain ⟨x2, dx2, k2, t2, a2, rfl, m20, m21, D2⟩ := hxs v2 (by simp)
            have N₆ := News.sub (l := (I, it) :: (T, W.listOf #[.ref x0, .ref x1, .ref x2] nx) :: (L' + 1, oC) :: (Dt, W.listOf rs.toArray nn') :: (86, tabO ps) :: (ax, W.listOf wsv.toArray 0) :: (fl, fobj (fieldsOf c) u0 u1 u2 u3 u4 u5 nf) :: (x0, instObj 108 dx0) :: (dx0, ivDict w.params k0 t0 a0) :: (x1, instObj 108 dx1) :: (dx1, ivDict w.params k1 t1 a1) :: (x2, instObj 108 dx2) :: (dx2, ivDict w.params k2 t2 a2) :: rest) N₅ (fun z hz => by
              simp only [List.mem_cons] at hz
              rcases hz with rfl | rfl | rfl | rfl | rfl | rfl | rfl | rfl | rfl | rfl | rfl | rfl | rfl | hz
              · exact .tail _ (List.mem_append_right _ hbI)
              · exact .head _
              · exact .tail _ (List.mem_append_right _ hbC)
              · exact .tail _ (List.mem_append_right _ hbD)
              · exact .tail _ (List.mem_append_right _ hb86)
              · exact .tail _ (List.mem_append_right _ hbax)
              · exact .tail _ (List.mem_append_right _ hbfl)
              · exact .tail _ (List.mem_append_left _ m00)
              · exact .tail _ (List.mem_append_left _ m01)
              · exact .tail _ (List.mem_append_left _ m10)
              · exact .tail _ (List.mem_append_left _ m11)
              · exact .tail _ (List.mem_append_left _ m20)
              · exact .tail _ (List.mem_append_left _ m21)
              · exact .tail _ (List.mem_append_right _ (hbn z (List.mem_append_right _ hz))))
            clear N₅ N₄ N₂ F₂ F₃ N₃
            dsimp only
            refine wpC.execs_cons (wpC.any ?_)
            have hu0 := D0.us
            have hu1 := D1.us
            have hu2 := D2.us
            have hn0 := D0.nrm
            have hn1 := D1.nrm
            have hn2 := D2.nrm
            walk_at "mine steps"
            dsimp only
            rename_i ql qu0 qu1 qu2 qn hql q1 q2 px pdx pk pt hpx pD q3 lpD q4 q5 q6 Fq Nq
            refine wpC.execs_cons (wpC.any ?_)
            repeat ((fail_if_success (with_reducible show wpAny _ _ (compareOp _ _ _) _ _ _)); (first | walk1 | (k_unfold; (try dsimp only)) | (dsimp only; walk1)))
            walk_at "mine steps"
            try dsimp only
            rename News _ _ _ _ => hN9
            have N₉ := News.sub (l := (86, tabO ps) :: (I, it) :: (T, W.listOf #[.ref x0, .ref x1, .ref x2] nx) :: (L' + 1, oC) :: (Dt, W.listOf rs.toArray nn') :: (ax, W.listOf wsv.toArray 0) :: (ql, listW (wholeOf (fieldsOf c)) qu0 qu1 qu2 qn) :: (x0, instObj 108 dx0) :: (dx0, ivDict w.params k0 t0 a0) :: (x2, instObj 108 dx2) :: (dx2, ivDict w.params k2 t2 a2) :: rest) hN9 (fun z hz => by
              simp only [List.mem_cons] at hz ⊢
              rcases hz with hz | hz | hz | hz | hz | hz | hz | hz | hz | hz | hz | hz <;> simp only [hz, true_or, or_true])
            clear hN9
            have M₃ : g₃.get? 4 = some modB := (KT.trans KT₃).other _ _ M4' (fun q => nomatch q)
            have hC86 : @Ne Nat (L' + 1) 86 := by have h1 : @LT.lt Nat _ 86 L' := l6; omega
            have hoff86 : ∀ p ∈ (I, it) :: (T, W.listOf #[.ref x0, .ref x1, .ref x2] nx) :: (L' + 1, oC) :: (Dt, W.listOf rs.toArray nn') :: (ax, W.listOf wsv.toArray 0) :: (ql, listW (wholeOf (fieldsOf c)) qu0 qu1 qu2 qn) :: (x0, instObj 108 dx0) :: (dx0, ivDict w.params k0 t0 a0) :: (x2, instObj 108 dx2) :: (dx2, ivDict w.params k2 t2 a2) :: rest, @Ne Nat p.1 86 := by
              refine List.forall_mem_cons.mpr ⟨Nat.ne_of_gt lI3, List.forall_mem_cons.mpr ⟨Nat.ne_of_gt lT.2.2.2.2.1, List.forall_mem_cons.mpr ⟨hC86, List.forall_mem_cons.mpr ⟨Nat.ne_of_gt lDt.2, List.forall_mem_cons.mpr ⟨Nat.ne_of_gt lax.2.2.2.2, List.forall_mem_cons.mpr ⟨Ne.symm hql.2.2.2.2.1, List.forall_mem_cons.mpr ⟨hap _ m00 _ hb86, List.forall_mem_cons.mpr ⟨hap _ m01 _ hb86, List.forall_mem_cons.mpr ⟨hap _ m20 _ hb86, List.forall_mem_cons.mpr ⟨hap _ m21 _ hb86, hr3⟩⟩⟩⟩⟩⟩⟩⟩⟩⟩
            refine wpC.execs_cons (wpC.If (wpC.isTrue_or (wpC.isTrue_not (wpC.isTrue_value (wpC.nameCall ?_)))))
            walk_at "mine steps"
            k_dflt (refine' wpC.callWith_K ?k1 ?k2 ?_; (case k1 => k_asm); (case k2 => k_is))
            walk_at "mine steps"
            refine MeetsP.call (isb_any w x0 dx0 k0 t0 a0 D0.small) G₃ M₃ (by assumption) N₉ hps hoff86 (by walk_at "mine sub") (by ktr_room) (by ktr_units) ?_
            intro v₅ h₅ tk₅ gs₅ ps₅ g₅ hT₅ hv₅ htr₅ hb₅ G₅ M₅ F₅ N₅
            subst hv₅
            clear N₉
            have B₅ := Ground3.B G₅
            have X₅ := Ground3.X G₅
            have T₅ := Ground3.T G₅
            walk_at "mine to ite"
            dsimp only
            refine ite_f rfl ?_
            refine wpC.isTrue_or (wpC.isTrue_not (wpC.isTrue_value (wpC.nameCall ?_)))
            walk_at "mine steps"
            k_dflt (refine' wpC.callWith_K ?k1 ?k2 ?_; (case k1 => k_asm); (case k2 => k_is))
            walk_at "mine steps"
            refine MeetsP.call (isb_any w x2 dx2 k2 t2 a2 D2.small) G₅ M₅ (by assumption) N₅ htr₅ hoff86 (by walk_at "mine sub") (by ktr_room) (by ktr_units) ?_
            intro v₆ h₆ tk₆ gs₆ ps₆ g₆ hT₆ hv₆ htr₆ hb₆ G₆ M₆ F₆ N₆
            subst hv₆
            clear N₅
            have B₆ := Ground3.B G₆
            have X₆ := Ground3.X G₆
            have T₆ := Ground3.T G₆
            walk_at "mine to ite"
            dsimp only
            refine ite_f rfl ?_
            refine wpC.isTrue_or_nil ?_
            refine ite_f rfl ?_
            refine wpC.execs_nil ?_
            dsimp only
            refine wpC.execs_cons (wpC.any ?_)
            have hrs : rs.toArray.size ≤ sizeLine := by rw [PySem.sizeLine_eq]; exact Nat.le_trans (Nat.le_trans (Nat.le_of_eq List.size_toArray) hr6) (by decide)
            repeat ((fail_if_success (with_reducible show wpAny _ _ (call (Value.builtin "list.append") _ _) _ _ _)); (first | walk1 | (k_unfold; (try dsimp only)) | (dsimp only; walk1)))
            rename_i P hP1 FP NP lP
            have N₇ := News.sub (l := (I, it) :: (Dt, W.listOf rs.toArray nn') :: (L' + 1, oC) :: (86, tabO ps₆) :: (ax, W.listOf wsv.toArray 0) :: (P, toldTup x0 ql) :: (x0, instObj 108 dx0) :: (dx0, ivDict w.params k0 t0 a0) :: (ql, listW (wholeOf (fieldsOf c)) qu0 qu1 qu2 qn) :: rest) NP (fun z hz => by
              simp only [List.mem_cons] at hz ⊢
              rcases hz with hz | hz | hz | hz | hz | hz | hz | hz | hz | hz <;> simp only [hz, true_or, or_true])
            clear NP N₆
            have eID : @Ne Nat I Dt := Nat.ne_of_gt lI1
            have eCD : @Ne Nat (L' + 1) Dt := Nat.ne_of_lt lDt.1
            have e86D : @Ne Nat 86 Dt := Nat.ne_of_lt lDt.2
            have eaD : @Ne Nat ax Dt := Nat.ne_of_gt lax.2.2.1
            have ePD : @Ne Nat P Dt := Nat.ne_of_gt lP.2.2.2.2.1
            have exD : @Ne Nat x0 Dt := hap _ m00 _ hbD
            have edD : @Ne Nat dx0 Dt := hap _ m01 _ hbD
            have eqD : @Ne Nat ql Dt := Ne.symm hql.2.2.2.1
            walk_at "call builtin:list.append"
            walk_at "mine steps"
            refine wpC.execs_nil ?_
            dsimp only
            rename News _ _ _ _ => hN8
            rw [show rs.toArray.push (Value.ref P) = (rs ++ [Value.ref P]).toArray from by simp] at hN8
            refine fin g₆ _ _ gs₆ _ P x0 dx0 ql k0 t0 a0 qu0 qu1 qu2 qn (nn' + 1) oC (some (.ref T)) ps₆ (fun h => hb₆ (hb₅ h)) (KT₃.trans (hT₅.trans hT₆)) G₆ (by assumption) dC htr₆ D0.nrm hu0 hN8 ?_ ⟨by rfl, by rfl⟩
            refine List.forall_mem_cons.mpr ⟨⟨Nat.ne_of_gt lP.2.1, ePD, Nat.ne_of_gt lP.2.2.2.1, Nat.ne_of_gt lP.1⟩, List.forall_mem_cons.mpr ⟨⟨hap _ m00 _ hbI, exD, hap _ m00 _ hbC, hap _ m00 _ hb86⟩, List.forall_mem_cons.mpr ⟨⟨hap _ m01 _ hbI, edD, hap _ m01 _ hbC, hap _ m01 _ hb86⟩, List.forall_mem_cons.mpr ⟨⟨Ne.symm hql.1, eqD, Ne.symm hql.2.2.1, Ne.symm hql.2.2.2.2.1⟩, List.forall_mem_nil _⟩⟩⟩⟩
          · obtain ⟨v0, v1, v2, v3, rfl⟩ := len4 hl3
            obtain ⟨x0, dx0, k0, t0, a0, rfl, m00, m01, D0⟩ := hxs v0 (by simp)
            obtain ⟨x1, dx1, k1, t1, a1, rfl, m10, m11, D1⟩ := hxs v1 (by simp)
            obtain ⟨x2, dx2, k2, t2, a2, rfl, m20, m21, D2⟩ := hxs v2 (by simp)
            obtain ⟨x3, dx3, k3, t3, a3, rfl, m30, m31, D3⟩ := hxs v3 (by simp)
            have N₆ := News.sub (l := (I, it) :: (T, W.listOf #[.ref x0, .ref x1, .ref x2, .ref x3] nx) :: (L' + 1, oC) :: (Dt, W.listOf rs.toArray nn') :: (86, tabO ps) :: (ax, W.listOf wsv.toArray 0) :: (fl, fobj (fieldsOf c) u0 u1 u2 u3 u4 u5 nf) :: (x0, instObj 108 dx0) :: (dx0, ivDict w.params k0 t0 a0) :: (x1, instObj 108 dx1) :: (dx1, ivDict w.params k1 t1 a1) :: (x2, instObj 108 dx2) :: (dx2, ivDict w.params k2 t2 a2) :: (x3, instObj 108 dx3) :: (dx3, ivDict w.params k3 t3 a3) :: rest) N₅ (fun z hz => by
              simp only [List.mem_cons] at hz
              rcases hz with rfl | rfl | rfl | rfl | rfl | rfl | rfl | rfl | rfl | rfl | rfl | rfl | rfl | rfl | rfl | hz
              · exact .tail _ (List.mem_append_right _ hbI)
              · exact .head _
              · exact .tail _ (List.mem_append_right _ hbC)
              · exact .tail _ (List.mem_append_right _ hbD)
              · exact .tail _ (List.mem_append_right _ hb86)
              · exact .tail _ (List.mem_append_right _ hbax)
              · exact .tail _ (List.mem_append_right _ hbfl)
              · exact .tail _ (List.mem_append_left _ m00)
              · exact .tail _ (List.mem_append_left _ m01)
              · exact .tail _ (List.mem_append_left _ m10)
              · exact .tail _ (List.mem_append_left _ m11)
              · exact .tail _ (List.mem_append_left _ m20)
              · exact .tail _ (List.mem_append_left _ m21)
              · exact .tail _ (List.mem_append_left _ m30)
              · exact .tail _ (List.mem_append_left _ m31)
              · exact .tail _ (List.mem_append_right _ (hbn z (List.mem_append_right _ hz))))
            clear N₅ N₄ N₂ F₂ F₃ N₃
            dsimp only
            refine wpC.execs_cons (wpC.any ?_)
            have hu0 := D0.us
            have hu1 := D1.us
            have hu2 := D2.us
            have hu3 := D3.us
            have hn0 := D0.nrm
            have hn1 := D1.nrm
            have hn2 := D2.nrm
            have hn3 := D3.nrm
            walk_at "mine steps"
            dsimp only
            rename_i ql qu0 qu1 qu2 qn hql q1 q2 px pdx pk pt hpx pD q3 lpD q4 q5 q6 Fq Nq
            refine wpC.execs_cons (wpC.any ?_)
            repeat ((fail_if_success (with_reducible show wpAny _ _ (compareOp _ _ _) _ _ _)); (first | walk1 | (k_unfold; (try dsimp only)) | (dsimp only; walk1)))
            walk_at "mine steps"
            try dsimp only
            rename News _ _ _ _ => hN9
            have N₉ := News.sub (l := (86, tabO ps) :: (I, it) :: (T, W.listOf #[.ref x0, .ref x1, .ref x2, .ref x3] nx) :: (L' + 1, oC) :: (Dt, W.listOf rs.toArray nn') :: (ax, W.listOf wsv.toArray 0) :: (ql, listW (wholeOf (fieldsOf c)) qu0 qu1 qu2 qn) :: (x0, instObj 108 dx0) :: (dx0, ivDict w.params k0 t0 a0) :: (x3, instObj 108 dx3) :: (dx3, ivDict w.params k3 t3 a3) :: rest) hN9 (fun z hz => by
              simp only [List.mem_cons] at hz ⊢
              rcases hz with hz | hz | hz | hz | hz | hz | hz | hz | hz | hz | hz | hz <;> simp only [hz, true_or, or_true])
            clear hN9
            have M₃ : g₃.get? 4 = some modB := (KT.trans KT₃).other _ _ M4' (fun q => nomatch q)
            have hC86 : @Ne Nat (L' + 1) 86 := by have h1 : @LT.lt Nat _ 86 L' := l6; omega
            have hoff86 : ∀ p ∈ (I, it) :: (T, W.listOf #[.ref x0, .ref x1, .ref x2, .ref x3] nx) :: (L' + 1, oC) :: (Dt, W.listOf rs.toArray nn') :: (ax, W.listOf wsv.toArray 0) :: (ql, listW (wholeOf (fieldsOf c)) qu0 qu1 qu2 qn) :: (x0, instObj 108 dx0) :: (dx0, ivDict w.params k0 t0 a0) :: (x3, instObj 108 dx3) :: (dx3, ivDict w.params k3 t3 a3) :: rest, @Ne Nat p.1 86 := by
              refine List.forall_mem_cons.mpr ⟨Nat.ne_of_gt lI3, List.forall_mem_cons.mpr ⟨Nat.ne_of_gt lT.2.2.2.2.1, List.forall_mem_cons.mpr ⟨hC86, List.forall_mem_cons.mpr ⟨Nat.ne_of_gt lDt.2, List.forall_mem_cons.mpr ⟨Nat.ne_of_gt lax.2.2.2.2, List.forall_mem_cons.mpr ⟨Ne.symm hql.2.2.2.2.1, List.forall_mem_cons.mpr ⟨hap _ m00 _ hb86, List.forall_mem_cons.mpr ⟨hap _ m01 _ hb86, List.forall_mem_cons.mpr ⟨hap _ m30 _ hb86, List.forall_mem_cons.mpr ⟨hap _ m31 _ hb86, hr3⟩⟩⟩⟩⟩⟩⟩⟩⟩⟩
            refine wpC.execs_cons (wpC.If (wpC.isTrue_or (wpC.isTrue_not (wpC.isTrue_value (wpC.nameCall ?_)))))
            walk_at "mine steps"
            k_dflt (refine' wpC.callWith_K ?k1 ?k2 ?_; (case k1 => k_asm); (case k2 => k_is))
            walk_at "mine steps"
            refine MeetsP.call (isb_any w x0 dx0 k0 t0 a0 D0.small) G₃ M₃ (by assumption) N₉ hps hoff86 (by walk_at "mine sub") (by ktr_room) (by ktr_units) ?_
            intro v₅ h₅ tk₅ gs₅ ps₅ g₅ hT₅ hv₅ htr₅ hb₅ G₅ M₅ F₅ N₅
            subst hv₅
            clear N₉
            have B₅ := Ground3.B G₅
            have X₅ := Ground3.X G₅
            have T₅ := Ground3.T G₅
            walk_at "mine to ite"
            dsimp only
            refine ite_f rfl ?_
            refine wpC.isTrue_or (wpC.isTrue_not (wpC.isTrue_value (wpC.nameCall ?_)))
            walk_at "mine steps"
            k_dflt (refine' wpC.callWith_K ?k1 ?k2 ?_; (case k1 => k_asm); (case k2 => k_is))
            walk_at "mine steps"
            refine MeetsP.call (isb_any w x3 dx3 k3 t3 a3 D3.small) G₅ M₅ (by assumption) N₅ htr₅ hoff86 (by walk_at "mine sub") (by ktr_room) (by ktr_units) ?_
            intro v₆ h₆ tk₆ gs₆ ps₆ g₆ hT₆ hv₆ htr₆ hb₆ G₆ M₆ F₆ N₆
            subst hv₆
            clear N₅
            have B₆ := Ground3.B G₆
            have X₆ := Ground3.X G₆
            have T₆ := Ground3.T G₆
            walk_at "mine to ite"
            dsimp only
            refine ite_f rfl ?_
            refine wpC.isTrue_or_nil ?_
            refine ite_f rfl ?_
            refine wpC.execs_nil ?_
            dsimp only
            refine wpC.execs_cons (wpC.any ?_)
            have hrs : rs.toArray.size ≤ sizeLine := by rw [PySem.sizeLine_eq]; exact Nat.le_trans (Nat.le_trans (Nat.le_of_eq List.size_toArray) hr6) (by decide)
            repeat ((fail_if_success (with_reducible show wpAny _ _ (call (Value.builtin "list.append") _ _) _ _ _)); (first | walk1 | (k_unfold; (try dsimp only)) | (dsimp only; walk1)))
            rename_i P hP1 FP NP lP
            have N₇ := News.sub (l := (I, it) :: (Dt, W.listOf rs.toArray nn') :: (L' + 1, oC) :: (86, tabO ps₆) :: (ax, W.listOf wsv.toArray 0) :: (P, toldTup x0 ql) :: (x0, instObj 108 dx0) :: (dx0, ivDict w.params k0 t0 a0) :: (ql, listW (wholeOf (fieldsOf c)) qu0 qu1 qu2 qn) :: rest) NP (fun z hz => by
              simp only [List.mem_cons] at hz ⊢
              rcases hz with hz | hz | hz | hz | hz | hz | hz | hz | hz | hz <;> simp only [hz, true_or, or_true])
            clear NP N₆
            have eID : @Ne Nat I Dt := Nat.ne_of_gt lI1
            have eCD : @Ne Nat (L' + 1) Dt := Nat.ne_of_lt lDt.1
            have e86D : @Ne Nat 86 Dt := Nat.ne_of_lt lDt.2
            have eaD : @Ne Nat ax Dt := Nat.ne_of_gt lax.2.2.1
            have ePD : @Ne Nat P Dt := Nat.ne_of_gt lP.2.2.2.2.1
            have exD : @Ne Nat x0 Dt := hap _ m00 _ hbD
            have edD : @Ne Nat dx0 Dt := hap _ m01 _ hbD
            have eqD : @Ne Nat ql Dt := Ne.symm hql.2.2.2.1
            walk_at "call builtin:list.append"
            walk_at "mine steps"
            refine wpC.execs_nil ?_
            dsimp only
            rename News _ _ _ _ => hN8
            rw [show rs.toArray.push (Value.ref P) = (rs ++ [Value.ref P]).toArray from by simp] at hN8
            refine fin g₆ _ _ gs₆ _ P x0 dx0 ql k0 t0 a0 qu0 qu1 qu2 qn (nn' + 1) oC (some (.ref T)) ps₆ (fun h => hb₆ (hb₅ h)) (KT₃.trans (hT₅.trans hT₆)) G₆ (by assumption) dC htr₆ D0.nrm hu0 hN8 ?_ ⟨by rfl, by rfl⟩
            refine List.forall_mem_cons.mpr ⟨⟨Nat.ne_of_gt lP.2.1, ePD, Nat.ne_of_gt lP.2.2.2.1, Nat.ne_of_gt lP.1⟩, List.forall_mem_cons.mpr ⟨⟨hap _ m00 _ hbI, exD, hap _ m00 _ hbC, hap _ m00 _ hb86⟩, List.forall_mem_cons.mpr ⟨⟨hap _ m01 _ hbI, edD, hap _ m01 _ hbC, hap _ m01 _ hb86⟩, List.forall_mem_cons.mpr ⟨⟨Ne.symm hql.1, eqD, Ne.symm hql.2.2.1, Ne.symm hql.2.2.2.2.1⟩, List.forall_mem_nil _⟩⟩⟩⟩
      · intro g₇ m₇ h₇ tk₇ gs₇ rs fs nn₇ oc₇ ov₇ ps₇ rest₇ hb₇ KT₇ G₇ ho₇ htr₇ hall₇ hrl hr1 hr2 hr3 F₇ N₇
        have B₇ := Ground3.B G₇
        have X₇ := Ground3.X G₇
        have T₇ := Ground3.T G₇
        clear hN
        refine wpC.execs_cons (wpC.any ?_)
        have hw6 : 2 ≤ rs.length ∧ rs.length ≤ 6 := by
          have e := hIw.length
          rw [List.length_append, List.length_take] at e
          simp only [List.length_cons, List.length_nil] at e
          omega
        have hrl4 : rs.length ≤ 10000 := by omega
        repeat ((fail_if_success (with_reducible show wpAny _ _ (call (Value.type "range") _ _) _ _ _)); (first | walk1 | (k_unfold; (try dsimp only)) | (dsimp only; walk1)))
        rename News _ _ _ _ => hN
        refine range2_rows (by assumption) hN ?_
        intro hr tkr tr1 tr2 tr3 hRa F₈ N₈ hk₈
        clear hN
        walk_at "mine to iter"
        obtain ⟨hsm, hrz⟩ := range_small rs.length hw6.2 (by omega)
        refine range_inv (rs.length - 1) (LastS la Dt) rfl hRa hsm hrz F₈ N₈ ⟨⟨by rfl, by rfl⟩, rfl⟩ ?_ ?_
        · intro R hR i m₈ nw₈ tk8 h8 tkk8 hi hS F₉ N₉
          obtain ⟨hk8, rfl⟩ := hS
          have F₁₀ := Fr.as F₉ (m' := fun y => if y = Str.ofString "k" then some (.int (1 + (i : Int)) tk8) else if y = Str.ofString "told" then some (.ref Dt) else if y = Str.ofString "script" then some (.ref la) else m₈ y) (fun y => by
            by_cases e : y = Str.ofString "k"
            · simp [e]
            · simp only [e, if_false]; exact hk8.map y)
          obtain ⟨vk, fk, ek, -, pk, xk, dxk, qk, kk, tk', ak, zk0, zk1, zk2, nk, rfl, mk1, mk2, mk3, mk4, hnk, huk⟩ := hall₇.get (1 + i) (by omega)
          obtain ⟨vj, fj, ej, -, pj, xj, dxj, qj, kj, tj, aj, zj0, zj1, zj2, nj, rfl, mj1, mj2, mj3, mj4, hnj, huj⟩ := hall₇.get i (by omega)
          obtain ⟨vz, fz, ez, -, pz, xz, dxz, qz, kz, tz, az, zz0, zz1, zz2, nz, rfl, mz1, mz2, mz3, mz4, hnz, huz⟩ := hall₇.get 0 (by omega)
          have e1 : rs[(1 + (i : Int)).toNat]? = some (.ref pk) := by rw [show (1 + (i : Int)).toNat = 1 + i by omega]; exact ek
          have e2 : rs[(1 + (i : Int) - 1).toNat]? = some (.ref pj) := by rw [show (1 + (i : Int) - 1).toNat = i by omega]; exact ej
          have e3 : rs[(0 : Int).toNat]? = some (.ref pz) := ez
          have b1 : (0 : Int) ≤ 1 + (i : Int) := by omega
          have b2 : (1 + (i : Int)) < 2 ^ 63 := by omega
          have b3 : (0 : Int) ≤ 1 + (i : Int) - 1 := by omega
          have b4 : (1 + (i : Int) - 1) < 2 ^ 63 := by omega
          have N₁₀ := News.sub (l := (R, itR (1 + ((i + 1 : Nat) : Int)) (((rs.length - 1 : Nat) : Int) - ((i + 1 : Nat) : Int))) :: (Dt, W.listOf rs.toArray nn₇) :: (pk, toldTup xk qk) :: (xk, instObj 108 dxk) :: (dxk, ivDict w.params kk tk' ak) :: (qk, listW (wholeOf fk) zk0 zk1 zk2 nk) :: (pj, toldTup xj qj) :: (xj, instObj 108 dxj) :: (dxj, ivDict w.params kj tj aj) :: (qj, listW (wholeOf fj) zj0 zj1 zj2 nj) :: (pz, toldTup xz qz) :: (xz, instObj 108 dxz) :: (dxz, ivDict w.params kz tz az) :: (qz, listW (wholeOf fz) zz0 zz1 zz2 nz) :: (L' + 1, oc₇) :: (86, tabO ps₇) :: (ax, W.listOf wsv.toArray 0) :: rest₇) N₉ (fun z hz => by
            have tl : ∀ {z}, z ∈ rest₇ → z ∈ (R, itR (1 + ((i + 1 : Nat) : Int)) (((rs.length - 1 : Nat) : Int) - ((i + 1 : Nat) : Int))) :: (Dt, W.listOf rs.toArray nn₇) :: (L' + 1, oc₇) :: (86, tabO ps₇) :: (ax, W.listOf wsv.toArray 0) :: rest₇ := fun h => .tail _ (.tail _ (.tail _ (.tail _ (.tail _ h))))
            simp only [List.mem_cons] at hz
            rcases hz with rfl | rfl | rfl | rfl | rfl | rfl | rfl | rfl | rfl | rfl | rfl | rfl | rfl | rfl | rfl | rfl | rfl | hz
            · exact .head _
            · exact .tail _ (.head _)
            · exact tl mk1
            · exact tl mk2
            · exact tl mk3
            · exact tl mk4
            · exact tl mj1
            · exact tl mj2
            · exact tl mj3
            · exact tl mj4
            · exact tl mz1
            · exact tl mz2
            · exact tl mz3
            · exact tl mz4
            · exact .tail _ (.tail _ (.head _))
            · exact .tail _ (.tail _ (.tail _ (.head _)))
            · exact .tail _ (.tail _ (.tail _ (.tail _ (.head _))))
            · exact tl hz)
          clear F₉ N₉ F₈ N₈
          walk_at "mine steps"
          refine UnrEnd.intro (by assumption) (by assumption) _ ?_ (fun p hp => Nat.ne_of_lt (hR p hp)) ⟨⟨by rfl, by rfl⟩, rfl⟩
          intro z hz
          simp only [List.mem_cons] at hz ⊢
          rcases hz with hz | hz | hz | hz | hz | hz <;> simp only [hz, true_or, or_true]
        · intro m₉ nw₉ h₉ tk₉ hS F₉ N₉
          obtain ⟨hk9, rfl⟩ := hS
          have F₁₁ := Fr.as F₉ hk9.map
          have hla₇ : g₇.get? la = some lo := KT₇.other _ _ hla' (fun q => nomatch q)
          have M₇ : g₇.get? 4 = some modB := KT₇.other _ _ M4' (fun q => nomatch q)
          have hoff86 : ∀ p ∈ (Dt, W.listOf rs.toArray nn₇) :: (L' + 1, oc₇) :: (ax, W.listOf wsv.toArray 0) :: rest₇, @Ne Nat p.1 86 := by
            have hC86 : @Ne Nat (L' + 1) 86 := by have h1 : @LT.lt Nat _ 86 L' := l6; omega
            exact List.forall_mem_cons.mpr ⟨Nat.ne_of_gt lDt.2, List.forall_mem_cons.mpr ⟨hC86, List.forall_mem_cons.mpr ⟨Nat.ne_of_gt lax.2.2.2.2, hr3⟩⟩⟩
          have N₁₁ := News.sub (l := (86, tabO ps₇) :: (Dt, W.listOf rs.toArray nn₇) :: (L' + 1, oc₇) :: (ax, W.listOf wsv.toArray 0) :: rest₇) N₉ (fun z hz => by
            simp only [List.mem_cons] at hz ⊢
            rcases hz with hz | hz | hz | hz | hz <;> simp only [hz, true_or, or_true])
          clear F₉ N₉ F₈ N₈ hIw
          dsimp only
          refine wpC.execs_cons (wpC.Return (wpC.nameCall ?_))
          walk_at "mine steps"
          k_dflt (refine' wpC.callWith_K ?k1 ?k2 ?_; (case k1 => k_asm); (case k2 => k_is))
          repeat ((fail_if_success (with_reducible show wpAny _ _ (subscriptTail _ _ _ _) _ _ _)); (first | walk1 | (k_unfold; (try dsimp only)) | (dsimp only; walk1)))
          k_dflt (refine' kmk_slice_ints (vs := vs) (ns := ns) (ms := ns.take 4) ?yF ?yN ?yl ?yp ?yq ?yi ?ym rfl ?_ ?ys ?yt ?yz; (case yF => k_asm); (case yN => k_asm); (case yl => exact ⟨lo, Fr.keep (by assumption) _ _ hla₇, hlc, nn, hld⟩); (case yp => kmk_part); (case yq => kmk_part); (case yi => exact hI); (case ym => exact kmk_upto hI (by decide)); (case ys => with_unfolding_all rfl); (case yt => kmk_pure); (case yz => assumption))
          intro D' ws'' h' F' N' l1 hI'' hC'' hL''
          k_lt l1
          k_sweep
          walk_at "mine steps"
          rename News _ _ _ _ => hN
          have N₁₂ := News.sub (l := (86, tabO ps₇) :: (Dt, W.listOf rs.toArray nn₇) :: (L' + 1, oc₇) :: (ax, W.listOf wsv.toArray 0) :: rest₇) hN (fun z hz => by
            simp only [List.mem_cons] at hz ⊢
            rcases hz with hz | hz | hz | hz | hz <;> simp only [hz, true_or, or_true])
          clear hN
          refine MeetsP.call (units_ok w _ _) G₇ M₇ (by assumption) N₁₂ htr₇ hoff86 (fun _ h => nomatch h) (by ktr_room) (by ktr_units) ?_
          intro v₈ h₈ tk₈ gs₈ ps₈ g₈ hT₈ hv₈ htr₈ hb₈ G₈ M₈ F₈ N₈
          subst hv₈
          walk_at "mine steps"
          try dsimp only
          exact ⟨g₈, KT₇.trans hT₈, _, _, _, _, _, gs₈, ps₈, rfl, by assumption, by assumption, rfl, by assumption, fun h => hb₈ (hb₇ h), by k_mem, List.forall_mem_nil _⟩
    · intro r s' x
      cases r with
      | error e => exact x.elim
      | ok f => cases f <;> first | exact x | exact x.elim
  · rintro v s' ⟨rfl, hk, hos, hb⟩
    refine ⟨.inl ⟨.bool true, .bool true, [], rfl, fun _ => by rfl, .bool _, ?_, fun _ => ⟨List.nodup_nil, fun _ h => nomatch h⟩⟩, hk, hos, hb (AllBare.of_eq hg)⟩
    clear hk hos hb
    wrow_post

end Mine
end

theorem PySem.Challenge.cw_ew0023_01_holds : PySem.Challenge.rw_ew0023_01.Holds := by
  exact Mine.law_holds
