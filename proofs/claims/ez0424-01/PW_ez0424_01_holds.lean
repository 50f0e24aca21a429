import PyProof.Rows.All
import Wide.All
import OpenK.AllK
import Wide.FinOn
import Lean
import PySem.Challenge.RW_ez0424_01
set_option linter.all false
open PySem PySem.W PyProof.Rows PySem.Calls PySem.Spec
set_option Elab.async false
set_option maxRecDepth 100000
set_option maxHeartbeats 8000000
set_option rowWalk.seconds 0
namespace Mine
open_top hd for PySem.Challenge.rw_ez0424_01
theorem tone10 : True := by
  w_top off
  trivial

/-- a call's surroundings at a fixed depth hold at every lesser depth -/
theorem lower {α : Type} {M : Model} {D U dp un : Nat} {gd : Option (List Code)} {cn : Str} {cs : Scope} {L a : Addr} {ccd : Value} {cl : List (Str × Addr)} {outer : List Env} {t : Sem α}
    {Q : α → Shared → Prop} {E : Value → Shared → Prop} {s : Shared} (h : wpAny M (ktrTop D U gd cn cs L a ccd cl outer) t Q E s) (hd : dp ≤ D) (hu : un ≤ U) :
    wpAny M (ktrTop dp un gd cn cs L a ccd cl outer) t Q E s :=
  fun Γ p hΓ => h Γ p ⟨hΓ.1, Nat.le_trans hΓ.2.1 hd, hΓ.2.2.1, hΓ.2.2.2.1, Nat.le_trans hΓ.2.2.2.2 hu⟩

/-- the way back from a def's frame: what it made of its footprint -/
def Back (g : Heap) (R : Value → List (Addr × Obj) → Heap → Nat → Prop) (s₀ : Shared) (v : Value) (s' : Shared) : Prop :=
  ∃ L' m' fp' h' tk', s' = { s₀ with heap := h', toks := tk' } ∧ Fr g L' h' m' ∧ News g L' h' fp' ∧ (fp'.map (·.1)).Nodup ∧ R v fp' h' tk'
theorem Back.intro {g : Heap} {R : Value → List (Addr × Obj) → Heap → Nat → Prop} {s₀ : Shared} {v : Value} {L' : Addr} {m' : Str → Option Value} {nw : List (Addr × Obj)} {h' : Heap} {tk' : Nat} (fp' : List (Addr × Obj))
    (F' : Fr g L' h' m') (N' : News g L' h' nw) (sub : ∀ p ∈ fp', p ∈ nw) (nd : (fp'.map (·.1)).Nodup) (r : R v fp' h' tk') : Back g R s₀ v { s₀ with heap := h', toks := tk' } :=
  ⟨L', m', fp', h', tk', rfl, F', fun p hp => N' p (sub p hp), nd, r⟩

/-- some of a ledger's entries, the others behind -/
inductive Picks : List (Addr × Obj) → List (Addr × Obj) → List (Addr × Obj) → Prop
  | done {l} : Picks [] l l
  | one {p fp l r r'} : l.Perm (p :: r) → Picks fp r r' → Picks (p :: fp) l r'
theorem Picks.perm : ∀ {fp l r : List (Addr × Obj)}, Picks fp l r → l.Perm (fp ++ r)
  | _, _, _, .done => List.Perm.refl _
  | _, _, _, .one h k => h.trans (List.Perm.cons _ k.perm)
theorem pick_head {p : Addr × Obj} {l : List (Addr × Obj)} : (p :: l).Perm (p :: l) := List.Perm.refl _
theorem pick_tail {p q : Addr × Obj} {l r : List (Addr × Obj)} (h : l.Perm (p :: r)) : (q :: l).Perm (p :: q :: r) := (List.Perm.cons q h).trans (List.Perm.swap p q r)

section
variable {prog : Program} {w : World} {A₀ A : Around} {s : Shared} {base h₀ : Heap} {outer : List Env} {L : Addr} {m mg mb : Str → Option Value} {env : Env} {fp rest : List (Addr × Obj)} {K : Frag}
  {p : Program} {loose : List Str} {mean : ExcName → Option Value}
  {name qual : Str} {params : Arguments} {body : List Stmt} {scope : Scope} {dV kV doc pm cdv ct oc : Value} {an od : Option Addr} {osl : Array (Option Value)} {f : Addr} {args : Args} {binds : List (Str × Value)}

theorem back_out (F : Fr h₀ L s.heap m) (N : News h₀ L s.heap (fp ++ rest)) (D : ((fp ++ rest).map (·.1)).Nodup)
    {h' : Heap} {L' : Addr} {m' : Str → Option Value} {fp' : List (Addr × Obj)} (F' : Fr (hideAll s.heap (fp.map (·.1))) L' h' m') (N' : News (hideAll s.heap (fp.map (·.1))) L' h' fp') :
    Fr h₀ L h' m ∧ News h₀ L h' (fp' ++ rest) ∧ ((fp'.map (·.1)).Nodup → ((fp' ++ rest).map (·.1)).Nodup) := by
  have hdis : ∀ q ∈ rest, ∀ p ∈ fp, q.1 ≠ p.1 := fun q hq p hp e => by
    rw [List.map_append] at D
    exact (List.nodup_append.mp D).2.2 p.1 (List.mem_map_of_mem hp) q.1 (List.mem_map_of_mem hq) e.symm
  have Nf : News h₀ L s.heap fp := fun p hp => N p (List.mem_append_left _ hp)
  have nm : ∀ b o, h₀.get? b = some o → b ∉ fp.map (·.1) := fun b o e q => by
    obtain ⟨p, hp, rfl⟩ := List.mem_map.mp q
    rw [(Nf p hp).2.2] at e; cases e
  have nL : L ∉ fp.map (·.1) := fun q => by
    obtain ⟨p, hp, e⟩ := List.mem_map.mp q
    exact (Nf p hp).2.1 e
  obtain ⟨oL, es, ep, hL, hLr⟩ := F.ns
  have hLg := hideAll_get (fp.map (·.1)) hL nL
  have st : ∀ b o, h₀.get? b = some o → (hideAll s.heap (fp.map (·.1))).get? b = some o := fun b o e => hideAll_get _ (F.keep b o e) (nm b o e)
  have kr : ∀ q ∈ rest, (hideAll s.heap (fp.map (·.1))).get? q.1 = some q.2 := fun q hq => by
    refine hideAll_get _ (N q (List.mem_append_right _ hq)).1 fun hm => ?_
    obtain ⟨p, hp, e⟩ := List.mem_map.mp hm
    exact hdis q hq p hp e.symm
  refine ⟨⟨⟨oL, es, ep, F'.keep _ _ hLg, hLr⟩, fun b o e => F'.keep b o (st b o e), F.above⟩, fun q hq => ?_, fun nd => ?_⟩
  rcases List.mem_append.mp hq with hq | hq
  · refine ⟨(N' q hq).1, fun e => ?_, ?_⟩
    · have := (N' q hq).2.2; rw [e, hLg] at this; cases this
    · cases e : h₀.get? q.1 with
      | none => rfl
      | some o => have := (N' q hq).2.2; rw [st _ _ e] at this; cases this
  · exact ⟨F'.keep _ _ (kr q hq), (N q (List.mem_append_right _ hq)).2⟩
  · rw [List.map_append] at D ⊢
    refine List.nodup_append.mpr ⟨nd, (List.nodup_append.mp D).2.1, fun a ha b hb e => ?_⟩
    obtain ⟨p, hp, rfl⟩ := List.mem_map.mp ha
    obtain ⟨q, hq, rfl⟩ := List.mem_map.mp hb
    have h1 := (N' p hp).2.2
    rw [e, kr q hq] at h1
    cases h1

theorem code_fp {RR : Result → Shared → Prop} (B : Below A₀ base outer h₀) (F : Fr h₀ L s.heap m) (X₀ : K.In h₀) (N : News h₀ L s.heap (fp ++ rest)) (D : ((fp ++ rest).map (·.1)).Nodup) (T : Top p loose mean mg mb h₀) (hA : A.frames = some (env :: outer)) (hf : env.frame = some L)
    (hke : env.scope.kind = .function)
    (ho : K.lookup f = some ⟨oc, od, .func (fnOf name qual params body scope dV kV doc pm an cdv ct), osl⟩) (hcd : codeIn K cdv qual = true) (hroom : A.depth < recursionLimit)
    (hbind : BindsTo s (fnOf name qual params body scope dV kV doc pm an cdv ct) args binds) (hloc : ∀ y ∈ binds, scope.names.lookup y.1 = some .local)
    (R : Value → List (Addr × Obj) → Heap → Nat → Prop)
    (ret : ∀ v fp' h' tk', Fr h₀ L h' m → News h₀ L h' (fp' ++ rest) → ((fp' ++ rest).map (·.1)).Nodup → R v fp' h' tk' → RR (.ok (.ret v)) { s with heap := h', toks := tk' })
    (h : ∀ g L' h₁, Fr g L' h₁ (fun y => binds.reverse.lookup y) → News g L' h₁ fp → Below A base (env :: outer) g → K.In g → Top p loose mean mg mb g → (∀ p ∈ fp ++ rest, p.1 < L') →
      wpAny (model prog w) (A.deeper (envOf qual scope L' f cdv)) (execs body (envOf qual scope L' f cdv))
        (fun fl s' => Back g R s (match fl with | .ret v => v | _ => .none) s')
        (fun e s' => wpAny (model prog w) (A.deeper (envOf qual scope L' f cdv)) (leaving (envOf qual scope L' f cdv) e) (fun _ s'' => RR (.error e) s'') (fun e' s'' => RR (.error e') s'') s')
        { s with heap := h₁, toks := s.toks + binds.length })
    (hcell : ∀ x ∈ scope.names, x.2 ≠ .cell := by decide) (hco : scope.isCoroutine = false := by rfl) (hgen : scope.isGenerator = false := by rfl) (hk : scope.kind = .function := by rfl) :
    codeAny (model prog w) A (.call (.ref f) args) RR s := by
  have Nf : News h₀ L s.heap fp := fun p hp => N p (List.mem_append_left _ hp)
  have X := X₀.keeps F.keep
  obtain ⟨FG, BG, st, -⟩ := groundX (R := fun _ _ => True) B F Nf hA hf hke
  refine codeAny_call_def (fd := fnOf name qual params body scope dV kV doc pm an cdv ct) (body := body) (binds := binds) hroom (X _ _ ho) rfl (T.nolimit.keeps F.keep) (codeRec_of X hcd) rfl hbind hcell hloc (fun h₁ hns hk₁ => ?_) hco hgen hk
  refine wpAny_mono (h (hideAll s.heap (fp.map (·.1))) s.heap.objs.size h₁ ⟨hns, fun b o e => hk₁ b o (of_hideAll _ e), Nat.le_of_eq (hideAll_size _ _)⟩
    (fun p hp => ⟨hk₁ _ _ (Nf p hp).1, Nat.ne_of_lt (Heap.lt_size (Nf p hp).1), hideAll_none _ (List.mem_map_of_mem hp)⟩) BG (X₀.keeps fun b o e => st b o e) (T.keeps fun b o e => st b o e) (fun p hp => Heap.lt_size (N p hp).1)) (fun fl s' hl => ?_) fun _ _ y => y
  obtain ⟨L', m', fp', h', tk', rfl, F', N', nd, r⟩ := hl
  obtain ⟨F'', N'', nd'⟩ := back_out F N D F' N'
  exact ret _ _ _ _ F'' N'' (nd' nd) r

theorem call_fp {Q E : Value → Shared → Prop} (B : Below A₀ base outer h₀) (F : Fr h₀ L s.heap m) (X₀ : K.In h₀) (N : News h₀ L s.heap (fp ++ rest)) (D : ((fp ++ rest).map (·.1)).Nodup) (T : Top p loose mean mg mb h₀) (hA : A.frames = some (env :: outer)) (hf : env.frame = some L)
    (hke : env.scope.kind = .function)
    (ho : K.lookup f = some ⟨oc, od, .func (fnOf name qual params body scope dV kV doc pm an cdv ct), osl⟩) (hcd : codeIn K cdv qual = true) (hroom : A.depth < recursionLimit)
    (hbind : BindsTo s (fnOf name qual params body scope dV kV doc pm an cdv ct) args binds) (hloc : ∀ y ∈ binds, scope.names.lookup y.1 = some .local)
    (R : Value → List (Addr × Obj) → Heap → Nat → Prop)
    (ret : ∀ v fp' h' tk', Fr h₀ L h' m → News h₀ L h' (fp' ++ rest) → ((fp' ++ rest).map (·.1)).Nodup → R v fp' h' tk' → Q v { s with heap := h', toks := tk' })
    (h : ∀ g L' h₁, Fr g L' h₁ (fun y => binds.reverse.lookup y) → News g L' h₁ fp → Below A base (env :: outer) g → K.In g → Top p loose mean mg mb g → (∀ p ∈ fp ++ rest, p.1 < L') →
      wpAny (model prog w) (A.deeper (envOf qual scope L' f cdv)) (execs body (envOf qual scope L' f cdv))
        (fun fl s' => Back g R s (match fl with | .ret v => v | _ => .none) s')
        (fun e s' => wpAny (model prog w) (A.deeper (envOf qual scope L' f cdv)) (leaving (envOf qual scope L' f cdv) e) (fun _ s'' => E e s'') (fun e' s'' => E e' s'') s')
        { s with heap := h₁, toks := s.toks + binds.length })
    (hcell : ∀ x ∈ scope.names, x.2 ≠ .cell := by decide) (hco : scope.isCoroutine = false := by rfl) (hgen : scope.isGenerator = false := by rfl) (hk : scope.kind = .function := by rfl) :
    wpAny (model prog w) A (call (.ref f) args.pos args.kw) Q E s :=
  wpAny_call (code_fp B F X₀ N D T hA hf hke ho hcd hroom hbind hloc R ret h hcell hco hgen hk)
end


theorem room_of {a b : Nat} (h : Nat.ble (a + 1) b = true) : a < b := Nat.le_of_ble_eq_true h

/-- A CONTRACT: the call f(args), wherever it is made from (D, U: the greatest depth), turns the footprint fp to fp' and hands back v, R v fp'; all else of the caller's ledger is as it was. -/
def Ct (prog : Program) (w : World) (D U : Nat) (f : Value) (args : List Value) (fp : List (Addr × Obj)) (R : Value → List (Addr × Obj) → Prop) : Prop :=
  ∀ (gd : Option (List Code)) (cn : Str) (cs : Scope) (L a : Addr) (ccd : Value) (cl : List (Str × Addr)) (outer : List Env) (A₀ : Around) (base h₀ : Heap) (m mg mb : Str → Option Value) (rest : List (Addr × Obj)) (p : Program) (loose : List Str) (mean : ExcName → Option Value) (s : Shared) (Q E : Value → Shared → Prop),
    Below A₀ base outer h₀ → Fr h₀ L s.heap m → (hd.heap_39 w.params).In h₀ → News h₀ L s.heap (fp ++ rest) → ((fp ++ rest).map (·.1)).Nodup → Top p loose mean mg mb h₀ → cs.kind = .function →
    (∀ v fp' h' tk', Fr h₀ L h' m → News h₀ L h' (fp' ++ rest) → ((fp' ++ rest).map (·.1)).Nodup → R v fp' → Q v { s with heap := h', toks := tk' }) →
    wpAny (model prog w) (ktrTop D U gd cn cs L a ccd cl outer) (call f args) Q E s

theorem Ct.of {prog : Program} {w : World} {D U : Nat} {name qual : Str} {params : Arguments} {body : List Stmt} {scope : Scope} {dV kV doc pm cdv ct oc : Value} {an od : Option Addr} {osl : Array (Option Value)} {f : Addr} {args : List Value} {fp : List (Addr × Obj)} {R : Value → List (Addr × Obj) → Prop}
    {binds : List (Str × Value)}
    (ho : (hd.heap_39 w.params).lookup f = some ⟨oc, od, .func (fnOf name qual params body scope dV kV doc pm an cdv ct), osl⟩) (hcd : codeIn (hd.heap_39 w.params) cdv qual = true) (hroom : D < recursionLimit)
    (hbind : ∀ s : Shared, (hd.heap_39 w.params).In s.heap → BindsTo s (fnOf name qual params body scope dV kV doc pm an cdv ct) ⟨args, []⟩ binds) (hloc : ∀ y ∈ binds, scope.names.lookup y.1 = some .local)
    (h : ∀ (gd : Option (List Code)) (cn : Str) (cs : Scope) (L a : Addr) (ccd : Value) (cl : List (Str × Addr)) (outer : List Env) (base : Heap) (mg mb : Str → Option Value) (p : Program) (loose : List Str) (mean : ExcName → Option Value) (s : Shared) g L' h₁,
      (fp.map (·.1)).Nodup → Fr g L' h₁ (fun y => binds.reverse.lookup y) → News g L' h₁ fp → Below (ktrTop D U gd cn cs L a ccd cl outer) base (envX cn cs L a ccd cl :: outer) g → (hd.heap_39 w.params).In g → Top p loose mean mg mb g →
      wpAny (model prog w) ((ktrTop D U gd cn cs L a ccd cl outer).deeper (envOf qual scope L' f cdv)) (execs body (envOf qual scope L' f cdv))
        (fun fl s' => Back g (fun v fp' _ _ => R v fp') s (match fl with | .ret v => v | _ => .none) s')
        (fun _ _ => False)
        { s with heap := h₁, toks := s.toks + binds.length })
    (hcell : ∀ x ∈ scope.names, x.2 ≠ .cell := by decide) (hco : scope.isCoroutine = false := by rfl) (hgen : scope.isGenerator = false := by rfl) (hk : scope.kind = .function := by rfl) : Ct prog w D U (.ref f) args fp R :=
  fun gd cn cs L a ccd cl outer _ base _ _ mg mb _ p loose mean s _ E B F X N nd T hks ret =>
    call_fp (args := ⟨args, []⟩) B F X N nd T rfl rfl hks ho hcd hroom (hbind s (X.keeps F.keep)) hloc (fun v fp' _ _ => R v fp') (fun v fp' h' tk' F' N' D' r => ret v fp' h' tk' F' N' D' r)
      (fun g L' h₁ F' N' B' X' T' _ => wpAny_mono (h gd cn cs L a ccd cl outer base mg mb p loose mean s g L' h₁ (by rw [List.map_append] at nd; exact (List.nodup_append.mp nd).1) F' N' B' X' T') (fun _ _ x => x) (fun _ _ x => x.elim)) hcell hco hgen hk

theorem perm_led {h₀ : Heap} {L : Addr} {h : Heap} {l l' : List (Addr × Obj)} (N : News h₀ L h l) (D : (l.map (·.1)).Nodup) (P : l.Perm l') : News h₀ L h l' ∧ (l'.map (·.1)).Nodup :=
  ⟨fun q hq => N q (P.mem_iff.mpr hq), ((P.map _).nodup_iff).mp D⟩

theorem Ct.use {prog : Program} {w : World} {D U : Nat} {f : Value} {args : List Value} {fp : List (Addr × Obj)} {R : Value → List (Addr × Obj) → Prop} (c : Ct prog w D U f args fp R)
    {dp un : Nat} {gd : Option (List Code)} {cn : Str} {cs : Scope} {L a : Addr} {ccd : Value} {cl : List (Str × Addr)} {outer : List Env} {A₀ : Around} {base h₀ : Heap} {m mg mb : Str → Option Value} {news rest : List (Addr × Obj)} {p : Program} {loose : List Str} {mean : ExcName → Option Value} {s : Shared} {Q E : Value → Shared → Prop}
    (B : Below A₀ base outer h₀) (F : Fr h₀ L s.heap m) (X : (hd.heap_39 w.params).In h₀) (N : News h₀ L s.heap news) (nd : (news.map (·.1)).Nodup) (P : Picks fp news rest) (T : Top p loose mean mg mb h₀) (hk : cs.kind = .function)
    (hd' : Nat.ble dp D = true) (hu : Nat.ble un U = true)
    (ret : ∀ v fp' h' tk', Fr h₀ L h' m → News h₀ L h' (fp' ++ rest) → ((fp' ++ rest).map (·.1)).Nodup → R v fp' → Q v { s with heap := h', toks := tk' }) :
    wpAny (model prog w) (ktrTop dp un gd cn cs L a ccd cl outer) (call f args) Q E s := by
  obtain ⟨N', D'⟩ := perm_led N nd P.perm
  exact lower (c _ _ _ _ _ _ _ _ _ _ _ _ _ _ _ _ _ _ _ _ _ B F X N' D' T hk ret) (Nat.le_of_ble_eq_true hd') (Nat.le_of_ble_eq_true hu)
def NeOne (a : Nat) : List Addr → Prop
  | [] => True
  | b :: r => @Ne Nat a b ∧ NeOne a r
def NeAll : List Addr → Prop
  | [] => True
  | a :: r => NeOne a r ∧ NeAll r
theorem neOne_of {a : Addr} : ∀ {l : List Addr}, a ∉ l → NeOne a l
  | [], _ => trivial
  | b :: r, h => ⟨fun e => h (by rw [show a = b from e]; exact List.mem_cons_self ..), neOne_of fun hm => h (List.mem_cons_of_mem _ hm)⟩
theorem neAll_of : ∀ {l : List Addr}, l.Nodup → NeAll l
  | [], _ => trivial
  | a :: r, h => ⟨neOne_of (List.nodup_cons.mp h).1, neAll_of (List.nodup_cons.mp h).2⟩
theorem not_mem_of : ∀ {l : List Addr} {a : Addr}, NeOne a l → a ∉ l
  | [], _, _ => List.not_mem_nil
  | _ :: _, _, h => fun hm => (List.mem_cons.mp hm).elim (fun e => h.1 e) (not_mem_of h.2)
theorem nodup_of_ne : ∀ {l : List Addr}, NeAll l → l.Nodup
  | [], _ => List.nodup_nil
  | _ :: _, h => List.nodup_cons.mpr ⟨not_mem_of h.1, nodup_of_ne h.2⟩
theorem nodup_ne {a b : Addr} {l : List Addr} (h : (a :: l).Nodup) (hb : b ∈ l) : @Ne Nat a b := fun e => (List.nodup_cons.mp h).1 (e ▸ hb)
theorem nodup_lt {a : Addr} {news : List (Addr × Obj)} {o : Obj} (nd : (news.map (·.1)).Nodup) (h : ∀ p ∈ news, p.1 < a) : (((a, o) :: news).map (·.1)).Nodup :=
  List.nodup_cons.mpr ⟨fun hm => by obtain ⟨p, hp, e⟩ := List.mem_map.mp hm; exact absurd (h p hp) (by rw [e]; exact Nat.lt_irrefl _), nd⟩

local macro_rules | `(tactic| k_room) => `(tactic| exact room_of rfl)
theorem tone12 : True := by
  w_top off
  trivial
/-! A contract of a def that raises within and catches: called from the law's own frame alone (outer = []). -/
def BackX (fs : List Addr) (g : Heap) (R : Value → List (Addr × Obj) → Prop) (s₀ : Shared) (v : Value) (s' : Shared) : Prop :=
  ∃ g' L' m' fp' h' tk', KtsTurn fs g g' ∧ s' = { s₀ with heap := h', toks := tk' } ∧ Fr g' L' h' m' ∧ News g' L' h' fp' ∧ (fp'.map (·.1)).Nodup ∧ R v fp'
theorem BackX.intro {fs : List Addr} {g g' : Heap} {R : Value → List (Addr × Obj) → Prop} {s₀ : Shared} {v : Value} {L' : Addr} {m' : Str → Option Value} {nw : List (Addr × Obj)} {h' : Heap} {tk' : Nat} (fp' : List (Addr × Obj))
    (T : KtsTurn fs g g') (F' : Fr g' L' h' m') (N' : News g' L' h' nw) (sub : ∀ p ∈ fp', p ∈ nw) (nd : (fp'.map (·.1)).Nodup) (r : R v fp') : BackX fs g R s₀ v { s₀ with heap := h', toks := tk' } :=
  ⟨g', L', m', fp', h', tk', T, rfl, F', fun p hp => N' p (sub p hp), nd, r⟩

theorem back_outX {s : Shared} {h₀ h' g' : Heap} {L L' : Addr} {m m' : Str → Option Value} {fp rest fp' : List (Addr × Obj)} (F : Fr h₀ L s.heap m) (N : News h₀ L s.heap (fp ++ rest)) (D : ((fp ++ rest).map (·.1)).Nodup)
    (T : KtsTurn [L] (hideAll s.heap (fp.map (·.1))) g') (F' : Fr g' L' h' m') (N' : News g' L' h' fp') :
    Fr h₀ L h' m ∧ News h₀ L h' (fp' ++ rest) ∧ ((fp'.map (·.1)).Nodup → ((fp' ++ rest).map (·.1)).Nodup) := by
  have hdis : ∀ q ∈ rest, ∀ p ∈ fp, q.1 ≠ p.1 := fun q hq p hp e => by
    rw [List.map_append] at D
    exact (List.nodup_append.mp D).2.2 p.1 (List.mem_map_of_mem hp) q.1 (List.mem_map_of_mem hq) e.symm
  have Nf : News h₀ L s.heap fp := fun p hp => N p (List.mem_append_left _ hp)
  have nm : ∀ b o, h₀.get? b = some o → b ∉ fp.map (·.1) := fun b o e q => by
    obtain ⟨p, hp, rfl⟩ := List.mem_map.mp q
    rw [(Nf p hp).2.2] at e; cases e
  have nL : L ∉ fp.map (·.1) := fun q => by
    obtain ⟨p, hp, e⟩ := List.mem_map.mp q
    exact (Nf p hp).2.1 e
  obtain ⟨oL, es, ep, hL, hLd, hLk, hLf⟩ := F.ns
  have hLg := hideAll_get (fp.map (·.1)) hL nL
  obtain ⟨sl, hLg'⟩ := T.frame _ _ hLg (List.mem_singleton.mpr rfl)
  have off : ∀ b o, h₀.get? b = some o → b ∉ [L] := fun b o e hm => by
    have := Heap.lt_size e
    rw [List.mem_singleton.mp hm] at this
    exact absurd (Nat.lt_of_lt_of_le this F.above) (Nat.lt_irrefl _)
  have st : ∀ b o, h₀.get? b = some o → g'.get? b = some o := fun b o e => T.other b o (hideAll_get _ (F.keep b o e) (nm b o e)) (off b o e)
  have kr : ∀ q ∈ rest, g'.get? q.1 = some q.2 := fun q hq => by
    refine T.other _ _ (hideAll_get _ (N q (List.mem_append_right _ hq)).1 fun hm => ?_) fun hm => (N q (List.mem_append_right _ hq)).2.1 (List.mem_singleton.mp hm)
    obtain ⟨p, hp, e⟩ := List.mem_map.mp hm
    exact hdis q hq p hp e.symm
  refine ⟨⟨⟨_, es, ep, F'.keep _ _ hLg', hLd, hLk, hLf⟩, fun b o e => F'.keep b o (st b o e), F.above⟩, fun q hq => ?_, fun nd => ?_⟩
  · rcases List.mem_append.mp hq with hq | hq
    · refine ⟨(N' q hq).1, fun e => ?_, ?_⟩
      · have := (N' q hq).2.2; rw [e, hLg'] at this; cases this
      · cases e : h₀.get? q.1 with
        | none => rfl
        | some o => have := (N' q hq).2.2; rw [st _ _ e] at this; cases this
    · exact ⟨F'.keep _ _ (kr q hq), (N q (List.mem_append_right _ hq)).2⟩
  · rw [List.map_append] at D ⊢
    refine List.nodup_append.mpr ⟨nd, (List.nodup_append.mp D).2.1, fun a ha b hb e => ?_⟩
    obtain ⟨p, hp, rfl⟩ := List.mem_map.mp ha
    obtain ⟨q, hq, rfl⟩ := List.mem_map.mp hb
    have h1 := (N' p hp).2.2
    rw [e, kr q hq] at h1
    cases h1

def CtX (prog : Program) (w : World) (D U : Nat) (f : Value) (args : List Value) (fp : List (Addr × Obj)) (R : Value → List (Addr × Obj) → Prop) : Prop :=
  ∀ (gd : Option (List Code)) (cn : Str) (cs : Scope) (L a : Addr) (ccd : Value) (cl : List (Str × Addr)) (A₀ : Around) (h₀ : Heap) (m mg mb : Str → Option Value) (rest : List (Addr × Obj)) (p : Program) (loose : List Str) (mean : ExcName → Option Value) (s : Shared) (Q E : Value → Shared → Prop),
    Below A₀ h₀ [] h₀ → Fr h₀ L s.heap m → (hd.heap_39 w.params).In h₀ → News h₀ L s.heap (fp ++ rest) → ((fp ++ rest).map (·.1)).Nodup → Top p loose mean mg mb h₀ → cs.kind = .function →
    (∀ v fp' h' tk', Fr h₀ L h' m → News h₀ L h' (fp' ++ rest) → ((fp' ++ rest).map (·.1)).Nodup → R v fp' → Q v { s with heap := h', toks := tk' }) →
    wpAny (model prog w) (ktrTop D U gd cn cs L a ccd cl []) (call f args) Q E s

theorem CtX.of {prog : Program} {w : World} {D U : Nat} {name qual : Str} {params : Arguments} {body : List Stmt} {scope : Scope} {dV kV doc pm cdv ct oc : Value} {an od : Option Addr} {osl : Array (Option Value)} {f : Addr} {args : List Value} {fp : List (Addr × Obj)} {R : Value → List (Addr × Obj) → Prop}
    {binds : List (Str × Value)}
    (ho : (hd.heap_39 w.params).lookup f = some ⟨oc, od, .func (fnOf name qual params body scope dV kV doc pm an cdv ct), osl⟩) (hcd : codeIn (hd.heap_39 w.params) cdv qual = true) (hroom : D < recursionLimit)
    (hbind : ∀ s : Shared, (hd.heap_39 w.params).In s.heap → BindsTo s (fnOf name qual params body scope dV kV doc pm an cdv ct) ⟨args, []⟩ binds) (hloc : ∀ y ∈ binds, scope.names.lookup y.1 = some .local)
    (h : ∀ (gd : Option (List Code)) (cn : Str) (cs : Scope) (L a : Addr) (ccd : Value) (cl : List (Str × Addr)) (base : Heap) (mg mb : Str → Option Value) (p : Program) (loose : List Str) (mean : ExcName → Option Value) (s : Shared) g L' h₁,
      (fp.map (·.1)).Nodup → Fr g L' h₁ (fun y => binds.reverse.lookup y) → News g L' h₁ fp → Below (ktrTop D U gd cn cs L a ccd cl []) base [envX cn cs L a ccd cl] g → (hd.heap_39 w.params).In g → Top p loose mean mg mb g →
      (hd.heap_39 w.params).In base → Top p loose mean mg mb base → KtsDicts ([envX cn cs L a ccd cl].filterMap (·.frame)) g →
      wpAny (model prog w) ((ktrTop D U gd cn cs L a ccd cl []).deeper (envOf qual scope L' f cdv)) (execs body (envOf qual scope L' f cdv))
        (fun fl s' => BackX ([envX cn cs L a ccd cl].filterMap (·.frame)) g R s (match fl with | .ret v => v | _ => .none) s')
        (fun _ _ => False)
        { s with heap := h₁, toks := s.toks + binds.length })
    (hcell : ∀ x ∈ scope.names, x.2 ≠ .cell := by decide) (hco : scope.isCoroutine = false := by rfl) (hgen : scope.isGenerator = false := by rfl) (hk : scope.kind = .function := by rfl) : CtX prog w D U (.ref f) args fp R := by
  intro gd cn cs L a ccd cl A₀ h₀ m mg mb rest p loose mean s Q E B F X N nd T hks ret
  have Nf : News h₀ L s.heap fp := fun p hp => N p (List.mem_append_left _ hp)
  have X' := X.keeps F.keep
  obtain ⟨FG, BG, st, -⟩ := groundX (A := ktrTop D U gd cn cs L a ccd cl []) (env := envX cn cs L a ccd cl) (R := fun _ _ => True) B F Nf rfl rfl hks
  have kd : KtsDicts ([envX cn cs L a ccd cl].filterMap (·.frame)) (hideAll s.heap (fp.map (·.1))) := fun b hb => by
    have hb' : b = L := List.mem_singleton.mp hb
    subst hb'
    obtain ⟨oL, es, ep, hL, hLd, _⟩ := FG.ns
    exact ⟨oL, es, ep, hL, hLd⟩
  refine wpAny_call (codeAny_call_def (fd := fnOf name qual params body scope dV kV doc pm an cdv ct) (body := body) (binds := binds) hroom (X' _ _ ho) rfl (T.nolimit.keeps F.keep) (codeRec_of X' hcd) rfl (hbind s X') hcell hloc (fun h₁ hns hk₁ => ?_) hco hgen hk)
  refine wpAny_mono (h gd cn cs L a ccd cl h₀ mg mb p loose mean s (hideAll s.heap (fp.map (·.1))) s.heap.objs.size h₁ (by rw [List.map_append] at nd; exact (List.nodup_append.mp nd).1) ⟨hns, fun b o e => hk₁ b o (of_hideAll _ e), Nat.le_of_eq (hideAll_size _ _)⟩
    (fun p hp => ⟨hk₁ _ _ (Nf p hp).1, Nat.ne_of_lt (Heap.lt_size (Nf p hp).1), hideAll_none _ (List.mem_map_of_mem hp)⟩) BG (X.keeps fun b o e => st b o e) (T.keeps fun b o e => st b o e) X T kd) (fun fl s' hl => ?_) fun _ _ y => y.elim
  obtain ⟨g', L', m', fp', h', tk', hT, rfl, F', N', nd', r⟩ := hl
  obtain ⟨F'', N'', nd''⟩ := back_outX F N nd hT F' N'
  exact ret _ _ _ _ F'' N'' (nd'' nd') r

theorem lowerX {α : Type} {M : Model} {D U dp un : Nat} {gd : Option (List Code)} {cn : Str} {cs : Scope} {L a : Addr} {ccd : Value} {cl : List (Str × Addr)} {t : Sem α}
    {Q : α → Shared → Prop} {E : Value → Shared → Prop} {s : Shared} (h : wpAny M (ktrTop D U gd cn cs L a ccd cl []) t Q E s) (hd : dp ≤ D) (hu : un ≤ U) :
    wpAny M (ktrTop dp un gd cn cs L a ccd cl []) t Q E s := lower h hd hu
theorem CtX.use {prog : Program} {w : World} {D U : Nat} {f : Value} {args : List Value} {fp : List (Addr × Obj)} {R : Value → List (Addr × Obj) → Prop} (c : CtX prog w D U f args fp R)
    {dp un : Nat} {gd : Option (List Code)} {cn : Str} {cs : Scope} {L a : Addr} {ccd : Value} {cl : List (Str × Addr)} {A₀ : Around} {h₀ : Heap} {m mg mb : Str → Option Value} {news rest : List (Addr × Obj)} {p : Program} {loose : List Str} {mean : ExcName → Option Value} {s : Shared} {Q E : Value → Shared → Prop}
    (B : Below A₀ h₀ [] h₀) (F : Fr h₀ L s.heap m) (X : (hd.heap_39 w.params).In h₀) (N : News h₀ L s.heap news) (nd : (news.map (·.1)).Nodup) (P : Picks fp news rest) (T : Top p loose mean mg mb h₀) (hk : cs.kind = .function)
    (hd' : Nat.ble dp D = true) (hu : Nat.ble un U = true)
    (ret : ∀ v fp' h' tk', Fr h₀ L h' m → News h₀ L h' (fp' ++ rest) → ((fp' ++ rest).map (·.1)).Nodup → R v fp' → Q v { s with heap := h', toks := tk' }) :
    wpAny (model prog w) (ktrTop dp un gd cn cs L a ccd cl []) (call f args) Q E s := by
  obtain ⟨N', D'⟩ := perm_led N nd P.perm
  exact lowerX (c _ _ _ _ _ _ _ _ _ _ _ _ _ _ _ _ _ _ _ B F X N' D' T hk ret) (Nat.le_of_ble_eq_true hd') (Nat.le_of_ble_eq_true hu)

theorem tone15 : True := by
  w_top off
  trivial
/-! Loops over a list of the ledger: an invariant over the turn's number, the frame's map and the whole ledger (its objects may change and new ones come). -/
def TurnQ (h₀ : Heap) (L : Addr) (Jn : (Str → Option Value) → List (Addr × Obj) → Prop) (keep : List (Addr × Obj)) (s₁ : Shared) (Q : Flow → Shared → Prop) (f : Flow) (s₂ : Shared) : Prop :=
  match f with
  | .ret v => Q (.ret v) s₂
  | .brk => Q .next s₂
  | _ => ∃ h' tk m' nw', s₂ = { s₁ with heap := h', toks := tk } ∧ Fr h₀ L h' m' ∧ News h₀ L h' (keep ++ nw') ∧ ((keep ++ nw').map (·.1)).Nodup ∧ Jn m' nw'
theorem TurnQ.next {h₀ : Heap} {L : Addr} {Jn : (Str → Option Value) → List (Addr × Obj) → Prop} {keep : List (Addr × Obj)} {s₁ : Shared} {Q : Flow → Shared → Prop} {h' : Heap} {tk : Nat} {m' : Str → Option Value} {nw : List (Addr × Obj)} (nw' : List (Addr × Obj))
    (F' : Fr h₀ L h' m') (N' : News h₀ L h' nw) (sub : ∀ p ∈ keep ++ nw', p ∈ nw) (nd : ((keep ++ nw').map (·.1)).Nodup) (j : Jn m' nw') : TurnQ h₀ L Jn keep s₁ Q .next { s₁ with heap := h', toks := tk } :=
  ⟨h', tk, m', nw', rfl, F', fun p hp => N' p (sub p hp), nd, j⟩

theorem map_fold {m' m₀ : Str → Option Value} (st : List Str) (h : ∀ z, st.contains z = false → m' z = m₀ z) : m' = fun z => if st.contains z then m' z else m₀ z := by
  funext z
  cases hz : st.contains z with
  | true => simp
  | false => simp only [Bool.false_eq_true, if_false]; exact h z hz

section
variable {prog : Program} {w : World} {A : Around} {E : Value → Shared → Prop} {s : Shared} {env : Env} {h₀ : Heap} {x : Str} {body : List Stmt} {Q : Flow → Shared → Prop}

theorem loop_gen {I : Addr} {fp : List Addr} {n : Nat} {P : Nat → Value → Prop} {St : Nat → Heap → Prop} {m₀ : Str → Option Value} {news : List (Addr × Obj)} (J : Nat → (Str → Option Value) → List (Addr × Obj) → Prop)
    (W : Walks prog w A I fp [I] n P St) (hI₀ : h₀.get? I = none) (hIL : I ≠ env.locals) (hI : ∀ i h, St i h → ∃ o, h.get? I = some o) (hIf : I ∈ fp) (hfp : ∀ b ∈ fp, b = I ∨ ∃ o, ∀ i m nw, J i m nw → (b, o) ∈ nw)
    (hst : St 0 s.heap) (F : Fr h₀ env.locals s.heap m₀) (N : News h₀ env.locals s.heap news) (nd : (I :: news.map (·.1)).Nodup) (hj : J 0 m₀ news)
    (turn : ∀ i v m₁ nw h tk oI, i < n → P i v → J i m₁ nw → Fr h₀ env.locals h (fun y => if y = x then some v else m₁ y) → News h₀ env.locals h ((I, oI) :: nw) → (((I, oI) :: nw).map (·.1)).Nodup →
      wpAny (model prog w) A (execs body env) (TurnQ h₀ env.locals (J (i + 1)) [(I, oI)] { s with heap := h, toks := tk } Q) E { s with heap := h, toks := tk })
    (done : ∀ m₁ nw h tk, J n m₁ nw → Fr h₀ env.locals h m₁ → News h₀ env.locals h nw → (nw.map (·.1)).Nodup → Q .next { s with heap := h, toks := tk }) :
    LoopAtV prog w A h₀ env x body Q E (.ref I) s := by
  refine ⟨I, fp, [I], n, P, St, m₀, news, (fun i m nw => (nw.map (·.1)).Nodup ∧ J i m nw), rfl, W, fun hmm => ?_, fun b hb => ?_, fun p hp hpI => ?_, hst, F, N, ⟨(List.nodup_cons.mp nd).2, hj⟩, ?_, ?_⟩
  · rcases hfp _ hmm with e | ⟨o, ho⟩
    · exact hIL e.symm
    · exact (N _ (ho 0 m₀ news hj)).2.1 rfl
  · rw [List.mem_singleton.mp hb]
    exact hI₀
  · exact (List.nodup_cons.mp nd).1 (List.mem_map.mpr ⟨p, hp, List.mem_singleton.mp hpI⟩)
  · rintro i v m₁ nw s₁ own ⟨hh', tk', rfl⟩ hin hP ⟨hnd, hJ⟩ hoff hown hget hall hst F₁ N₁
    obtain ⟨oI, hoI⟩ := hI _ _ hst
    have hIown : (I, oI) ∈ own := hall _ hIf hI₀ oI hoI
    have N₂ : News h₀ env.locals hh' ((I, oI) :: nw) := fun p hp => by
      rcases List.mem_cons.mp hp with rfl | hp
      · exact N₁ _ (List.mem_append_left _ hIown)
      · exact N₁ _ (List.mem_append_right _ hp)
    have nd₂ : (((I, oI) :: nw).map (·.1)).Nodup := List.nodup_cons.mpr ⟨fun hmm => by
      obtain ⟨p, hp, e⟩ := List.mem_map.mp hmm
      exact hoff p hp (List.mem_singleton.mpr e), hnd⟩
    refine wpAny_mono (turn i v m₁ nw hh' tk' oI hin hP hJ F₁ N₂ nd₂) (fun f s₂ p => ?_) fun _ _ e => e
    have fin : (∃ h' tk m' nw', s₂ = { s with heap := h', toks := tk } ∧ Fr h₀ env.locals h' m' ∧ News h₀ env.locals h' ([(I, oI)] ++ nw') ∧ (([(I, oI)] ++ nw').map (·.1)).Nodup ∧ J (i + 1) m' nw') →
        LoopStepU h₀ env.locals [I] own (fun m nw => (nw.map (·.1)).Nodup ∧ J (i + 1) m nw) { s with heap := hh', toks := tk' } .next s₂ := by
      rintro ⟨h', tk, m', nw', e, F', N', hn', hJ'⟩
      have hnc := List.nodup_cons.mp hn'
      refine ⟨rfl, h', tk, m', nw', e, F', fun p hp => ?_, fun p hp hq => ?_, hnc.2, hJ'⟩
      · rcases List.mem_append.mp hp with hp | hp
        · have h1 := hget p hp
          rcases hfp _ (hown p hp) with e1 | ⟨o, ho⟩
          · rw [e1] at h1
            have h3 : p = (I, oI) := Prod.ext e1 (Option.some.inj (hoI.symm.trans h1)).symm
            rw [h3]
            exact N' _ (List.mem_cons_self ..)
          · have h0 : hh'.get? p.1 = some o := (N₂ _ (List.mem_cons_of_mem _ (ho i m₁ nw hJ))).1
            have h3 : p = (p.1, o) := Prod.ext rfl (Option.some.inj (h0.symm.trans h1)).symm
            rw [h3]
            exact N' _ (List.mem_cons_of_mem _ (ho (i + 1) m' nw' hJ'))
        · exact N' _ (List.mem_cons_of_mem _ hp)
      · exact hnc.1 (List.mem_map.mpr ⟨p, hp, List.mem_singleton.mp hq⟩)
    cases f with
    | ret v => exact .ret p
    | brk => exact .brk p
    | next => exact .next (fin p)
    | cont => exact .cont (fin p)
  · rintro h' tk m' nw' F' N' _ ⟨hnd, hJ⟩
    exact done m' nw' h' tk hJ F' N' hnd

theorem led_size {L : Addr} {h : Heap} {news : List (Addr × Obj)} (N : News h₀ L h news) (nd : (news.map (·.1)).Nodup) : (h.objs.size :: news.map (·.1)).Nodup :=
  List.nodup_cons.mpr ⟨fun hm => by
    obtain ⟨p, hp, e⟩ := List.mem_map.mp hm
    exact absurd (Heap.lt_size (N p hp).1) (by rw [e]; exact Nat.lt_irrefl _), nd⟩

theorem loop_list {l : Addr} {vs : List Value} {nl : Nat} {m₀ : Str → Option Value} {news : List (Addr × Obj)} (J : Nat → (Str → Option Value) → List (Addr × Obj) → Prop)
    (hh : A.handled = none) (hl : ∀ i m nw, J i m nw → (l, listOf vs.toArray nl) ∈ nw) (F : Fr h₀ env.locals s.heap m₀) (N : News h₀ env.locals s.heap news) (nd : (news.map (·.1)).Nodup) (hj : J 0 m₀ news)
    (turn : ∀ i v m₁ nw h tk I oI, vs[i]? = some v → J i m₁ nw → Fr h₀ env.locals h (fun y => if y = x then some v else m₁ y) → News h₀ env.locals h ((I, oI) :: nw) → (((I, oI) :: nw).map (·.1)).Nodup →
      wpAny (model prog w) A (execs body env) (TurnQ h₀ env.locals (J (i + 1)) [(I, oI)] { s with heap := h, toks := tk } Q) E { s with heap := h, toks := tk })
    (done : ∀ m₁ nw h tk, J vs.length m₁ nw → Fr h₀ env.locals h m₁ → News h₀ env.locals h nw → (nw.map (·.1)).Nodup → Q .next { s with heap := h, toks := tk }) :
    wpAny (model prog w) A (pyIter (.ref l)) (fun it s₂ => LoopAtV prog w A h₀ env x body Q E it s₂) E s := by
  have hm := hl 0 m₀ news hj
  have hls : s.heap.IsList l vs.toArray := ⟨_, (N _ hm).1, rfl, nl, rfl⟩
  have hne : l ≠ s.heap.objs.size := Nat.ne_of_lt (Heap.lt_size (N _ hm).1)
  refine wpAny_pyIter_list hls ?_
  have W := Walks.list (prog := prog) (w := w) hh s.heap.objs.size l hne vs.toArray
  refine loop_gen J W (next_is_new F) (Nat.ne_of_gt F.ns.lt) (fun i h st => by obtain ⟨o, e, _⟩ := st.1; exact ⟨o, e⟩) (List.mem_cons_self ..) (fun b hb => ?_) ⟨⟨_, Heap.get?_push_size _ rfl, rfl, rfl⟩, hls.at fun o e => Heap.get?_push_of_some _ e⟩ (F.push _)
    (fun p hp => ⟨Heap.get?_push_of_some _ (N p hp).1, (N p hp).2⟩) (led_size N nd) hj (fun i v m₁ nw h tk oI _ hP hJ F₁ N₁ nd₁ => turn i v m₁ nw h tk _ oI (by simpa using hP) hJ F₁ N₁ nd₁) (fun m₁ nw h tk hJ F₁ N₁ nd₁ => done m₁ nw h tk (by simpa using hJ) F₁ N₁ nd₁)
  rcases List.mem_cons.mp hb with e | hb
  · exact .inl e
  · exact .inr ⟨_, fun i m nw hJ => by rw [List.mem_singleton.mp hb]; exact hl i m nw hJ⟩

theorem loop_tuple {l : Addr} {vs : List Value} {nl : Nat} {m₀ : Str → Option Value} {news : List (Addr × Obj)} (J : Nat → (Str → Option Value) → List (Addr × Obj) → Prop)
    (hh : A.handled = none) (hl : ∀ i m nw, J i m nw → (l, ({ cls := .type "tuple", data := .seq vs.toArray nl } : Obj)) ∈ nw) (F : Fr h₀ env.locals s.heap m₀) (N : News h₀ env.locals s.heap news) (nd : (news.map (·.1)).Nodup) (hj : J 0 m₀ news)
    (turn : ∀ i v m₁ nw h tk I oI, vs[i]? = some v → J i m₁ nw → Fr h₀ env.locals h (fun y => if y = x then some v else m₁ y) → News h₀ env.locals h ((I, oI) :: nw) → (((I, oI) :: nw).map (·.1)).Nodup →
      wpAny (model prog w) A (execs body env) (TurnQ h₀ env.locals (J (i + 1)) [(I, oI)] { s with heap := h, toks := tk } Q) E { s with heap := h, toks := tk })
    (done : ∀ m₁ nw h tk, J vs.length m₁ nw → Fr h₀ env.locals h m₁ → News h₀ env.locals h nw → (nw.map (·.1)).Nodup → Q .next { s with heap := h, toks := tk }) :
    wpAny (model prog w) A (pyIter (.ref l)) (fun it s₂ => LoopAtV prog w A h₀ env x body Q E it s₂) E s := by
  have hm := hl 0 m₀ news hj
  have hls : s.heap.IsTuple l vs.toArray := ⟨_, (N _ hm).1, rfl, nl, rfl⟩
  have hne : l ≠ s.heap.objs.size := Nat.ne_of_lt (Heap.lt_size (N _ hm).1)
  refine wpAny_pyIter_tuple hls ?_
  have W := Walks.tuple (prog := prog) (w := w) hh s.heap.objs.size l hne vs.toArray
  refine loop_gen J W (next_is_new F) (Nat.ne_of_gt F.ns.lt) (fun i h st => by obtain ⟨o, e, _⟩ := st.1; exact ⟨o, e⟩) (List.mem_cons_self ..) (fun b hb => ?_) ⟨⟨_, Heap.get?_push_size _ rfl, rfl, rfl⟩, hls.at fun o e => Heap.get?_push_of_some _ e⟩ (F.push _)
    (fun p hp => ⟨Heap.get?_push_of_some _ (N p hp).1, (N p hp).2⟩) (led_size N nd) hj (fun i v m₁ nw h tk oI _ hP hJ F₁ N₁ nd₁ => turn i v m₁ nw h tk _ oI (by simpa using hP) hJ F₁ N₁ nd₁) (fun m₁ nw h tk hJ F₁ N₁ nd₁ => done m₁ nw h tk (by simpa using hJ) F₁ N₁ nd₁)
  rcases List.mem_cons.mp hb with e | hb
  · exact .inl e
  · exact .inr ⟨_, fun i m nw hJ => by rw [List.mem_singleton.mp hb]; exact hl i m nw hJ⟩

theorem loop_str {q : Str} {t : Tok} {m₀ : Str → Option Value} {news : List (Addr × Obj)} (J : Nat → (Str → Option Value) → List (Addr × Obj) → Prop)
    (hh : A.handled = none) (F : Fr h₀ env.locals s.heap m₀) (N : News h₀ env.locals s.heap news) (nd : (news.map (·.1)).Nodup) (hj : J 0 m₀ news)
    (turn : ∀ i c u m₁ nw h tk I oI, q.cps[i]? = some c → J i m₁ nw → Fr h₀ env.locals h (fun y => if y = x then some (.str ⟨#[c]⟩ u) else m₁ y) → News h₀ env.locals h ((I, oI) :: nw) → (((I, oI) :: nw).map (·.1)).Nodup →
      wpAny (model prog w) A (execs body env) (TurnQ h₀ env.locals (J (i + 1)) [(I, oI)] { s with heap := h, toks := tk } Q) E { s with heap := h, toks := tk })
    (done : ∀ m₁ nw h tk, J q.cps.size m₁ nw → Fr h₀ env.locals h m₁ → News h₀ env.locals h nw → (nw.map (·.1)).Nodup → Q .next { s with heap := h, toks := tk }) :
    wpAny (model prog w) A (pyIter (.str q t)) (fun it s₂ => LoopAtV prog w A h₀ env x body Q E it s₂) E s := by
  have base : ∀ (o : Obj) (St : Nat → Heap → Prop), o.isFreed = false → (∀ i h, St i h → ∃ o, h.get? s.heap.objs.size = some o) → Walks prog w A s.heap.objs.size [s.heap.objs.size] [s.heap.objs.size] q.cps.size (SignAt q) St → St 0 (s.heap.push o) →
      LoopAtV prog w A h₀ env x body Q E (.ref s.heap.objs.size) { s with heap := s.heap.push o } := by
    intro o St hfree hI W hst
    exact loop_gen J W (next_is_new F) (Nat.ne_of_gt F.ns.lt) hI (List.mem_cons_self ..) (fun b hb => .inl (List.mem_singleton.mp hb)) hst (F.push _) (fun p hp => ⟨Heap.get?_push_of_some _ (N p hp).1, (N p hp).2⟩) (led_size N nd) hj
      (fun i v m₁ nw h tk oI _ hP hJ F₁ N₁ nd₁ => by obtain ⟨c, u, hc, rfl⟩ := hP; exact turn i c u m₁ nw h tk _ oI hc hJ F₁ N₁ nd₁) (fun m₁ nw h tk hJ F₁ N₁ nd₁ => done m₁ nw h tk hJ F₁ N₁ nd₁)
  cases ha : q.cps.all (· < 128)
  · exact wpAny_pyIter_wide ha (base _ _ rfl (fun i h st => by obtain ⟨o, e, _⟩ := st; exact ⟨o, e⟩) (Walks.strWide hh _ q t) ⟨_, Heap.get?_push_size _ rfl, rfl, rfl⟩)
  · exact wpAny_pyIter_ascii ha (base _ _ rfl (fun i h st => by obtain ⟨o, e, _⟩ := st; exact ⟨o, e⟩) (Walks.strAscii hh _ q t) ⟨_, Heap.get?_push_size _ rfl, rfl, rfl⟩)

theorem loop_range {r : Addr} {b₀ : Int} {t₀ u₀ v₀ : Tok} {n : Nat} {m₀ : Str → Option Value} {news : List (Addr × Obj)} (J : Nat → (Str → Option Value) → List (Addr × Obj) → Prop)
    (hh : A.handled = none) (hr : IsRange s.heap r 0 b₀ 1 t₀ u₀ v₀) (hsmall : Builtin.Range.small 0 b₀ 1 = true) (hn : Builtin.Range.rangeSize 0 b₀ 1 = (n : Int)) (F : Fr h₀ env.locals s.heap m₀) (N : News h₀ env.locals s.heap news) (nd : (news.map (·.1)).Nodup) (hj : J 0 m₀ news)
    (turn : ∀ i t m₁ nw h tk I oI, i < n → J i m₁ nw → Fr h₀ env.locals h (fun y => if y = x then some (.int (i : Int) t) else m₁ y) → News h₀ env.locals h ((I, oI) :: nw) → (((I, oI) :: nw).map (·.1)).Nodup →
      wpAny (model prog w) A (execs body env) (TurnQ h₀ env.locals (J (i + 1)) [(I, oI)] { s with heap := h, toks := tk } Q) E { s with heap := h, toks := tk })
    (done : ∀ m₁ nw h tk, J n m₁ nw → Fr h₀ env.locals h m₁ → News h₀ env.locals h nw → (nw.map (·.1)).Nodup → Q .next { s with heap := h, toks := tk }) :
    wpAny (model prog w) A (pyIter (.ref r)) (fun it s₂ => LoopAtV prog w A h₀ env x body Q E it s₂) E s := by
  refine wpAny_pyIter_range hr hsmall ?_
  refine loop_gen J (Walks.range hh _ 0 1 n) (next_is_new F) (Nat.ne_of_gt F.ns.lt) (fun i h st => ⟨_, st⟩) (List.mem_cons_self ..) (fun b hb => .inl (List.mem_singleton.mp hb)) (by show IsRangeIter _ _ _ _ _; rw [hn]; simpa using Heap.get?_push_size _ rfl) (F.push _)
    (fun p hp => ⟨Heap.get?_push_of_some _ (N p hp).1, (N p hp).2⟩) (led_size N nd) hj (fun i v m₁ nw h tk oI hi hP hJ F₁ N₁ nd₁ => ?_) (fun m₁ nw h tk hJ F₁ N₁ nd₁ => done m₁ nw h tk hJ F₁ N₁ nd₁)
  obtain ⟨t, rfl⟩ := hP
  have e1 : (0 : Int) + (i : Int) * 1 = (i : Int) := by omega
  rw [e1] at F₁
  exact turn i t m₁ nw h tk _ oI hi hJ F₁ N₁ nd₁
end
def IterBy (l : Addr) (o : Obj) (vs : List Value) : Prop :=
  ∀ (prog : Program) (w : World) (A : Around) (E : Value → Shared → Prop) (s : Shared) (env : Env) (h₀ : Heap) (x : Str) (body : List Stmt) (Q : Flow → Shared → Prop) (m₀ : Str → Option Value) (news : List (Addr × Obj)) (J : Nat → (Str → Option Value) → List (Addr × Obj) → Prop),
    A.handled = none → (∀ i m nw, J i m nw → (l, o) ∈ nw) → Fr h₀ env.locals s.heap m₀ → News h₀ env.locals s.heap news → (news.map (·.1)).Nodup → J 0 m₀ news →
    (∀ i v m₁ nw h tk I oI, vs[i]? = some v → J i m₁ nw → Fr h₀ env.locals h (fun y => if y = x then some v else m₁ y) → News h₀ env.locals h ((I, oI) :: nw) → (((I, oI) :: nw).map (·.1)).Nodup →
      wpAny (model prog w) A (execs body env) (TurnQ h₀ env.locals (J (i + 1)) [(I, oI)] { s with heap := h, toks := tk } Q) E { s with heap := h, toks := tk }) →
    (∀ m₁ nw h tk, J vs.length m₁ nw → Fr h₀ env.locals h m₁ → News h₀ env.locals h nw → (nw.map (·.1)).Nodup → Q .next { s with heap := h, toks := tk }) →
    wpAny (model prog w) A (pyIter (.ref l)) (fun it s₂ => LoopAtV prog w A h₀ env x body Q E it s₂) E s
abbrev tupOf (its : Array Value) (n : Nat) : Obj := { cls := .type "tuple", data := .seq its n }
theorem iterBy_list (l : Addr) (vs : List Value) (n : Nat) : IterBy l (listOf vs.toArray n) vs := fun _ _ _ _ _ _ _ _ _ _ _ _ J hh hl F N nd hj turn done => loop_list J hh hl F N nd hj turn done
theorem iterBy_tuple (l : Addr) (vs : List Value) (n : Nat) : IterBy l (tupOf vs.toArray n) vs := fun _ _ _ _ _ _ _ _ _ _ _ _ J hh hl F N nd hj turn done => loop_tuple J hh hl F N nd hj turn done
theorem fr_known {h₀ h : Heap} {L : Addr} {x n : Str} {v c : Value} {m₁ : Str → Option Value} (F : Fr h₀ L h (fun y => if y = x then some v else m₁ y)) (hn : m₁ n = some c) :
    Fr h₀ L h (fun y => if y = x then some v else if y = n then some c else m₁ y) := by
  have e : (fun y => if y = x then some v else if y = n then some c else m₁ y) = fun y => if y = x then some v else m₁ y := by
    funext y
    by_cases h1 : y = x
    · simp [h1]
    · by_cases h2 : y = n
      · subst h2; simp [h1, hn]
      · simp [h1, h2]
  rw [e]; exact F
theorem fr_known0 {h₀ h : Heap} {L : Addr} {n : Str} {c : Value} {m₁ : Str → Option Value} (F : Fr h₀ L h m₁) (hn : m₁ n = some c) : Fr h₀ L h (fun y => if y = n then some c else m₁ y) := by
  have e : (fun y => if y = n then some c else m₁ y) = m₁ := by
    funext y
    by_cases h2 : y = n
    · subst h2; simp [hn]
    · simp [h2]
  rw [e]; exact F
theorem strs_at {vs : List Value} {ss : List Str} (h : StrsAre vs ss) : ∀ {i : Nat} {v : Value}, vs[i]? = some v → ∃ (q : Str) (t : Tok), ss[i]? = some q ∧ v = .str q t := by
  induction h with
  | nil => intro i v e; simp at e
  | cons y t _ ih =>
    intro i v e
    cases i with
    | zero => simp at e; exact ⟨y, t, by simp, e.symm⟩
    | succ i => simp at e; obtain ⟨q, t', h1, h2⟩ := ih e; exact ⟨q, t', by simpa using h1, h2⟩

theorem tone20 : True := by
  w_top off
  trivial
theorem getD_bnd {ns : List Int} (hb : ∀ x ∈ ns, 0 ≤ x ∧ x < 1000003) (i : Nat) : 0 ≤ ns.getD i 0 ∧ ns.getD i 0 < 1000003 := by
  rcases Nat.lt_or_ge i ns.length with h | h
  · have e : ns.getD i 0 = ns[i] := by simp [h]
    rw [e]; exact hb _ (List.getElem_mem h)
  · have e : ns.getD i 0 = 0 := by simp [h]
    rw [e]; omega

theorem next_ct {prog : Program} {w : World} {st nm : Addr} {vs : List Value} {ns : List Int} {at_ many : Int} {t t2 : Tok} {n n2 : Nat}
    (hi : IntsAre vs ns) (hl : 3 ≤ ns.length ∧ ns.length ≤ 27) (hb : ∀ x ∈ ns, 0 ≤ x ∧ x < 1000003) (ha : 0 ≤ at_ ∧ at_ ≤ 1000000) (hm : 0 < many ∧ many ≤ 100) :
    Ct prog w 900 9000 (.ref 213) [.ref st, .int many t2] [(st, listOf #[.ref nm, .int at_ t] n), (nm, listOf vs.toArray n2)]
      (fun v fp' => ∃ r t' t'' n', v = .int r t' ∧ 0 ≤ r ∧ r < many ∧ fp' = [(st, listOf #[.ref nm, .int (at_ + 1) t''] n'), (nm, listOf vs.toArray n2)]) := by
  refine Ct.of (by k_is) (by k_is) (by k_room) (fun s X => BindsTo.of_eq rfl) (locs rfl) ?_
  intro gd cn cs L a ccd cl outer base mg mb p loose mean s g L' h' nd F' N' B' X' T'
  (try dsimp only); k_fold
  have hne : @Ne Nat st nm := nodup_ne nd (List.mem_singleton.mpr rfl)
  have hq0 : 0 ≤ at_.fdiv ↑ns.length := Int.fdiv_nonneg ha.1 (by omega)
  have hq1 : at_.fdiv ↑ns.length ≤ 1000000 := by
    rw [Int.fdiv_eq_ediv_of_nonneg _ (by omega)]
    exact Int.le_trans (Int.ediv_le_self _ ha.1) ha.2
  have hg : 0 ≤ ns.getD (at_.fmod ↑ns.length).toNat 0 ∧ ns.getD (at_.fmod ↑ns.length).toNat 0 < 1000003 := getD_bnd hb _
  k_steps
  exact Back.intro [(st, listOf #[.ref nm, .int (at_ + 1) _] _), (nm, listOf vs.toArray n2)] (by assumption) (by assumption) (fun q hq => List.mem_cons_of_mem _ hq) nd ⟨_, _, _, _, rfl, Int.fmod_nonneg_of_pos _ hm.1, Int.fmod_lt_of_pos _ hm.1, rfl⟩

theorem tone22 : True := by
  w_top off
  trivial
/-! Sets of texts, told element by element (who is in it, once each; the table is led, and plain no more). -/
inductive EsAre (w : World) : List (Int × Value) → List Str → Prop
  | nil : EsAre w [] []
  | cons (k : Str) (t : Tok) {l ks} : EsAre w l ks → EsAre w ((hashStr w k, .str k t) :: l) (k :: ks)
theorem EsAre.length {w : World} {l : List (Int × Value)} {ks : List Str} (h : EsAre w l ks) : l.length = ks.length := by
  induction h with
  | nil => rfl
  | cons k t _ ih => simp [ih]
theorem EsAre.append {w : World} {l l' : List (Int × Value)} {ks ks' : List Str} (h : EsAre w l ks) (h' : EsAre w l' ks') : EsAre w (l ++ l') (ks ++ ks') := by
  induction h with
  | nil => exact h'
  | cons k t _ ih => exact .cons k t ih
theorem EsAre.perm {w : World} {l l' : List (Int × Value)} (p : l.Perm l') : ∀ {ks : List Str}, EsAre w l ks → ∃ ks', ks.Perm ks' ∧ EsAre w l' ks' := by
  induction p with
  | nil => intro ks h; exact ⟨ks, .refl _, h⟩
  | cons x _ ih =>
    intro ks h
    cases h with
    | cons k t h =>
      obtain ⟨ks', p', h'⟩ := ih h
      exact ⟨k :: ks', p'.cons k, .cons k t h'⟩
  | swap x y _ =>
    intro ks h
    cases h with
    | cons k t h => cases h with
      | cons k' t' h => exact ⟨_, .swap _ _ _, .cons _ _ (.cons _ _ h)⟩
  | trans _ _ ih1 ih2 =>
    intro ks h
    obtain ⟨k1, p1, h1⟩ := ih1 h
    obtain ⟨k2, p2, h2⟩ := ih2 h1
    exact ⟨k2, p1.trans p2, h2⟩
theorem EsAre.mem {w : World} {l : List (Int × Value)} {ks : List Str} (h : EsAre w l ks) : ∀ e ∈ l, ∃ k t, k ∈ ks ∧ e = (hashStr w k, .str k t) := by
  induction h with
  | nil => intro e he; cases he
  | cons k t _ ih =>
    intro e he
    rcases List.mem_cons.mp he with rfl | he
    · exact ⟨k, t, List.mem_cons_self .., rfl⟩
    · obtain ⟨k', t', hk, he'⟩ := ih e he
      exact ⟨k', t', List.mem_cons_of_mem _ hk, he'⟩
theorem EsAre.has {w : World} {l : List (Int × Value)} {ks : List Str} (h : EsAre w l ks) : ∀ k ∈ ks, ∃ t, (hashStr w k, Value.str k t) ∈ l := by
  induction h with
  | nil => intro e he; cases he
  | cons k t _ ih =>
    intro k' hk
    rcases List.mem_cons.mp hk with rfl | hk
    · exact ⟨t, List.mem_cons_self ..⟩
    · obtain ⟨t', he⟩ := ih k' hk
      exact ⟨t', List.mem_cons_of_mem _ he⟩
theorem EsAre.elems {prog : Program} {w : World} {l : List (Int × Value)} {ks : List Str} (h : EsAre w l ks) : ElemsOf (strKind prog w) l := fun e he => by
  obtain ⟨k, t, _, rfl⟩ := h.mem e he
  exact ⟨⟨k, strKind_is _ _ _ _, rfl⟩, rfl⟩
theorem EsAre.iff {prog : Program} {w : World} {l : List (Int × Value)} {ks : List Str} (h : EsAre w l ks) (q : Str) : (ks.contains q) = true ↔ ∃ e ∈ l, (strKind prog w).is q e.2 = true := by
  rw [List.contains_iff_mem]
  constructor
  · intro hq
    obtain ⟨t, ht⟩ := h.has q hq
    exact ⟨_, ht, strKind_is _ _ _ _⟩
  · rintro ⟨e, he, hq⟩
    obtain ⟨k, t, hk, rfl⟩ := h.mem e he
    have : q = k := (strKind prog w).inj _ _ _ hq (strKind_is _ _ _ _)
    rw [this]; exact hk
theorem EsAre.findIdx {prog : Program} {w : World} {l : List (Int × Value)} {ks : List Str} (h : EsAre w l ks) (q : Str) : l.findIdx? (fun e => (strKind prog w).is q e.2) = ks.findIdx? (fun k => decide (q = k)) := by
  induction h with
  | nil => rfl
  | cons k t _ ih =>
    rw [List.findIdx?_cons, List.findIdx?_cons, ih]
    rw [KeyKind.is_eq_decide (knd := strKind prog w) (k := k) (strKind_is _ _ _ _) q]
theorem EsAre.erase {w : World} {l : List (Int × Value)} {ks : List Str} (h : EsAre w l ks) : ∀ i, EsAre w (l.eraseIdx i) (ks.eraseIdx i) := by
  induction h with
  | nil => intro i; exact .nil
  | cons k t h ih =>
    intro i
    cases i with
    | zero => exact h
    | succ i => exact .cons k t (ih i)
theorem EsAre.strs {w : World} {l : List (Int × Value)} {ks : List Str} (h : EsAre w l ks) : StrsAre (l.map (·.2)) ks := by
  induction h with
  | nil => exact .nil
  | cons k t _ ih => exact .cons k t ih

def byTextW (w : World) : Bool := w.params.followText "set-order"
def StrSet (w : World) (o : Obj) (ks : List Str) : Prop :=
  o.ExactSet ∧ ∃ es ep t ks', o.data = .set es ep t ∧ t.fits es.size = true ∧ t.led = !byTextW w ∧ (es.size ≠ 0 → t.plain = false) ∧ EsAre w es.toList ks' ∧ ks'.Perm ks
theorem StrSet.obj {prog : Program} {w : World} {o : Obj} {ks : List Str} (h : StrSet w o ks) : o.SetObjOf (strKind prog w) (fun q => ks.contains q) ks.length := by
  obtain ⟨hex, es, ep, t, ks', hd, hf, _, _, he, hp⟩ := h
  refine ⟨hex, es, ep, t, hd, he.elems, fun q => ?_, ?_, hf⟩
  · rw [← he.iff q, List.contains_iff_mem, List.contains_iff_mem]
    exact hp.symm.mem_iff
  · have := he.length; rw [Array.length_toList] at this; rw [this, hp.length_eq]
theorem StrSet.perm {w : World} {o : Obj} {ks ks' : List Str} (h : StrSet w o ks) (p : ks.Perm ks') : StrSet w o ks' := by
  obtain ⟨hex, es, ep, t, k1, hd, hf, h1, h2, he, hp⟩ := h
  exact ⟨hex, es, ep, t, k1, hd, hf, h1, h2, he, hp.trans p⟩

theorem put_led (t : SetTable) (j : Nat) : (t.put j).1.led = t.led ∧ (t.put j).1.plain = t.plain := ⟨rfl, rfl⟩
theorem orStandIn_led (t : SetTable) (n : Nat) : (t.orStandIn n).led = t.led ∧ (t.plain = false → (t.orStandIn n).plain = false) := by
  unfold SetTable.orStandIn
  split
  · exact ⟨rfl, id⟩
  · exact ⟨rfl, fun _ => rfl⟩
theorem layNew_led (t : SetTable) (es : Array (Int × Value)) (h : Int) (x : Value) : (layNew t es h x).2.1.led = t.led ∧ (t.plain = false → (layNew t es h x).2.1.plain = false) := by
  unfold layNew
  split
  · exact orStandIn_led _ _
  · exact ⟨rfl, fun _ => rfl⟩
theorem laid_led {mask finger moves : Nat} {led plain : Bool} {hs : Array Int} {t' : SetTable} {order : Array Nat} (h : SetTable.laid mask finger moves led plain hs = some (t', order)) : t'.led = led ∧ t'.plain = plain ∧ t'.mask = mask := by
  unfold SetTable.laid at h
  cases ho : SetTable.layClean mask hs with
  | none => rw [ho] at h; cases h
  | some owner =>
    rw [ho] at h
    injection h with h
    injection h with h1 h2
    subst h1
    exact ⟨rfl, rfl, rfl⟩
theorem relayAll_led (t : SetTable) (es : Array (Int × Value)) (n : Nat) : (relayAll t es n).2.1.led = t.led ∧ (t.plain = false → (relayAll t es n).2.1.plain = false) := by
  unfold relayAll
  split
  · rename_i t' order h
    have hl := laid_led h
    dsimp only
    split
    · exact ⟨hl.1, fun hp => hl.2.1.trans hp⟩
    · exact ⟨rfl, fun _ => rfl⟩
  · exact ⟨rfl, fun _ => rfl⟩

section
variable {prog : Program} {w : World} {A : Around} {E : Value → Shared → Prop} {s : Shared}

/-- a set's storing: the object behind it -/
theorem storeSet_set {a : Addr} {o : Obj} {es es' : Array (Int × Value)} {ep : Nat} {t t' : SetTable} {Q : Unit → Shared → Prop} (ho : s.heap.get? a = some o) (hex : o.ExactSet) (hd : o.data = .set es ep t) (hb : es'.size < scanBound)
    (h : ∀ h' o', Heap.SameBut a s.heap h' → h'.get? a = some o' → o'.ExactSet → o'.data = .set es' (ep + 1) t' → Q () { s with heap := h' }) : wpAny (model prog w) A (storeSet a es' t') Q E s := by
  refine wpAny_storeSet_of ho hd ?_ (fits_of_scanBound hb)
  have hg : (s.heap.update a (Obj.putSet es' t')).get? a = some { o with data := .set es' (ep + 1) t' } := by
    have := Heap.get?_update_self (Obj.putSet es' t') ho (by rw [putSet_of es' t' hd]; rfl)
    rw [putSet_of es' t' hd] at this; exact this
  exact h _ _ (Heap.SameBut.update s.heap a (Obj.putSet es' t')) hg hex rfl

theorem setAddHashed_strs {a : Addr} {o : Obj} {ks : List Str} {k : Str} {t : Tok} {Q : Bool → Shared → Prop} (ho : s.heap.get? a = some o) (hS : StrSet w o ks) (hroom : ks.length + 1 < scanBound)
    (h : ∀ h' o', Heap.SameBut a s.heap h' → h'.get? a = some o' → StrSet w o' (if ks.contains k then ks else ks ++ [k]) → Q (!ks.contains k) { s with heap := h' }) :
    wpAny (model prog w) A (setAddHashed a (.str k t) (hashStr w k)) Q E s := by
  obtain ⟨hex, es, ep, tb, ks', hd, hf, hled, hpl, he, hp⟩ := hS
  have hsz : es.size = ks.length := by have := he.length; rw [Array.length_toList] at this; rw [this, hp.length_eq]
  have hb1 : es.size + 1 < scanBound := by rw [hsz]; exact hroom
  have hkey : (strKind prog w).is k (.str k t) = true := strKind_is _ _ _ _
  unfold setAddHashed setAddHashedIn
  refine wpAny_holding (wpAny_bind (wpAny_setState_of ho hd hf ?_))
  dsimp only
  rw [byScan_of (knd := strKind prog w) rfl (by omega) he.elems]
  simp only [↓reduceIte]
  unfold setAddByScan
  refine wpAny_bind ?_
  refine wpAny_bind (wpAny_rule ?_)
  refine wpAny_bind (wpAny_setScan_of (knd := strKind prog w) hkey ho hd hf he.elems ?_)
  cases hr : List.findIdx? (fun e => (strKind prog w).is k e.2) es.toList with
  | some j =>
    dsimp only
    obtain ⟨hj, hpj, _⟩ := List.findIdx?_eq_some_iff_getElem.mp hr
    have hc : ks.contains k = true := by
      rw [List.contains_iff_mem, ← hp.mem_iff, ← List.contains_iff_mem]
      exact (he.iff (prog := prog) k).mpr ⟨_, List.getElem_mem hj, hpj⟩
    refine wpAny_pure (wpAny_pure ?_)
    have := h s.heap o (Heap.SameBut.refl a s.heap) ho ⟨hex, es, ep, tb, ks', hd, hf, hled, hpl, he, by rw [if_pos hc]; exact hp⟩
    rw [hc] at this
    exact this
  | none =>
    dsimp only
    have hc : ks.contains k = false := by
      cases hc : ks.contains k with
      | false => rfl
      | true =>
        rw [List.contains_iff_mem, ← hp.mem_iff, ← List.contains_iff_mem] at hc
        obtain ⟨e, hm, hi⟩ := (he.iff (prog := prog) k).mp hc
        have := List.findIdx?_eq_none_iff.mp hr e hm
        rw [hi] at this; cases this
    have hgw : ∀ (b : Bool) {s₁ : Shared} {Q' : Unit → Shared → Prop}, Q' () s₁ → wpAny (model prog w) A (match b with | true => rule "set.scan.the-table-gave-way" | false => pure ()) Q' E s₁ :=
      fun b s₁ Q' hq => by cases b <;> first | exact wpAny_pure hq | exact wpAny_rule hq
    have hperm := layNew_perm tb es (hashStr w k) (.str k t)
    have hfits := layNew_fits tb es (hashStr w k) (.str k t)
    have hl1 := layNew_led tb es (hashStr w k) (.str k t)
    show wpAny (model prog w) A _ _ _ _
    have hhash : (strKind prog w).hash k = hashStr w k := rfl
    try rw [hhash]
    generalize hL : layNew tb es (hashStr w k) (.str k t) = L at hperm hfits hl1 ⊢
    obtain ⟨es1, t1, wasDummy, gave⟩ := L
    dsimp only at hperm hfits hl1 ⊢
    rw [Array.toList_push] at hperm
    have hsz1 : es1.size = ks.length + 1 := by rw [← Array.length_toList, hperm.length_eq, List.length_append, Array.length_toList, hsz]; rfl
    obtain ⟨k1, hp1, he1⟩ := EsAre.perm hperm.symm (he.append (.cons k t .nil))
    have hpk : k1.Perm (if ks.contains k = true then ks else ks ++ [k]) := by
      rw [if_neg (by rw [hc]; exact Bool.false_ne_true)]
      exact hp1.symm.trans (hp.append_right [k])
    refine wpAny_bind (hgw _ ?_)
    have hend : ∀ (t2 : SetTable), t2.fits es1.size = true → t2.led = tb.led → t2.plain = false →
        wpAny (model prog w) A (do
          storeSet a es1 t2
          if (!wasDummy && t2.tooFull) = true then do
              (match (relayAll t2 es1 (SetTable.grown es1.size)).2.2 with | true => rule "set.scan.the-table-gave-way" | false => pure ())
              storeSet a (relayAll t2 es1 (SetTable.grown es1.size)).1 (relayAll t2 es1 (SetTable.grown es1.size)).2.1
              pure (some true)
            else pure (some true)) (fun r s' => r = some true ∧ Q true s') E s := by
      intro t2 hf2 hled2 hpl2
      refine wpAny_bind (storeSet_set ho hex hd (by omega) fun h1 o1 hs1 ho1 hex1 hd1 => ?_)
      split
      · have hp2 := relayAll_perm t2 es1 (SetTable.grown es1.size)
        have hf3 := relayAll_fits t2 es1 (SetTable.grown es1.size)
        have hl3 := relayAll_led t2 es1 (SetTable.grown es1.size)
        generalize relayAll t2 es1 (SetTable.grown es1.size) = Rl at hp2 hf3 hl3 ⊢
        obtain ⟨es2, t3, gave2⟩ := Rl
        dsimp only at hp2 hf3 hl3 ⊢
        obtain ⟨k2, hpk2, he2⟩ := EsAre.perm hp2.symm he1
        have hsz2 : es2.size = es1.size := by rw [← Array.length_toList, hp2.length_eq, Array.length_toList]
        refine wpAny_bind (hgw _ ?_)
        refine wpAny_bind (storeSet_set (s := { s with heap := h1 }) ho1 hex1 hd1 (by omega) fun h2 o2 hs2 ho2 hex2 hd2 => ?_)
        have := h h2 o2 (hs1.trans hs2) ho2 ⟨hex2, es2, _, t3, k2, hd2, hf3, by rw [hl3.1, hled2, hled], fun _ => hl3.2 hpl2, he2, hpk2.symm.trans hpk⟩
        rw [hc] at this
        exact wpAny_pure ⟨rfl, this⟩
      · have := h h1 o1 hs1 ho1 ⟨hex1, es1, _, t2, k1, hd1, hf2, by rw [hled2, hled], fun _ => hpl2, he1, hpk⟩
        rw [hc] at this
        exact wpAny_pure ⟨rfl, this⟩
    have fin : ∀ {r : Option Bool} {s' : Shared}, (r = some true ∧ Q true s') → wpAny (model prog w) A (match r with | some added => pure added | none => setAddHashedIn a (.str k t) (hashStr w k) 99999) Q E s' := by
      rintro r s' ⟨rfl, hq⟩
      exact wpAny_pure hq
    cases hpb : t1.plain with
    | true =>
      rw [if_pos rfl]
      refine wpAny_bind ?_
      rw [hashByValue_scannable 8 rfl]
      refine wpAny_pure ?_
      refine wpAny_mono (hend _ (by exact SetTable.fits_plain_off hfits) (by exact hl1.1) rfl) (fun r s' hr => ?_) fun _ _ e => e
      exact fin hr
    | false =>
      rw [if_neg Bool.false_ne_true]
      refine wpAny_bind (wpAny_pure ?_)
      simp only [↓reduceIte]
      refine wpAny_mono (hend _ hfits hl1.1 hpb) (fun r s' hr => ?_) fun _ _ e => e
      exact fin hr

theorem setAdd_strs {a : Addr} {o : Obj} {ks : List Str} {k : Str} {t : Tok} {Q : Bool → Shared → Prop} (ho : s.heap.get? a = some o) (hS : StrSet w o ks) (hroom : ks.length + 1 < scanBound)
    (h : ∀ h' o', Heap.SameBut a s.heap h' → h'.get? a = some o' → StrSet w o' (if ks.contains k then ks else ks ++ [k]) → Q (!ks.contains k) { s with heap := h', toks := s.toks + 1 }) :
    wpAny (model prog w) A (setAdd a (.str k t)) Q E s := by
  unfold setAdd
  refine wpAny_holding (wpAny_bind ((strKind prog w).pyHash (k := k) (strKind_is _ _ _ _) ?_))
  exact setAddHashed_strs (s := { s with toks := s.toks + 1 }) ho hS hroom h

theorem StrSet.typeIs {a : Addr} {o : Obj} {ks : List Str} (hS : StrSet w o ks) (ho : s.heap.get? a = some o) : s.TypeIs (.ref a) "set" := ⟨o, ho, hS.1.1⟩

theorem call_sadd {h₀ : Heap} {L sa : Addr} {m : Str → Option Value} {news : List (Addr × Obj)} {g : Obj → List (Addr × Obj)} {so : Obj} {ks : List Str} {k : Str} {t : Tok} {Q : Value → Shared → Prop}
    (F : Fr h₀ L s.heap m) (N : News h₀ L s.heap news) (U : UpdF sa so news g) (hS : StrSet w so ks) (hb : ks.length + 1 < scanBound)
    (h : ∀ h' so', Fr h₀ L h' m → News h₀ L h' (g so') → StrSet w so' (if ks.contains k then ks else ks ++ [k]) → Q .none { s with heap := h', toks := s.toks + 1 }) :
    wpAny (model prog w) A (call (.builtin "set.add") [.ref sa, .str k t]) Q E s := by
  obtain ⟨pre, post, rfl, hg, a, b⟩ := U.split
  have hm := N (sa, so) (List.mem_append_right _ (.head _))
  refine wpAny_call_entry PySem.F.slot_set_add (hS.typeIs hm.1) PySem.F.entry_set_add ?_ (PySem.F.args_set_add_2 _ _)
  unfold Builtin.«set.add» Builtin.Frozenset.oneOther
  simp only [List.isEmpty_nil, bind_assoc]
  unfold Builtin.Frozenset.addrOf
  refine wpAny_bind (wpAny_pure ?_)
  try dsimp only
  refine wpAny_bind (wpAny_pure ?_)
  try dsimp only
  refine wpAny_bind ?_
  refine setAdd_strs hm.1 hS hb fun h' so' hsb ho' hS' => ?_
  show wpAny _ _ (ret Value.none) _ _ _
  exact wpAny_pure ⟨_, rfl, h h' so' (F.change hsb hm.2.1 hm.2.2) (hg so' ▸ N.setIn a b hsb ho') hS'⟩

theorem eraseAt_list {α : Type} (xs : Array α) (i : Nat) : (SetTable.eraseAt xs i).toList = xs.toList.eraseIdx i := by
  unfold SetTable.eraseAt
  rw [List.eraseIdx_eq_take_drop_succ]
  simp [List.extract_eq_take_drop, List.take_of_length_le]
theorem eraseAt_size {α : Type} {xs : Array α} {i : Nat} (h : i < xs.size) : (SetTable.eraseAt xs i).size + 1 = xs.size := by
  rw [← Array.length_toList, eraseAt_list, List.length_eraseIdx_of_lt (by simpa using h), Array.length_toList]; omega
theorem insertAt_size {α : Type} (xs : Array α) (p : Nat) (x : α) : (SetTable.insertAt xs p x).size = xs.size + 1 := by
  rw [← Array.length_toList, (SetTable.insertAt_perm xs p x).length_eq, Array.length_toList, Array.size_push]
theorem drop_fits {t : SetTable} {n i : Nat} (h : t.fits n = true) (hi : i < n) : (t.drop i).fits (n - 1) = true ∧ (t.drop i).led = t.led ∧ (t.drop i).plain = t.plain := by
  have h' := h
  simp only [SetTable.fits, Bool.and_eq_true, beq_iff_eq, decide_eq_true_eq] at h'
  have hp : i < t.place.size := by rw [h'.1]; exact hi
  unfold SetTable.drop
  rw [Array.getElem?_eq_getElem hp]
  refine ⟨?_, rfl, rfl⟩
  simp only [SetTable.fits, SetTable.fill, Bool.and_eq_true, beq_iff_eq, decide_eq_true_eq, Array.size_map]
  have e1 := eraseAt_size hp
  have e2 := insertAt_size t.dummies (SetTable.below t.dummies t.place[i]) t.place[i]
  have e3 := h'.2
  simp only [SetTable.fill] at e3
  exact ⟨by omega, by refine decide_eq_true ?_; show (SetTable.eraseAt t.place i).size + (SetTable.insertAt t.dummies (SetTable.below t.dummies t.place[i]) t.place[i]).size ≤ t.mask; omega⟩

theorem findIdx_key {ks : List Str} {q : Str} {j : Nat} (h : ks.findIdx? (fun k => decide (q = k)) = some j) : j < ks.length ∧ ks[j]? = some q := by
  obtain ⟨hj, hp, _⟩ := List.findIdx?_eq_some_iff_getElem.mp h
  have : q = ks[j] := by simpa using hp
  exact ⟨hj, by rw [List.getElem?_eq_getElem hj, ← this]⟩
theorem eraseIdx_perm {α : Type} : ∀ {l : List α} {j : Nat} (h : j < l.length), (l[j] :: l.eraseIdx j).Perm l
  | a :: l, 0, _ => .refl _
  | a :: l, j + 1, h => (List.Perm.swap a (l[j]'(Nat.lt_of_succ_lt_succ h)) (l.eraseIdx j)).trans ((eraseIdx_perm (l := l) (j := j) (Nat.lt_of_succ_lt_succ h)).cons a)
theorem perm_eraseIdx {ks' ks : List Str} {q : Str} {j : Nat} (hj : j < ks'.length) (hq : ks'[j]? = some q) (p : ks'.Perm ks) : (ks'.eraseIdx j).Perm (ks.erase q) := by
  have e : ks'[j] = q := by rw [List.getElem?_eq_getElem hj] at hq; exact Option.some.inj hq
  have p1 : (q :: ks'.eraseIdx j).Perm ks' := by
    have := eraseIdx_perm hj
    rw [e] at this
    exact this
  have hmem : q ∈ ks := p.mem_iff.mp (List.mem_of_getElem? hq)
  have p2 := List.perm_cons_erase hmem
  exact List.Perm.cons_inv ((p1.trans p).trans p2)

theorem call_sremove {h₀ : Heap} {L sa : Addr} {m : Str → Option Value} {news : List (Addr × Obj)} {g : Obj → List (Addr × Obj)} {so : Obj} {ks : List Str} {k : Str} {t : Tok} {Q : Value → Shared → Prop}
    (F : Fr h₀ L s.heap m) (N : News h₀ L s.heap news) (U : UpdF sa so news g) (hS : StrSet w so ks) (hb : ks.length < scanBound) (hk : ks.contains k = true)
    (h : ∀ h' so' tk', Fr h₀ L h' m → News h₀ L h' (g so') → StrSet w so' (ks.erase k) → Q .none { s with heap := h', toks := tk' }) :
    wpAny (model prog w) A (call (.builtin "set.remove") [.ref sa, .str k t]) Q E s := by
  obtain ⟨pre, post, rfl, hg, a, b⟩ := U.split
  have hm := N (sa, so) (List.mem_append_right _ (.head _))
  refine wpAny_call_entry PySem.F.slot_set_remove (hS.typeIs hm.1) PySem.F.entry_set_remove ?_ (PySem.F.args_set_remove_2 _ _)
  obtain ⟨hex, es, ep, tb, ks', hd, hf, hled, hpl, he, hp⟩ := hS
  have hsz : es.size = ks.length := by have := he.length; rw [Array.length_toList] at this; rw [this, hp.length_eq]
  have hkey : (strKind prog w).is k (.str k t) = true := strKind_is _ _ _ _
  unfold Builtin.«set.remove» Builtin.Frozenset.oneOther
  simp only [List.isEmpty_nil, bind_assoc]
  unfold Builtin.Frozenset.addrOf Builtin.Frozenset.withSetAsKey setDiscard
  refine wpAny_bind (wpAny_pure ?_)
  try dsimp only
  refine wpAny_bind (wpAny_pure ?_)
  try dsimp only
  refine wpAny_bind (wpAny_tryCatch ?_)
  refine wpAny_holding ?_
  refine wpAny_bind ((strKind prog w).pyHash hkey ?_)
  unfold setDiscardHashed setFind setFindIn
  refine wpAny_bind ?_
  refine wpAny_bind (wpAny_setState_of (s := { s with toks := s.toks + 1 }) hm.1 hd hf ?_)
  dsimp only
  rw [byScan_of (knd := strKind prog w) rfl (by omega) he.elems]
  simp only [↓reduceIte]
  refine wpAny_bind (wpAny_rule ?_)
  refine wpAny_bind (wpAny_setScan_of (s := { s with toks := s.toks + 1 }) (knd := strKind prog w) hkey hm.1 hd hf he.elems ?_)
  rw [he.findIdx k]
  obtain ⟨j, hj⟩ : ∃ j, ks'.findIdx? (fun x => decide (k = x)) = some j := by
    cases hq : ks'.findIdx? (fun x => decide (k = x)) with
    | some j => exact ⟨j, rfl⟩
    | none =>
      rw [List.contains_iff_mem, ← hp.mem_iff] at hk
      have := List.findIdx?_eq_none_iff.mp hq k hk
      simp at this
  rw [hj]
  obtain ⟨hjl, hjk⟩ := findIdx_key hj
  dsimp only
  simp only [Nat.zero_add]
  refine wpAny_pure ?_
  refine wpAny_bind (wpAny_setState_of (s := { s with toks := s.toks + 1 }) hm.1 hd hf ?_)
  dsimp only
  have hjs : j < es.size := by have := he.length; rw [Array.length_toList] at this; rw [this]; exact hjl
  have hes := eraseAt_size hjs
  have hdf := drop_fits hf hjs
  refine wpAny_bind (storeSet_set (s := { s with toks := s.toks + 1 }) hm.1 hex hd (by omega) fun h' o' hsb ho' hex' hd' => ?_)
  refine wpAny_bind (wpAny_point (wpAny_pure ?_))
  show wpAny _ _ (ret Value.none) _ _ _
  refine wpAny_pure ⟨_, rfl, h h' o' _ (F.change hsb hm.2.1 hm.2.2) (hg o' ▸ N.setIn a b hsb ho') ⟨hex', _, _, _, ks'.eraseIdx j, hd', ?_, ?_, fun _ => ?_, ?_, perm_eraseIdx hjl hjk hp⟩⟩
  · rw [show (SetTable.eraseAt es j).size = es.size - 1 by omega]; exact hdf.1
  · exact hdf.2.1.trans hled
  · exact hdf.2.2.trans (hpl (by omega))
  · rw [eraseAt_list]; exact he.erase j
theorem getMethod_srem {h₀ : Heap} {L sa : Addr} {news : List (Addr × Obj)} {g : Obj → List (Addr × Obj)} {so : Obj} {ks : List Str} {pl : Sem Bool} {Q : Value × List Value → Shared → Prop}
    (N : News h₀ L s.heap news) (U : UpdF sa so news g) (hS : StrSet w so ks) (h : Q (.builtin "set.remove", [.ref sa]) s) : wpAny (model prog w) A (getMethod (.ref sa) "remove" pl) Q E s := by
  obtain ⟨pre, post, rfl, hg, a, b⟩ := U.split
  have hm := N (sa, so) (List.mem_append_right _ (.head _))
  have hex := hS.1
  exact getMethod_builtin (hS.typeIs hm.1) PySem.F.plainAttrs_set PySem.F.slot_set_remove PySem.F.type_set_remove (fun b e => by injection e with e; subst e; exact ⟨so, hm.1, hex.2.1⟩) h
end

local macro_rules | `(tactic| walk_at "call builtin:set.add") => `(tactic| (k_here; (with_reducible show wpAny _ _ (call (Value.builtin "set.add") [Value.ref _, Value.str _ _]) _ _ _); k_dflt (refine' call_sadd ?F ?N ?U ?d ?z ?_; (case F => k_asm); (case N => k_asm); (case U => k_updF); (case d => k_asm); (case z => (simp only [List.length_map]; kse_small))); intro h' o' F' N' hs'; (try dsimp only at N')))
local macro_rules | `(tactic| walk_at "call builtin:set.remove") => `(tactic| (k_here; (with_reducible show wpAny _ _ (call (Value.builtin "set.remove") [Value.ref _, Value.str _ _]) _ _ _); k_dflt (refine' call_sremove ?F ?N ?U ?d ?z ?k ?_; (case F => k_asm); (case N => k_asm); (case U => k_updF); (case d => k_asm); (case z => (simp only [List.length_map]; kse_small)); (case k => first | assumption | exact lowS_mem ‹_›)); intro h' o' tk' F' N' hs'; (try dsimp only at N')))
local macro_rules | `(tactic| walk_at "getMethod ref") => `(tactic| (k_here; (with_reducible show wpAny _ _ (getMethod (Value.ref _) (Str.ofString "remove") _) _ _ _); k_dflt (refine' getMethod_srem ?N ?U ?d ?_; (case N => k_asm); (case U => k_updF); (case d => k_asm))))
theorem tone24 : True := by
  w_top off
  trivial
/-! Comprehensions (list or set): an invariant over the turn's number, the values made and the ledger. -/
def ItOk (prog : Program) (w : World) (A : Around) (I : Addr) (src : List (Addr × Obj)) (n : Nat) (P : Nat → Value → Prop) (h : Heap) : Prop :=
  ∃ fp St, Walks prog w A I fp [I] n P St ∧ (∀ i h, St i h → ∃ o, h.get? I = some o) ∧ I ∈ fp ∧ (∀ b ∈ fp, b = I ∨ ∃ o, (b, o) ∈ src) ∧ St 0 h
def CEnd (h₀ : Heap) (L : Addr) (m : Str → Option Value) (keep : List (Addr × Obj)) (s₁ : Shared) (Jn : List (Addr × Obj) → Prop) (s₂ : Shared) : Prop :=
  ∃ h' tk nw', s₂ = { s₁ with heap := h', toks := tk } ∧ Fr h₀ L h' m ∧ News h₀ L h' (keep ++ nw') ∧ ((keep ++ nw').map (·.1)).Nodup ∧ Jn nw'
theorem CEnd.intro {h₀ : Heap} {L : Addr} {m : Str → Option Value} {keep : List (Addr × Obj)} {s₁ : Shared} {Jn : List (Addr × Obj) → Prop} {h' : Heap} {tk : Nat} {nw : List (Addr × Obj)} (nw' : List (Addr × Obj))
    (F' : Fr h₀ L h' m) (N' : News h₀ L h' nw) (sub : ∀ p ∈ keep ++ nw', p ∈ nw) (nd : ((keep ++ nw').map (·.1)).Nodup) (j : Jn nw') : CEnd h₀ L m keep s₁ Jn { s₁ with heap := h', toks := tk } :=
  ⟨h', tk, nw', rfl, F', fun p hp => N' p (sub p hp), nd, j⟩

def CompAt (prog : Program) (w : World) (A : Around) (h₀ : Heap) (L : Addr) (m : Str → Option Value) (env : Env) (elt : Expr) (x : Str) (ifs : List Expr) (scope : Scope) (cl : List (Str × Addr)) (AccP : List Value → Obj → Prop) (Ok : List Value → Value → Prop)
    (Fin : Shared → List Value → List (Addr × Obj) → Prop) (it : Value) (s : Shared) : Prop :=
  ∃ I src n P news, ∃ J : Nat → List Value → List (Addr × Obj) → Prop, it = .ref I ∧ ItOk prog w A I src n P s.heap ∧ n ≤ 10000 ∧ (∀ i ys nw, J i ys nw → ∀ p ∈ src, p ∈ nw) ∧ Fr h₀ L s.heap m ∧ News h₀ L s.heap news ∧ I ≠ L ∧ h₀.get? I = none ∧ (I :: news.map (·.1)).Nodup ∧ J 0 [] news ∧
    (∀ i v ys I oI C oC D oD m₂ nw h tk (E' : Value → Shared → Prop), i < n → P i v → J i ys nw → AccP ys oD → ys.length ≤ i → LCg.NsObj oC m₂ → m₂ x = some v → Fr h₀ L h m → News h₀ L h ((I, oI) :: (C, oC) :: (D, oD) :: nw) → (((I, oI) :: (C, oC) :: (D, oD) :: nw).map (·.1)).Nodup →
      wpAny (model prog w) A (forIn ifs true fun c r => if r = true then do let ok ← isTrue c (compEnvC scope cl C env) (eval c (compEnvC scope cl C env)); pure (ForInStep.yield ok) else pure (ForInStep.yield r))
        (fun ok s₃ => if ok = true then wpAny (model prog w) A (eval elt (compEnvC scope cl C env)) (fun y s₄ => CEnd h₀ L m [(I, oI), (C, oC), (D, oD)] { s with heap := h, toks := tk } (fun nw' => Ok ys y ∧ J (i + 1) (ys ++ [y]) nw') s₄) E' s₃
          else CEnd h₀ L m [(I, oI), (C, oC), (D, oD)] { s with heap := h, toks := tk } (J (i + 1) ys) s₃) E' { s with heap := h, toks := tk }) ∧
    (∀ ys nw, J n ys nw → (nw.map (·.1)).Nodup → Fin s ys nw)

def FinGE (h₀ : Heap) (L : Addr) (m : Str → Option Value) (AccP : List Value → Obj → Prop) (Q : Value → Shared → Prop) (s : Shared) (ys : List Value) (nw : List (Addr × Obj)) : Prop :=
  ∀ D oD h tk, AccP ys oD → Fr h₀ L h m → News h₀ L h ((D, oD) :: nw) → (((D, oD) :: nw).map (·.1)).Nodup → Q (.ref D) { s with heap := h, toks := tk }
def FinGA (h₀ : Heap) (L : Addr) (m : Str → Option Value) (y : Str) (AccP : List Value → Obj → Prop) (Q : Flow → Shared → Prop) (s : Shared) (ys : List Value) (nw : List (Addr × Obj)) : Prop :=
  ∀ D oD h tk, AccP ys oD → Fr h₀ L h (fun z => if z = y then some (.ref D) else m z) → News h₀ L h ((D, oD) :: nw) → (((D, oD) :: nw).map (·.1)).Nodup → Q .next { s with heap := h, toks := tk }

def LoopRule (prog : Program) (w : World) (A : Around) (e elt : Expr) (x : Str) (px : Pos) (ifs : List Expr) (nm : String) : Prop :=
  ∀ (it : Value) (D : Addr) (env : Env) (R : Result → Shared → Prop) (s : Shared) (Inv : Nat → Shared → Prop) (n : Nat),
    (∀ n s, Inv n s → wpAny (model prog w) A (pyNext it) (fun r s₁ => match r with
      | none => R (.ok .next) s₁
      | some v => wpAny (model prog w) A (assign (.Name x px) env v) (fun _ s₂ =>
          wpAny (model prog w) A (forIn ifs true fun c r => if r = true then do let ok ← isTrue c env (eval c env); pure (ForInStep.yield ok) else pure (ForInStep.yield r)) (fun ok s₃ =>
            if ok = true then wpAny (model prog w) A (eval elt env) (fun y s₄ =>
              wpAny (model prog w) A (call (.builtin nm) [.ref D, y]) (fun _ s₅ => ∃ m, m < n ∧ Inv m s₅) (notedBy (model prog w) A env fun e s' => R (.error e) s') s₄) (notedBy (model prog w) A env fun e s' => R (.error e) s') s₃
            else ∃ m, m < n ∧ Inv m s₃) (notedBy (model prog w) A env fun e s' => R (.error e) s') s₂) (notedBy (model prog w) A env fun e s' => R (.error e) s') s₁) (notedBy (model prog w) A env fun e s' => R (.error e) s') s) →
    Inv n s → codeAny (model prog w) A (.compLoop e 0 it (.ref D) env) R s
def StartRule (prog : Program) (w : World) (A : Around) (e : Expr) : Prop :=
  ∀ (it : Value) (acc : Value) (env : Env) (R : Result → Shared → Prop) (s : Shared), codeAny (model prog w) A (.compLoop e 0 it acc env) R s →
    wpAny (model prog w) A (pyIter it) (fun it' s' => codeAny (model prog w) A (.compLoop e 0 it' acc env) R s') (notedBy (model prog w) A env fun x s' => R (.error x) s') s →
    codeAny (model prog w) A (.compStart e 0 it acc env) R s
def NewRule (prog : Program) (w : World) (A : Around) (newAcc : Sem Value) (AccP : List Value → Obj → Prop) : Prop :=
  ∀ (s : Shared) (Q : Value → Shared → Prop) (E : Value → Shared → Prop), (∀ o, o.isFreed = false → AccP [] o → Q (.ref s.heap.objs.size) { s with heap := s.heap.push o }) → wpAny (model prog w) A newAcc Q E s
def EmitRule (prog : Program) (w : World) (A : Around) (nm : String) (AccP : List Value → Obj → Prop) (Ok : List Value → Value → Prop) : Prop :=
  ∀ (ys : List Value) (y : Value) (oD : Obj) (D : Addr) (s : Shared) (Q : Value → Shared → Prop) (E : Value → Shared → Prop), AccP ys oD → Ok ys y → ys.length ≤ 10000 → s.heap.get? D = some oD →
    (∀ h' o' tk, Heap.SameBut D s.heap h' → h'.get? D = some o' → AccP (ys ++ [y]) o' → Q .none { s with heap := h', toks := tk }) → wpAny (model prog w) A (call (.builtin nm) [.ref D, y]) Q E s

section
variable {prog : Program} {w : World} {A : Around} {E : Value → Shared → Prop} {s : Shared} {h₀ : Heap} {L : Addr} {m : Str → Option Value} {env : Env}
theorem cblock {e elt : Expr} {x : Str} {px : Pos} {ifs : List Expr} {scope : Scope} {cl : List (Str × Addr)} {nm : String} {newAcc : Sem Value} {AccP : List Value → Obj → Prop} {Ok : List Value → Value → Prop} {Fin : Shared → List Value → List (Addr × Obj) → Prop} {it : Value} {s₂ : Shared} {RR : Value → Addr → Result → Shared → Prop}
    (hloop : LoopRule prog w A e elt x px ifs nm) (hstart : StartRule prog w A e) (hnew : NewRule prog w A newAcc AccP) (hemit : EmitRule prog w A nm AccP Ok)
    (hcell : ∀ y ∈ scope.names, y.2 ≠ .cell) (hkind : scope.kind = .function) (hx : scope.names.lookup x = some .local)
    (H : CompAt prog w A h₀ L m env elt x ifs scope cl AccP Ok Fin it s₂)
    (hRR : ∀ D oD C h tk m' ys nw, AccP ys oD → Fr h₀ L h m → News h₀ L h ((D, oD) :: nw) → (((D, oD) :: nw).map (·.1)).Nodup → h.Ns C m' → h₀.get? C = none → h₀.get? D = none → C ≠ L → D ≠ L → C ≠ D → (∀ p ∈ nw, p.1 ≠ C) → Fin s₂ ys nw → RR (.ref D) C (.ok .next) { s₂ with heap := h, toks := tk }) :
    wpAny (model prog w) A newAcc (fun acc s₃ => wpAny (model prog w) A (newFunctionEnv scope env.globals cl [] env.qual none .none (some env)) (fun cenv s₄ =>
      codeAny (model prog w) A (.compStart e 0 it acc { cenv with scope := relabel scope env }) (RR acc cenv.locals) s₄) E s₃) E s₂ := by
  obtain ⟨I, src, n, P, news, J, rfl, ⟨fp, St, W, hIo, hIf, hfp, hst⟩, hsz, hsrc, F, N, hIL, hI₀, nd, hJ0, turn, done⟩ := H
  refine hnew _ _ _ fun oD₀ hfr hAcc₀ => wpAny_newFunctionEnv hcell (by intro y hy; simp at hy) (fun h₁ hns₁ hsb₁ => ?_) hkind
  dsimp only at hns₁ hsb₁ ⊢
  generalize hH2 : s₂.heap.push oD₀ = H2 at hns₁ hsb₁ ⊢
  have hC : H2.objs.size = s₂.heap.objs.size + 1 := by rw [← hH2, Heap.size_push]
  have hDC : s₂.heap.objs.size ≠ H2.objs.size := by rw [hC]; exact Nat.ne_of_lt (Nat.lt_succ_self _)
  have below : ∀ b, b < s₂.heap.objs.size → b ≠ H2.objs.size ∧ b ≠ s₂.heap.objs.size := fun b hb => ⟨by rw [hC]; exact Nat.ne_of_lt (Nat.lt_succ_of_lt hb), Nat.ne_of_lt hb⟩
  have hsr0 := hsrc 0 [] news hJ0
  obtain ⟨oI0, hoI0⟩ := hIo 0 _ hst
  have hIlt : I < s₂.heap.objs.size := Heap.lt_size hoI0
  have hfplt : ∀ b ∈ fp, b < s₂.heap.objs.size := fun b hb => by
    rcases hfp b hb with rfl | ⟨o, ho⟩
    · exact hIlt
    · exact Heap.lt_size (N _ (hsr0 _ ho)).1
  have hDf : s₂.heap.objs.size ∉ fp := fun hm => Nat.lt_irrefl _ (hfplt _ hm)
  have hCf : H2.objs.size ∉ fp := fun hm => by have := hfplt _ hm; rw [hC] at this; exact Nat.lt_irrefl _ (Nat.lt_of_succ_lt this)
  have old : ∀ b o, s₂.heap.get? b = some o → h₁.get? b = some o := fun b o e => hsb₁.extBut b o (below b (Heap.lt_size e)).1 (Heap.get?_push_of_some _ (hH2 ▸ Heap.get?_push_of_some _ e))
  have hacc : h₁.get? s₂.heap.objs.size = some oD₀ := hsb₁.extBut _ _ hDC (Heap.get?_push_of_some _ (hH2 ▸ Heap.get?_push_size _ hfr))
  have hst₁ : St 0 h₁ := W.frame _ _ _ hst fun b _ o e => old b o e
  have fresh : ∀ a, s₂.heap.objs.size ≤ a → s₂.heap.get? a = none := fun a ha => by
    cases e : s₂.heap.get? a with
    | none => rfl
    | some o' => exact absurd (Heap.lt_size e) (Nat.not_lt.mpr ha)
  have fresh₀ : ∀ a, s₂.heap.objs.size ≤ a → h₀.get? a = none := fun a ha => by
    cases e : h₀.get? a with
    | none => rfl
    | some o' => have := F.keep a o' e; rw [fresh a ha] at this; cases this
  have hD₀ : h₀.get? s₂.heap.objs.size = none := fresh₀ _ (Nat.le_refl _)
  have hC₀ : h₀.get? H2.objs.size = none := fresh₀ _ (by rw [hC]; exact Nat.le_succ _)
  have hLlt : L < s₂.heap.objs.size := F.ns.lt
  have hDL : s₂.heap.objs.size ≠ L := Ne.symm (below L hLlt).2
  have hCL : H2.objs.size ≠ L := Ne.symm (below L hLlt).1
  have hCI : I ≠ H2.objs.size := (below I hIlt).1
  have hDI : I ≠ s₂.heap.objs.size := (below I hIlt).2
  have nd₀ : (I :: H2.objs.size :: s₂.heap.objs.size :: news.map (·.1)).Nodup := by
    have hnlt : ∀ a ∈ news.map (·.1), a < s₂.heap.objs.size := fun a ha => by obtain ⟨p, hp, rfl⟩ := List.mem_map.mp ha; exact Heap.lt_size (N p hp).1
    refine List.nodup_cons.mpr ⟨fun hm => ?_, List.nodup_cons.mpr ⟨fun hm => ?_, List.nodup_cons.mpr ⟨fun hm => ?_, (List.nodup_cons.mp nd).2⟩⟩⟩
    · rcases List.mem_cons.mp hm with h | hm
      · exact hCI h
      · rcases List.mem_cons.mp hm with h | hm
        · exact hDI h
        · exact (List.nodup_cons.mp nd).1 hm
    · rcases List.mem_cons.mp hm with h | hm
      · exact hDC h.symm
      · exact (below _ (hnlt _ hm)).1 rfl
    · exact (below _ (hnlt _ hm)).2 rfl
  have loop : ∀ s₃ : Shared, s₃ = { s₂ with heap := h₁, toks := s₂.toks + ([] : List (Str × Value)).length } →
      codeAny (model prog w) A (.compLoop e 0 (.ref I) (.ref s₂.heap.objs.size) (compEnvC scope cl H2.objs.size env)) (RR (.ref s₂.heap.objs.size) H2.objs.size) s₃ := by
    rintro s₃ rfl
    refine hloop _ _ _ _ _
      (fun k s' => ∃ h' tk i ys m' nw oD, s' = { s₂ with heap := h', toks := tk } ∧ i ≤ n ∧ k = n + 1 - i ∧ ys.length ≤ i ∧ AccP ys oD ∧ St i h' ∧ Fr h₀ L h' m ∧ h'.Ns H2.objs.size m' ∧ News h₀ L h' ((s₂.heap.objs.size, oD) :: nw) ∧
        (I :: H2.objs.size :: s₂.heap.objs.size :: nw.map (·.1)).Nodup ∧ J i ys nw) (n + 1) ?_
      ⟨h₁, _, 0, [], _, news, oD₀, rfl, Nat.zero_le _, rfl, Nat.le_refl _, hAcc₀, hst₁, F.keeps old, hns₁, fun p hp => ?_, nd₀, hJ0⟩
    · rintro k s' ⟨h', tk, i, ys, m', nw, oD, rfl, hi, rfl, hyl, hAcc, hst', F', hn', N', nd', hJ⟩
      have nI := (List.nodup_cons.mp nd').1
      have nC := (List.nodup_cons.mp (List.nodup_cons.mp nd').2).1
      have nD := (List.nodup_cons.mp (List.nodup_cons.mp (List.nodup_cons.mp nd').2).2).1
      have mm : ∀ p ∈ nw, p.1 ∈ nw.map (·.1) := fun p hp => List.mem_map_of_mem hp
      have offI : ∀ p ∈ nw, p.1 ≠ I := fun p hp e => nI (e ▸ List.mem_cons_of_mem _ (List.mem_cons_of_mem _ (mm p hp)))
      have offC : ∀ p ∈ nw, p.1 ≠ H2.objs.size := fun p hp e => nC (e ▸ List.mem_cons_of_mem _ (mm p hp))
      by_cases hlt : i < n
      · refine W.item i _ _ _ hlt hst' fun v h₂ tk₂ hPv hst₂ hk₂ => ?_
        refine wpAny_assign_Name (wpAny_storeName_local (lookup_relabel_local hx) (hn'.at' fun o e => hk₂ _ o (by simpa using Ne.symm hCI) e) (fun h₃ hn₃ hs₃ => ?_) (by simp [compEnvC, relabel, hkind]))
        have hst₃ : St (i + 1) h₃ := W.frame _ _ _ hst₂ fun b hb o e => hs₃.extBut b o (fun q => hCf (by have q' : b = H2.objs.size := q; rw [← q']; exact hb)) e
        obtain ⟨oI, heI⟩ := hIo _ _ hst₃
        obtain ⟨oC, heC, hoC⟩ := LCg.ns_obj hn₃
        have F₃ : Fr h₀ L h₃ m := (LCg.fr_but F' hk₂ hIL.symm hI₀).change hs₃ hCL hC₀
        have N₂ : News h₀ L h₂ ((s₂.heap.objs.size, oD) :: nw) := LCg.news_but N' hk₂ fun p hp => by
          rcases List.mem_cons.mp hp with rfl | hp
          · exact Ne.symm hDI
          · exact offI p hp
        have N₃ : News h₀ L h₃ ((I, oI) :: (H2.objs.size, oC) :: (s₂.heap.objs.size, oD) :: nw) := fun p hp => by
          rcases List.mem_cons.mp hp with rfl | hp
          · exact ⟨heI, hIL, hI₀⟩
          · rcases List.mem_cons.mp hp with rfl | hp
            · exact ⟨heC, hCL, hC₀⟩
            · have z := N₂ p hp
              refine ⟨hs₃.extBut _ _ ?_ z.1, z.2⟩
              rcases List.mem_cons.mp hp with rfl | hp
              · exact hDC
              · exact offC p hp
        have stNext : ∀ (h₄ : Heap) (nw₄ : List (Addr × Obj)) (ys₄ : List Value), News h₀ L h₄ ([(I, oI), (H2.objs.size, oC), (s₂.heap.objs.size, oD)] ++ nw₄) → J (i + 1) ys₄ nw₄ → St (i + 1) h₄ := fun h₄ nw₄ ys₄ N₄ hJ₄ => by
          refine W.frame _ _ _ hst₃ fun b hb o e => ?_
          rcases hfp b hb with rfl | ⟨ob, hob⟩
          · rw [heI] at e; cases e
            exact (N₄ _ (List.mem_cons_self ..)).1
          · have h1 : h₃.get? b = some ob := (N₃ (b, ob) (List.mem_cons_of_mem _ (List.mem_cons_of_mem _ (List.mem_cons_of_mem _ (hsrc _ _ _ hJ _ hob))))).1
            rw [h1] at e
            exact (N₄ (b, ob) (List.mem_append_right _ (hsrc _ _ _ hJ₄ _ hob))).1.trans e
        refine wpAny_mono (turn i v ys I oI H2.objs.size oC s₂.heap.objs.size oD _ nw h₃ _ _ hlt hPv hJ hAcc hyl hoC (by simp) F₃ N₃ nd') (fun ok s₄ h₄ => ?_) fun _ _ e => e
        cases ok with
        | true =>
          simp only [if_true] at h₄ ⊢
          refine wpAny_mono h₄ (fun y s₅ h₅ => ?_) fun _ _ e => e
          obtain ⟨h₅, tk₅, nw₅, rfl, F₅, N₅, nd₅, hok, hJ₅⟩ := h₅
          have zD := (N₅ (s₂.heap.objs.size, oD) (by simp)).1
          have zC := (N₅ (H2.objs.size, oC) (by simp)).1
          refine hemit ys y oD _ _ _ _ hAcc hok (by omega) zD fun h₆ o₆ tk₆ hs₆ ho₆ hA₆ => ?_
          have nd₅' : (I :: H2.objs.size :: s₂.heap.objs.size :: nw₅.map (·.1)).Nodup := nd₅
          have nD₅ := (List.nodup_cons.mp (List.nodup_cons.mp (List.nodup_cons.mp nd₅').2).2).1
          refine ⟨n + 1 - (i + 1), by omega, h₆, tk₆, i + 1, ys ++ [y], _, nw₅, o₆, rfl, hlt, rfl, by rw [List.length_append, List.length_singleton]; omega, hA₆,
            W.frame _ _ _ (stNext _ _ _ N₅ hJ₅) fun b hb o e => hs₆.extBut b o (fun q => hDf (q ▸ hb)) e, F₅.change hs₆ hDL hD₀, (hoC.ns zC).sameBut hs₆ (Ne.symm hDC), fun p hp => ?_, nd₅', hJ₅⟩
          rcases List.mem_cons.mp hp with rfl | hp
          · exact ⟨ho₆, hDL, hD₀⟩
          · exact ⟨hs₆.extBut _ _ (fun e => nD₅ (e ▸ List.mem_map_of_mem hp)) (N₅ p (List.mem_append_right _ hp)).1, (N₅ p (List.mem_append_right _ hp)).2⟩
        | false =>
          simp only [Bool.false_eq_true, if_false] at h₄ ⊢
          obtain ⟨h₅, tk₅, nw₅, rfl, F₅, N₅, nd₅, hJ₅⟩ := h₄
          have zC := (N₅ (H2.objs.size, oC) (by simp)).1
          exact ⟨n + 1 - (i + 1), by omega, h₅, tk₅, i + 1, ys, _, nw₅, oD, rfl, hlt, rfl, by omega, hAcc, stNext _ _ _ N₅ hJ₅, F₅, hoC.ns zC,
            fun p hp => N₅ p (by rcases List.mem_cons.mp hp with rfl | hp; · simp
                                 · exact List.mem_append_right _ hp), nd₅, hJ₅⟩
      · obtain rfl : i = n := Nat.le_antisymm hi (Nat.not_lt.mp hlt)
        refine W.done _ _ _ hst' fun h₂ tk₂ hk₂ => ?_
        have ndD := (List.nodup_cons.mp (List.nodup_cons.mp nd').2).2
        exact hRR _ _ _ h₂ tk₂ _ ys nw hAcc (LCg.fr_but F' hk₂ hIL.symm hI₀) (LCg.news_but N' hk₂ fun p hp => by
          rcases List.mem_cons.mp hp with rfl | hp
          · exact Ne.symm hDI
          · exact offI p hp) ndD (hn'.at' fun o e => hk₂ _ o (by simpa using Ne.symm hCI) e) hC₀ hD₀ hCL hDL (Ne.symm hDC) offC (done ys nw hJ (List.nodup_cons.mp ndD).2)
    · rcases List.mem_cons.mp hp with rfl | hp
      · exact ⟨hacc, hDL, hD₀⟩
      · exact ⟨old _ _ (N p hp).1, (N p hp).2⟩
  exact hstart _ _ _ _ _ (loop _ rfl) (W.self 0 _ _ _ hst₁ (loop _ rfl))

def AccList (ys : List Value) (o : Obj) : Prop := o = LCg.lst ys
theorem list_loopRule {elt iter : Expr} {x : Str} {px : Pos} {ifs : List Expr} {scope : Scope} {pos : Pos} : LoopRule prog w A (.ListComp elt [⟨.Name x px, iter, ifs, 0⟩] scope pos) elt x px ifs "list.append" :=
  fun it D env R s Inv n turn h => codeAny_compLoop_tests Inv turn n h
theorem list_startRule {elt iter : Expr} {x : Str} {px : Pos} {ifs : List Expr} {scope : Scope} {pos : Pos} : StartRule prog w A (.ListComp elt [⟨.Name x px, iter, ifs, 0⟩] scope pos) :=
  fun it acc env R s h0 h => codeAny_compStart_list h0 h
theorem list_newRule : NewRule prog w A (newList []) AccList := fun s Q E h => wpAny_newObj_type (h _ rfl rfl)
theorem list_emitRule : EmitRule prog w A "list.append" AccList (fun _ _ => True) := fun ys y oD D s Q E hA _ hl ho h => by
  subst hA
  exact append_at ho (fun h' hs ho' => h h' _ _ hs ho' (LCg.lst_snoc ys y)) (by rw [List.size_toArray]; exact Nat.le_trans hl (by decide))

theorem ListComp_G {elt iter : Expr} {x : Str} {px : Pos} {ifs : List Expr} {scope : Scope} {cl : List (Str × Addr)} {pos : Pos} {Q : Value → Shared → Prop} (F₀ : Fr h₀ L s.heap m)
    (hclos : closureFor scope env = pure cl) (hcell : ∀ y ∈ scope.names, y.2 ≠ .cell) (hkind : scope.kind = .function)
    (hnames : ∀ y ∈ scope.names, y.2 = .local → scope.names.lookup y.1 = some .local) (hx : scope.names.lookup x = some .local)
    (h : wpAny (model prog w) A (eval iter env) (fun xv s₁ => wpAny (model prog w) A (pyIter xv) (CompAt prog w A h₀ L m env elt x ifs scope cl AccList (fun _ _ => True) (FinGE h₀ L m AccList Q)) E s₁) E s)
    (hs : ∀ x, foldedSetIterable iter env x = pure x := by intro _; rfl) :
    wpAny (model prog w) A (eval (.ListComp elt [⟨.Name x px, iter, ifs, 0⟩] scope pos) env) Q E s := by
  rw [eval_ListComp]
  refine wpAny_comprehension_free (use := none) rfl hs hclos hkind hnames (wpAny_mono h (fun xv s₁ h₁ => wpAny_mono h₁ (fun it s₂ H => ?_) fun _ _ e => e) fun _ _ e => e)
  refine cblock (px := px) list_loopRule list_startRule list_newRule list_emitRule hcell hkind hx H ?_
  intro D oD C h tk m' ys nw hA F' N' ndD hn hC₀ hD₀ hCL hDL hCD offC fin
  refine ⟨m', hn, fun h'' hs'' => fin D oD h'' tk hA (F'.change hs'' hCL hC₀) (fun p hp => ?_) ndD⟩
  refine ⟨hs''.extBut _ _ ?_ (N' p hp).1, (N' p hp).2⟩
  rcases List.mem_cons.mp hp with rfl | hp
  · exact Ne.symm hCD
  · exact offC p hp

theorem Assign_ListComp_G {elt iter : Expr} {x y : Str} {px py : Pos} {ifs : List Expr} {scope : Scope} {cl : List (Str × Addr)} {pos spos : Pos} {Q : Flow → Shared → Prop} (F₀ : Fr h₀ L s.heap m) (hLe : env.locals = L)
    (hsw : swapsWith (.ListComp elt [⟨.Name x px, iter, ifs, 0⟩] scope pos) (some (.Name y py)) spos.line env = pure true)
    (hclos : closureFor scope env = pure cl) (hcell : ∀ z ∈ scope.names, z.2 ≠ .cell) (hkind : scope.kind = .function)
    (hnames : ∀ z ∈ scope.names, z.2 = .local → scope.names.lookup z.1 = some .local) (hx : scope.names.lookup x = some .local)
    (hy : env.kindOf y = some .local) (hp : (env.scope.kind == .class || (env.scope.kind == .module && env.locals != env.globals)) = false)
    (h : wpAny (model prog w) A (eval iter env) (fun xv s₁ => wpAny (model prog w) A (pyIter xv) (CompAt prog w A h₀ L m env elt x ifs scope cl AccList (fun _ _ => True) (FinGA h₀ L m y AccList Q)) E s₁) E s)
    (hs : ∀ x, foldedSetIterable iter env x = pure x := by intro _; rfl) :
    wpAny (model prog w) A (exec (.Assign [.Name y py] (.ListComp elt [⟨.Name x px, iter, ifs, 0⟩] scope pos) spos) env) Q E s := by
  subst hLe
  rw [exec_Assign_Name_used _ _ _ _ hsw]
  refine wpAny_bind (wpAny_standAt (wpAny_bind ?_))
  show wpAny _ A (do let _ ← comprehension (.ListComp elt [⟨.Name x px, iter, ifs, 0⟩] scope pos) scope env _ (newList []) false (eval iter env) (some (assign (.Name y py) env))) _ _ s
  refine wpAny_bind (wpAny_mono (wpAny_comprehension_free (use := some (assign (.Name y py) env)) (Q := fun _ s' => Q .next s') rfl hs hclos hkind hnames
    (wpAny_mono h (fun xv s₁ h₁ => wpAny_mono h₁ (fun it s₂ H => ?_) fun _ _ e => e) fun _ _ e => e)) (fun _ s' hq => wpAny_pure (wpAny_pure hq)) fun _ _ e => e)
  refine cblock (px := px) list_loopRule list_startRule list_newRule list_emitRule hcell hkind hx H ?_
  intro D oD C h' tk m' ys nw hA F' N' ndD hn hC₀ hD₀ hCL hDL hCD offC fin
  show wpAny _ A (assign (.Name y py) env (.ref D)) _ _ _
  refine wpAny_assign_Name (wpAny_storeName_local hy F'.ns (fun h₂ hn₂ hs₂ => ?_) hp)
  have hL₀ : h₀.get? env.locals = none := Heap.get?_none_of_le F'.above
  have F₃ : Fr h₀ env.locals h₂ (fun z => if z = y then some (.ref D) else m z) := ⟨hn₂, fun b o e => hs₂.extBut b o (fun q => by rw [q, hL₀] at e; cases e) (F'.keep b o e), F'.above⟩
  refine ⟨m', hn.sameBut hs₂ hCL, fun h'' hs'' => fin D oD h'' _ hA (F₃.change hs'' hCL hC₀) (fun p hp => ?_) ndD⟩
  have z : h₂.get? p.1 = some p.2 := hs₂.extBut _ _ (N' p hp).2.1 (N' p hp).1
  refine ⟨hs''.extBut _ _ ?_ z, (N' p hp).2⟩
  rcases List.mem_cons.mp hp with rfl | hp
  · exact Ne.symm hCD
  · exact offC p hp

/-! the same for sets -/
def addLow (ks : List Str) (k : Str) : List Str := if ks.contains k then ks else ks ++ [k]
def AccSet (w : World) (ys : List Value) (o : Obj) : Prop := ∃ ss, StrsAre ys ss ∧ StrSet w o (ss.foldl addLow [])
def OkSet (ys : List Value) (y : Value) : Prop := ys.length ≤ 100 ∧ ∃ (k : Str) (t : Tok), y = .str k t
theorem addLow_len (ks : List Str) (k : Str) : (addLow ks k).length ≤ ks.length + 1 := by
  unfold addLow; split
  · omega
  · simp
theorem addLows_len : ∀ (ss ks : List Str), (ss.foldl addLow ks).length ≤ ks.length + ss.length
  | [], ks => by simp
  | a :: r, ks => by have := addLows_len r (addLow ks a); have := addLow_len ks a; simp only [List.foldl_cons, List.length_cons]; omega
theorem newSet_fresh {w : World} (o : Obj) (ho : o = { cls := .type "set", dict := none, data := .set #[] 0 (.fresh 0 0 (!byTextW w)) }) : StrSet w o [] := by
  subst ho
  exact ⟨⟨rfl, rfl, rfl⟩, #[], 0, _, [], rfl, by rfl, rfl, fun h => absurd rfl h, .nil, .refl _⟩
theorem set_newRule : NewRule prog w A (newSet (.type "set")) (AccSet w) := fun s Q E h => by
  unfold newSet setsByText
  refine wpAny_bind (wpAny_bind (wpAny_askSetting (wpAny_pure ?_)))
  dsimp only
  simp only [newObj]
  exact wpAny_bind (wpAny_alloc (wpAny_pure (h _ rfl ⟨[], .nil, newSet_fresh _ rfl⟩)))
theorem set_emitRule : EmitRule prog w A "set.add" (AccSet w) OkSet := fun ys y oD D s Q E hA hok hl ho h => by
  obtain ⟨ss, hss, hS⟩ := hA
  obtain ⟨hn, k, t, rfl⟩ := hok
  refine wpAny_call_entry PySem.F.slot_set_add (hS.typeIs ho) PySem.F.entry_set_add ?_ (PySem.F.args_set_add_2 _ _)
  unfold Builtin.«set.add» Builtin.Frozenset.oneOther
  simp only [List.isEmpty_nil, bind_assoc]
  unfold Builtin.Frozenset.addrOf
  refine wpAny_bind (wpAny_pure ?_)
  try dsimp only
  refine wpAny_bind (wpAny_pure ?_)
  try dsimp only
  refine wpAny_bind ?_
  have hb := addLows_len ss []
  have hsl := hss.length
  refine setAdd_strs ho hS (by unfold scanBound; simp only [List.length_nil] at hb; omega) fun h' so' hsb ho' hS' => ?_
  show wpAny _ _ (ret Value.none) _ _ _
  refine wpAny_pure ⟨_, rfl, h h' so' _ hsb ho' ⟨ss ++ [k], hss.append' (.cons _ _ .nil), ?_⟩⟩
  rw [List.foldl_append]
  exact hS'
theorem compTurn_set (elt target iter : Expr) (ifs : List Expr) (scope : Scope) (pos : Pos) (it acc : Value) (env : Env) :
    compTurn (.SetComp elt [⟨target, iter, ifs, 0⟩] scope pos) 0 it acc env = (do
      standAt iter.pos
      match ← pyNext it with
      | none => pure (.done .next)
      | some v =>
        letOwnedTupleGo target it v
        assign target env v
        let mut ok := true
        for c in ifs do
          if ok then ok ← isTrue c env (eval c env)
        if ok then
          (do
            let v ← eval elt env
            standAt elt.pos
            let _ ← call (.builtin "set.add") [acc, v])
        again (.compLoop (.SetComp elt [⟨target, iter, ifs, 0⟩] scope pos) 0 it acc env)) := by rfl
theorem set_loopRule {elt iter : Expr} {x : Str} {px : Pos} {ifs : List Expr} {scope : Scope} {pos : Pos} : LoopRule prog w A (.SetComp elt [⟨.Name x px, iter, ifs, 0⟩] scope pos) elt x px ifs "set.add" := by
  intro it D env R s Inv n turn h
  refine codeAny_loop rfl Inv (fun n s hI => ?_) n h
  show wpAny _ A ((compTurn (.SetComp elt [⟨.Name x px, iter, ifs, 0⟩] scope pos) 0 it (.ref D) env).onRaise (fun x => do noteFrame x env; theTreesLotGoes x)) _ _ s
  refine wpAny_noted ?_
  rw [compTurn_set]
  refine wpAny_bind (wpAny_standAt (wpAny_bind (wpAny_mono (turn n s hI) (fun r s₁ h₁ => ?_) fun _ _ h' => h')))
  cases r with
  | none => exact wpAny_pure h₁
  | some v =>
    refine wpAny_bind (wpAny_of_eq (show letOwnedTupleGo (.Name x px) it v = pure () from rfl) ?_)
    refine wpAny_bind (wpAny_mono h₁ (fun _ s₂ h₂ => wpAny_bind (wpAny_mono h₂ (fun ok s₃ h₃ => ?_) fun _ _ h' => h')) fun _ _ h' => h')
    cases ok with
    | false => exact wpAny_pure ⟨rfl, h₃⟩
    | true =>
      exact wpAny_bind (wpAny_bind (wpAny_mono h₃ (fun y s₄ h₄ => wpAny_bind (wpAny_standAt (wpAny_bind (wpAny_mono h₄ (fun _ s₅ h₅ => wpAny_pure (wpAny_pure ⟨rfl, h₅⟩)) fun _ _ h' => h')))) fun _ _ h' => h'))
theorem set_startRule {elt iter : Expr} {x : Str} {px : Pos} {ifs : List Expr} {scope : Scope} {pos : Pos} : StartRule prog w A (.SetComp elt [⟨.Name x px, iter, ifs, 0⟩] scope pos) := by
  intro it acc env R s h0 h
  refine codeAny_of_tree ?_
  show wpAny _ A ((compStart (.SetComp elt [⟨.Name x px, iter, ifs, 0⟩] scope pos) 0 it acc env).onRaise (fun x => do noteFrame x env; standAt theWindowsPlace)) _ _ s
  refine wpAny_notedAt ?_
  unfold compStart
  show wpAny _ A (ask >>= _) _ _ s
  refine wpAny_bind (wpAny_askSetting (wpAny_ite ?_))
  split
  · first
      | exact wpAny_bind (wpAny_pure (wpAny_pure (And.intro rfl h0)))
      | exact wpAny_pure (And.intro rfl h0)
  · first
      | exact wpAny_bind (wpAny_rule (wpAny_bind (wpAny_standAt (wpAny_bind (wpAny_mono h (fun it' s' h' => wpAny_pure (And.intro rfl h')) fun _ _ x => x)))))
      | (refine wpAny_bind (wpAny_rule ?_); show wpAny _ _ (standAt iter.pos >>= _) _ _ s; exact wpAny_bind (wpAny_standAt (wpAny_bind (wpAny_mono h (fun it' s' h' => wpAny_pure (And.intro rfl h')) fun _ _ x => x))))
theorem SetComp_G {elt iter : Expr} {x : Str} {px : Pos} {ifs : List Expr} {scope : Scope} {cl : List (Str × Addr)} {pos : Pos} {Q : Value → Shared → Prop} (F₀ : Fr h₀ L s.heap m)
    (hclos : closureFor scope env = pure cl) (hcell : ∀ y ∈ scope.names, y.2 ≠ .cell) (hkind : scope.kind = .function)
    (hnames : ∀ y ∈ scope.names, y.2 = .local → scope.names.lookup y.1 = some .local) (hx : scope.names.lookup x = some .local)
    (h : wpAny (model prog w) A (eval iter env) (fun xv s₁ => wpAny (model prog w) A (pyIter xv) (CompAt prog w A h₀ L m env elt x ifs scope cl (AccSet w) OkSet (FinGE h₀ L m (AccSet w) Q)) E s₁) E s)
    (hs : ∀ x, foldedSetIterable iter env x = pure x := by intro _; rfl) :
    wpAny (model prog w) A (eval (.SetComp elt [⟨.Name x px, iter, ifs, 0⟩] scope pos) env) Q E s := by
  show wpAny _ A (comprehension (.SetComp elt [⟨.Name x px, iter, ifs, 0⟩] scope pos) scope env _ (newSet (.type "set")) false (eval iter env)) _ _ s
  refine wpAny_comprehension_free (use := none) rfl hs hclos hkind hnames (wpAny_mono h (fun xv s₁ h₁ => wpAny_mono h₁ (fun it s₂ H => ?_) fun _ _ e => e) fun _ _ e => e)
  refine cblock (px := px) set_loopRule (set_startRule (px := px)) set_newRule set_emitRule hcell hkind hx H ?_
  intro D oD C h tk m' ys nw hA F' N' ndD hn hC₀ hD₀ hCL hDL hCD offC fin
  refine ⟨m', hn, fun h'' hs'' => fin D oD h'' tk hA (F'.change hs'' hCL hC₀) (fun p hp => ?_) ndD⟩
  refine ⟨hs''.extBut _ _ ?_ (N' p hp).1, (N' p hp).2⟩
  rcases List.mem_cons.mp hp with rfl | hp
  · exact Ne.symm hCD
  · exact offC p hp

/-! what may be walked -/
theorem it_list {l : Addr} {vs : List Value} {nl : Nat} {news : List (Addr × Obj)} {Q : Value → Shared → Prop} (hh : A.handled = none) (N : News h₀ L s.heap news) (hl : (l, listOf vs.toArray nl) ∈ news)
    (h : ∀ o, o.isFreed = false → ItOk prog w A s.heap.objs.size [(l, listOf vs.toArray nl)] vs.length (fun i v => vs[i]? = some v) (s.heap.push o) → Q (.ref s.heap.objs.size) { s with heap := s.heap.push o }) :
    wpAny (model prog w) A (pyIter (.ref l)) Q E s := by
  have hls : s.heap.IsList l vs.toArray := ⟨_, (N _ hl).1, rfl, nl, rfl⟩
  have hne : l ≠ s.heap.objs.size := Nat.ne_of_lt (Heap.lt_size (N _ hl).1)
  refine wpAny_pyIter_list hls ?_
  have W := Walks.list (prog := prog) (w := w) hh s.heap.objs.size l hne vs.toArray
  have W' : Walks prog w A s.heap.objs.size [s.heap.objs.size, l] [s.heap.objs.size] vs.length (fun i v => vs[i]? = some v) (fun i h => h.IsListIter s.heap.objs.size l i ∧ h.IsList l vs.toArray) := by simpa using W
  refine h _ rfl ⟨_, _, W', fun i h st => by obtain ⟨o, e, _⟩ := st.1; exact ⟨o, e⟩, List.mem_cons_self .., fun b hb => ?_, ⟨⟨_, Heap.get?_push_size _ rfl, rfl, rfl⟩, hls.at fun o e => Heap.get?_push_of_some _ e⟩⟩
  rcases List.mem_cons.mp hb with e | hb
  · exact .inl e
  · exact .inr ⟨_, by rw [List.mem_singleton.mp hb]; exact List.mem_singleton.mpr rfl⟩
theorem it_str {q : Str} {t : Tok} {Q : Value → Shared → Prop} (hh : A.handled = none)
    (h : ∀ o, o.isFreed = false → ItOk prog w A s.heap.objs.size [] q.cps.size (SignAt q) (s.heap.push o) → Q (.ref s.heap.objs.size) { s with heap := s.heap.push o }) :
    wpAny (model prog w) A (pyIter (.str q t)) Q E s := by
  cases ha : q.cps.all (· < 128)
  · exact wpAny_pyIter_wide ha (h _ rfl ⟨_, _, Walks.strWide hh _ q t, fun i h st => by obtain ⟨o, e, _⟩ := st; exact ⟨o, e⟩, List.mem_cons_self .., fun b hb => .inl (List.mem_singleton.mp hb), ⟨_, Heap.get?_push_size _ rfl, rfl, rfl⟩⟩)
  · exact wpAny_pyIter_ascii ha (h _ rfl ⟨_, _, Walks.strAscii hh _ q t, fun i h st => by obtain ⟨o, e, _⟩ := st; exact ⟨o, e⟩, List.mem_cons_self .., fun b hb => .inl (List.mem_singleton.mp hb), ⟨_, Heap.get?_push_size _ rfl, rfl, rfl⟩⟩)
theorem it_range {r : Addr} {b₀ : Int} {t₀ u₀ v₀ : Tok} {n : Nat} {Q : Value → Shared → Prop} (hh : A.handled = none) (hr : IsRange s.heap r 0 b₀ 1 t₀ u₀ v₀) (hsmall : Builtin.Range.small 0 b₀ 1 = true) (hn : Builtin.Range.rangeSize 0 b₀ 1 = (n : Int))
    (h : ∀ o, o.isFreed = false → ItOk prog w A s.heap.objs.size [] n (fun i v => ∃ t, v = .int (i : Int) t) (s.heap.push o) → Q (.ref s.heap.objs.size) { s with heap := s.heap.push o }) :
    wpAny (model prog w) A (pyIter (.ref r)) Q E s := by
  refine wpAny_pyIter_range hr hsmall ?_
  have W' : Walks prog w A s.heap.objs.size [s.heap.objs.size] [s.heap.objs.size] n (fun i v => ∃ t, v = .int (i : Int) t) (fun i h => IsRangeIter h s.heap.objs.size (0 + (i : Nat) * 1) ((n : Int) - (i : Nat)) 1) := by
    have := LCg.range_walks (prog := prog) (w := w) (I := s.heap.objs.size) hh 0 n
    simpa only [Int.zero_add] using this
  exact h _ rfl ⟨_, _, W', fun i h st => ⟨_, st⟩, List.mem_cons_self .., fun b hb => .inl (List.mem_singleton.mp hb), by show IsRangeIter _ _ _ _ _; rw [hn]; simpa using Heap.get?_push_size _ rfl⟩
/-- a walk's start, from the ledger -/
theorem CompAt.mk {elt : Expr} {x : Str} {ifs : List Expr} {scope : Scope} {cl : List (Str × Addr)} {AccP : List Value → Obj → Prop} {Ok : List Value → Value → Prop} {Fin : Shared → List Value → List (Addr × Obj) → Prop} {src news : List (Addr × Obj)} {n : Nat} {P : Nat → Value → Prop} {o : Obj}
    (J : Nat → List Value → List (Addr × Obj) → Prop) (hit : ItOk prog w A s.heap.objs.size src n P (s.heap.push o)) (hn : n ≤ 10000) (hsrc : ∀ i ys nw, J i ys nw → ∀ p ∈ src, p ∈ nw) (F : Fr h₀ L s.heap m) (N : News h₀ L s.heap news) (nd : (news.map (·.1)).Nodup) (hj : J 0 [] news)
    (turn : ∀ i v ys I oI C oC D oD m₂ nw h tk (E' : Value → Shared → Prop), i < n → P i v → J i ys nw → AccP ys oD → ys.length ≤ i → LCg.NsObj oC m₂ → m₂ x = some v → Fr h₀ L h m → News h₀ L h ((I, oI) :: (C, oC) :: (D, oD) :: nw) → (((I, oI) :: (C, oC) :: (D, oD) :: nw).map (·.1)).Nodup →
      wpAny (model prog w) A (forIn ifs true fun c r => if r = true then do let ok ← isTrue c (compEnvC scope cl C env) (eval c (compEnvC scope cl C env)); pure (ForInStep.yield ok) else pure (ForInStep.yield r))
        (fun ok s₃ => if ok = true then wpAny (model prog w) A (eval elt (compEnvC scope cl C env)) (fun y s₄ => CEnd h₀ L m [(I, oI), (C, oC), (D, oD)] { s with heap := h, toks := tk } (fun nw' => Ok ys y ∧ J (i + 1) (ys ++ [y]) nw') s₄) E' s₃
          else CEnd h₀ L m [(I, oI), (C, oC), (D, oD)] { s with heap := h, toks := tk } (J (i + 1) ys) s₃) E' { s with heap := h, toks := tk })
    (done : ∀ ys nw, J n ys nw → (nw.map (·.1)).Nodup → Fin { s with heap := s.heap.push o } ys nw) :
    CompAt prog w A h₀ L m env elt x ifs scope cl AccP Ok Fin (.ref s.heap.objs.size) { s with heap := s.heap.push o } :=
  ⟨_, src, n, P, news, J, rfl, hit, hn, hsrc, F.push _, fun p hp => ⟨Heap.get?_push_of_some _ (N p hp).1, (N p hp).2⟩, Nat.ne_of_gt F.ns.lt, next_is_new F, led_size N nd, hj, turn, done⟩
end

theorem tone30 : True := by
  w_top off
  trivial
/-! The plain law's words: a head put where none like it stands. -/
def addName (row : List Str) (x : Str) : List Str := if (row.map Txt.lower).contains (Txt.lower x) then row else row ++ [x]
def lowS (row : List Str) : Str → Bool := fun q => (row.map Txt.lower).contains q
theorem addName_len (row : List Str) (x : Str) : (addName row x).length ≤ row.length + 1 := by
  unfold addName; split
  · omega
  · simp
theorem addNames_len (names : List Str) : ∀ row : List Str, (names.foldl addName row).length ≤ row.length + names.length := by
  induction names with
  | nil => intro row; simp
  | cons a r ih => intro row; have := ih (addName row a); have := addName_len row a; simp only [List.foldl_cons, List.length_cons]; omega
theorem setObj_congr {prog : Program} {w : World} {o : Obj} {S S' : Str → Bool} {n n' : Nat} (h : o.SetObjOf (strKind prog w) S n) (hS : ∀ q, S q = S' q) (hn : n = n') : o.SetObjOf (strKind prog w) S' n' := by
  have : S = S' := funext hS
  subst this; subst hn; exact h

theorem addName_in {R : List Str} {q : Str} (h : lowS R (Txt.lower q) = true) : addName R q = R := if_pos h
theorem addName_out {R : List Str} {q : Str} (h : lowS R (Txt.lower q) = false) : addName R q = R ++ [q] := if_neg (by rw [show (R.map Txt.lower).contains (Txt.lower q) = false from h]; exact Bool.false_ne_true)
theorem StrSet.low {prog : Program} {w : World} {o : Obj} {R : List Str} (h : StrSet w o (R.map Txt.lower)) : o.SetObjOf (strKind prog w) (lowS R) R.length := setObj_congr h.obj (fun _ => rfl) (List.length_map ..)
theorem lowS_has {R : List Str} {q : Str} (h : lowS R q = true) : (R.map Txt.lower).contains q = true := h

abbrev hsLed (x dx hl hs : Addr) (hh1 hh2 : Int) (th1 th2 : Tok) (nd0 : Nat) (vs : List Value) (nl : Nat) (so : Obj) : List (Addr × Obj) :=
  [(x, instObj 202 dx), (dx, dictOf [⟨hh1, .str (Str.ofString "_headers") th1, .ref hl⟩, ⟨hh2, .str (Str.ofString "_set") th2, .ref hs⟩] nd0), (hl, listOf vs.toArray nl), (hs, so)]

theorem update_ct {prog : Program} {w : World} {x dx hl hs it : Addr} {hh1 hh2 : Int} {th1 th2 : Tok} {nd0 nl : Nat} {vs ws : List Value} {so oit : Obj} {row names : List Str} (hit : IterBy it oit ws)
    (hi : StrsAre vs row) (hS : StrSet w so (row.map Txt.lower)) (hn : StrsAre ws names) (hsz : row.length + names.length ≤ 100) (hq : ∀ q ∈ names, q.length ≤ 100) :
    Ct prog w 880 8800 (.ref 95) [.ref x, .ref it] (hsLed x dx hl hs hh1 hh2 th1 th2 nd0 vs nl so ++ [(it, oit)])
      (fun v fp' => ∃ vs' nl' so', fp' = hsLed x dx hl hs hh1 hh2 th1 th2 nd0 vs' nl' so' ++ [(it, oit)] ∧ v = .none ∧ StrsAre vs' (names.foldl addName row) ∧ StrSet w so' ((names.foldl addName row).map Txt.lower)) := by
  refine Ct.of (by k_is) (by k_is) (by k_room) (fun s X => BindsTo.of_eq rfl) (locs rfl) ?_
  intro gd cn cs L a ccd cl outer base mg mb p loose mean s g L' h' nd F' N' B' X' T'
  (try dsimp only); k_fold
  repeat ((fail_if_success (with_reducible show wpAny _ _ (exec (Stmt.For _ _ _ _ _) _) _ _ _)); walk1)
  refine For_invVF (by assumption) rfl rfl ?_ (hE := PassesOwn.never)
  walk1
  refine hit _ _ _ _ _ _ _ _ _ _ _ _ (fun i m nw => ∃ (vs' : List Value) (nl' : Nat) (so' : Obj), m (Str.ofString "self") = some (.ref x) ∧
    StrsAre vs' ((names.take i).foldl addName row) ∧ StrSet w so' (((names.take i).foldl addName row).map Txt.lower) ∧ nw = hsLed x dx hl hs hh1 hh2 th1 th2 nd0 vs' nl' so' ++ [(it, oit)])
    rfl ?_ (by assumption) (by assumption) nd ⟨vs, nl, so, rfl, hi, hS, rfl⟩ ?_ ?_
  · rintro i m nw ⟨vs', nl', so', _, _, _, rfl⟩
    simp
  · rintro i v m₁ nw h tk I oI hv ⟨vs', nl', so', hself, h1, h2, rfl⟩ F N nd
    obtain ⟨q, t, hq', rfl⟩ := strs_at hn hv
    k_fold
    replace F := fr_known F hself
    simp only [hsLed, List.cons_append, List.nil_append] at N
    have nn := neAll_of nd
    simp only [hsLed, List.cons_append, List.nil_append, List.map_cons, List.map_nil, NeAll, NeOne, and_true] at nn
    have hlen := addNames_len (names.take i) row
    have hq2 := hq q (List.mem_of_getElem? hq')
    have hstep : (names.take (i + 1)).foldl addName row = addName ((names.take i).foldl addName row) q := by rw [List.take_add_one, hq']; simp
    obtain ⟨R, hR⟩ : ∃ R, R = (names.take i).foldl addName row := ⟨_, rfl⟩
    rw [← hR] at h1 h2 hlen hstep
    have hR : R.length ≤ 100 := by simp only [List.length_take] at hlen; omega
    have hvl := h1.length
    have h2o : so'.SetObjOf (strKind prog w) (lowS R) R.length := h2.low
    k_steps
    · rename lowS R (Txt.lower q) = true => hc
      refine TurnQ.next (hsLed x dx hl hs hh1 hh2 th1 th2 nd0 vs' nl' so' ++ [(it, oit)]) (by assumption) (by assumption) (fun _ hp => hp) nd ⟨vs', nl', so', rfl, ?_, ?_, rfl⟩
      · rw [hstep, addName_in hc]; exact h1
      · rw [hstep, addName_in hc]; exact h2
    · rename lowS R (Txt.lower q) = false => hc
      rename StrSet _ _ (ite _ _ _) => h3
      rename News _ _ _ _ => N9
      rename Obj => so2
      simp only [List.push_toArray] at N9
      refine TurnQ.next (hsLed x dx hl hs hh1 hh2 th1 th2 nd0 (vs' ++ [Value.str q t]) (nl' + 1) so2 ++ [(it, oit)]) (by assumption) N9 (fun _ hp => hp) nd ⟨vs' ++ [Value.str q t], nl' + 1, so2, rfl, ?_, ?_, rfl⟩
      · rw [hstep, addName_out hc]; exact StrsAre.append' h1 (.cons _ _ .nil)
      · rw [hstep, addName_out hc, List.map_append]
        rw [if_neg (by rw [show (R.map Txt.lower).contains (Txt.lower q) = false from hc]; exact Bool.false_ne_true)] at h3
        exact h3
  · rintro m₁ nw h tk ⟨vs', nl', so', hself, h1, h2, rfl⟩ F N nd
    rw [List.take_of_length_le (Nat.le_of_eq hn.length.symm)] at h1 h2
    k_steps
    exact Back.intro _ F N (fun _ hp => hp) nd ⟨_, _, _, rfl, rfl, h1, h2⟩

theorem tone32 : True := by
  w_top off
  trivial
theorem add_ct {prog : Program} {w : World} {x dx hl hs : Addr} {hh1 hh2 : Int} {th1 th2 tq : Tok} {nd0 nl : Nat} {vs : List Value} {so : Obj} {row : List Str} {q : Str}
    (hi : StrsAre vs row) (hS : StrSet w so (row.map Txt.lower)) (hsz : row.length ≤ 50) (hq : q.length ≤ 100) :
    Ct prog w 860 8600 (.ref 81) [.ref x, .str q tq] (hsLed x dx hl hs hh1 hh2 th1 th2 nd0 vs nl so)
      (fun v fp' => ∃ vs' nl' so', fp' = hsLed x dx hl hs hh1 hh2 th1 th2 nd0 vs' nl' so' ∧ v = .none ∧ StrsAre vs' (addName row q) ∧ StrSet w so' ((addName row q).map Txt.lower)) := by
  refine Ct.of (by k_is) (by k_is) (by k_room) (fun s X => BindsTo.of_eq rfl) (locs rfl) ?_
  intro gd cn cs L a ccd cl outer base mg mb p loose mean s g L' h' nd F' N' B' X' T'
  (try dsimp only); k_fold
  have nn := neAll_of nd
  simp only [hsLed, List.cons_append, List.nil_append, List.map_cons, List.map_nil, NeAll, NeOne, and_true] at nn
  repeat ((fail_if_success (with_reducible show wpAny _ _ (call (Value.ref _) _) _ _ _)); walk1)
  refine Ct.use (update_ct (names := [q]) (row := row) (iterBy_tuple _ [Value.str q tq] _) hi hS (.cons _ _ .nil) (by simp only [List.length_cons, List.length_nil]; omega) (fun z hz => by rw [List.mem_singleton.mp hz]; exact hq)) (by assumption) (by assumption) (by assumption) (by assumption) ?_ (by ((try simp only [hsLed, List.cons_append, List.nil_append]); repeat' (first | exact Picks.done | exact pick_head | refine' pick_tail ?_ | refine' Picks.one ?_ ?_))) (by assumption) rfl rfl rfl ?_
  · (first | assumption | (refine nodup_of_ne ?_; (simp only [hsLed, List.cons_append, List.nil_append, List.map_cons, List.map_nil, NeAll, NeOne, and_true]); omega))
  · rintro v fp' h' tk' F' N' nd' ⟨vs', nl', so', rfl, rfl, h1, h2⟩
    k_steps
    exact Back.intro (hsLed x dx hl hs hh1 hh2 th1 th2 nd0 vs' nl' so') (by assumption) (by assumption) (fun _ hp => List.mem_append_left _ (List.mem_append_left _ hp)) nd ⟨vs', nl', so', rfl, rfl, h1, h2⟩

theorem tone33 : True := by
  w_top off
  trivial
section
variable {prog : Program} {w : World} {A : Around} {E : Value → Shared → Prop} {s : Shared} {h₀ : Heap} {L : Addr} {m : Str → Option Value} {news : List (Addr × Obj)}
theorem truthy_led {l : Addr} {vs : List Value} {n : Nat} {b : Bool} {Q : Bool → Shared → Prop} (N : News h₀ L s.heap news) (hm : (l, listOf vs.toArray n) ∈ news) (hz : vs.length ≤ 10000) (hb : vs.isEmpty = b)
    (h : Q (!b) { s with toks := s.toks + 1 + 1 }) : wpAny (model prog w) A (truthy (.ref l)) Q E s := by
  refine wpAny_truthy_list (items := vs.toArray) ⟨_, (N _ hm).1, rfl, n, rfl⟩ (by rw [List.size_toArray]; exact Int.lt_of_le_of_lt (Int.ofNat_le.mpr hz) (by decide)) ?_
  have e : vs.toArray.isEmpty = b := by rw [← hb]; simp
  rw [e]
  exact h
end
theorem Picks.sub {fp l r : List (Addr × Obj)} (P : Picks fp l r) : ∀ p ∈ fp, p ∈ l := fun p hp => P.perm.mem_iff.mpr (List.mem_append_left _ hp)

local macro_rules | `(tactic| walk_at "truthy ref") => `(tactic| (k_here; (with_reducible show wpAny _ _ (truthy (Value.ref _)) _ _ _); k_dflt (refine' truthy_led ?N ?m ?z ?b ?_; (case N => k_asm); (case m => k_mem); (case z => first | omega | (have := StrsAre.length (by assumption); omega)); (case b => first | assumption | rfl)); (try simp only [Bool.not_true, Bool.not_false])))
theorem tone34 : True := by
  w_top off
  trivial
theorem addLow_nodup : ∀ (ss ks : List Str), (ks ++ ss).Nodup → ss.foldl addLow ks = ks ++ ss
  | [], ks, _ => by simp
  | a :: r, ks, h => by
    have ha : a ∉ ks := fun hm => (List.nodup_append.mp h).2.2 a hm a (List.mem_cons_self ..) rfl
    have e : addLow ks a = ks ++ [a] := if_neg (by rw [List.contains_iff_mem]; exact ha)
    rw [List.foldl_cons, e, addLow_nodup r (ks ++ [a]) (by simpa using h)]
    simp
theorem strs_same {vs : List Value} {a b : List Str} (h : StrsAre vs a) : StrsAre vs b → a = b := by
  intro h'
  induction h generalizing b with
  | nil => cases h'; rfl
  | cons y t _ ih => cases h' with | cons y' t' h' => rw [ih h']

theorem tone35 : True := by
  w_top off
  trivial
/-! A For over enumerate(list of the ledger), the ledger kept through the turns, with an invariant over the names. -/
def EnumQ (h₀ : Heap) (L : Addr) (Jn : (Str → Option Value) → Prop) (all : List (Addr × Obj)) (s₁ : Shared) (Q : Flow → Shared → Prop) (f : Flow) (s₂ : Shared) : Prop :=
  match f with
  | .ret v => Q (.ret v) s₂
  | .brk => Q .next s₂
  | _ => ∃ h' tk m', s₂ = { s₁ with heap := h', toks := tk } ∧ Fr h₀ L h' m' ∧ News h₀ L h' all ∧ Jn m'
theorem EnumQ.next {h₀ : Heap} {L : Addr} {Jn : (Str → Option Value) → Prop} {all : List (Addr × Obj)} {s₁ : Shared} {Q : Flow → Shared → Prop} {h' : Heap} {tk : Nat} {m' : Str → Option Value}
    (F : Fr h₀ L h' m') (N : News h₀ L h' all) (j : Jn m') : EnumQ h₀ L Jn all s₁ Q .next { s₁ with heap := h', toks := tk } := ⟨h', tk, m', rfl, F, N, j⟩
section
variable {prog : Program} {w : World} {A : Around} {E : Value → Shared → Prop} {s : Shared} {env : Env} {h₀ : Heap} {body : List Stmt} {Q : Flow → Shared → Prop}
theorem subL_of : ∀ {l nw : List (Addr × Obj)}, (∀ p ∈ l, p ∈ nw) → SubL l nw
  | [], _, _ => trivial
  | a :: r, nw, h => ⟨h a (List.mem_cons_self ..), subL_of fun p hp => h p (List.mem_cons_of_mem _ hp)⟩
theorem enum_unr {L : Addr} {s₁ : Shared} {its keep news : List (Addr × Obj)} {R : (Str → Option Value) → Prop} {R' : (Str → Option Value) → List (Addr × Obj) → Prop} {f : Flow} {s₂ : Shared} (h : EnumQ h₀ L R (its ++ news) s₁ Q f s₂) (hk : ∀ p ∈ keep, p ∈ news) (off : ∀ p ∈ news, ∀ q ∈ its, p.1 ≠ q.1) (hR : ∀ m, R m → R' m news) :
    UnrPostW h₀ L s₁ its (fun m n => SubL keep n ∧ R' m n) Q f s₂ := by
  cases f with
  | ret v => exact h
  | brk => exact h
  | next => obtain ⟨h', tk, m', e, F, N, r⟩ := h; exact ⟨h', tk, m', news, e, F, N, off, subL_of hk, hR _ r⟩
  | cont => obtain ⟨h', tk, m', e, F, N, r⟩ := h; exact ⟨h', tk, m', news, e, F, N, off, subL_of hk, hR _ r⟩
theorem enum_loop {elts : List Expr} {k : Nat} {pos : Pos} {l : Addr} {vs : List Value} {n : Nat} {m₀ : Str → Option Value} {news : List (Addr × Obj)} (J : Nat → (Str → Option Value) → Prop)
    (hh : A.handled = none) (F : Fr h₀ env.locals s.heap m₀) (N : News h₀ env.locals s.heap news) (hm : (l, listOf vs.toArray n) ∈ news) (hj : J 0 m₀)
    (turn : ∀ i v T t m₁ h tk I oe oi, vs[i]? = some v → J i m₁ → IsTup h T #[.int (i : Int) t, v] → Fr h₀ env.locals h m₁ → (∀ p ∈ news, p.1 < I) → News h₀ env.locals h ([(I + 1, oe), (I, oi)] ++ news) →
      wpAny (model prog w) A (assign (.Tuple elts k pos) env (.ref T)) (fun _ s₂ => wpAny (model prog w) A (execs body env) (EnumQ h₀ env.locals (J (i + 1)) ([(I + 1, oe), (I, oi)] ++ news) { s with heap := h, toks := tk } Q) E s₂) E { s with heap := h, toks := tk })
    (done : ∀ m₁ h tk, J vs.length m₁ → Fr h₀ env.locals h m₁ → News h₀ env.locals h news → Q .next { s with heap := h, toks := tk }) :
    wpAny (model prog w) A (call (.type "enumerate") [.ref l]) (fun xv s₁ => wpAny (model prog w) A (pyIter xv) (fun it s₂ => TurnsAt prog w A h₀ env (.Tuple elts k pos) body Q E it s₂) E s₁) E s := by
  refine ktu_enum hh F N hm rfl rfl rfl fun I hI => ?_
  have key : ∀ (suf : List Value) (i : Nat) (m₁ : Str → Option Value) (nw : List (Addr × Obj)), nw = news → vs.drop i = suf → i ≤ vs.length → J i m₁ →
      ItemsRest prog w A E h₀ env (.Tuple elts k pos) body Q s [(I + 1, "enumerate"), (I, "list_iterator")] [(l, listOf vs.toArray n)] (enumItems i suf) m₁ nw := by
    intro suf
    induction suf with
    | nil =>
      intro i m₁ nw hnw hd hil hJ
      subst hnw
      refine ItemsRest.zero fun h tk F₁ N₁ => ?_
      have hle : vs.length ≤ i := List.drop_eq_nil_iff.mp hd
      have e : i = vs.length := Nat.le_antisymm hil hle
      subst e
      exact done m₁ h tk hJ F₁ N₁
    | cons v r ih =>
      intro i m₁ nw hnw hd hil hJ
      subst hnw
      have hv : vs[i]? = some v := by rw [← List.head?_drop, hd]; rfl
      have hr : vs.drop (i + 1) = r := by rw [← List.tail_drop, hd]; rfl
      refine ItemsRest.pair fun T t h tk hT F₁ => AllObj.cons fun oe he => AllObj.cons fun oi hi => ?_
      intro N₁
      have off : ∀ p ∈ nw, ∀ q ∈ [(I + 1, oe), (I, oi)], p.1 ≠ q.1 := fun p hp q hq e => by
        have h1 := hI p hp
        rcases List.mem_cons.mp hq with rfl | hq
        · rw [e] at h1; exact absurd h1 (Nat.not_lt.mpr (Nat.le_succ _))
        · rw [e, List.mem_singleton.mp hq] at h1; exact absurd h1 (Nat.lt_irrefl _)
      refine wpAny_mono (turn i v T t m₁ h tk I oe oi hv hJ hT F₁ hI N₁) (fun _ s₂ h₂ => wpAny_mono h₂ (fun f s₃ h₃ => enum_unr h₃ (fun p hp => by rw [List.mem_singleton.mp hp]; exact hm) off fun m' hr' => ih (i + 1) m' _ rfl hr (by obtain ⟨hlt, _⟩ := List.getElem?_eq_some_iff.mp hv; exact hlt) hr') fun _ _ e => e) fun _ _ e => e
  exact key vs 0 m₀ news rfl rfl (Nat.zero_le _) hj
end

theorem tone36 : True := by
  w_top off
  trivial
def placeFrom (q : Str) : Nat → List Str → Int
  | _, [] => -1
  | k, z :: r => if decide (Txt.lower z = Txt.lower q) = true then (k : Int) else placeFrom q (k + 1) r
def place (row : List Str) (q : Str) : Int := placeFrom q 0 row

theorem find_ct {prog : Program} {w : World} {x dx hl hs : Addr} {hh1 hh2 : Int} {th1 th2 tq : Tok} {nd0 nl : Nat} {vs : List Value} {so : Obj} {row : List Str} {q : Str}
    (hi : StrsAre vs row) (hsz : row.length ≤ 50) (hq : ∀ z ∈ row, z.length ≤ 100) (hq1 : q.length ≤ 100) :
    Ct prog w 900 9000 (.ref 109) [.ref x, .str q tq] (hsLed x dx hl hs hh1 hh2 th1 th2 nd0 vs nl so)
      (fun v fp' => ∃ t, fp' = hsLed x dx hl hs hh1 hh2 th1 th2 nd0 vs nl so ∧ v = .int (place row q) t) := by
  refine Ct.of (binds := [(Str.ofString "self", .ref x), (Str.ofString "header", .str q tq)]) (by k_is) (by k_is) (by k_room) (fun s X => by first | exact BindsTo.of_eq rfl | exact binds_K X rfl (by k_is) rfl rfl rfl) (locs rfl) ?_
  intro gd cn cs L a ccd cl outer base mg mb p loose mean s g L' h' nd F' N' B' X' T'
  (try dsimp only); k_fold
  have nn := neAll_of nd
  simp only [hsLed, List.cons_append, List.nil_append, List.map_cons, List.map_nil, NeAll, NeOne, and_true] at nn
  have hvl := hi.length
  repeat ((fail_if_success (with_reducible show wpAny _ _ (exec (Stmt.For _ _ _ _ _) _) _ _ _)); walk1)
  refine For_turns (by assumption) ?_ (hE := PassesOwn.never)
  repeat ((fail_if_success (with_reducible show wpAny _ _ (call (Value.type "enumerate") _) _ _ _)); walk1)
  refine enum_loop (vs := vs) (fun i m => (∃ t, m (Str.ofString "header") = some (.str (Txt.lower q) t)) ∧ placeFrom q i (row.drop i) = place row q) rfl (by assumption) (by assumption) (by k_mem) ⟨⟨_, rfl⟩, rfl⟩ ?_ ?_
  · rintro i v T t m₁ h tk I oe oi hv ⟨⟨t0, hm⟩, hp⟩ hT F hlt N
    obtain ⟨z, tz, hz, rfl⟩ := strs_at hi hv
    have hz2 := hq z (List.mem_of_getElem? hz)
    have hdr : row.drop i = z :: row.drop (i + 1) := by
      obtain ⟨hlt, e⟩ := List.getElem?_eq_some_iff.mp hz
      rw [List.drop_eq_getElem_cons hlt, e]
    rw [hdr] at hp
    have F := fr_known0 F hm
    simp only [hsLed, List.cons_append, List.nil_append] at N
    k_steps
    · rename (Txt.lower z == Txt.lower q) = true => hc
      (try dsimp only [EnumQ, TurnQ])
      refine Back.intro (hsLed x dx hl hs hh1 hh2 th1 th2 nd0 vs nl so) (by assumption) (by assumption) (Picks.sub (by ((try simp only [hsLed, List.cons_append, List.nil_append]); repeat' (first | exact Picks.done | exact pick_head | refine' pick_tail ?_ | refine' Picks.one ?_ ?_)))) nd ?_
      refine ⟨t, rfl, ?_⟩
      rw [← hp]
      show _ = Value.int (if decide _ = true then _ else _) _
      rw [if_pos (decide_eq_true (eq_of_beq hc))]
    · rename (Txt.lower z == Txt.lower q) = false => hc
      refine EnumQ.next (by assumption) (by assumption) ⟨⟨t0, rfl⟩, ?_⟩
      rw [← hp]
      show _ = if decide _ = true then _ else _
      rw [if_neg (by simpa using hc)]
  · rintro m₁ h tk ⟨_, hp⟩ F N
    rw [hvl, List.drop_length] at hp
    simp only [hsLed, List.cons_append, List.nil_append] at N
    k_steps
    exact Back.intro _ (by assumption) (by assumption) (fun _ hp => hp) nd ⟨_, rfl, by rw [← hp]; rfl⟩

theorem tone37 : True := by
  w_top off
  trivial
/-! Contracts of defs some of whose names are cells (a comprehension reads them). -/
theorem cellsAre_map {cm : Str → Option Value} {cs : List (Str × Addr)} {cells : List (Addr × Obj)} (x : CellsAre cm cs cells) : cells.map (·.1) = cs.map (·.2) := by
  induction x with
  | nil => rfl
  | cons _ _ ih => simp [ih]
theorem Ct.ofC {prog : Program} {w : World} {D U : Nat} {name qual : Str} {params : Arguments} {body : List Stmt} {scope : Scope} {dV kV doc pm cdv ct oc : Value} {an od : Option Addr} {osl : Array (Option Value)} {f : Addr} {args : List Value} {fp : List (Addr × Obj)} {R : Value → List (Addr × Obj) → Prop}
    {binds : List (Str × Value)}
    (ho : (hd.heap_39 w.params).lookup f = some ⟨oc, od, .func (fnOf name qual params body scope dV kV doc pm an cdv ct), osl⟩) (hcd : codeIn (hd.heap_39 w.params) cdv qual = true) (hroom : D < recursionLimit)
    (hbind : ∀ s : Shared, (hd.heap_39 w.params).In s.heap → BindsTo s (fnOf name qual params body scope dV kV doc pm an cdv ct) ⟨args, []⟩ binds) (hkind : (binds.all fun y => scope.names.lookup y.1 == some .local || scope.names.lookup y.1 == some .cell) = true)
    (hnd : ((cellsFrom 0 scope.names []).map (·.1)).Nodup)
    (h : ∀ (gd : Option (List Code)) (cn : Str) (cs : Scope) (L a : Addr) (ccd : Value) (cl : List (Str × Addr)) (outer : List Env) (base : Heap) (mg mb : Str → Option Value) (p : Program) (loose : List Str) (mean : ExcName → Option Value) (s : Shared) g L' h₁ tk cells,
      ((cells ++ fp).map (·.1)).Nodup → Fr g L' h₁ (bindL (envOfC qual scope L' f cdv).kindOf binds fun _ => none) → News g L' h₁ (cells ++ fp) → CellsAre (bindC (envOfC qual scope L' f cdv).kindOf binds fun _ => none) (cellsFrom (L' + 1) scope.names []) cells →
      Below (ktrTop D U gd cn cs L a ccd cl outer) base (envX cn cs L a ccd cl :: outer) g → (hd.heap_39 w.params).In g → Top p loose mean mg mb g →
      wpAny (model prog w) ((ktrTop D U gd cn cs L a ccd cl outer).deeper (envOfC qual scope L' f cdv)) (execs body (envOfC qual scope L' f cdv))
        (fun fl s' => Back g (fun v fp' _ _ => R v fp') s (match fl with | .ret v => v | _ => .none) s')
        (fun _ _ => False)
        { s with heap := h₁, toks := tk })
    (hco : scope.isCoroutine = false := by rfl) (hgen : scope.isGenerator = false := by rfl) (hk : scope.kind = .function := by rfl) : Ct prog w D U (.ref f) args fp R := by
  intro gd cn cs L a ccd cl outer A₀ base h₀ m mg mb rest p loose mean s Q E B F X N nd T hks ret
  have Nf : News h₀ L s.heap fp := fun p hp => N p (List.mem_append_left _ hp)
  have X' := X.keeps F.keep
  obtain ⟨FG, BG, st, -⟩ := groundX (A := ktrTop D U gd cn cs L a ccd cl outer) (env := envX cn cs L a ccd cl) (R := fun _ _ => True) B F Nf rfl rfl hks
  refine wpAny_call (codeAny_call_function hroom (X' _ _ ho) rfl hco hgen rfl (codeRec_of X' hcd) (hbind s X' _ _ _ _ ?_))
  refine wpAny_newFunctionEnv_cells hk (kindsX hkind _) fun env' he s' x => ?_
  subst he
  refine ⟨(T.nolimit.keeps F.keep).keeps x.toInCall.keep, codeAny_func ?_⟩
  obtain ⟨h₁, tk, rfl, _⟩ := x.done
  have hk₁ := x.toInCall.keep
  obtain ⟨cells, NC, Y⟩ := Cl.news (h₀ := s.heap) (Nat.le_refl _) fun n c hm => ⟨x.cell n c (lookup_of_mem_nodup (cellsFrom_names scope.names 0 (s.heap.objs.size + 1) [] [] rfl ▸ hnd) hm), x.above n c hm⟩
  have ndf : (fp.map (·.1)).Nodup := by rw [List.map_append] at nd; exact (List.nodup_append.mp nd).1
  have ndc : (cells.map (·.1)).Nodup := by
    rw [cellsAre_map Y]
    exact List.pairwise_map.mpr x.apart
  have ndall : ((cells ++ fp).map (·.1)).Nodup := by
    rw [List.map_append]
    refine List.nodup_append.mpr ⟨ndc, ndf, fun a ha b hb e => ?_⟩
    obtain ⟨q, hq, rfl⟩ := List.mem_map.mp hb
    rw [cellsAre_map Y] at ha
    obtain ⟨⟨n, c⟩, hc, rfl⟩ := List.mem_map.mp ha
    have h1 : s.heap.objs.size < c := x.above n c hc
    have h2 := Heap.lt_size (Nf q hq).1
    rw [← e] at h2
    exact absurd h1 (Nat.not_lt.mpr (Nat.le_of_lt h2))
  refine wpAny_mono (h gd cn cs L a ccd cl outer base mg mb p loose mean s (hideAll s.heap (fp.map (·.1))) s.heap.objs.size h₁ tk cells ndall ⟨x.toInCall.ns, fun b o e => hk₁ b o (of_hideAll _ e), Nat.le_of_eq (hideAll_size _ _)⟩ (fun p hp => ?_) Y BG (X.keeps fun b o e => st b o e) (T.keeps fun b o e => st b o e)) (fun fl s' hl => ?_) fun _ _ y => y.elim
  · rcases List.mem_append.mp hp with hp | hp
    · refine ⟨(NC p hp).1, (NC p hp).2.1, ?_⟩
      cases q : (hideAll s.heap (fp.map (·.1))).get? p.1 with
      | none => rfl
      | some o => have := of_hideAll _ q; rw [(NC p hp).2.2] at this; cases this
    · exact ⟨hk₁ _ _ (Nf p hp).1, Nat.ne_of_lt (Heap.lt_size (Nf p hp).1), hideAll_none _ (List.mem_map_of_mem hp)⟩
  · obtain ⟨L', m', fp', h', tk', rfl, F', N', nd', r⟩ := hl
    obtain ⟨F'', N'', nd''⟩ := back_out F N nd F' N'
    exact ret _ _ _ _ F'' N'' (nd'' nd') r

theorem tone38 : True := by
  w_top off
  trivial
def idxs (q : Str) : Nat → List Str → List Int
  | _, [] => []
  | k, z :: r => if decide (Txt.lower z = Txt.lower q) = true then (k : Int) :: idxs q (k + 1) r else idxs q (k + 1) r
theorem idxs_snoc (q z : Str) : ∀ (l : List Str) (k : Nat), idxs q k (l ++ [z]) = idxs q k l ++ (if decide (Txt.lower z = Txt.lower q) = true then [((k + l.length : Nat) : Int)] else [])
  | [], k => by simp [idxs]
  | a :: r, k => by
    rw [List.cons_append]
    unfold idxs
    rw [idxs_snoc q z r (k + 1), show k + 1 + r.length = k + (a :: r).length by simp only [List.length_cons]; omega]
    split <;> simp
theorem place_idxs (q : Str) : ∀ (l : List Str) (k : Nat), placeFrom q k l = (idxs q k l).headD (-1)
  | [], k => rfl
  | a :: r, k => by
    unfold placeFrom idxs
    split
    · rfl
    · exact place_idxs q r (k + 1)
theorem range_n {n : Nat} (h : n ≤ 10000) : Builtin.Range.small 0 (n : Int) 1 = true ∧ Builtin.Range.rangeSize 0 (n : Int) 1 = (n : Int) := by
  refine ⟨small_one (by decide) (by decide) (by omega) (by omega), ?_⟩
  rw [rangeSize_one]; split <;> omega
theorem idxs_len (q : Str) : ∀ (l : List Str) (k : Nat), (idxs q k l).length ≤ l.length
  | [], k => Nat.le_refl _
  | a :: r, k => by
    have := idxs_len q r (k + 1)
    unfold idxs
    split <;> simp only [List.length_cons] <;> omega
theorem place_ct {prog : Program} {w : World} {rl : Addr} {tq : Tok} {nl : Nat} {vs : List Value} {row : List Str} {q : Str}
    (hi : StrsAre vs row) (hsz : row.length ≤ 50) (hq : ∀ z ∈ row, z.length ≤ 100) (hq1 : q.length ≤ 100) :
    Ct prog w 900 9000 (.ref 223) [.ref rl, .str q tq] [(rl, listOf vs.toArray nl)]
      (fun v fp' => ∃ t, fp' = [(rl, listOf vs.toArray nl)] ∧ v = .int (place row q) t) := by
  refine Ct.ofC (binds := [(Str.ofString "row", .ref rl), (Str.ofString "name", .str q tq)]) (by k_is) (by k_is) (by k_room) (fun s X => by first | exact BindsTo.of_eq rfl | exact binds_K X rfl (by k_is) rfl rfl rfl) rfl (by decide) ?_
  intro gd cn cs L a ccd cl outer base mg mb p loose mean s g L' h' tk cells nd F' N' Y B' X' T'
  obtain ⟨c1, c2, rfl, hc1, hc2⟩ := CellsAre.two Y
  simp only [List.cons_append, List.nil_append] at N' nd
  clear Y
  (try dsimp only at hc1 hc2); (try dsimp only); k_fold
  have hvl := hi.length
  repeat ((fail_if_success (with_reducible show wpAny _ _ (exec (Stmt.Assign _ _ _) _) _ _ _)); walk1)
  refine Assign_ListComp_G (F₀ := by assumption) rfl (by with_unfolding_all rfl) rfl (by decide) rfl (by decide) rfl rfl rfl ?_
  repeat ((fail_if_success (with_reducible show wpAny _ _ (pyIter _) _ _ _)); walk1)
  have hr := range_n (n := row.length) (by omega)
  refine it_range (n := row.length) rfl (by assumption) hr.1 hr.2 ?_
  intro o ho hit
  refine CompAt.mk (fun i ys nw => nw = [(L' + 1 + 1, c1), (L' + 1, c2), (rl, listOf vs.toArray nl)] ∧ IntsAre ys (idxs q 0 (row.take i))) hit (by omega) (by intro i ys nw _ p hp; cases hp) (by assumption) (by assumption) nd ⟨rfl, .nil⟩ ?_ ?_
  · rintro i v ys I oI C oC D oD m₂ nw h tk E' hin ⟨tv, rfl⟩ ⟨rfl, hys⟩ hAcc hyl hoC hmx F N nd2
    refine wpAny_tests_one ?_
    obtain ⟨z, hz⟩ : ∃ z, row[i]? = some z := ⟨row[i], List.getElem?_eq_getElem hin⟩
    have hzd : row.getD ((i : Int)).toNat Str.empty = z := by rw [Int.toNat_natCast, List.getD_eq_getElem?_getD, hz]; rfl
    have hz2 : (row.getD ((i : Int)).toNat Str.empty).length ≤ 100 := by rw [hzd]; exact hq z (List.mem_of_getElem? hz)
    have hstep : idxs q 0 (row.take (i + 1)) = idxs q 0 (row.take i) ++ (if decide (Txt.lower z = Txt.lower q) = true then [((0 + (row.take i).length : Nat) : Int)] else []) := by
      rw [List.take_add_one, hz, ← idxs_snoc]; rfl
    rw [List.length_take_of_le (Nat.le_of_lt hin), Nat.zero_add] at hstep
    k_steps
    · rename (Txt.lower _ == Txt.lower q) = true => hc
      rw [hzd] at hc
      refine CEnd.intro [(L' + 1 + 1, c1), (L' + 1, c2), (rl, listOf vs.toArray nl)] F N (fun _ hp => hp) nd2 ?_
      refine ⟨trivial, rfl, ?_⟩
      rw [hstep, if_pos (decide_eq_true (eq_of_beq hc))]
      exact hys.append (.cons _ _ .nil)
    · rename (Txt.lower _ == Txt.lower q) = false => hc
      rw [hzd] at hc
      refine CEnd.intro [(L' + 1 + 1, c1), (L' + 1, c2), (rl, listOf vs.toArray nl)] F N (fun _ hp => hp) nd2 ?_
      refine ⟨rfl, ?_⟩
      rw [hstep, if_neg (by simpa using hc), List.append_nil]
      exact hys
  · rintro ys nw ⟨rfl, hys⟩ nd2 D oD h tk rfl F N nd3
    rw [List.take_length] at hys
    have hlen := idxs_len q row 0
    have hyl := hys.length
    have hpl : place row q = (idxs q 0 row).headD (-1) := place_idxs q row 0
    have nd4 : ([(rl, listOf vs.toArray nl)].map (·.1)).Nodup := List.nodup_cons.mpr ⟨List.not_mem_nil, List.nodup_nil⟩
    (try dsimp only)
    k_steps
    · rename ys.isEmpty = true => hc
      have h0 : idxs q 0 row = [] := by
        have : ys = [] := by simpa using hc
        subst this; exact List.eq_nil_of_length_eq_zero hyl.symm
      refine Back.intro [(rl, listOf vs.toArray nl)] F N (Picks.sub (by ((try simp only [hsLed, List.cons_append, List.nil_append]); repeat' (first | exact Picks.done | exact pick_head | refine' pick_tail ?_ | refine' Picks.one ?_ ?_)))) nd4 ?_
      exact ⟨_, rfl, by rw [hpl, h0]; rfl⟩
    · rename ys.isEmpty = false => hc
      have hpos : 0 < (idxs q 0 row).length := by
        rw [← hyl]; cases ys with
        | nil => cases hc
        | cons _ _ => exact Nat.succ_pos _
      k_steps
      refine Back.intro [(rl, listOf vs.toArray nl)] F N (Picks.sub (by ((try simp only [hsLed, List.cons_append, List.nil_append]); repeat' (first | exact Picks.done | exact pick_head | refine' pick_tail ?_ | refine' Picks.one ?_ ?_)))) nd4 ?_
      have e : (idxs q 0 row).getD (Int.toNat 0) 0 = place row q := by
        rw [hpl]
        cases hk : idxs q 0 row with
        | nil => rw [hk] at hpos; exact absurd hpos (Nat.lt_irrefl _)
        | cons a r => rfl
      rw [e]
      exact ⟨_, rfl, rfl⟩

theorem tone39 : True := by
  w_top off
  trivial
section
variable {prog : Program} {w : World} {A : Around} {E : Value → Shared → Prop} {s : Shared} {h₀ : Heap} {L : Addr} {m : Str → Option Value} {news : List (Addr × Obj)}
abbrev liObj (l : Addr) (i : Nat) : Obj := { cls := .type "list_iterator", data := .fields #[.ref l, .int (i : Int) 0] }
theorem call_iter_led {l : Addr} {vs : List Value} {n : Nat} {Q : Value → Shared → Prop} (F : Fr h₀ L s.heap m) (N : News h₀ L s.heap news) (hm : (l, listOf vs.toArray n) ∈ news)
    (h : ∀ (I : Addr) h', Fr h₀ L h' m → News h₀ L h' ((I, liObj l 0) :: news) → (∀ p ∈ news, p.1 < I) → Q (.ref I) { s with heap := h' }) :
    wpAny (model prog w) A (call (.builtin "iter") [.ref l]) Q E s := by
  have hls : s.heap.IsList l vs.toArray := ⟨_, (N _ hm).1, rfl, n, rfl⟩
  refine call_function_entry (by decide +kernel) (by decide +kernel) kdk_entry_iter (kdk_args_iter _) ?_
  unfold Builtin.«iter»
  refine wpAny_bind (m := someArgs "iter" 1 2 _) (wpAny_of_eq (a := [Value.ref l]) (by first | rfl | kernel_rfl!) ?_)
  show wpAny _ _ (pyIter (.ref l) >>= _) _ _ _
  refine wpAny_bind (wpAny_pyIter_list hls ?_)
  exact wpAny_pure ⟨_, rfl, h _ _ (F.push _) (News.push F N _ rfl) (fun q hq => Heap.lt_size (N q hq).1)⟩
end

local macro_rules | `(tactic| walk_at "call builtin:iter") => `(tactic| (k_here; (with_reducible show wpAny _ _ (call (Value.builtin "iter") [Value.ref _]) _ _ _); k_dflt (refine call_iter_led (by k_asm) (by k_asm) (by k_mem) ?_); intro D' h' F' N' l1; (try k_lt l1)))
theorem tone40 : True := by
  w_top off
  trivial
section
variable {prog : Program} {w : World} {x dx hl hs : Addr} {hh1 hh2 : Int} {th1 th2 tq : Tok} {nd0 nl : Nat} {vs : List Value} {so : Obj} {row : List Str} {q : Str}
theorem len_ct (hS : StrSet w so (row.map Txt.lower)) (hsz : row.length ≤ 50) :
    Ct prog w 900 9000 (.ref 171) [.ref x] (hsLed x dx hl hs hh1 hh2 th1 th2 nd0 vs nl so)
      (fun v fp' => ∃ t, fp' = hsLed x dx hl hs hh1 hh2 th1 th2 nd0 vs nl so ∧ v = .int (row.length : Int) t) := by
  refine Ct.of (binds := [(Str.ofString "self", .ref x)]) (by k_is) (by k_is) (by k_room) (fun s X => by first | exact BindsTo.of_eq rfl | exact binds_K X rfl (by k_is) rfl rfl rfl) (locs rfl) ?_
  intro gd cn cs L a ccd cl outer base mg mb p loose mean s g L' h' nd F' N' B' X' T'
  (try dsimp only); k_fold
  have hso : so.SetObjOf (strKind prog w) (lowS row) row.length := hS.low
  have nn := neAll_of nd
  simp only [hsLed, List.cons_append, List.nil_append, List.map_cons, List.map_nil, NeAll, NeOne, and_true] at nn
  simp only [hsLed, List.cons_append, List.nil_append] at N'
  k_steps
  (try dsimp only)
  refine Back.intro (hsLed x dx hl hs hh1 hh2 th1 th2 nd0 vs nl so) (by assumption) (by assumption) (fun _ hp => hp) nd ?_
  exact ⟨_, rfl, rfl⟩
theorem contains_ct (hS : StrSet w so (row.map Txt.lower)) (hsz : row.length ≤ 50) (hq1 : q.length ≤ 100) :
    Ct prog w 900 9000 (.ref 164) [.ref x, .str q tq] (hsLed x dx hl hs hh1 hh2 th1 th2 nd0 vs nl so)
      (fun v fp' => fp' = hsLed x dx hl hs hh1 hh2 th1 th2 nd0 vs nl so ∧ v = .bool (lowS row (Txt.lower q))) := by
  refine Ct.of (binds := [(Str.ofString "self", .ref x), (Str.ofString "header", .str q tq)]) (by k_is) (by k_is) (by k_room) (fun s X => by first | exact BindsTo.of_eq rfl | exact binds_K X rfl (by k_is) rfl rfl rfl) (locs rfl) ?_
  intro gd cn cs L a ccd cl outer base mg mb p loose mean s g L' h' nd F' N' B' X' T'
  (try dsimp only); k_fold
  have hso : so.SetObjOf (strKind prog w) (lowS row) row.length := hS.low
  have nn := neAll_of nd
  simp only [hsLed, List.cons_append, List.nil_append, List.map_cons, List.map_nil, NeAll, NeOne, and_true] at nn
  simp only [hsLed, List.cons_append, List.nil_append] at N'
  k_steps
  all_goals (try dsimp only)
  all_goals refine Back.intro (hsLed x dx hl hs hh1 hh2 th1 th2 nd0 vs nl so) (by assumption) (by assumption) (fun _ hp => hp) nd ?_
  all_goals (refine ⟨rfl, ?_⟩; first | rfl | (congr 1; symm; assumption))
theorem getitem_ct {k : Nat} {tk0 : Tok} (hi : StrsAre vs row) (hk : k < row.length) (hsz : row.length ≤ 50) :
    Ct prog w 900 9000 (.ref 143) [.ref x, .int (k : Int) tk0] (hsLed x dx hl hs hh1 hh2 th1 th2 nd0 vs nl so)
      (fun v fp' => ∃ t, fp' = hsLed x dx hl hs hh1 hh2 th1 th2 nd0 vs nl so ∧ v = .str (row.getD k Str.empty) t) := by
  refine Ct.of (binds := [(Str.ofString "self", .ref x), (Str.ofString "idx", .int (k : Int) tk0)]) (by k_is) (by k_is) (by k_room) (fun s X => by first | exact BindsTo.of_eq rfl | exact binds_K X rfl (by k_is) rfl rfl rfl) (locs rfl) ?_
  intro gd cn cs L a ccd cl outer base mg mb p loose mean s g L' h' nd F' N' B' X' T'
  (try dsimp only); k_fold
  have hvl := hi.length
  simp only [hsLed, List.cons_append, List.nil_append] at N'
  k_steps
  (try dsimp only)
  rw [Int.toNat_natCast]
  refine Back.intro (hsLed x dx hl hs hh1 hh2 th1 th2 nd0 vs nl so) (by assumption) (by assumption) (fun _ hp => hp) nd ?_
  exact ⟨_, rfl, rfl⟩
theorem iter_ct (hi : StrsAre vs row) (hsz : row.length ≤ 50) :
    Ct prog w 900 9000 (.ref 178) [.ref x] (hsLed x dx hl hs hh1 hh2 th1 th2 nd0 vs nl so)
      (fun v fp' => ∃ I, v = .ref I ∧ fp' = (I, liObj hl 0) :: hsLed x dx hl hs hh1 hh2 th1 th2 nd0 vs nl so) := by
  refine Ct.of (binds := [(Str.ofString "self", .ref x)]) (by k_is) (by k_is) (by k_room) (fun s X => by first | exact BindsTo.of_eq rfl | exact binds_K X rfl (by k_is) rfl rfl rfl) (locs rfl) ?_
  intro gd cn cs L a ccd cl outer base mg mb p loose mean s g L' h' nd F' N' B' X' T'
  (try dsimp only); k_fold
  simp only [hsLed, List.cons_append, List.nil_append] at N'
  k_steps
  refine Back.intro _ (by assumption) (by assumption) (fun _ hp => hp) ?_ ⟨_, rfl, rfl⟩
  have nn := neAll_of nd
  simp only [hsLed, List.cons_append, List.nil_append, List.map_cons, List.map_nil, NeAll, NeOne, and_true] at nn
  (first | assumption | (refine nodup_of_ne ?_; (simp only [hsLed, List.cons_append, List.nil_append, List.map_cons, List.map_nil, NeAll, NeOne, and_true]); omega))
end

theorem tone42 : True := by
  w_top off
  trivial
theorem place_in {row : List Str} {q : Str} : ∀ k, (placeFrom q k row = -1 ∧ (row.map Txt.lower).contains (Txt.lower q) = false) ∨ ((k : Int) ≤ placeFrom q k row ∧ (row.map Txt.lower).contains (Txt.lower q) = true) := by
  induction row with
  | nil => intro k; exact .inl ⟨rfl, rfl⟩
  | cons a r ih =>
    intro k
    unfold placeFrom
    by_cases h : Txt.lower a = Txt.lower q
    · rw [if_pos (decide_eq_true h)]
      exact .inr ⟨Int.le_refl _, by simp [h]⟩
    · rw [if_neg (by simpa using h)]
      rcases ih (k + 1) with ⟨h1, h2⟩ | ⟨h1, h2⟩
      · refine .inl ⟨h1, ?_⟩
        rw [List.map_cons, List.contains_cons, h2]
        simp only [Bool.or_false, beq_eq_false_iff_ne]
        exact fun e => h e.symm
      · refine .inr ⟨by omega, ?_⟩
        rw [List.map_cons, List.contains_cons, h2, Bool.or_true]
theorem addName_place (row : List Str) (q : Str) : addName row q = if place row q = -1 then row ++ [q] else row := by
  unfold addName place
  rcases place_in (row := row) (q := q) 0 with ⟨h1, h2⟩ | ⟨h1, h2⟩
  · rw [h1, h2]; simp
  · rw [h2, if_pos rfl, if_neg (by omega)]
theorem put_ct {prog : Program} {w : World} {rl nm : Addr} {n1 n2 : Nat} {vs ws : List Value} {row names : List Str}
    (hi : StrsAre vs row) (hn : StrsAre ws names) (hsz : row.length + names.length ≤ 40) (hr : ∀ z ∈ row, z.length ≤ 100) (hq : ∀ z ∈ names, z.length ≤ 100) :
    Ct prog w 880 8800 (.ref 230) [.ref rl, .ref nm] [(rl, listOf vs.toArray n1), (nm, listOf ws.toArray n2)]
      (fun v fp' => ∃ r' vs' n', v = .ref r' ∧ fp' = [(r', listOf vs'.toArray n'), (nm, listOf ws.toArray n2)] ∧ StrsAre vs' (names.foldl addName row)) := by
  refine Ct.of (binds := [(Str.ofString "row", .ref rl), (Str.ofString "names", .ref nm)]) (by k_is) (by k_is) (by k_room) (fun s X => by first | exact BindsTo.of_eq rfl | exact binds_K X rfl (by k_is) rfl rfl rfl) (locs rfl) ?_
  intro gd cn cs L a ccd cl outer base mg mb p loose mean s g L' h' nd F' N' B' X' T'
  (try dsimp only); k_fold
  repeat ((fail_if_success (with_reducible show wpAny _ _ (exec (Stmt.For _ _ _ _ _) _) _ _ _)); walk1)
  refine For_invVF (by assumption) rfl rfl ?_ (hE := PassesOwn.never)
  walk1
  refine loop_list (l := nm) (vs := ws) (nl := n2) (fun i m nw => ∃ r' vs' n', m (Str.ofString "row") = some (.ref r') ∧ StrsAre vs' ((names.take i).foldl addName row) ∧ (∀ z ∈ (names.take i).foldl addName row, z.length ≤ 100) ∧ nw = [(r', listOf vs'.toArray n'), (nm, listOf ws.toArray n2)])
    rfl ?_ (by assumption) (by assumption) nd ⟨rl, vs, n1, rfl, hi, hr, rfl⟩ ?_ ?_
  · rintro i m nw ⟨r', vs', n', _, _, _, rfl⟩
    simp
  · rintro i v m₁ nw h tk I oI hv ⟨r', vs', n', hm, h1, h3, rfl⟩ F N nd
    obtain ⟨q, t, hq', rfl⟩ := strs_at hn hv
    k_fold
    replace F := fr_known F hm
    (try simp only [List.cons_append, List.nil_append] at N)
    have nn := neAll_of nd
    simp only [List.map_cons, List.map_nil, NeAll, NeOne, and_true] at nn
    have hlen := addNames_len (names.take i) row
    have hq2 := hq q (List.mem_of_getElem? hq')
    have hstep : (names.take (i + 1)).foldl addName row = addName ((names.take i).foldl addName row) q := by rw [List.take_add_one, hq']; simp
    obtain ⟨R, hR⟩ : ∃ R, R = (names.take i).foldl addName row := ⟨_, rfl⟩
    rw [← hR] at h1 h3 hlen hstep
    have hRl : R.length ≤ 40 := by simp only [List.length_take] at hlen; omega
    have hvl := h1.length
    repeat ((fail_if_success (with_reducible show wpAny _ _ (call (Value.ref _) _) _ _ _)); walk1)
    refine Ct.use (place_ct (row := R) (vs := vs') h1 (by omega) h3 hq2) (by assumption) (by assumption) (by assumption) (by assumption) ?_ (by ((try simp only [hsLed, List.cons_append, List.nil_append]); repeat' (first | exact Picks.done | exact pick_head | refine' pick_tail ?_ | refine' Picks.one ?_ ?_))) (by assumption) rfl rfl rfl ?_
    · (first | assumption | (refine nodup_of_ne ?_; (simp only [hsLed, List.cons_append, List.nil_append, List.map_cons, List.map_nil, NeAll, NeOne, and_true]); omega))
    · rintro v fp' h' tk' F' N' nd' ⟨tp, rfl, rfl⟩
      simp only [List.cons_append, List.nil_append, List.map_cons, List.map_nil] at N' nd'
      repeat ((fail_if_success (first | (with_reducible show wpAny _ _ (binaryOp _ _ _) _ _ _) | (show TurnQ _ _ _ _ _ _ _ _))); walk1)
      · rename place R q = -1 => hc
        rename News _ _ _ _ => N9
        have hb := fun p hp => Heap.lt_size (N9 p hp).1
        simp only [List.forall_mem_cons, List.not_mem_nil, false_implies, implies_true, and_true] at hb
        have hb := And.intro (ltN hb.1) (And.intro (ltN hb.2.1) (And.intro (ltN hb.2.2.1) (ltN hb.2.2.2)))
        k_steps
        (try dsimp only)
        refine TurnQ.next [(_, listOf (vs' ++ [Value.str q t]).toArray _), (nm, listOf ws.toArray n2)] (by assumption) (by assumption) (Picks.sub (by ((try simp only [hsLed, List.cons_append, List.nil_append]); repeat' (first | exact Picks.done | exact pick_head | refine' pick_tail ?_ | refine' Picks.one ?_ ?_)))) ?_ ?_
        · (first | assumption | (refine nodup_of_ne ?_; (simp only [hsLed, List.cons_append, List.nil_append, List.map_cons, List.map_nil, NeAll, NeOne, and_true]); omega))
        · refine ⟨_, vs' ++ [Value.str q t], _, rfl, ?_, ?_, rfl⟩
          · rename StrsAre vs' R => h1
            rw [hstep, addName_place, if_pos hc]; exact h1.append' (.cons _ _ .nil)
          · rw [hstep, addName_place, if_pos hc]; intro z hz
            rcases List.mem_append.mp hz with hz | hz
            · exact h3 z hz
            · rw [List.mem_singleton.mp hz]; exact hq2
      · rename place R q ≠ -1 => hc
        k_steps
        (try dsimp only)
        refine TurnQ.next [(r', listOf vs'.toArray n'), (nm, listOf ws.toArray n2)] (by assumption) (by assumption) (Picks.sub (by ((try simp only [hsLed, List.cons_append, List.nil_append]); repeat' (first | exact Picks.done | exact pick_head | refine' pick_tail ?_ | refine' Picks.one ?_ ?_)))) ?_ ?_
        · (first | assumption | (refine nodup_of_ne ?_; (simp only [hsLed, List.cons_append, List.nil_append, List.map_cons, List.map_nil, NeAll, NeOne, and_true]); omega))
        · refine ⟨_, vs', _, rfl, ?_, ?_, rfl⟩
          · rw [hstep, addName_place, if_neg hc]; exact h1
          · rw [hstep, addName_place, if_neg hc]; exact h3
  · rintro m₁ nw h tk ⟨r', vs', n', hm, h1, h3, rfl⟩ F N nd
    rw [List.take_of_length_le (Nat.le_of_eq hn.length.symm)] at h1
    replace F := fr_known0 F hm
    k_steps
    exact Back.intro _ (by assumption) (by assumption) (fun _ hp => hp) nd ⟨_, _, _, rfl, rfl, h1⟩

theorem tone44 : True := by
  w_top off
  trivial
section
variable {prog : Program} {w : World} {A : Around} {E : Value → Shared → Prop} {s : Shared}
abbrev freshSet (w : World) : Obj := { cls := .type "set", dict := none, data := .set #[] 0 (.fresh 0 0 (!byTextW w)) }
theorem code_set_new_w (a : Value) {Q₁ : Value → Shared → Prop}
    (h : Q₁ (.ref s.heap.objs.size) { s with heap := s.heap.push (freshSet w) }) :
    codeAny (model prog w) A (.call (.builtin "set.__new__") ⟨[.type "set", a], []⟩) (wants Q₁ E) s := by
  refine codeAny_of_tree ?_
  show wpAny _ A.in1 (do checkBuiltinCall "set.__new__" ⟨[.type "set", a], []⟩; again (.builtin "set.__new__" ⟨[.type "set", a], []⟩)) _ _ s
  refine wpAny_bind (wpAny_of_eq (PySem.F.newCall_set_1 a) (wpAny_pure ⟨plainId_quiet PySem.F.plain_set_new _, codeAny_builtin PySem.F.entry_set_new ?_⟩))
  rw [Around.under_plainId PySem.F.plain_set_new _]
  unfold Builtin.«set.__new__» Builtin.Frozenset.newClass
  have hsub := sub_set_self
  obtain ⟨hp, g, d, tk, os⟩ := s
  dsimp only
  wp_walk
  refine wpAny_askSetting (wpAny_pure ?_)
  dsimp only
  simp only [newObj]
  refine wpAny_bind (wpAny_alloc (wpAny_pure ?_))
  exact wpAny_pure h

theorem call_set_gen {a : Value} {P : Shared → Prop} {Q : Value → Shared → Prop} (hh : A.handled = none)
    (hinit : ∀ A' : Around, A'.handled = none → codeAny (model prog w) A' (.call (.builtin "set.__init__") ⟨[.ref s.heap.objs.size, a], []⟩) (wants (fun r s₂ => r = .none ∧ P s₂) E) { s with heap := s.heap.push (freshSet w) })
    (h : ∀ s₂, P s₂ → Q (.ref s.heap.objs.size) s₂) : wpAny (model prog w) A (call (.type "set") [a]) Q E s := by
  obtain ⟨c, tl, hmro⟩ := PySem.F.called_set.mro
  have hmade := PySem.F.called_set.made
  have hsub := PySem.F.called_set.sub
  refine wpAny_call (codeAny_of_tree ?_)
  show wpAny _ _ (callAny (.type "set") _) _ _ _
  refine wpAny_pure ⟨Code.quiet_builtin _ (by decide +kernel), codeAny_builtin PySem.F.entry_type_call ?_⟩
  rw [Around.under_plain (weight_type_call_type "set" [a] []) rfl]
  have h1 := PySem.F.called_set.notType
  have h2 := PySem.F.called_set.canCreate
  have hct := PySem.F.typeCall_set_1 a
  repeat (any_goals (first | assumption | wp_step))
  refine codeAny_mono (code_set_new_w a (E := E) (Q₁ := fun obj s₁ => obj = .ref s.heap.objs.size ∧ s₁ = { s with heap := s.heap.push (freshSet w) }) ⟨rfl, rfl⟩) fun r s₁ hr => ?_
  cases r with
  | error e => exact hr
  | ok fl =>
    cases fl with
    | ret obj =>
      obtain ⟨rfl, rfl⟩ := hr
      have hS : (s.heap.push (freshSet w)).get? s.heap.objs.size = some (freshSet w) := Heap.get?_push_size _ rfl
      have hT : Shared.TypeIs { s with heap := s.heap.push (freshSet w) } (.ref s.heap.objs.size) "set" := ⟨_, hS, rfl⟩
      have hli := PySem.F.called_set.init.lookup
      have hbi := PySem.F.called_set.init.bind (.ref s.heap.objs.size)
      repeat (any_goals (first | assumption | wp_step))
      refine codeAny_mono (hinit _ (by simp [hh])) fun r₂ s₂ hr₂ => ?_
      cases r₂ with
      | error e => exact hr₂
      | ok fl₂ =>
        cases fl₂ with
        | ret r =>
          obtain ⟨rfl, hP⟩ := hr₂
          repeat (any_goals (first | assumption | wp_step))
          exact h _ hP
        | _ => exact hr₂.elim
    | _ => exact hr.elim
end

theorem tone45 : True := by
  w_top off
  trivial
section
variable {prog : Program} {w : World} {A : Around} {R : Result → Shared → Prop} {I : Addr} {fp wr : List Addr} {G : Array GenState → Array GenState → Prop} {n : Nat} {P : Nat → Value → Prop} {St : Nat → Shared → Prop}
theorem strs_update_loop (W : WalksS prog w A.in1 I fp wr G n P St) (S : Addr) (hSf : S ∉ fp) (ss : List Str) (hval : ∀ i v, P i v → ∃ k t, ss[i]? = some k ∧ v = .str k t) (hn : n = ss.length) (hb : n ≤ 100) :
    ∀ (k i : Nat) (s : Shared) (so : Obj), n - i = k → i ≤ n → St i s → s.heap.get? S = some so → StrSet w so ((ss.take i).foldl addLow []) →
      (∀ s' so', Moved (S :: wr) G s s' → s'.heap.get? S = some so' → StrSet w so' (ss.foldl addLow []) → R (.ok (.ret .none)) s') →
      codeAny (model prog w) A (.builtin "set.update.loop" ⟨[.ref S, .ref I], []⟩) R s := by
  have hSw : S ∉ wr := fun h => hSf (W.sub _ h)
  have hsub : ∀ b ∈ wr, b ∈ S :: wr := fun b hb => List.mem_cons_of_mem _ hb
  intro k
  induction k with
  | zero =>
    intro i s so hk hi hst hS hSS hR
    have hin : i = n := by omega
    subst hin
    rw [List.take_of_length_le (by omega)] at hSS
    refine codeAny_builtin PyProof.Rows.F.entry_set_update_loop ?_
    rw [Around.under_plainId PyProof.Rows.F.plain_set_update_loop _]
    show wpAny _ A.in1 (pyNext (.ref I) >>= _) _ _ s
    refine wpAny_bind (W.done s _ _ hst fun s' hm => ?_)
    show wpAny _ A.in1 (ret Value.none) _ _ s'
    exact wpAny_pure (hR s' so (hm.mono hsub) (hm.heap S _ hSw hS) hSS)
  | succ k ih =>
    intro i s so hk hi hst hS hSS hR
    have hlt : i < n := by omega
    refine codeAny_builtin PyProof.Rows.F.entry_set_update_loop ?_
    rw [Around.under_plainId PyProof.Rows.F.plain_set_update_loop _]
    show wpAny _ A.in1 (pyNext (.ref I) >>= _) _ _ s
    refine wpAny_bind (W.item i s _ _ hlt hst fun v s' hP hst' hm => ?_)
    obtain ⟨q, t, hq, rfl⟩ := hval i v hP
    have hS' := hm.heap S _ hSw hS
    show wpAny _ A.in1 (holding [Value.str q t] (setAdd S (.str q t)) >>= _) _ _ s'
    refine wpAny_bind (wpAny_holding ?_)
    have hlen := addLows_len (ss.take i) []
    have hstep : (ss.take (i + 1)).foldl addLow [] = addLow ((ss.take i).foldl addLow []) q := by rw [List.take_add_one, hq]; simp
    refine setAdd_strs hS' hSS (by unfold scanBound; simp only [List.length_nil, List.length_take] at hlen; omega) fun h' so' hsb hso' hSS' => ?_
    refine wpAny_pure ⟨plainId_quiet PyProof.Rows.F.plain_set_update_loop _, ih (i + 1) _ so' (by omega) hlt (W.frame _ s' _ _ hst' (Nat.le_succ _) fun b hb o e => ?_) hso' (by rw [hstep]; exact hSS') fun s'' so'' hm'' hso'' hSS'' => ?_⟩
    · rw [hsb.2 b (fun h : b = S => hSf (by rw [← h]; exact hb))]; exact e
    · refine hR s'' so'' (Moved.trans W.gtrans ((hm.mono hsub).then_heap (Nat.le_succ _) fun b o hb e => ?_) hm'') hso'' hSS''
      rw [hsb.2 b (fun h : b = S => hb (by rw [h]; exact List.mem_cons_self))]; exact e
end
section
variable {prog : Program} {w : World} {A : Around} {E : Value → Shared → Prop} {s : Shared} {h₀ : Heap} {L : Addr} {m : Str → Option Value} {news : List (Addr × Obj)}
theorem call_set_strs {l : Addr} {vs : List Value} {ss : List Str} {n : Nat} {Q : Value → Shared → Prop} (hh : A.handled = none) (F : Fr h₀ L s.heap m) (N : News h₀ L s.heap news) (hm : (l, listOf vs.toArray n) ∈ news) (hi : StrsAre vs ss) (hb : ss.length ≤ 100)
    (h : ∀ D h' tk o, Fr h₀ L h' m → News h₀ L h' ((D, o) :: news) → (∀ p ∈ news, p.1 < D) → StrSet w o (ss.foldl addLow []) → Q (.ref D) { s with heap := h', toks := tk }) :
    wpAny (model prog w) A (call (.type "set") [.ref l]) Q E s := by
  have hvl := hi.length
  have hl0 := (N _ hm).1
  have hlS : l < s.heap.objs.size := Heap.lt_size hl0
  have hS : (s.heap.push (freshSet w)).get? s.heap.objs.size = some (freshSet w) := Heap.get?_push_size _ rfl
  have hT : Shared.TypeIs { s with heap := s.heap.push (freshSet w) } (.ref s.heap.objs.size) "set" := ⟨_, hS, rfl⟩
  have hol' : (s.heap.push (freshSet w)).get? l = some (listOf vs.toArray n) := Heap.get?_push_of_some _ hl0
  have hl1 : (s.heap.push (freshSet w)).IsList l vs.toArray := ⟨_, hol', rfl, n, rfl⟩
  have hneI : l ≠ (s.heap.push (freshSet w)).objs.size := by rw [Heap.size_push]; exact Nat.ne_of_lt (Nat.lt_succ_of_lt hlS)
  refine call_set_gen (P := fun s₂ => ∃ h' tk o, s₂ = { s with heap := h', toks := tk } ∧ h'.get? s.heap.objs.size = some o ∧ StrSet w o (ss.foldl addLow []) ∧ (∀ b o, b < s.heap.objs.size → s.heap.get? b = some o → h'.get? b = some o)) hh ?_ ?_
  · intro A' hh'
    refine codeAny_call_builtin (R := wants _ E) PySem.F.called_set.init.plain PySem.F.entry_set_init (check_set_init_1 hT ?_)
    have hsls := PySem.F.sub_list_set
    have hslf := PySem.F.sub_list_frozenset
    have hne : (Value.type "list" == Value.type "dict") = false := by decide
    unfold Builtin.«set.__init__» noKeywords Builtin.Frozenset.updateFrom
    generalize hPI : pyIter = PI
    wp_walk
    subst hPI
    refine wpAny_pyIter_list hl1 ?_
    refine wpAny_bind (wpAny_runValue ?_)
    have hSf : s.heap.objs.size ∉ [(s.heap.push (freshSet w)).objs.size, l] := by
      rw [Heap.size_push]; simp only [List.mem_cons, List.mem_singleton, List.not_mem_nil, or_false, not_or]
      exact ⟨Nat.ne_of_lt (Nat.lt_succ_self _), Nat.ne_of_gt hlS⟩
    have hh3 : A'.in1.in1.handled = none := by simp [hh']
    refine strs_update_loop ((Walks.list hh3 _ l hneI vs.toArray).toS) s.heap.objs.size hSf ss (fun i v hv => ?_) (by rw [List.size_toArray]; exact hvl) (by rw [List.size_toArray]; omega) (vs.toArray.size - 0) 0 _ (freshSet w) (by omega) (Nat.zero_le _)
      ⟨⟨_, Heap.get?_push_size _ rfl, rfl, rfl⟩, (hl1.push _)⟩ (Heap.get?_push_of_some _ hS) (newSet_fresh _ rfl) ?_
    · have hv' : vs[i]? = some v := by simpa using hv
      obtain ⟨q, t, hq, e⟩ := strs_at hi hv'
      exact ⟨q, t, hq, e⟩
    · intro s' so' hm' hso' hSS'
      obtain ⟨h', g', d', tk', os'⟩ := s'
      have eg : g' = s.gens := hm'.gens
      have ed : d' = s.drawn := hm'.drawn
      have eo : os' = s.os := hm'.os
      subst eg; subst ed; subst eo
      show wpAny _ _ _ _ _ _
      refine wpAny_pure ?_
      show wpAny _ _ (ret Value.none) _ _ _
      refine wpAny_pure ⟨rfl, h', tk', so', rfl, hso', hSS', fun b o hb e => ?_⟩
      have hb1 : b ≠ s.heap.objs.size := Nat.ne_of_lt hb
      have hb2 : b ≠ (s.heap.push (freshSet w)).objs.size := by rw [Heap.size_push]; exact Nat.ne_of_lt (Nat.lt_succ_of_lt hb)
      exact hm'.heap b o (by simp only [List.mem_cons, List.mem_singleton, List.not_mem_nil, or_false, not_or]; exact ⟨hb1, hb2⟩) (Heap.get?_push_of_some _ (Heap.get?_push_of_some _ e))
  · rintro s₂ ⟨h', tk, o, rfl, ho, hSS, hk⟩
    obtain ⟨oL, _, _, hL, _⟩ := F.ns
    have hLlt : L < s.heap.objs.size := Heap.lt_size hL
    refine h s.heap.objs.size h' tk o ⟨F.ns.at' fun o' e => hk L o' hLlt e, fun b o' e => hk b o' (Heap.lt_size (F.keep b o' e)) (F.keep b o' e), F.above⟩ (fun p hp => ?_) (fun p hp => Heap.lt_size (N p hp).1) hSS
    rcases List.mem_cons.mp hp with rfl | hp
    · refine ⟨ho, Nat.ne_of_gt hLlt, ?_⟩
      cases hq : h₀.get? s.heap.objs.size with
      | none => rfl
      | some o' => exact absurd (Heap.lt_size (F.keep _ _ hq)) (Nat.lt_irrefl _)
    · exact ⟨hk _ _ (Heap.lt_size (N p hp).1) (N p hp).1, (N p hp).2.1, (N p hp).2.2⟩
end

theorem tone46 : True := by
  w_top off
  trivial
/-! A table laid anew: with few hashes there is always a free slot, and no element is lost. -/
def emptyAt (owner : Array (Option Nat)) (j : Nat) : Bool := (owner.getD j (some 0)).isNone
theorem runEnd_ge (mask i : Nat) : i ≤ SetTable.runEnd mask i := by unfold SetTable.runEnd; split <;> omega
theorem free_hit {mask : Nat} {owner : Array (Option Nat)} {fuel i p : Nat} (h : emptyAt owner i = true) : (SetTable.layClean.free mask owner (fuel + 1) i p).isSome = true := by
  unfold SetTable.layClean.free
  have hr := runEnd_ge mask i
  cases hf : (List.range (SetTable.runEnd mask i + 1 - i)).find? fun k => (owner.getD (i + k) (some 0)).isNone with
  | some k => rfl
  | none =>
    have := List.find?_eq_none.mp hf 0 (List.mem_range.mpr (by omega))
    exact absurd h this
theorem free_step {mask : Nat} {owner : Array (Option Nat)} {fuel i p : Nat} (h : (SetTable.layClean.free mask owner fuel (SetTable.leap mask i p).1 (SetTable.leap mask i p).2).isSome = true) : (SetTable.layClean.free mask owner (fuel + 1) i p).isSome = true := by
  unfold SetTable.layClean.free
  cases hf : (List.range (SetTable.runEnd mask i + 1 - i)).find? fun k => (owner.getD (i + k) (some 0)).isNone with
  | some k => rfl
  | none => exact h
theorem free_sound {mask : Nat} {owner : Array (Option Nat)} : ∀ {fuel i p j : Nat}, SetTable.layClean.free mask owner fuel i p = some j → emptyAt owner j = true
  | 0, i, p, j, h => by unfold SetTable.layClean.free at h; cases h
  | fuel + 1, i, p, j, h => by
    unfold SetTable.layClean.free at h
    cases hf : (List.range (SetTable.runEnd mask i + 1 - i)).find? fun k => (owner.getD (i + k) (some 0)).isNone with
    | some k =>
      rw [hf] at h
      have e : i + k = j := Option.some.inj h
      have := List.find?_some hf
      rw [← e]; exact this
    | none => rw [hf] at h; exact free_sound h
def orbit (mask : Nat) : Nat → Nat → Nat
  | i, 0 => i
  | i, k + 1 => orbit mask ((i * 5 + 1) % (mask + 1)) k
theorem free_orbit {mask : Nat} {owner : Array (Option Nat)} : ∀ {k fuel i : Nat}, emptyAt owner (orbit mask i k) = true → k < fuel → (SetTable.layClean.free mask owner fuel i 0).isSome = true
  | 0, fuel + 1, i, h, _ => free_hit h
  | k + 1, fuel + 1, i, h, hk => free_step (by
      show (SetTable.layClean.free mask owner fuel ((i * 5 + 1 + 0 / 32) % (mask + 1)) (0 / 32)).isSome = true
      rw [Nat.zero_div, Nat.add_zero]
      exact free_orbit h (Nat.lt_of_succ_lt_succ hk))
theorem free_perturb {mask : Nat} {owner : Array (Option Nat)} {fuel : Nat} (h0 : ∀ i, i < mask + 1 → (SetTable.layClean.free mask owner fuel i 0).isSome = true) : ∀ {d i p : Nat}, p < 32 ^ d → i < mask + 1 → (SetTable.layClean.free mask owner (fuel + d) i p).isSome = true
  | 0, i, p, hp, hi => by
    have : p = 0 := by simpa using hp
    rw [this]; exact h0 i hi
  | d + 1, i, p, hp, hi => by
    rw [show fuel + (d + 1) = (fuel + d) + 1 by omega]
    refine free_step ?_
    exact free_perturb h0 (d := d) (by
      show p / 32 < 32 ^ d
      rw [Nat.pow_succ] at hp
      exact Nat.div_lt_of_lt_mul (by rw [Nat.mul_comm]; exact hp)) (Nat.mod_lt _ (Nat.succ_pos _))
def Covers (mask : Nat) : Prop := ∀ i, i < mask + 1 → ∀ j, j < mask + 1 → ∃ k, k < mask + 2 ∧ orbit mask i k = j
theorem covers7 : Covers 7 := by
  have : ∀ i, i < 8 → ∀ j, j < 8 → ∃ k, k < 9 ∧ orbit 7 i k = j := by decide +kernel
  exact this
theorem covers15 : Covers 15 := by
  have : ∀ i, i < 16 → ∀ j, j < 16 → ∃ k, k < 17 ∧ orbit 15 i k = j := by decide +kernel
  exact this
theorem free_some {mask : Nat} (hc : Covers mask) {owner : Array (Option Nat)} (hsz : owner.size = mask + 1) {j : Nat} (hj : emptyAt owner j = true) (h : Int) :
    ∃ j', SetTable.layClean.free mask owner (SetTable.turns mask) (SetTable.bits h % (mask + 1)) (SetTable.bits h) = some j' ∧ emptyAt owner j' = true := by
  have hjs : j < mask + 1 := by
    rcases Nat.lt_or_ge j owner.size with e | e
    · omega
    · unfold emptyAt at hj
      rw [Array.getD_eq_getD_getElem?, Array.getElem?_eq_none e] at hj
      cases hj
  have h0 : ∀ i, i < mask + 1 → (SetTable.layClean.free mask owner (mask + 2) i 0).isSome = true := fun i hi => by
    obtain ⟨k, hk, e⟩ := hc i hi j hjs
    exact free_orbit (k := k) (by rw [e]; exact hj) hk
  have hb : SetTable.bits h < 32 ^ 13 := by
    unfold SetTable.bits
    have h1 : h % (2 ^ 64 : Int) < 2 ^ 64 := Int.emod_lt_of_pos _ (by decide)
    have h2 : 0 ≤ h % (2 ^ 64 : Int) := Int.emod_nonneg _ (by decide)
    omega
  have := free_perturb h0 (d := 13) hb (Nat.mod_lt (SetTable.bits h) (Nat.succ_pos mask))
  obtain ⟨j', e⟩ := Option.isSome_iff_exists.mp this
  exact ⟨j', e, free_sound e⟩

def OwnerOk (mask : Nat) (owner : Array (Option Nat)) (k : Nat) : Prop := owner.size = mask + 1 ∧ (owner.toList.filterMap id).Perm (List.range k)
theorem fm_some (a : Nat) (r : List (Option Nat)) : (some a :: r).filterMap id = a :: r.filterMap id := rfl
theorem fm_none (r : List (Option Nat)) : (none :: r).filterMap id = r.filterMap id := rfl
theorem some_length : ∀ {l : List (Option Nat)}, (∀ x ∈ l, x ≠ none) → (l.filterMap id).length = l.length
  | [], _ => rfl
  | none :: r, h => absurd rfl (h none (List.mem_cons_self ..))
  | some a :: r, h => by
    rw [fm_some, List.length_cons, List.length_cons, some_length fun x hx => h x (List.mem_cons_of_mem _ hx)]
theorem owner_empty {mask k : Nat} {owner : Array (Option Nat)} (ho : OwnerOk mask owner k) (hk : k ≤ mask) : ∃ j, emptyAt owner j = true := by
  rcases Classical.em (∃ j, emptyAt owner j = true) with h | h
  · exact h
  · exfalso
    have hall : ∀ x ∈ owner.toList, x ≠ none := fun x hx e => by
      subst e
      obtain ⟨j, hj, e⟩ := List.getElem_of_mem hx
      refine h ⟨j, ?_⟩
      unfold emptyAt
      rw [Array.getD_eq_getD_getElem?, ← Array.getElem?_toList, List.getElem?_eq_getElem hj, e]
      rfl
    have h1 := some_length hall
    have h2 := ho.2.length_eq
    rw [h1, List.length_range, Array.length_toList, ho.1] at h2
    omega
theorem set_perm : ∀ {l : List (Option Nat)} {j k : Nat}, l[j]? = some none → ((l.set j (some k)).filterMap id).Perm (k :: l.filterMap id)
  | [], j, k, h => by simp at h
  | a :: r, 0, k, h => by
    have e : a = none := by simpa using h
    subst e
    exact .refl _
  | none :: r, j + 1, k, h => by
    have h' : r[j]? = some none := by simpa using h
    rw [List.set_cons_succ, fm_none, fm_none]
    exact set_perm (l := r) (j := j) (k := k) h'
  | some a :: r, j + 1, k, h => by
    have h' : r[j]? = some none := by simpa using h
    rw [List.set_cons_succ, fm_some, fm_some]
    exact ((set_perm (l := r) (j := j) (k := k) h').cons a).trans (List.Perm.swap k a _)
theorem owner_set {mask k : Nat} {owner : Array (Option Nat)} (ho : OwnerOk mask owner k) {j : Nat} (hj : emptyAt owner j = true) : OwnerOk mask (owner.setIfInBounds j (some k)) (k + 1) := by
  refine ⟨by rw [Array.size_setIfInBounds]; exact ho.1, ?_⟩
  have hg : owner.toList[j]? = some none := by
    unfold emptyAt at hj
    rw [Array.getD_eq_getD_getElem?] at hj
    rw [Array.getElem?_toList]
    cases e : owner[j]? with
    | none => rw [e] at hj; cases hj
    | some x =>
      rw [e] at hj
      cases x with
      | none => rfl
      | some y => cases hj
  rw [Array.toList_setIfInBounds, List.range_succ]
  exact (set_perm hg).trans ((ho.2.cons k).trans (List.perm_append_singleton k _).symm)
abbrev layStep (mask : Nat) (acc : Option (Array (Option Nat) × Nat)) (h : Int) : Option (Array (Option Nat) × Nat) := do
  let (owner, k) ← acc
  let j ← SetTable.layClean.free mask owner (SetTable.turns mask) (SetTable.bits h % (mask + 1)) (SetTable.bits h)
  pure (owner.setIfInBounds j (some k), k + 1)
theorem lay_fold {mask : Nat} (hc : Covers mask) : ∀ (hs : List Int) (owner : Array (Option Nat)) (k : Nat), OwnerOk mask owner k → k + hs.length ≤ mask → ∃ owner', hs.foldl (layStep mask) (some (owner, k)) = some (owner', k + hs.length) ∧ OwnerOk mask owner' (k + hs.length)
  | [], owner, k, ho, _ => ⟨owner, rfl, ho⟩
  | h :: r, owner, k, ho, hk => by
    rw [List.length_cons] at hk
    obtain ⟨j, hj⟩ := owner_empty ho (by omega)
    obtain ⟨j', e, hj'⟩ := free_some hc ho.1 hj h
    obtain ⟨o', e', ho'⟩ := lay_fold hc r _ (k + 1) (owner_set ho hj') (by omega)
    refine ⟨o', ?_, by rw [List.length_cons, show k + (r.length + 1) = k + 1 + r.length by omega]; exact ho'⟩
    rw [List.foldl_cons, List.length_cons, show k + (r.length + 1) = k + 1 + r.length by omega, ← e']
    congr 1
    show (SetTable.layClean.free mask owner (SetTable.turns mask) (SetTable.bits h % (mask + 1)) (SetTable.bits h)).bind _ = _
    rw [e]
    rfl
theorem layClean_some {mask : Nat} (hc : Covers mask) (hs : Array Int) (hn : hs.size ≤ mask) : ∃ owner, SetTable.layClean mask hs = some owner ∧ OwnerOk mask owner hs.size := by
  have h0 : OwnerOk mask (Array.replicate (mask + 1) none) 0 := by
    refine ⟨Array.size_replicate .., ?_⟩
    rw [Array.toList_replicate]
    have : ∀ n, (List.replicate n (none : Option Nat)).filterMap id = [] := fun n => by
      induction n with
      | zero => rfl
      | succ n ih => rw [List.replicate_succ, List.filterMap_cons_none rfl]; exact ih
    rw [this]; exact .refl _
  obtain ⟨owner, e, ho⟩ := lay_fold hc hs.toList _ 0 h0 (by rw [Array.length_toList]; omega)
  rw [Array.length_toList, Nat.zero_add] at e ho
  refine ⟨owner, ?_, ho⟩
  unfold SetTable.layClean
  rw [← Array.foldl_toList]
  show ((hs.toList.foldl (layStep mask) (some (Array.replicate (mask + 1) none, 0))).map (·.1)) = some owner
  rw [e]; rfl
theorem range_map (owner : Array (Option Nat)) : (List.range owner.size).map (fun j => owner.getD j none) = owner.toList := by
  refine List.ext_getElem (by simp) fun i h1 h2 => ?_
  simp at h1
  simp [h1]
theorem laid_some {mask : Nat} (hc : Covers mask) (finger moves : Nat) (led plain : Bool) (es : Array (Int × Value)) (hn : es.size ≤ mask) :
    ∃ t order, SetTable.laid mask finger moves led plain (es.map (·.1)) = some (t, order) ∧ (order.filterMap (es[·]?)).toList.Perm es.toList ∧ t.fits es.size = true ∧ t.led = led ∧ t.plain = plain := by
  obtain ⟨owner, e, ho⟩ := layClean_some hc (es.map (·.1)) (by rw [Array.size_map]; exact hn)
  rw [Array.size_map] at ho
  unfold SetTable.laid
  rw [e]
  refine ⟨_, _, rfl, ?_, ?_, rfl, rfl⟩
  · rw [Array.toList_filterMap]
    have h1 : (((List.range (mask + 1)).filterMap fun j => (owner.getD j none).map (j, ·)).map (·.2)) = owner.toList.filterMap id := by
      rw [List.map_filterMap, ← range_map owner, ho.1, List.filterMap_map]
      congr 1
      funext j
      simp only [Function.comp, Option.map_map, id]
      cases owner.getD j none <;> rfl
    rw [show (((List.range (mask + 1)).filterMap fun j => (owner.getD j none).map (j, ·)).map (·.2)).toArray.toList = owner.toList.filterMap id from h1]
    exact (ho.2.filterMap _).trans (by rw [filterMap_getElem?_range])
  · have h2 : (((List.range (mask + 1)).filterMap fun j => (owner.getD j none).map (j, ·)).map (·.1)).length = es.size := by
      have h1 : (((List.range (mask + 1)).filterMap fun j => (owner.getD j none).map (j, ·)).map (·.2)) = owner.toList.filterMap id := by
        rw [List.map_filterMap, ← range_map owner, ho.1, List.filterMap_map]
        congr 1
        funext j
        simp only [Function.comp, Option.map_map, id]
        cases owner.getD j none <;> rfl
      have h3 := congrArg List.length h1
      rw [List.length_map, ho.2.length_eq, List.length_range] at h3
      rw [List.length_map]; exact h3
    simp only [SetTable.fits, SetTable.fill, List.size_toArray, Array.size_empty]
    rw [h2]
    simp [hn]

theorem tone47 : True := by
  w_top off
  trivial
section
variable {prog : Program} {w : World} {A : Around} {E : Value → Shared → Prop} {s : Shared} {h₀ : Heap} {L : Addr} {m : Str → Option Value} {news : List (Addr × Obj)}
/-- the copying of a set into one as yet empty -/
theorem merge_tail {D : Addr} {oD : Obj} {t : SetTable} {ep : Nat} {es eo : Array (Int × Value)} {to : SetTable} {ks ks' : List Str} {each : Sem Unit} {sa : Addr} {ep0 : Nat} {Q : Unit → Shared → Prop}
    (hoD : s.heap.get? D = some oD) (hex : oD.ExactSet) (hd : oD.data = .set es ep t) (hes : es.size = 0) (hft : t.fits es.size = true) (hfill : t.fill = 0) (hled : t.led = !byTextW w) (hcov : Covers t.mask)
    (hto : to.fits eo.size = true) (htl : to.led = !byTextW w) (htp : to.plain = false) (hn : eo.size ≤ t.mask) (hb : eo.size < scanBound) (he : EsAre w eo.toList ks') (hp : ks'.Perm ks)
    (h : ∀ h' o', Heap.SameBut D s.heap h' → h'.get? D = some o' → StrSet w o' ks → Q () { s with heap := h' }) :
    wpAny (model prog w) A (do
      let (_, _, ts) ← setState D
      match ts.road to with
      | .slotForSlot => storeSet D eo { to with finger := ts.finger, led := ts.led && to.led, moves := ts.moves, plain := ts.plain && to.plain }
      | .clean =>
        let laid := SetTable.laid ts.mask ts.finger ts.moves (led := ts.led && to.led) (plain := ts.plain && to.plain) (eo.map (·.1))
        let (es, t) ← (do
          let some (t, order) := laid | unsupported "internal:set-table-without-room"
          let es' := order.filterMap (eo[·]?)
          if es'.size != eo.size then unsupported "internal:set-table-lost-an-element"
          pure (es', t))
        storeSet D es t
      | .oneByOne =>
        for (h, x) in ← setWalkUnseen sa [D] (some D) do
          let _ ← holding [x] (setAddHashed D x h)
          each
          if (← setState sa).2.1 != ep0 then unsupported "set.changed-during-merge") Q E s := by
  refine wpAny_bind (wpAny_setState_of hoD hd hft ?_)
  dsimp only
  unfold SetTable.road
  rw [hfill]
  simp only [bne_self_eq_false, Bool.false_eq_true, if_false]
  have hl2 : (t.led && to.led) = !byTextW w := by rw [hled, htl, Bool.and_self]
  have hp2 : (t.plain && to.plain) = false := by rw [htp, Bool.and_false]
  by_cases hr : (t.mask == to.mask && to.dummies.isEmpty) = true
  · rw [if_pos hr]
    refine storeSet_set hoD hex hd hb fun h' o' hsb ho' hex' hd' => h h' o' hsb ho' ⟨hex', _, _, _, ks', hd', hto, hl2, fun _ => hp2, he, hp⟩
  · rw [if_neg hr]
    obtain ⟨t2, order, hl, hperm, hf2, hl3, hp3⟩ := laid_some hcov t.finger t.moves (t.led && to.led) (t.plain && to.plain) eo hn
    rw [hl]
    have hsz : (order.filterMap (eo[·]?)).size = eo.size := by rw [← Array.length_toList, hperm.length_eq, Array.length_toList]
    obtain ⟨k1, hp1, he1⟩ := EsAre.perm hperm.symm he
    dsimp only
    refine wpAny_bind ?_
    rw [hsz]
    simp only [bne_self_eq_false, Bool.false_eq_true, if_false]
    refine wpAny_bind (wpAny_pure (wpAny_pure ?_))
    refine storeSet_set hoD hex hd (by rw [hsz]; exact hb) fun h' o' hsb ho' hex' hd' => h h' o' hsb ho' ⟨hex', _, _, _, k1, hd', by rw [hsz]; exact hf2, hl3.trans hl2, fun _ => hp3.trans hp2, he1, hp1.symm.trans hp⟩
theorem merge_fresh {D sa : Addr} {so : Obj} {ks : List Str} {each : Sem Unit} {Q : Unit → Shared → Prop} (hoD : s.heap.get? D = some (freshSet w)) (hsa : s.heap.get? sa = some so) (hne : D ≠ sa) (hS : StrSet w so ks) (hk : ks.length ≤ 5)
    (h : ∀ h' o', Heap.SameBut D s.heap h' → h'.get? D = some o' → StrSet w o' ks → Q () { s with heap := h' }) :
    wpAny (model prog w) A (setMerge D sa each) Q E s := by
  obtain ⟨hex, eo, ep, to, ks', hd, hf, hled, hpl, he, hp⟩ := hS
  have hsz : eo.size = ks.length := by have := he.length; rw [Array.length_toList] at this; rw [this, hp.length_eq]
  have hb : eo.size < scanBound := by unfold scanBound; omega
  have hfresh : (freshSet w).ExactSet := ⟨rfl, rfl, rfl⟩
  unfold setMerge
  have hb0 : (D == sa) = false := by simpa using hne
  rw [hb0]
  simp only [Bool.false_eq_true, if_false]
  refine wpAny_bind (wpAny_setState_of hsa hd hf ?_)
  dsimp only
  by_cases hz : eo.size = 0
  · have hemp : eo.isEmpty = true := by rw [Array.isEmpty_iff_size_eq_zero]; exact hz
    rw [if_pos hemp]
    have hks : ks = [] := List.eq_nil_of_length_eq_zero (by omega)
    subst hks
    exact wpAny_pure (h s.heap _ (Heap.SameBut.refl D s.heap) hoD (newSet_fresh _ rfl))
  · have hemp : ¬ eo.isEmpty = true := by rw [Array.isEmpty_iff_size_eq_zero]; exact hz
    rw [if_neg hemp]
    refine wpAny_bind ?_
    unfold setRoomFor
    refine wpAny_bind (wpAny_setState_of hoD rfl (by rfl) ?_)
    dsimp only
    by_cases h4 : eo.size ≤ 4
    · have hrf : (SetTable.fresh 0 0 (!byTextW w)).roomFor eo.size = none := by
        unfold SetTable.roomFor SetTable.fill SetTable.fresh
        rw [if_neg]
        simp only [Array.size_empty]
        omega
      rw [hrf]
      refine wpAny_pure ?_
      exact merge_tail hoD hfresh rfl rfl (by rfl) rfl rfl covers7 hf hled (hpl hz) (by show eo.size ≤ 7; omega) hb he hp h
    · have h5 : eo.size = 5 := by omega
      have hrf : (SetTable.fresh 0 0 (!byTextW w)).roomFor eo.size = some 10 := by rw [h5]; rfl
      rw [hrf]
      dsimp only
      unfold setRelay
      refine wpAny_bind (wpAny_setState_of hoD rfl (by rfl) ?_)
      dsimp only
      rw [if_neg (by decide)]
      have hl : SetTable.relaid (SetTable.fresh 0 0 (!byTextW w)) ((#[] : Array (Int × Value)).map (·.1)) 10 = some ({ mask := 15, place := #[], dummies := #[], finger := 0, led := !byTextW w, moves := 1, plain := true }, #[]) := by
        cases byTextW w <;> decide +kernel
      rw [hl]
      refine wpAny_bind (wpAny_of_eq (a := ((#[] : Array (Int × Value)), ({ mask := 15, place := #[], dummies := #[], finger := 0, led := !byTextW w, moves := 1, plain := true } : SetTable))) (by rfl) ?_)
      try dsimp only
      refine storeSet_set hoD hfresh rfl (by decide) fun h1 o1 hs1 ho1 hex1 hd1 => ?_
      exact merge_tail (s := { s with heap := h1 }) ho1 hex1 hd1 rfl (by rfl) rfl rfl covers15 hf hled (hpl hz) (by show eo.size ≤ 15; omega) hb he hp fun h2 o2 hs2 ho2 hS2 => h h2 o2 (hs1.trans hs2) ho2 hS2
end

theorem tone48 : True := by
  w_top off
  trivial
section
variable {prog : Program} {w : World} {A : Around} {E : Value → Shared → Prop} {s : Shared} {h₀ : Heap} {L : Addr} {m : Str → Option Value} {news : List (Addr × Obj)}
theorem wpAny_setEpoch_of {a : Addr} {o : Obj} {es : Array (Int × Value)} {ep : Nat} {t : SetTable} {Q : Nat → Shared → Prop} (ho : s.heap.get? a = some o) (hd : o.data = .set es ep t) (hf : t.fits es.size = true) (h : Q ep s) :
    wpAny (model prog w) A (setEpoch a) Q E s := by
  unfold setEpoch
  exact wpAny_bind (wpAny_setState_of ho hd hf (wpAny_pure h))
theorem call_set_sets {sa : Addr} {so : Obj} {ks : List Str} {Q : Value → Shared → Prop} (hh : A.handled = none) (F : Fr h₀ L s.heap m) (N : News h₀ L s.heap news) (hm : (sa, so) ∈ news) (hS : StrSet w so ks) (hk : ks.length ≤ 5)
    (h : ∀ D h' tk o, Fr h₀ L h' m → News h₀ L h' ((D, o) :: news) → (∀ p ∈ news, p.1 < D) → StrSet w o ks → Q (.ref D) { s with heap := h', toks := tk }) :
    wpAny (model prog w) A (call (.type "set") [.ref sa]) Q E s := by
  have hl0 := (N _ hm).1
  have hlS : sa < s.heap.objs.size := Heap.lt_size hl0
  have hD : (s.heap.push (freshSet w)).get? s.heap.objs.size = some (freshSet w) := Heap.get?_push_size _ rfl
  have hT : Shared.TypeIs { s with heap := s.heap.push (freshSet w) } (.ref s.heap.objs.size) "set" := ⟨_, hD, rfl⟩
  have hsa' : (s.heap.push (freshSet w)).get? sa = some so := Heap.get?_push_of_some _ hl0
  have hTa : Shared.TypeIs { s with heap := s.heap.push (freshSet w) } (.ref sa) "set" := ⟨_, hsa', hS.1.1⟩
  have hneI : s.heap.objs.size ≠ sa := Nat.ne_of_gt hlS
  refine call_set_gen (P := fun s₂ => ∃ h' tk o, s₂ = { s with heap := h', toks := tk } ∧ h'.get? s.heap.objs.size = some o ∧ StrSet w o ks ∧ (∀ b o, b < s.heap.objs.size → s.heap.get? b = some o → h'.get? b = some o)) hh ?_ ?_
  · intro A' hh'
    refine codeAny_call_builtin (R := wants _ E) PySem.F.called_set.init.plain PySem.F.entry_set_init (check_set_init_1 hT ?_)
    unfold Builtin.«set.__init__» noKeywords
    generalize hUF : Builtin.Frozenset.updateFrom = UF
    wp_walk
    subst hUF
    unfold Builtin.Frozenset.updateFrom Builtin.Frozenset.isAnySet
    refine wpAny_bind ?_
    unfold orM
    refine wpAny_bind (wpAny_isInstance hTa sub_set_self ?_)
    simp only [toBool, id]
    refine wpAny_pure ?_
    simp only [if_true]
    unfold Builtin.Frozenset.addrOf Builtin.Frozenset.merge
    refine wpAny_bind (wpAny_pure ?_)
    have hS' := hS
    obtain ⟨hex, es, ep, t, ks', hd, hf, _, _, _, _⟩ := hS'
    refine wpAny_bind (wpAny_setEpoch_of hsa' hd hf ?_)
    refine merge_fresh hD hsa' hneI hS hk fun h' o' hsb ho' hSS' => ?_
    show wpAny _ _ (ret Value.none) _ _ _
    refine wpAny_pure ⟨rfl, h', s.toks, o', rfl, ho', hSS', fun b o hb e => ?_⟩
    rw [hsb.2 b (Nat.ne_of_lt hb)]
    exact Heap.get?_push_of_some _ e
  · rintro s₂ ⟨h', tk, o, rfl, ho, hSS, hk⟩
    obtain ⟨oL, _, _, hL, _⟩ := F.ns
    have hLlt : L < s.heap.objs.size := Heap.lt_size hL
    refine h s.heap.objs.size h' tk o ⟨F.ns.at' fun o' e => hk L o' hLlt e, fun b o' e => hk b o' (Heap.lt_size (F.keep b o' e)) (F.keep b o' e), F.above⟩ (fun p hp => ?_) (fun p hp => Heap.lt_size (N p hp).1) hSS
    rcases List.mem_cons.mp hp with rfl | hp
    · refine ⟨ho, Nat.ne_of_gt hLlt, ?_⟩
      cases hq : h₀.get? s.heap.objs.size with
      | none => rfl
      | some o' => exact absurd (Heap.lt_size (F.keep _ _ hq)) (Nat.lt_irrefl _)
    · exact ⟨hk _ _ (Heap.lt_size (N p hp).1) (N p hp).1, (N p hp).2.1, (N p hp).2.2⟩
end

theorem tone50 : True := by
  w_top off
  trivial
section
variable {prog : Program} {w : World} {x dx hl hs : Addr} {hh1 hh2 : Int} {th1 th2 tq : Tok} {nd0 nl : Nat} {vs : List Value} {so : Obj} {row : List Str} {q : Str}
theorem asset_t_ct (hi : StrsAre vs row) (hsz : row.length ≤ 50) :
    Ct prog w 900 9000 (.ref 131) [.ref x, .bool true] (hsLed x dx hl hs hh1 hh2 th1 th2 nd0 vs nl so)
      (fun v fp' => ∃ D o, v = .ref D ∧ fp' = (D, o) :: hsLed x dx hl hs hh1 hh2 th1 th2 nd0 vs nl so ∧ StrSet w o (row.foldl addLow [])) := by
  refine Ct.of (binds := [(Str.ofString "self", .ref x), (Str.ofString "preserve_casing", .bool true)]) (by k_is) (by k_is) (by k_room) (fun s X => by first | exact BindsTo.of_eq rfl | exact binds_K X rfl (by k_is) rfl rfl rfl) (locs rfl) ?_
  intro gd cn cs L a ccd cl outer base mg mb p loose mean s g L' h' nd F' N' B' X' T'
  (try dsimp only); k_fold
  have nn := neAll_of nd
  simp only [hsLed, List.cons_append, List.nil_append, List.map_cons, List.map_nil, NeAll, NeOne, and_true] at nn
  simp only [hsLed, List.cons_append, List.nil_append] at N'
  repeat ((fail_if_success (with_reducible show wpAny _ _ (call (Value.type "set") _) _ _ _)); walk1)
  refine call_set_strs (vs := vs) rfl (by assumption) (by assumption) (by k_mem) hi (by omega) ?_
  intro D h9 tk9 o9 F9 N9 l9 hS9
  simp only [List.forall_mem_cons, List.not_mem_nil, false_implies, implies_true, and_true] at l9
  have l9 := And.intro (ltN l9.1) (And.intro (ltN l9.2.1) (And.intro (ltN l9.2.2.1) (ltN l9.2.2.2)))
  k_steps
  (try dsimp only)
  refine Back.intro ((D, o9) :: hsLed x dx hl hs hh1 hh2 th1 th2 nd0 vs nl so) (by assumption) (by assumption) (fun _ hp => hp) ?_ ?_
  · (first | assumption | (refine nodup_of_ne ?_; (simp only [hsLed, List.cons_append, List.nil_append, List.map_cons, List.map_nil, NeAll, NeOne, and_true]); omega))
  · exact ⟨_, _, rfl, rfl, hS9⟩
theorem asset_f_ct (hS : StrSet w so (row.map Txt.lower)) (hsz : row.length ≤ 5) :
    Ct prog w 900 9000 (.ref 131) [.ref x] (hsLed x dx hl hs hh1 hh2 th1 th2 nd0 vs nl so)
      (fun v fp' => ∃ D o, v = .ref D ∧ fp' = (D, o) :: hsLed x dx hl hs hh1 hh2 th1 th2 nd0 vs nl so ∧ StrSet w o (row.map Txt.lower)) := by
  refine Ct.of (binds := [(Str.ofString "self", .ref x), (Str.ofString "preserve_casing", .bool false)]) (by k_is) (by k_is) (by k_room) (fun s X => by first | exact BindsTo.of_eq rfl | exact binds_K X rfl (by k_is) rfl rfl rfl) (locs rfl) ?_
  intro gd cn cs L a ccd cl outer base mg mb p loose mean s g L' h' nd F' N' B' X' T'
  (try dsimp only); k_fold
  have nn := neAll_of nd
  simp only [hsLed, List.cons_append, List.nil_append, List.map_cons, List.map_nil, NeAll, NeOne, and_true] at nn
  simp only [hsLed, List.cons_append, List.nil_append] at N'
  repeat ((fail_if_success (with_reducible show wpAny _ _ (call (Value.type "set") _) _ _ _)); walk1)
  refine call_set_sets (so := so) rfl (by assumption) (by assumption) (by k_mem) hS (by rw [List.length_map]; omega) ?_
  intro D h9 tk9 o9 F9 N9 l9 hS9
  simp only [List.forall_mem_cons, List.not_mem_nil, false_implies, implies_true, and_true] at l9
  have l9 := And.intro (ltN l9.1) (And.intro (ltN l9.2.1) (And.intro (ltN l9.2.2.1) (ltN l9.2.2.2)))
  k_steps
  (try dsimp only)
  refine Back.intro ((D, o9) :: hsLed x dx hl hs hh1 hh2 th1 th2 nd0 vs nl so) (by assumption) (by assumption) (fun _ hp => hp) ?_ ?_
  · (first | assumption | (refine nodup_of_ne ?_; (simp only [hsLed, List.cons_append, List.nil_append, List.map_cons, List.map_nil, NeAll, NeOne, and_true]); omega))
  · exact ⟨_, _, rfl, rfl, hS9⟩
end

theorem tone52 : True := by
  w_top off
  trivial
def rmFirst (q : Str) : List Str → List Str
  | [] => []
  | z :: r => if decide (Txt.lower z = Txt.lower q) = true then r else z :: rmFirst q r
theorem rmFirst_lower (q : Str) : ∀ row : List Str, (rmFirst q row).map Txt.lower = (row.map Txt.lower).erase (Txt.lower q)
  | [] => rfl
  | z :: r => by
    unfold rmFirst
    by_cases h : Txt.lower z = Txt.lower q
    · rw [if_pos (decide_eq_true h), List.map_cons, h, List.erase_cons_head]
    · rw [if_neg (by simpa using h), List.map_cons, List.map_cons, List.erase_cons_tail (by simpa using h), rmFirst_lower q r]
theorem rmFirst_place (q : Str) : ∀ (row : List Str) (k : Nat), (row.map Txt.lower).contains (Txt.lower q) = true → ∃ j, placeFrom q k row = ((k + j : Nat) : Int) ∧ rmFirst q row = row.take j ++ row.drop (j + 1) ∧ j < row.length
  | [], k, h => by cases h
  | z :: r, k, h => by
    unfold placeFrom rmFirst
    by_cases hz : Txt.lower z = Txt.lower q
    · rw [if_pos (decide_eq_true hz), if_pos (decide_eq_true hz)]
      exact ⟨0, rfl, rfl, Nat.succ_pos _⟩
    · rw [if_neg (by simpa using hz), if_neg (by simpa using hz)]
      have h' : (r.map Txt.lower).contains (Txt.lower q) = true := by
        rw [List.map_cons, List.contains_cons] at h
        have : (Txt.lower q == Txt.lower z) = false := by simpa using fun e => hz e.symm
        rw [this, Bool.false_or] at h; exact h
      obtain ⟨j, h1, h2, h3⟩ := rmFirst_place q r (k + 1) h'
      exact ⟨j + 1, by rw [h1]; congr 1; omega, by rw [h2]; rfl, Nat.succ_lt_succ h3⟩
theorem strs_eraseIdx {vs : List Value} {ss : List Str} (h : StrsAre vs ss) : ∀ i, StrsAre (vs.eraseIdx i) (ss.eraseIdx i) := by
  induction h with
  | nil => intro i; exact .nil
  | cons y t h ih =>
    intro i
    cases i with
    | zero => exact h
    | succ i => exact .cons y t (ih i)
theorem del_led {prog : Program} {w : World} {A : Around} {E : Value → Shared → Prop} {s : Shared} {h₀ : Heap} {L l : Addr} {m : Str → Option Value} {news : List (Addr × Obj)} {g : Obj → List (Addr × Obj)} {vs : List Value} {n i : Nat} {t : Tok} {Q : Unit → Shared → Prop}
    (F : Fr h₀ L s.heap m) (N : News h₀ L s.heap news) (U : UpdF l (listOf vs.toArray n) news g) (hi : i < vs.length) (hz : vs.length ≤ 10000)
    (h : ∀ h' n', Fr h₀ L h' m → News h₀ L h' (g (listOf (vs.eraseIdx i).toArray n')) → Q () { s with heap := h' }) : wpAny (model prog w) A (delItem (.ref l) (.int (i : Int) t)) Q E s := by
  obtain ⟨pre, post, rfl, hg, a, b⟩ := U.split
  have hm := N (l, listOf vs.toArray n) (List.mem_append_right _ (.head _))
  have hs64 : vs.length < 2 ^ 62 := Nat.lt_of_le_of_lt hz (by decide)
  refine wpAny_delItem_plain (items := vs.toArray) (k := i) ⟨n, hm.1⟩ (by
      unfold Builtin.List.listFitsIndex
      simp only [Bool.and_eq_true, decide_eq_true_eq]
      omega) (by rw [List.size_toArray]; have := seqIndex_at (i := (i : Int)) (n := vs.length) (by omega) (by omega); rwa [Int.toNat_natCast] at this) (fun h' hp hs => ?_) (by rw [List.size_toArray]; exact Nat.le_trans hz (by decide))
  obtain ⟨n', ho⟩ := hp
  have e : vs.toArray.eraseIdxIfInBounds i = (vs.eraseIdx i).toArray := by simp
  rw [e] at ho
  exact h h' n' (F.change hs hm.2.1 hm.2.2) (hg _ ▸ N.setIn a b hs ho)
theorem remove_ct {prog : Program} {w : World} {x dx hl hs : Addr} {hh1 hh2 : Int} {th1 th2 tq : Tok} {nd0 nl : Nat} {vs : List Value} {so : Obj} {row : List Str} {q : Str}
    (hi : StrsAre vs row) (hS : StrSet w so (row.map Txt.lower)) (hsz : row.length ≤ 50) (hr : ∀ z ∈ row, z.length ≤ 100) (hq1 : q.length ≤ 100) (hql : Txt.lower q = q) (hin : (row.map Txt.lower).contains (Txt.lower q) = true) :
    Ct prog w 900 9000 (.ref 88) [.ref x, .str q tq] (hsLed x dx hl hs hh1 hh2 th1 th2 nd0 vs nl so)
      (fun v fp' => ∃ vs' nl' so', fp' = hsLed x dx hl hs hh1 hh2 th1 th2 nd0 vs' nl' so' ∧ v = .none ∧ StrsAre vs' (rmFirst q row) ∧ StrSet w so' ((rmFirst q row).map Txt.lower)) := by
  refine Ct.of (binds := [(Str.ofString "self", .ref x), (Str.ofString "header", .str q tq)]) (by k_is) (by k_is) (by k_room) (fun s X => by first | exact BindsTo.of_eq rfl | exact binds_K X rfl (by k_is) rfl rfl rfl) (locs rfl) ?_
  intro gd cn cs L a ccd cl outer base mg mb p loose mean s g L' h' nd F' N' B' X' T'
  (try dsimp only); k_fold
  have nn := neAll_of nd
  simp only [hsLed, List.cons_append, List.nil_append, List.map_cons, List.map_nil, NeAll, NeOne, and_true] at nn
  simp only [hsLed, List.cons_append, List.nil_append] at N'
  have hvl := hi.length
  have hso : so.SetObjOf (strKind prog w) (lowS row) row.length := hS.low
  have hin' : lowS row (Txt.lower q) = true := hin
  repeat ((fail_if_success (with_reducible show wpAny _ _ (exec (Stmt.For _ _ _ _ _) _) _ _ _)); walk1)
  rename StrSet w _ (List.erase _ _) => hS2
  rename_i so2 _ _ _
  rw [← rmFirst_lower] at hS2
  refine For_turns (by assumption) ?_ (hE := PassesOwn.never)
  repeat ((fail_if_success (with_reducible show wpAny _ _ (call (Value.type "enumerate") _) _ _ _)); walk1)
  refine enum_loop (vs := vs) (fun i m => (∃ t, m (Str.ofString "header") = some (.str q t)) ∧ m (Str.ofString "self") = some (.ref x) ∧ rmFirst q row = row.take i ++ rmFirst q (row.drop i) ∧ ((row.drop i).map Txt.lower).contains (Txt.lower q) = true) rfl (by assumption) (by assumption) (by k_mem) ⟨⟨_, rfl⟩, rfl, rfl, hin⟩ ?_ ?_
  · rintro i v T t m₁ h tk I oe oi hv ⟨⟨t0, hm⟩, hms, hp, hc⟩ hT F hlt N
    obtain ⟨z, tz, hz, rfl⟩ := strs_at hi hv
    have hz2 := hr z (List.mem_of_getElem? hz)
    have hdr : row.drop i = z :: row.drop (i + 1) := by
      obtain ⟨hlt, e⟩ := List.getElem?_eq_some_iff.mp hz
      rw [List.drop_eq_getElem_cons hlt, e]
    have hil : i < row.length := (List.getElem?_eq_some_iff.mp hz).1
    rw [hdr] at hp hc
    have F := fr_known0 (fr_known0 F hms) (n := Str.ofString "header") (c := .str q t0) hm
    simp only [hsLed, List.cons_append, List.nil_append] at N
    simp only [List.forall_mem_cons, List.not_mem_nil, false_implies, implies_true, and_true] at hlt
    have hlt := And.intro (ltN hlt.1) (And.intro (ltN hlt.2.1) (And.intro (ltN hlt.2.2.1) (ltN hlt.2.2.2)))
    k_steps
    · rename (Txt.lower z == q) = true => hzq
      have hzq := eq_of_beq hzq
      refine' del_led (vs := vs) ?F ?N ?U (by omega) (by omega) ?_
      case F => assumption
      case N => assumption
      case U => k_updF
      intro h8 n8 F8 N8
      (try dsimp only at N8)
      k_steps
      (try dsimp only [EnumQ])
      k_steps
      (try dsimp only)
      have hrow : rmFirst q row = row.eraseIdx i := by
        rw [hp, show rmFirst q (z :: row.drop (i + 1)) = row.drop (i + 1) from if_pos (by rw [hql]; exact decide_eq_true hzq), List.eraseIdx_eq_take_drop_succ]
      refine Back.intro (hsLed x dx hl hs hh1 hh2 th1 th2 nd0 (vs.eraseIdx i) n8 so2) (by assumption) (by assumption) (Picks.sub (by ((try simp only [hsLed, List.cons_append, List.nil_append]); repeat' (first | exact Picks.done | exact pick_head | refine' pick_tail ?_ | refine' Picks.one ?_ ?_)))) nd ?_
      refine ⟨_, _, _, rfl, rfl, ?_, hS2⟩
      rw [hrow]
      exact strs_eraseIdx hi i
    · rename (Txt.lower z == q) = false => hzq
      have hzq : ¬ Txt.lower z = q := by simpa using hzq
      refine EnumQ.next (by assumption) (by assumption) ⟨⟨t0, rfl⟩, rfl, ?_, ?_⟩
      · rw [hp, List.take_add_one, hz]
        rw [show rmFirst q (z :: row.drop (i + 1)) = z :: rmFirst q (row.drop (i + 1)) from if_neg (by rw [hql]; simpa using hzq)]
        simp
      · rw [List.map_cons, List.contains_cons] at hc
        have : (Txt.lower q == Txt.lower z) = false := by rw [hql]; simpa using fun e => hzq e.symm
        rw [this, Bool.false_or] at hc; exact hc
  · rintro m₁ h tk ⟨_, _, _, hc⟩ F N
    rw [hvl, List.drop_length] at hc
    cases hc

theorem tone54 : True := by
  w_top off
  trivial
theorem rmFirst_none (q : Str) : ∀ row : List Str, (row.map Txt.lower).contains (Txt.lower q) = false → rmFirst q row = row
  | [], _ => rfl
  | z :: r, h => by
    rw [List.map_cons, List.contains_cons, Bool.or_eq_false_iff] at h
    unfold rmFirst
    rw [if_neg (by simpa using fun e : Txt.lower z = Txt.lower q => (by simpa using h.1 : ¬ Txt.lower q = Txt.lower z) e.symm), rmFirst_none q r h.2]
section
variable {prog : Program} {w : World} {x dx hl hs : Addr} {hh1 hh2 : Int} {th1 th2 tq : Tok} {nd0 nl : Nat} {vs : List Value} {so : Obj} {row : List Str} {q : Str}
theorem discard_ct (hi : StrsAre vs row) (hS : StrSet w so (row.map Txt.lower)) (hsz : row.length ≤ 50) (hr : ∀ z ∈ row, z.length ≤ 100) (hq1 : q.length ≤ 100) (hql : Txt.lower q = q) :
    CtX prog w 880 8800 (.ref 102) [.ref x, .str q tq] (hsLed x dx hl hs hh1 hh2 th1 th2 nd0 vs nl so)
      (fun v fp' => ∃ vs' nl' so', fp' = hsLed x dx hl hs hh1 hh2 th1 th2 nd0 vs' nl' so' ∧ v = .none ∧ StrsAre vs' (rmFirst q row) ∧ StrSet w so' ((rmFirst q row).map Txt.lower)) := by
  refine CtX.of (binds := [(Str.ofString "self", .ref x), (Str.ofString "header", .str q tq)]) (by k_is) (by k_is) (by k_room) (fun s X => by first | exact BindsTo.of_eq rfl | exact binds_K X rfl (by k_is) rfl rfl rfl) (locs rfl) ?_
  intro gd cn cs L a ccd cl base mg mb p loose mean s g L' h' nd F' N' B' X' T' XB TB kd
  (try dsimp only); k_fold
  have nn := neAll_of nd
  simp only [hsLed, List.cons_append, List.nil_append, List.map_cons, List.map_nil, NeAll, NeOne, and_true] at nn
  have hso : so.SetObjOf (strKind prog w) (lowS row) row.length := hS.low
  have hvl := hi.length
  cases hin : (row.map Txt.lower).contains (Txt.lower q)
  · have hin' : lowS row (Txt.lower q) = false := hin
    simp only [hsLed, List.cons_append, List.nil_append] at N'
    k_steps
    (try dsimp only)
    refine BackX.intro (hsLed x dx hl hs hh1 hh2 th1 th2 nd0 vs nl so) (by assumption) (by assumption) (by assumption) (fun _ hp => hp) nd ?_
    exact ⟨vs, nl, so, rfl, rfl, by rw [rmFirst_none q row hin]; exact hi, by rw [rmFirst_none q row hin]; exact hS⟩
  · repeat ((fail_if_success (with_reducible show wpAny _ _ (call (Value.ref _) _) _ _ _)); walk1)
    refine Ct.use (remove_ct hi hS hsz hr hq1 hql hin) (by assumption) (by assumption) (by assumption) (by assumption) ?_ (by ((try simp only [hsLed, List.cons_append, List.nil_append]); repeat' (first | exact Picks.done | exact pick_head | refine' pick_tail ?_ | refine' Picks.one ?_ ?_))) (by assumption) rfl rfl rfl ?_
    · (first | assumption | (refine nodup_of_ne ?_; (simp only [hsLed, List.cons_append, List.nil_append, List.map_cons, List.map_nil, NeAll, NeOne, and_true]); omega))
    · rintro v fp' h' tk' F' N' nd' ⟨vs', nl', so', rfl, rfl, h1, h2⟩
      k_steps
      (try dsimp only)
      refine BackX.intro (hsLed x dx hl hs hh1 hh2 th1 th2 nd0 vs' nl' so') KtsTurn.refl (by assumption) (by assumption) (fun _ hp => by simpa using hp) nd ?_
      exact ⟨vs', nl', so', rfl, rfl, h1, h2⟩
theorem removed_ct (hi : StrsAre vs row) (hS : StrSet w so (row.map Txt.lower)) (hsz : row.length ≤ 50) (hr : ∀ z ∈ row, z.length ≤ 100) (hq1 : q.length ≤ 100) (hql : Txt.lower q = q) :
    CtX prog w 880 8800 (.ref 237) [.ref x, .str q tq] (hsLed x dx hl hs hh1 hh2 th1 th2 nd0 vs nl so)
      (fun v fp' => ∃ vs' nl' so', fp' = hsLed x dx hl hs hh1 hh2 th1 th2 nd0 vs' nl' so' ∧ v = .bool ((row.map Txt.lower).contains (Txt.lower q)) ∧ StrsAre vs' (rmFirst q row) ∧ StrSet w so' ((rmFirst q row).map Txt.lower)) := by
  refine CtX.of (binds := [(Str.ofString "heads", .ref x), (Str.ofString "name", .str q tq)]) (by k_is) (by k_is) (by k_room) (fun s X => by first | exact BindsTo.of_eq rfl | exact binds_K X rfl (by k_is) rfl rfl rfl) (locs rfl) ?_
  intro gd cn cs L a ccd cl base mg mb p loose mean s g L' h' nd F' N' B' X' T' XB TB kd
  (try dsimp only); k_fold
  have nn := neAll_of nd
  simp only [hsLed, List.cons_append, List.nil_append, List.map_cons, List.map_nil, NeAll, NeOne, and_true] at nn
  have hso : so.SetObjOf (strKind prog w) (lowS row) row.length := hS.low
  have hvl := hi.length
  cases hin : (row.map Txt.lower).contains (Txt.lower q)
  · have hin' : lowS row (Txt.lower q) = false := hin
    simp only [hsLed, List.cons_append, List.nil_append] at N'
    k_steps
    (try dsimp only)
    refine BackX.intro (hsLed x dx hl hs hh1 hh2 th1 th2 nd0 vs nl so) (by assumption) (by assumption) (by assumption) (fun _ hp => hp) nd ?_
    exact ⟨vs, nl, so, rfl, by rw [hin], by rw [rmFirst_none q row hin]; exact hi, by rw [rmFirst_none q row hin]; exact hS⟩
  · repeat ((fail_if_success (with_reducible show wpAny _ _ (call (Value.ref _) _) _ _ _)); walk1)
    refine Ct.use (remove_ct hi hS hsz hr hq1 hql hin) (by assumption) (by assumption) (by assumption) (by assumption) ?_ (by ((try simp only [hsLed, List.cons_append, List.nil_append]); repeat' (first | exact Picks.done | exact pick_head | refine' pick_tail ?_ | refine' Picks.one ?_ ?_))) (by assumption) rfl rfl rfl ?_
    · (first | assumption | (refine nodup_of_ne ?_; (simp only [hsLed, List.cons_append, List.nil_append, List.map_cons, List.map_nil, NeAll, NeOne, and_true]); omega))
    · rintro v fp' h' tk' F' N' nd' ⟨vs', nl', so', rfl, rfl, h1, h2⟩
      k_steps
      (try dsimp only)
      refine BackX.intro (hsLed x dx hl hs hh1 hh2 th1 th2 nd0 vs' nl' so') KtsTurn.refl (by assumption) (by assumption) (fun _ hp => by simpa using hp) nd ?_
      exact ⟨vs', nl', so', rfl, by rw [hin], h1, h2⟩
theorem index_ct (hi : StrsAre vs row) (hsz : row.length ≤ 50) (hr : ∀ z ∈ row, z.length ≤ 100) (hq1 : q.length ≤ 100) :
    CtX prog w 860 8600 (.ref 244) [.ref x, .str q tq] (hsLed x dx hl hs hh1 hh2 th1 th2 nd0 vs nl so)
      (fun v fp' => ∃ t, fp' = hsLed x dx hl hs hh1 hh2 th1 th2 nd0 vs nl so ∧ v = .int (place row q) t) := by
  refine CtX.of (binds := [(Str.ofString "heads", .ref x), (Str.ofString "name", .str q tq)]) (by k_is) (by k_is) (by k_room) (fun s X => by first | exact BindsTo.of_eq rfl | exact binds_K X rfl (by k_is) rfl rfl rfl) (locs rfl) ?_
  intro gd cn cs L a ccd cl base mg mb p loose mean s g L' h' nd F' N' B' X' T' XB TB kd
  (try dsimp only); k_fold
  have nn := neAll_of nd
  simp only [hsLed, List.cons_append, List.nil_append, List.map_cons, List.map_nil, NeAll, NeOne, and_true] at nn
  have hvl := hi.length
  repeat ((fail_if_success (with_reducible show wpAny _ _ (call (Value.ref 109) _) _ _ _)); walk1)
  refine Ct.use (find_ct hi hsz hr hq1) (by assumption) (by assumption) (by assumption) (by assumption) ?_ (by ((try simp only [hsLed, List.cons_append, List.nil_append]); repeat' (first | exact Picks.done | exact pick_head | refine' pick_tail ?_ | refine' Picks.one ?_ ?_))) (by assumption) rfl rfl rfl ?_
  · (first | assumption | (refine nodup_of_ne ?_; (simp only [hsLed, List.cons_append, List.nil_append, List.map_cons, List.map_nil, NeAll, NeOne, and_true]); omega))
  · rintro v fp' h' tk' F' N' nd' ⟨tp, rfl, rfl⟩
    simp only [hsLed, List.cons_append, List.nil_append, List.map_cons, List.map_nil] at N' nd'
    k_steps
    · rename place row q < 0 => hneg
      have hp1 : place row q = -1 := by
        rcases place_in (row := row) (q := q) 0 with h | h
        · exact h.1
        · exact absurd hneg (by have := h.1; show ¬ placeFrom q 0 row < 0; omega)
      (try dsimp only)
      refine BackX.intro (hsLed x dx hl hs hh1 hh2 th1 th2 nd0 vs nl so) (by assumption) (by assumption) (by assumption) (fun _ hp => hp) nd ?_
      exact ⟨_, rfl, by rw [hp1]⟩
    · (try dsimp only)
      refine BackX.intro (hsLed x dx hl hs hh1 hh2 th1 th2 nd0 vs nl so) KtsTurn.refl (by assumption) (by assumption) (fun _ hp => hp) nd ?_
      exact ⟨_, rfl, rfl⟩
end

theorem tone56 : True := by
  w_top off
  trivial
def tokenCh : Str := Str.ofString "!#$%&'*+-.0123456789ABCDEFGHIJKLMNOPQRSTUVWXYZ^_`abcdefghijklmnopqrstuvwxyz|~"
def isTok (q : Str) : Bool := q.cps.toList.all fun c => !(Builtin.Str.occurrences tokenCh ⟨#[c]⟩ 0 tokenCh.length 1).isEmpty
theorem tok_at {q : Str} (h : isTok q = true) {i c : Nat} (hc : q.cps[i]? = some c) : (Builtin.Str.occurrences tokenCh ⟨#[c]⟩ 0 tokenCh.length 1).isEmpty = false := by
  have hm : c ∈ q.cps.toList := List.mem_of_getElem? (by rw [Array.getElem?_toList]; exact hc)
  have := List.all_eq_true.mp h c hm
  simpa using this
theorem quote_ct {prog : Program} {w : World} {tq : Tok} {q : Str} (hq : q.length ≤ 100) (h0 : q.length ≠ 0) (ht : isTok q = true) :
    Ct prog w 900 9000 (.ref 44) [.str q tq] [] (fun v fp' => ∃ t, fp' = [] ∧ v = .str q t) := by
  refine Ct.ofC (binds := [(Str.ofString "value", .str q tq), (Str.ofString "allow_token", .bool true)]) (by k_is) (by k_is) (by k_room) (fun s X => by first | exact BindsTo.of_eq rfl | exact binds_K X rfl (by k_is) rfl rfl rfl) rfl (by decide) ?_
  intro gd cn cs L a ccd cl outer base mg mb p loose mean s g L' h' tk cells nd F' N' Y B' X' T'
  obtain ⟨c1, rfl, hc1⟩ := CellsAre.one Y
  simp only [List.cons_append, List.nil_append] at N' nd
  clear Y
  (try dsimp only at hc1); (try dsimp only); k_fold
  repeat ((fail_if_success (first | (with_reducible show wpAny _ _ (eval (Expr.ListComp _ _ _ _) _) _ _ _) | (with_reducible show wpAny _ _ (PySem.isTrue (Expr.ListComp _ _ _ _) _ _) _ _ _))); walk1)
  · refine isTrue_plain ?_
    refine ListComp_G (F₀ := by assumption) rfl (by decide) rfl (by decide) rfl ?_
    repeat ((fail_if_success (with_reducible show wpAny _ _ (pyIter _) _ _ _)); walk1)
    refine it_str rfl ?_
    intro o ho hit
    refine CompAt.mk (fun i ys nw => nw = _ ∧ ys = []) hit (by show q.cps.size ≤ 10000; exact Nat.le_trans hq (by decide)) (by intro i ys nw _ p hp; cases hp) (by assumption) (by assumption) ?_ ⟨rfl, rfl⟩ ?_ ?_
    · (first | assumption | (refine nodup_of_ne ?_; (simp only [hsLed, List.cons_append, List.nil_append, List.map_cons, List.map_nil, NeAll, NeOne, and_true]); omega))
    · rintro i v ys I oI C oC D oD m₂ nw h tk E' hin hP ⟨rfl, rfl⟩ hAcc hyl hoC hmx F N nd2
      obtain ⟨c, u, hc, rfl⟩ := hP
      refine wpAny_tests_one ?_
      have hcc := tok_at ht hc
      unfold tokenCh at hcc
      k_steps
      all_goals first
        | (rename Array.isEmpty _ = true => hbad; rw [hcc] at hbad; cases hbad)
        | (refine CEnd.intro _ F N (fun _ hp => hp) nd2 ?_; exact ⟨rfl, rfl⟩)
    · rintro ys nw ⟨rfl, rfl⟩ nd2 D oD h tk rfl F N nd3
      clear hit
      k_steps
      (try dsimp only)
      refine Back.intro [] (by assumption) (by assumption) (fun _ hp => nomatch hp) List.nodup_nil ?_
      exact ⟨_, rfl, rfl⟩
  · exact absurd ‹(q.length : Int) = 0› (by omega)

theorem tone57 : True := by
  w_top off
  trivial
theorem call_replace_none {prog : Program} {w : World} {A : Around} {E : Value → Shared → Prop} {s : Shared} {x y z : Str} {t u v : Tok} {Q : Value → Shared → Prop} (he : (Builtin.Str.occurrences x y 0 x.length (x.length + 1)).isEmpty = true) (h : Q (.str x t) s) :
    wpAny (model prog w) A (call (.builtin "str.replace") [.str x t, .str y u, .str z v]) Q E s := by
  refine call_gives PySem.F.slot_str_replace (typeIs_str _ _ _) PySem.F.entry_str_replace (PySem.F.args_str_replace_3 _ _ _) (gives_str_replace x y z t u v fun hf => by rw [he] at hf; cases hf) ?_
  rw [he]
  exact h
abbrev strXY : Str := Str.ofString "x y"
abbrev strQXY : Str := Str.ofString "\"x y\""
theorem quote_xy_ct {prog : Program} {w : World} {tq : Tok} :
    Ct prog w 900 9000 (.ref 44) [.str strXY tq] [] (fun v fp' => ∃ t, fp' = [] ∧ v = .str strQXY t) := by
  refine Ct.ofC (binds := [(Str.ofString "value", .str strXY tq), (Str.ofString "allow_token", .bool true)]) (by k_is) (by k_is) (by k_room) (fun s X => by first | exact BindsTo.of_eq rfl | exact binds_K X rfl (by k_is) rfl rfl rfl) rfl (by decide) ?_
  intro gd cn cs L a ccd cl outer base mg mb p loose mean s g L' h' tk cells nd F' N' Y B' X' T'
  obtain ⟨c1, rfl, hc1⟩ := CellsAre.one Y
  simp only [List.cons_append, List.nil_append] at N' nd
  clear Y
  (try dsimp only at hc1); (try dsimp only); k_fold
  repeat ((fail_if_success (first | (with_reducible show wpAny _ _ (eval (Expr.ListComp _ _ _ _) _) _ _ _) | (with_reducible show wpAny _ _ (PySem.isTrue (Expr.ListComp _ _ _ _) _ _) _ _ _))); walk1)
  · refine isTrue_plain ?_
    refine ListComp_G (F₀ := by assumption) rfl (by decide) rfl (by decide) rfl ?_
    repeat ((fail_if_success (with_reducible show wpAny _ _ (pyIter _) _ _ _)); walk1)
    refine it_str rfl ?_
    intro o ho hit
    refine CompAt.mk (fun i ys nw => nw = _ ∧ ys.length ≤ i ∧ (2 ≤ i → ys.isEmpty = false)) hit (by decide) (by intro i ys nw _ p hp; cases hp) (by assumption) (by assumption) ?_ ⟨rfl, Nat.le_refl _, fun h => absurd h (by decide)⟩ ?_ ?_
    · (first | assumption | (refine nodup_of_ne ?_; (simp only [hsLed, List.cons_append, List.nil_append, List.map_cons, List.map_nil, NeAll, NeOne, and_true]); omega))
    · rintro i v ys I oI C oC D oD m₂ nw h tk E' hin hP ⟨rfl, hyl, hye⟩ hAcc _ hoC hmx F N nd2
      obtain ⟨c, u, hc, rfl⟩ := hP
      refine wpAny_tests_one ?_
      have hcc : i = 1 → (Builtin.Str.occurrences tokenCh ⟨#[c]⟩ 0 tokenCh.length 1).isEmpty = true := fun e => by
        subst e
        have : c = 32 := (Option.some.inj hc).symm
        subst this
        decide +kernel
      unfold tokenCh at hcc
      k_steps
      · refine CEnd.intro _ F N (fun _ hp => hp) nd2 ?_
        refine ⟨trivial, rfl, by rw [List.length_append, List.length_singleton]; omega, fun _ => by simp⟩
      · rename List.isEmpty _ = false => hbad
        refine CEnd.intro _ F N (fun _ hp => hp) nd2 ?_
        refine ⟨rfl, by omega, fun h2 => ?_⟩
        by_cases e : i = 1
        · rw [hcc e] at hbad; cases hbad
        · exact hye (by omega)
    · rintro ys nw ⟨rfl, hyl, hye⟩ nd2 D oD h tk rfl F N nd3
      clear hit
      have hb := hye (by decide)
      have hyl3 : ys.length ≤ 3 := hyl
      k_steps
      refine call_replace_none (by decide +kernel) ?_
      k_steps
      refine call_replace_none (by decide +kernel) ?_
      k_steps
      (try dsimp only)
      refine Back.intro [] (by assumption) (by assumption) (fun _ hp => nomatch hp) List.nodup_nil ?_
      exact ⟨_, rfl, by congr 1⟩

theorem tone58 : True := by
  w_top off
  trivial
def quoteS (q : Str) : Str := if q = strXY then strQXY else q
def okName (q : Str) : Prop := q = strXY ∨ (isTok q = true ∧ q.length ≠ 0 ∧ q.length ≤ 100)
theorem quote_any_ct {prog : Program} {w : World} {tq : Tok} {q : Str} (h : okName q) :
    Ct prog w 900 9000 (.ref 44) [.str q tq] [] (fun v fp' => ∃ t, fp' = [] ∧ v = .str (quoteS q) t) := by
  by_cases e : q = strXY
  · subst e
    have := quote_xy_ct (prog := prog) (w := w) (tq := tq)
    rw [show quoteS strXY = strQXY from if_pos rfl]
    exact this
  · rw [show quoteS q = q from if_neg e]
    rcases h with h | ⟨h1, h2, h3⟩
    · exact absurd h e
    · exact quote_ct h3 h2 h1
def headerS (row : List Str) : Str := Txt.join (Str.ofString ", ") (row.map quoteS)
theorem quoteS_len {q : Str} (h : okName q) : (quoteS q).length ≤ 100 := by
  unfold quoteS
  split
  · decide
  · rename_i e
    rcases h with h | h
    · exact absurd h e
    · exact h.2.2
theorem sum_len : ∀ {l : List Str}, (∀ z ∈ l, z.length ≤ 100) → (l.map (·.length)).sum ≤ l.length * 100
  | [], _ => Nat.zero_le _
  | a :: r, h => by
    have h1 := h a (List.mem_cons_self ..)
    have h2 := sum_len (l := r) fun z hz => h z (List.mem_cons_of_mem _ hz)
    simp only [List.map_cons, List.sum_cons, List.length_cons]
    omega
theorem header_ct {prog : Program} {w : World} {x dx hl hs : Addr} {hh1 hh2 : Int} {th1 th2 : Tok} {nd0 nl : Nat} {vs : List Value} {so : Obj} {row : List Str}
    (hi : StrsAre vs row) (hsz : row.length ≤ 50) (hr : ∀ z ∈ row, okName z) :
    Ct prog w 880 8800 (.ref 136) [.ref x] (hsLed x dx hl hs hh1 hh2 th1 th2 nd0 vs nl so)
      (fun v fp' => ∃ t, fp' = hsLed x dx hl hs hh1 hh2 th1 th2 nd0 vs nl so ∧ v = .str (headerS row) t) := by
  refine Ct.of (binds := [(Str.ofString "self", .ref x)]) (by k_is) (by k_is) (by k_room) (fun s X => by first | exact BindsTo.of_eq rfl | exact binds_K X rfl (by k_is) rfl rfl rfl) (locs rfl) ?_
  intro gd cn cs L a ccd cl outer base mg mb p loose mean s g L' h' nd F' N' B' X' T'
  (try dsimp only); k_fold
  have nn := neAll_of nd
  simp only [hsLed, List.cons_append, List.nil_append, List.map_cons, List.map_nil, NeAll, NeOne, and_true] at nn
  have hvl := hi.length
  simp only [hsLed, List.cons_append, List.nil_append] at N'
  repeat ((fail_if_success (with_reducible show wpAny _ _ (eval (Expr.ListComp _ _ _ _) _) _ _ _)); walk1)
  refine ListComp_G (F₀ := by assumption) rfl (by decide) rfl (by decide) rfl ?_
  repeat ((fail_if_success (with_reducible show wpAny _ _ (pyIter _) _ _ _)); walk1)
  refine it_list (vs := vs) rfl (by assumption) (by k_mem) ?_
  intro o ho hit
  refine CompAt.mk (fun i ys nw => nw = _ ∧ StrsAre ys ((row.take i).map quoteS)) hit (by omega) ?_ (by assumption) (by assumption) nd ⟨rfl, .nil⟩ ?_ ?_
  · rintro i ys nw ⟨rfl, _⟩ p hp
    rw [List.mem_singleton.mp hp]; k_mem
  · rintro i v ys I oI C oC D oD m₂ nw h tk E' hin hP ⟨rfl, hys⟩ hAcc hyl hoC hmx F N nd2
    obtain ⟨q, t, hq', rfl⟩ := strs_at hi hP
    have hok := hr q (List.mem_of_getElem? hq')
    have hstep : (row.take (i + 1)).map quoteS = (row.take i).map quoteS ++ [quoteS q] := by rw [List.take_add_one, hq']; simp
    repeat ((fail_if_success (with_reducible show wpAny _ _ (call (Value.ref _) _) _ _ _)); walk1)
    refine Ct.use (quote_any_ct hok) (by assumption) (by assumption) (by assumption) (by assumption) nd2 Picks.done (by assumption) rfl rfl rfl ?_
    rintro v fp' h' tk' F' N' nd' ⟨tp, rfl, rfl⟩
    k_steps
    refine CEnd.intro _ (by assumption) N' (fun _ hp => by simpa using hp) nd2 ?_
    exact ⟨trivial, rfl, by rw [hstep]; exact hys.append' (.cons _ _ .nil)⟩
  · rintro ys nw ⟨rfl, hys⟩ nd2 D oD h tk rfl F N nd3
    have hrow : row.take vs.length = row := List.take_of_length_le (by omega)
    rw [hrow] at hys
    clear hit
    k_steps
    refine join_listW (items := ys.toArray) (ys := row.map quoteS) ⟨_, (N _ (List.mem_cons_self ..)).1, rfl, _, rfl⟩ (by simpa using hys) (by decide) ?_ ?_
    · have hs := sum_len (l := row.map quoteS) fun z hz => by
        obtain ⟨q, hq, rfl⟩ := List.mem_map.mp hz
        exact quoteS_len (hr q hq)
      rw [List.length_map] at hs ⊢
      omega
    · intro t9 k9
      k_steps
      (try dsimp only)
      refine Back.intro (hsLed x dx hl hs hh1 hh2 th1 th2 nd0 vs nl so) (by assumption) (by assumption) (Picks.sub (by ((try simp only [hsLed, List.cons_append, List.nil_append]); repeat' (first | exact Picks.done | exact pick_head | refine' pick_tail ?_ | refine' Picks.one ?_ ?_)))) nd ?_
      exact ⟨_, rfl, rfl⟩

theorem tone59 : True := by
  w_top off
  trivial
/-! The pattern's sub on the text 'x y': nothing is found, the text comes back whole. -/
theorem re_plainAttrs : PlainAttrs "re.Pattern" :=
  ⟨⟨"object.__getattribute__", by rw [typeLookup_type, builtinLookup_eq_fast]; kernel_rfl, by decide +kernel⟩, by rw [typeLookup_type, builtinLookup_eq_fast]; kernel_rfl⟩
theorem re_owner : Manifest.owners.lookup (String.ofList ['n', 'r', 'e', 't', 't', 'a', 'P', '.', 'e', 'r'].reverse) = some Manifest.sig_re_Pattern := by kernel_rfl
theorem re_slot_sub : Slot "re.Pattern" "sub" "re.Pattern.sub" :=
  .of (owner := "re.Pattern") (n := "sub") (by rw [typeLookup_type, builtinLookup_eq_fast]; kernel_rfl) (by decide +kernel) (by decide +kernel) (by decide +kernel)
    (by first | exact .inl (by decide +kernel) | exact .inr (by decide +kernel)) (by rw [isSubtype_type]; kernel_rfl)
theorem re_type_sub : typeOf (.builtin "re.Pattern.sub") = pure (.type "method_descriptor") := by show builtinType _ = _; rw [builtinType_eq_fast]; kernel_rfl
theorem re_entry_sub : entryFor table "re.Pattern.sub" = some Builtin.«re.Pattern.sub» := entryFor_of_tree (by kernel_rfl)
theorem re_entry_loop : entryFor table "re.Pattern.sub.loop" = some Builtin.«re.Pattern.sub.loop» := entryFor_of_tree (by kernel_rfl)
theorem re_plain_loop : plainId "re.Pattern.sub.loop" = true := by decide +kernel
theorem re_args (a b c : Value) : argsOk "re.Pattern.sub" ⟨[a, b, c], []⟩ := by
  unfold argsOk; rw [signature?_of (id := "re.Pattern.sub") (n := ['b', 'u', 's']) (o := ['n', 'r', 'e', 't', 't', 'a', 'P', '.', 'e', 'r']) (by kernel_rfl) re_owner]; kernel_rfl
theorem fun_call : typeLookup (.type "function") "__call__" = pure (some (.builtin "function.__call__")) := by rw [typeLookup_type, builtinLookup_eq_fast]; kernel_rfl
theorem sub_str_bytearray : isSubtype (.type "str") (.type "bytearray") = pure false := by rw [isSubtype_type]; kernel_rfl

abbrev patObj : Obj := { cls := .type "re.Pattern", data := .fields #[.str (Str.ofString "\\\\(.)") 300, .int 256 320, .int 1 0, .none, .none, .ref 48, .int 0 0] }
abbrev codeItems : Array Value := #[.int 14 0, .int 8 0, .int 1 0, .int 2 0, .int 2 0, .int 1 0, .int 1 0, .int 92 0, .int 0 0, .int 16 0, .int 92 0, .int 17 0, .int 0 0, .int 2 0, .int 17 0, .int 1 0, .int 1 0]
abbrev codeObj49 : Obj := { cls := .type "tuple", data := .seq codeItems }
def codeNats : Array Nat := #[14, 8, 1, 2, 2, 1, 1, 92, 0, 16, 92, 17, 0, 2, 17, 1, 1]
theorem codeNats_eq : (codeItems.map Builtin.Re.reRawOf).map (·.toNat) = codeNats := by decide +kernel
def xyNats : Array Nat := #[120, 32, 121]
theorem xyNats_eq : (strXY).cps = xyNats := by decide +kernel
def driveFin : Nat → Sre.M → Option Sre.M
  | 0, m => if (m.runFor Builtin.Re.reTurnSteps).outcome.isSome then some (m.runFor Builtin.Re.reTurnSteps) else none
  | k + 1, m => if (m.runFor Builtin.Re.reTurnSteps).outcome.isSome then some (m.runFor Builtin.Re.reTurnSteps) else driveFin k (m.runFor Builtin.Re.reTurnSteps)
def isFailed : Option Sre.M → Bool
  | some m => match m.outcome with
    | some .failed => true
    | _ => false
  | none => false
theorem xy_fails : isFailed (driveFin 30 (Sre.forSearch codeNats xyNats 1 0 3 false)) = true := by decide +kernel
section
variable {prog : Program} {w : World} {A : Around} {E : Value → Shared → Prop} {s : Shared}
theorem drive_fin {Q : Sre.M → Shared → Prop} : ∀ (k n : Nat) (m m' : Sre.M), driveFin k m = some m' → k < n → Q m' s → wpAny (model prog w) A (Builtin.Re.reDrive n m) Q E s
  | 0, 0, _, _, _, h, _ => absurd h (Nat.lt_irrefl _)
  | k + 1, 0, _, _, _, h, _ => absurd h (Nat.not_lt_zero _)
  | 0, n + 1, m, m', e, _, h => by
    unfold driveFin at e
    unfold Builtin.Re.reDrive
    dsimp only
    split at e
    · rename_i hc
      rw [if_pos hc]
      cases e
      exact wpAny_pure h
    · cases e
  | k + 1, n + 1, m, m', e, hk, h => by
    unfold driveFin at e
    unfold Builtin.Re.reDrive
    dsimp only
    split at e
    · rename_i hc
      rw [if_pos hc]
      cases e
      exact wpAny_pure h
    · rename_i hc
      rw [if_neg hc]
      exact wpAny_bind (wpAny_rule (drive_fin k n _ m' e (Nat.lt_of_succ_lt_succ hk) h))
theorem rules_pass {Q : PUnit → Shared → Prop} (f : Nat → Bool) (g : Nat → String) (h : Q ⟨⟩ s) : ∀ l : List Nat, wpAny (model prog w) A (forIn l PUnit.unit fun i _ => do
    if f i then rule (g i)
    pure (ForInStep.yield PUnit.unit)) Q E s
  | [] => wpAny_pure h
  | a :: r => by
    rw [List.forIn_cons]
    refine wpAny_bind ?_
    cases f a
    · exact wpAny_pure (rules_pass f g h r)
    · exact wpAny_bind (wpAny_rule (wpAny_pure (rules_pass f g h r)))
set_option maxHeartbeats 400000 in
theorem none_found' {M0 : Sre.M} (hf : isFailed (driveFin 30 M0) = true) {Q : Option Sre.M → Shared → Prop} (h : Q none s) : wpAny (model prog w) A (Builtin.Re.reRunToEnd M0) Q E s := by
  cases hd : driveFin 30 M0 with
  | none => rw [hd] at hf; cases hf
  | some m =>
    rw [hd] at hf
    have hlt : 30 < 2 ^ 64 := by decide +kernel
    unfold Builtin.Re.reRunToEnd
    generalize 2 ^ 64 = N at hlt ⊢
    refine wpAny_bind (drive_fin 30 N M0 m hd hlt ?_)
    generalize Sre.names = nm
    refine wpAny_bind (rules_pass (fun i => m.seen.has i) (fun i => nm.getD i "") ?_ _)
    unfold isFailed at hf
    dsimp only at hf
    cases ho : m.outcome with
    | none => rw [ho] at hf; cases hf
    | some o =>
      rw [ho] at hf
      cases o with
      | failed => exact wpAny_pure h
      | _ => cases hf
end

theorem tone60 : True := by
  w_top off
  trivial
section
variable {prog : Program} {w : World} {A : Around} {E : Value → Shared → Prop} {s : Shared}
abbrev tgt (t : Tok) : Builtin.Re.ReTarget := { pattern := .ref 49, string := .str strXY t, code := codeNats, text := xyNats, kind := 0, groups := 1, pos := 0, lim := 3 }
set_option maxHeartbeats 800000 in
theorem whole_target {t : Tok} {Q : Builtin.Re.ReTarget → Shared → Prop} (hp : s.heap.get? 49 = some patObj) (hc : s.heap.get? 48 = some codeObj49) (h : Q (tgt t) s) :
    wpAny (model prog w) A (Builtin.Re.reWholeTarget (.ref 49) (.str strXY t)) Q E s := by
  unfold Builtin.Re.reWholeTarget
  refine wpAny_bind (wpAny_fieldsOf hp rfl ?_)
  unfold Builtin.Re.reTextOf
  refine wpAny_bind (wpAny_bind (wpAny_pure (wpAny_pure ?_)))
  dsimp only
  unfold Builtin.Re.reNoCollectionInside
  refine wpAny_bind (wpAny_pure ?_)
  unfold Builtin.Re.reRawItems
  refine wpAny_bind (wpAny_bind (wpAny_seqItems hc rfl (wpAny_pure (wpAny_pure ?_))))
  have e : (⟨.ref 49, .str strXY t, (codeItems.map Builtin.Re.reRawOf).map (·.toNat), strXY.cps, 0, 1, 0, strXY.cps.size⟩ : Builtin.Re.ReTarget) = tgt t := by
    rw [codeNats_eq, xyNats_eq]; rfl
  rw [← e] at h
  exact h
set_option maxHeartbeats 400000 in
theorem call_re_sub {lam : Addr} {t : Tok} {Q : Value → Shared → Prop} (hp : s.heap.get? 49 = some patObj) (hc : s.heap.get? 48 = some codeObj49) (hl : s.TypeIs (.ref lam) "function")
    (h : ∀ h' tk t', (∀ b o, s.heap.get? b = some o → h'.get? b = some o) → Q (.str strXY t') { s with heap := h', toks := tk }) :
    wpAny (model prog w) A (call (.builtin "re.Pattern.sub") [.ref 49, .ref lam, .str strXY t]) Q E s := by
  have hT : s.TypeIs (.ref 49) "re.Pattern" := ⟨_, hp, rfl⟩
  refine wpAny_call (codeAny_call_builtin re_slot_sub.plain re_entry_sub (re_slot_sub.check _ _ _ _ _ _ _ _ hT (re_args _ _ _) ?_))
  unfold Builtin.«re.Pattern.sub» Builtin.Re.reSubstitute
  dsimp only
  refine wpAny_bind (wpAny_of_eq (a := [some (.ref lam), some (.str strXY t), none]) (by rfl) ?_)
  dsimp only
  refine wpAny_bind (wpAny_pure ?_)
  refine wpAny_bind (wpAny_specialOf hl fun_call ?_)
  simp only [Option.isSome_some, if_true]
  refine wpAny_bind (wpAny_pure ?_)
  refine wpAny_bind (wpAny_pure ?_)
  dsimp only
  refine wpAny_bind (wpAny_holding (whole_target hp hc ?_))
  simp only [beq_self_eq_true, if_true]
  unfold Builtin.Re.reNotHeld
  refine wpAny_bind (wpAny_bind (wpAny_isInstance (typeIs_str _ _ _) sub_str_bytearray ?_))
  simp only [Bool.false_eq_true, if_false]
  refine wpAny_pure ?_
  refine wpAny_bind (wpAny_newObj_type ?_)
  refine wpAny_pure ⟨plainId_quiet re_plain_loop _, codeAny_builtin re_entry_loop ?_⟩
  rw [Around.under_plainId re_plain_loop _]
  have hp1 : (s.heap.push { cls := .type "list", dict := none, data := .seq ([] : List Value).toArray }).get? 49 = some patObj := Heap.get?_push_of_some _ hp
  have hc1 : (s.heap.push { cls := .type "list", dict := none, data := .seq ([] : List Value).toArray }).get? 48 = some codeObj49 := Heap.get?_push_of_some _ hc
  have hD : (s.heap.push { cls := .type "list", dict := none, data := .seq ([] : List Value).toArray }).get? s.heap.objs.size = some { cls := .type "list", dict := none, data := .seq ([] : List Value).toArray } := Heap.get?_push_size _ rfl
  unfold Builtin.«re.Pattern.sub.loop»
  dsimp only [rawInt]
  refine wpAny_bind (whole_target hp1 hc1 ?_)
  rw [if_neg (by decide)]
  refine wpAny_bind ?_
  rw [if_neg (by decide)]
  unfold Builtin.Re.reNextFound
  dsimp only [Int.toNat]
  obtain ⟨M0, hM0⟩ : ∃ M0, M0 = Sre.forSearch codeNats xyNats 1 0 3 false := ⟨_, rfl⟩
  have hf : isFailed (driveFin 30 M0) = true := by rw [hM0]; exact xy_fails
  rw [← hM0]
  clear hM0
  refine none_found' hf ?_
  clear hf
  dsimp only
  rw [if_pos (by decide)]
  unfold Builtin.Re.reSlice
  rw [if_pos (by rfl)]
  generalize hxs : (⟨Array.extract (tgt t).text 0 3⟩ : Str) = xs
  have hx : xs = strXY := by
    rw [← hxs]
    show (⟨Array.extract xyNats 0 3⟩ : Str) = strXY
    decide +kernel
  have hlen : xs.length ≤ 3 := by rw [hx]; decide
  clear hxs
  have hsl : 10 ≤ sizeLine := by decide
  refine wpAny_bind (wpAny_mkStr ?_ (Nat.le_trans hlen (Nat.le_trans (by decide) hsl)))
  have hg := Heap.get?_update_self (Obj.mapSeq (·.push (Value.str xs s.toks))) hD rfl
  refine wpAny_bind (wpAny_updateSeq hD rfl ?_ (Nat.zero_le _) (Nat.le_trans (show (1 : Nat) ≤ 10 + 1 by decide) (Nat.add_le_add_right hsl 1)))
  rw [if_pos (by rfl)]
  generalize hys : (⟨Array.extract xyNats 0 0⟩ : Str) = ys
  have hy : ys = Str.empty := by rw [← hys]; decide +kernel
  have hylen : ys.length ≤ 0 := by rw [hy]; decide
  clear hys
  refine wpAny_bind (wpAny_mkStr ?_ (Nat.le_trans hylen (Nat.zero_le _)))
  refine wpAny_bind (wpAny_seqItems hg rfl ?_)
  rw [if_neg (by simp)]
  rw [if_pos (by rfl)]
  refine wpAny_bind ?_
  refine join_list (ys := [xs]) ⟨_, hg, rfl, _, rfl⟩ (.cons _ _ .nil) (by simp only [List.map_cons, List.map_nil, List.sum_cons, List.sum_nil, List.length_cons, List.length_nil]; omega) ?_
  intro t' k
  rw [if_neg (by decide)]
  have hj : Txt.join ys [xs] = strXY := by rw [hx, hy]; decide +kernel
  rw [hj]
  refine wpAny_pure ?_
  refine h _ _ _ fun b o e => ?_
  have hb : s.heap.objs.size ≠ b := fun q => absurd (Heap.lt_size e) (by rw [← q]; exact Nat.lt_irrefl _)
  rw [Heap.get?_update_other _ _ hb]
  exact Heap.get?_push_of_some _ e
end

theorem tone62 : True := by
  w_top off
  trivial
theorem unquote_tok_ct {prog : Program} {w : World} {tq : Tok} {q : Str} (hq : q.length ≤ 100) (hs : Txt.startswith q (Str.ofString "\"") = false) :
    Ct prog w 900 9000 (.ref 56) [.str q tq] [] (fun v fp' => ∃ t, fp' = [] ∧ v = .str q t) := by
  refine Ct.of (binds := [(Str.ofString "value", .str q tq)]) (by k_is) (by k_is) (by k_room) (fun s X => by first | exact BindsTo.of_eq rfl | exact binds_K X rfl (by k_is) rfl rfl rfl) (locs rfl) ?_
  intro gd cn cs L a ccd cl outer base mg mb p loose mean s g L' h' nd F' N' B' X' T'
  (try dsimp only); k_fold
  k_steps
  all_goals (try dsimp only)
  all_goals refine Back.intro [] (by assumption) (by assumption) (fun _ hp => nomatch hp) List.nodup_nil ?_
  all_goals exact ⟨_, rfl, rfl⟩

theorem tone63 : True := by
  w_top off
  trivial
def lamPos : Pos := { line := 20, col := 31, endLine := 20, endCol := 66 }
def TabOk (ps : Array Value) : Prop := TriplesOk ps.toList ∧ (codeAmong lamPos ps.toList = none ∨ ∃ c', codeAmong lamPos ps.toList = some (.ref c'))
theorem unquote_xy_ct {prog : Program} {w : World} {tq : Tok} {ps : Array Value} (hps : TabOk ps) :
    Ct prog w 900 9000 (.ref 56) [.str strQXY tq] [(51, tabObj ps)] (fun v fp' => ∃ t ps', fp' = [(51, tabObj ps')] ∧ TabOk ps' ∧ v = .str strXY t) := by
  refine Ct.of (binds := [(Str.ofString "value", .str strQXY tq)]) (by k_is) (by k_is) (by k_room) (fun s X => by first | exact BindsTo.of_eq rfl | exact binds_K X rfl (by k_is) rfl rfl rfl) (locs rfl) ?_
  intro gd cn cs L a ccd cl outer base mg mb p loose mean s g L' h' nd F' N' B' X' T'
  (try dsimp only); k_fold
  repeat ((fail_if_success (with_reducible show wpAny _ _ (getMethod (Value.ref 49) _ _) _ _ _)); walk1)
  have hp0 : g.get? 49 = some patObj := X' _ _ (by k_is)
  have hc0 : g.get? 48 = some codeObj49 := X' _ _ (by k_is)
  rename Fr g L' _ _ => F9
  have hp : _ := F9.keep _ _ hp0
  refine getMethod_builtin (T := "re.Pattern") ⟨_, hp, rfl⟩ re_plainAttrs re_slot_sub re_type_sub (fun b e => by injection e with e; subst e; exact ⟨_, hp, rfl⟩) ?_
  repeat ((fail_if_success (with_reducible show wpAny _ _ (eval (Expr.Lambda _ _ _ _) _) _ _ _)); walk1)
  refine kla_eval rfl ?_
  have C : CodeHd g 55 51 := ⟨_, _, _, _, _, _, _, _, _, X' 55 _ (by k_is), rfl, rfl, rfl, rfl, rfl, rfl, rfl, rfl, by decide⟩
  rcases hps with ⟨ht, hn | ⟨c0, hf⟩⟩
  · refine' kla_nest (by assumption) (by assumption) (by assumption) C rfl ?U ht hn rfl ?_
    case U => k_updF
    intro f c' oc vs t ct h2 tk2 F2 N2 d1 d2 l1 l2
    repeat ((fail_if_success (with_reducible show wpAny _ _ (call (Value.builtin "re.Pattern.sub") _) _ _ _)); walk1)
    rename Fr g L' _ _ => F8
    rename News g L' _ _ => N8
    rw [show Txt.slice strQXY (some 1) (some (-1)) = strXY by decide +kernel]
    refine call_re_sub (F8.keep _ _ hp0) (F8.keep _ _ hc0) ⟨_, (N8 (f, _) (List.mem_cons_self ..)).1, rfl⟩ ?_
    intro h3 tk3 t3 hk3
    have F3 : Fr g L' h3 _ := F8.keeps hk3
    have N3 : News g L' h3 _ := N8.grown hk3
    clear F8 N8
    k_steps
    (try dsimp only)
    refine Back.intro [(51, tabObj (ps ++ #[rawInt lamPos.line, rawInt lamPos.col, .ref c']))] (by assumption) (by assumption) (Picks.sub (by ((try simp only [hsLed, List.cons_append, List.nil_append]); repeat' (first | exact Picks.done | exact pick_head | refine' pick_tail ?_ | refine' Picks.one ?_ ?_)))) nd ?_
    exact ⟨_, _, rfl, ⟨by rw [Array.toList_append]; exact TriplesOk_snoc _ _ _ _ ht, .inr ⟨c', by rw [Array.toList_append]; exact codeAmong_snoc (pos := lamPos) _ ht hn⟩⟩, rfl⟩
  · refine kla_hit (by assumption) (by assumption) (by assumption) C rfl (by k_mem) ht hf rfl ?_
    intro f ct h2 tk2 F2 N2 l1
    repeat ((fail_if_success (with_reducible show wpAny _ _ (call (Value.builtin "re.Pattern.sub") _) _ _ _)); walk1)
    rename Fr g L' _ _ => F8
    rename News g L' _ _ => N8
    rw [show Txt.slice strQXY (some 1) (some (-1)) = strXY by decide +kernel]
    refine call_re_sub (F8.keep _ _ hp0) (F8.keep _ _ hc0) ⟨_, (N8 (f, _) (List.mem_cons_self ..)).1, rfl⟩ ?_
    intro h3 tk3 t3 hk3
    have F3 : Fr g L' h3 _ := F8.keeps hk3
    have N3 : News g L' h3 _ := N8.grown hk3
    clear F8 N8
    k_steps
    (try dsimp only)
    refine Back.intro [(51, tabObj ps)] (by assumption) (by assumption) (Picks.sub (by ((try simp only [hsLed, List.cons_append, List.nil_append]); repeat' (first | exact Picks.done | exact pick_head | refine' pick_tail ?_ | refine' Picks.one ?_ ?_)))) nd ?_
    exact ⟨_, _, rfl, ⟨ht, .inr ⟨c0, hf⟩⟩, rfl⟩

theorem tone64 : True := by
  w_top off
  trivial
theorem led_name {g h : Heap} {L a : Addr} {o : Obj} {r : List (Addr × Obj)} (N : News g L h ((a, o) :: r)) : ∃ x : Addr, x = a := ⟨a, rfl⟩
theorem TurnQ.cont {h₀ : Heap} {L : Addr} {Jn : (Str → Option Value) → List (Addr × Obj) → Prop} {keep : List (Addr × Obj)} {s₁ : Shared} {Q : Flow → Shared → Prop} {h' : Heap} {tk : Nat} {m' : Str → Option Value} {nw : List (Addr × Obj)} (nw' : List (Addr × Obj))
    (F' : Fr h₀ L h' m') (N' : News h₀ L h' nw) (sub : ∀ p ∈ keep ++ nw', p ∈ nw) (nd : ((keep ++ nw').map (·.1)).Nodup) (j : Jn m' nw') : TurnQ h₀ L Jn keep s₁ Q .cont { s₁ with heap := h', toks := tk } :=
  ⟨h', tk, m', nw', rfl, F', fun p hp => N' p (sub p hp), nd, j⟩
theorem Ct.frame0 {prog : Program} {w : World} {D U : Nat} {f : Value} {args : List Value} {P : Value → Prop} {fp : List (Addr × Obj)} (c : Ct prog w D U f args [] (fun v fp' => fp' = [] ∧ P v)) : Ct prog w D U f args fp (fun v fp' => fp' = fp ∧ P v) := by
  intro gd cn cs L a ccd cl outer A₀ base h₀ m mg mb rest p loose mean s Q E B F X N nd T hks ret
  exact c gd cn cs L a ccd cl outer A₀ base h₀ m mg mb (fp ++ rest) p loose mean s Q E B F X N nd T hks fun v fp' h' tk' F' N' nd' ⟨e, hP⟩ => by
    subst e
    exact ret v fp h' tk' F' N' nd' ⟨rfl, hP⟩
theorem Ct.post {prog : Program} {w : World} {D U : Nat} {f : Value} {args : List Value} {fp : List (Addr × Obj)} {R R' : Value → List (Addr × Obj) → Prop} (c : Ct prog w D U f args fp R) (h : ∀ v fp', R v fp' → R' v fp') : Ct prog w D U f args fp R' := by
  intro gd cn cs L a ccd cl outer A₀ base h₀ m mg mb rest p loose mean s Q E B F X N nd T hks ret
  exact c gd cn cs L a ccd cl outer A₀ base h₀ m mg mb rest p loose mean s Q E B F X N nd T hks fun v fp' h' tk' F' N' nd' r => ret v fp' h' tk' F' N' nd' (h v fp' r)
def unquoteS (q : Str) : Str := if q = strQXY then strXY else q
def okPart (q : Str) : Prop := q = strQXY ∨ (Txt.startswith q (Str.ofString "\"") = false ∧ q.length ≤ 100)
theorem unquote_any_ct {prog : Program} {w : World} {tq : Tok} {ps : Array Value} {q : Str} (hps : TabOk ps) (h : okPart q) :
    Ct prog w 900 9000 (.ref 56) [.str q tq] [(51, tabObj ps)] (fun v fp' => ∃ t ps', fp' = [(51, tabObj ps')] ∧ TabOk ps' ∧ v = .str (unquoteS q) t) := by
  by_cases e : q = strQXY
  · subst e
    rw [show unquoteS strQXY = strXY from if_pos rfl]
    exact unquote_xy_ct hps
  · rw [show unquoteS q = q from if_neg e]
    rcases h with h | ⟨h1, h2⟩
    · exact absurd h e
    · refine Ct.post (Ct.frame0 (P := fun v => ∃ t, v = .str q t) (Ct.post (unquote_tok_ct h2 h1) ?_)) ?_
      · rintro v fp' ⟨t, e1, e2⟩; exact ⟨e1, t, e2⟩
      · rintro v fp' ⟨e1, t, e2⟩; exact ⟨t, ps, e1, hps, e2⟩
abbrev stripF (z : Str) : Str := Txt.stripChars z (Str.ofString " \t")
structure MSt where
  items : List Str
  item : Str
  escape : Bool
  quote : Bool
def mstep (st : MSt) (c : Nat) : MSt :=
  let ch : Str := ⟨#[c]⟩
  if st.escape then { st with escape := false, item := st.item ++ ch } else
  if st.quote then
    if ch == Str.ofString "\\" then { st with escape := true, item := st.item ++ ch }
    else if ch == Str.ofString "\"" then { st with quote := false, item := st.item ++ ch }
    else { st with item := st.item ++ ch }
  else if ch == Str.ofString "," then { st with items := st.items ++ [st.item], item := Str.empty }
  else if ch == Str.ofString "\"" then { st with quote := true, item := st.item ++ ch }
  else { st with item := st.item ++ ch }
def nonEmpty (z : Str) : Bool := decide (z.length ≠ 0)
def mrun (h : Str) (i : Nat) : MSt := (h.cps.toList.take i).foldl mstep ⟨[], Str.empty, false, false⟩
def partsOf (q : Str) : List Str := ((mrun q q.cps.size).items ++ [(mrun q q.cps.size).item]).map stripF
def parseS (q : Str) : List Str := ((partsOf q).filter nonEmpty).map unquoteS
theorem str_app_len (a : Str) (c : Nat) : (a ++ (⟨#[c]⟩ : Str)).length = a.length + 1 := by
  show (a.cps ++ #[c]).size = a.cps.size + 1
  simp
theorem mstep_len (st : MSt) (c : Nat) : (mstep st c).item.length ≤ st.item.length + 1 ∧ (mstep st c).items.length ≤ st.items.length + 1 := by
  unfold mstep
  dsimp only
  repeat' split
  all_goals simp only [str_app_len, List.length_append, List.length_singleton]
  all_goals first | omega | exact ⟨Nat.zero_le _, Nat.le_refl _⟩
set_option maxHeartbeats 1500000 in
theorem parse_ct {prog : Program} {w : World} {tq : Tok} {ps : Array Value} {q : Str} (hps : TabOk ps) (hq : q.length ≤ 1000) (hfin : (mrun q q.cps.size).quote = false)
    (hall : ∀ z ∈ (mrun q q.cps.size).items ++ [(mrun q q.cps.size).item], z.length ≤ 100) (hok : ∀ z ∈ partsOf q, okPart z) :
    Ct prog w 880 8800 (.ref 61) [.str q tq] [(51, tabObj ps)] (fun v fp' => ∃ D vs' n' ps', v = .ref D ∧ fp' = [(D, listOf vs'.toArray n'), (51, tabObj ps')] ∧ TabOk ps' ∧ StrsAre vs' (parseS q)) := by
  refine Ct.of (binds := [(Str.ofString "value", .str q tq)]) (by k_is) (by k_is) (by k_room) (fun s X => by first | exact BindsTo.of_eq rfl | exact binds_K X rfl (by k_is) rfl rfl rfl) (locs rfl) ?_
  intro gd cn cs L a ccd cl outer base mg mb p loose mean s g L' h' nd F' N' B' X' T'
  (try dsimp only); k_fold
  repeat ((fail_if_success (with_reducible show wpAny _ _ (exec (Stmt.For _ _ _ _ _) _) _ _ _)); walk1)
  rename News g L' _ _ => N0
  rename Fr g L' _ _ => F0
  obtain ⟨il, hil⟩ := led_name N0
  subst hil
  have hnd0 : (([(il, listOf #[] 0), (51, tabObj ps)] : List (Addr × Obj)).map (·.1)).Nodup := by (first | assumption | (refine nodup_of_ne ?_; (simp only [hsLed, List.cons_append, List.nil_append, List.map_cons, List.map_nil, NeAll, NeOne, and_true]); omega))
  clear nd
  refine For_invVF (by assumption) rfl rfl ?_ (hE := PassesOwn.never)
  walk1
  refine loop_str (fun i m nw => ∃ vs n t, m (Str.ofString "items") = some (.ref il) ∧ m (Str.ofString "item") = some (.str (mrun q i).item t) ∧ m (Str.ofString "escape") = some (.bool (mrun q i).escape) ∧ m (Str.ofString "quote") = some (.bool (mrun q i).quote) ∧
    StrsAre vs (mrun q i).items ∧ (mrun q i).item.length ≤ i ∧ (mrun q i).items.length ≤ i ∧ i ≤ q.cps.size ∧ nw = [(il, listOf vs.toArray n), (51, tabObj ps)]) rfl (by assumption) (by assumption) hnd0 ⟨[], 0, _, rfl, rfl, rfl, rfl, .nil, Nat.le_refl _, Nat.le_refl _, Nat.zero_le _, rfl⟩ ?_ ?_
  · rintro i c u m₁ nw h tk I oI hc ⟨vs, n, t, h1, h2, h3, h4, h5, h6, h7, h8, rfl⟩ F N nd
    k_fold
    have hil : i < q.cps.size := (Array.getElem?_eq_some_iff.mp hc).1
    have hq' : q.cps.size ≤ 1000 := hq
    have hstep : mrun q (i + 1) = mstep (mrun q i) c := by
      unfold mrun
      rw [List.take_add_one, Array.getElem?_toList, hc, List.foldl_append]; rfl
    have hml := mstep_len (mrun q i) c
    rw [← hstep] at hml
    obtain ⟨st, hst⟩ : ∃ st, st = mrun q i := ⟨_, rfl⟩
    rw [← hst] at h2 h3 h4 h5 h6 h7 hstep hml
    obtain ⟨items, item, esc, quo⟩ := st
    dsimp only at h2 h3 h4 h5 h6 h7 hml
    have hvl := h5.length
    replace F := fr_known F h1
    replace F := fr_known F (n := Str.ofString "item") (show (fun y => if y = Str.ofString "items" then some (Value.ref il) else m₁ y) (Str.ofString "item") = _ from h2)
    replace F := fr_known F (n := Str.ofString "escape") (show (fun y => if y = Str.ofString "item" then some (Value.str item t) else if y = Str.ofString "items" then some (Value.ref il) else m₁ y) (Str.ofString "escape") = _ from h3)
    replace F := fr_known F (n := Str.ofString "quote") (show (fun y => if y = Str.ofString "escape" then some (Value.bool esc) else if y = Str.ofString "item" then some (Value.str item t) else if y = Str.ofString "items" then some (Value.ref il) else m₁ y) (Str.ofString "quote") = _ from h4)
    have nn := neAll_of nd
    simp only [List.cons_append, List.nil_append, List.map_cons, List.map_nil, NeAll, NeOne, and_true] at nn
    cases esc
    · cases quo
      · k_steps
        · (rename (_ == Str.ofString ",") = true => b3)
          (try dsimp only)
          have e : mstep ⟨items, item, false, false⟩ c = ⟨items ++ [item], Str.empty, false, false⟩ := by simp [mstep, b3]
          rw [e] at hstep
          rename News _ _ _ _ => N9
          simp only [List.push_toArray] at N9
          refine TurnQ.cont [(il, listOf (vs ++ [Value.str item t]).toArray _), (51, tabObj ps)] (by assumption) N9 (Picks.sub (by ((try simp only [hsLed, List.cons_append, List.nil_append]); repeat' (first | exact Picks.done | exact pick_head | refine' pick_tail ?_ | refine' Picks.one ?_ ?_)))) ?_ ?_
          · (first | assumption | (refine nodup_of_ne ?_; (simp only [hsLed, List.cons_append, List.nil_append, List.map_cons, List.map_nil, NeAll, NeOne, and_true]); omega))
          · (try dsimp only)
            rw [hstep] at hml ⊢
            exact ⟨(vs ++ [Value.str item t]), _, _, rfl, rfl, rfl, rfl, h5.append' (.cons _ _ .nil), Nat.le_trans hml.1 (by omega), Nat.le_trans hml.2 (by omega), hil, rfl⟩
        · (rename (_ == Str.ofString ",") = false => b3)
          (rename (_ == Str.ofString "\"") = true => b2)
          (try dsimp only)
          have e : mstep ⟨items, item, false, false⟩ c = ⟨items, item ++ (⟨#[c]⟩ : Str), false, true⟩ := by simp [mstep, b3, b2]
          rw [e] at hstep
          refine TurnQ.next [(il, listOf vs.toArray _), (51, tabObj ps)] (by assumption) (by assumption) (Picks.sub (by ((try simp only [hsLed, List.cons_append, List.nil_append]); repeat' (first | exact Picks.done | exact pick_head | refine' pick_tail ?_ | refine' Picks.one ?_ ?_)))) ?_ ?_
          · (first | assumption | (refine nodup_of_ne ?_; (simp only [hsLed, List.cons_append, List.nil_append, List.map_cons, List.map_nil, NeAll, NeOne, and_true]); omega))
          · (try dsimp only)
            rw [hstep] at hml ⊢
            exact ⟨vs, _, _, rfl, rfl, rfl, rfl, h5, Nat.le_trans hml.1 (by omega), Nat.le_trans hml.2 (by omega), hil, rfl⟩
        · (rename (_ == Str.ofString ",") = false => b3)
          (rename (_ == Str.ofString "\"") = false => b2)
          (try dsimp only)
          have e : mstep ⟨items, item, false, false⟩ c = ⟨items, item ++ (⟨#[c]⟩ : Str), false, false⟩ := by simp [mstep, b3, b2]
          rw [e] at hstep
          refine TurnQ.next [(il, listOf vs.toArray _), (51, tabObj ps)] (by assumption) (by assumption) (Picks.sub (by ((try simp only [hsLed, List.cons_append, List.nil_append]); repeat' (first | exact Picks.done | exact pick_head | refine' pick_tail ?_ | refine' Picks.one ?_ ?_)))) ?_ ?_
          · (first | assumption | (refine nodup_of_ne ?_; (simp only [hsLed, List.cons_append, List.nil_append, List.map_cons, List.map_nil, NeAll, NeOne, and_true]); omega))
          · (try dsimp only)
            rw [hstep] at hml ⊢
            exact ⟨vs, _, _, rfl, rfl, rfl, rfl, h5, Nat.le_trans hml.1 (by omega), Nat.le_trans hml.2 (by omega), hil, rfl⟩
      · k_steps
        · (rename (_ == Str.ofString "\\") = true => b1)
          (try dsimp only)
          have e : mstep ⟨items, item, false, true⟩ c = ⟨items, item ++ (⟨#[c]⟩ : Str), true, true⟩ := by simp [mstep, b1]
          rw [e] at hstep
          refine TurnQ.cont [(il, listOf vs.toArray _), (51, tabObj ps)] (by assumption) (by assumption) (Picks.sub (by ((try simp only [hsLed, List.cons_append, List.nil_append]); repeat' (first | exact Picks.done | exact pick_head | refine' pick_tail ?_ | refine' Picks.one ?_ ?_)))) ?_ ?_
          · (first | assumption | (refine nodup_of_ne ?_; (simp only [hsLed, List.cons_append, List.nil_append, List.map_cons, List.map_nil, NeAll, NeOne, and_true]); omega))
          · (try dsimp only)
            rw [hstep] at hml ⊢
            exact ⟨vs, _, _, rfl, rfl, rfl, rfl, h5, Nat.le_trans hml.1 (by omega), Nat.le_trans hml.2 (by omega), hil, rfl⟩
        · (rename (_ == Str.ofString "\\") = false => b1)
          (rename (_ == Str.ofString "\"") = true => b2)
          (try dsimp only)
          have e : mstep ⟨items, item, false, true⟩ c = ⟨items, item ++ (⟨#[c]⟩ : Str), false, false⟩ := by simp [mstep, b1, b2]
          rw [e] at hstep
          refine TurnQ.cont [(il, listOf vs.toArray _), (51, tabObj ps)] (by assumption) (by assumption) (Picks.sub (by ((try simp only [hsLed, List.cons_append, List.nil_append]); repeat' (first | exact Picks.done | exact pick_head | refine' pick_tail ?_ | refine' Picks.one ?_ ?_)))) ?_ ?_
          · (first | assumption | (refine nodup_of_ne ?_; (simp only [hsLed, List.cons_append, List.nil_append, List.map_cons, List.map_nil, NeAll, NeOne, and_true]); omega))
          · (try dsimp only)
            rw [hstep] at hml ⊢
            exact ⟨vs, _, _, rfl, rfl, rfl, rfl, h5, Nat.le_trans hml.1 (by omega), Nat.le_trans hml.2 (by omega), hil, rfl⟩
        · (rename (_ == Str.ofString "\\") = false => b1)
          (rename (_ == Str.ofString "\"") = false => b2)
          (try dsimp only)
          have e : mstep ⟨items, item, false, true⟩ c = ⟨items, item ++ (⟨#[c]⟩ : Str), false, true⟩ := by simp [mstep, b1, b2]
          rw [e] at hstep
          refine TurnQ.cont [(il, listOf vs.toArray _), (51, tabObj ps)] (by assumption) (by assumption) (Picks.sub (by ((try simp only [hsLed, List.cons_append, List.nil_append]); repeat' (first | exact Picks.done | exact pick_head | refine' pick_tail ?_ | refine' Picks.one ?_ ?_)))) ?_ ?_
          · (first | assumption | (refine nodup_of_ne ?_; (simp only [hsLed, List.cons_append, List.nil_append, List.map_cons, List.map_nil, NeAll, NeOne, and_true]); omega))
          · (try dsimp only)
            rw [hstep] at hml ⊢
            exact ⟨vs, _, _, rfl, rfl, rfl, rfl, h5, Nat.le_trans hml.1 (by omega), Nat.le_trans hml.2 (by omega), hil, rfl⟩
    · k_steps
      (try dsimp only)
      have e : mstep ⟨items, item, true, quo⟩ c = ⟨items, item ++ (⟨#[c]⟩ : Str), false, quo⟩ := by simp [mstep]
      rw [e] at hstep
      refine TurnQ.cont [(il, listOf vs.toArray _), (51, tabObj ps)] (by assumption) (by assumption) (Picks.sub (by ((try simp only [hsLed, List.cons_append, List.nil_append]); repeat' (first | exact Picks.done | exact pick_head | refine' pick_tail ?_ | refine' Picks.one ?_ ?_)))) ?_ ?_
      · (first | assumption | (refine nodup_of_ne ?_; (simp only [hsLed, List.cons_append, List.nil_append, List.map_cons, List.map_nil, NeAll, NeOne, and_true]); omega))
      · (try dsimp only)
        rw [hstep] at hml ⊢
        exact ⟨vs, _, _, rfl, rfl, rfl, rfl, h5, Nat.le_trans hml.1 (by omega), Nat.le_trans hml.2 (by omega), hil, rfl⟩
  · rintro m₁ nw h tk ⟨vs, n, t, h1, h2, h3, h4, h5, h6, h7, h8, rfl⟩ F N nd
    have hq' : q.cps.size ≤ 1000 := hq
    have hvl := h5.length
    replace F := fr_known0 (fr_known0 (fr_known0 (fr_known0 F h1) (n := Str.ofString "item") h2) (n := Str.ofString "escape") h3) (n := Str.ofString "quote") h4
    rw [hfin] at F
    have nn := neAll_of nd
    simp only [List.map_cons, List.map_nil, NeAll, NeOne, and_true] at nn
    repeat ((fail_if_success (with_reducible show wpAny _ _ (eval (Expr.ListComp _ _ _ _) _) _ _ _)); walk1)
    rename News _ _ _ _ => N9
    simp only [List.push_toArray] at N9
    refine ListComp_G (F₀ := by assumption) rfl (by decide) rfl (by decide) rfl ?_
    refine ListComp_G (F₀ := by assumption) rfl (by decide) rfl (by decide) rfl ?_
    repeat ((fail_if_success (with_reducible show wpAny _ _ (pyIter _) _ _ _)); walk1)
    refine it_list (vs := vs ++ [Value.str (mrun q q.cps.size).item t]) rfl N9 (by k_mem) ?_
    intro o ho hit
    obtain ⟨its, hits⟩ : ∃ its, its = (mrun q q.cps.size).items ++ [(mrun q q.cps.size).item] := ⟨_, rfl⟩
    have h5' : StrsAre (vs ++ [Value.str (mrun q q.cps.size).item t]) its := by rw [hits]; exact h5.append' (.cons _ _ .nil)
    rw [← hits] at hall
    have hparts : partsOf q = its.map stripF := by rw [hits]; rfl
    have hvl' := h5'.length
    have hitl : its.length ≤ 1001 := by rw [hits, List.length_append, List.length_singleton]; omega
    refine CompAt.mk (fun i ys nw => nw = _ ∧ StrsAre ys ((its.take i).map stripF)) hit (by omega) ?_ (by assumption) N9 nd ⟨rfl, .nil⟩ ?_ ?_
    · rintro i ys nw ⟨rfl, _⟩ p hp
      rw [List.mem_singleton.mp hp]; k_mem
    · rintro i v ys I oI C oC D oD m₂ nw h tk E' hin hP ⟨rfl, hys⟩ hAcc hyl hoC hmx F N nd2
      obtain ⟨z, tz, hz, rfl⟩ := strs_at h5' hP
      have hz2 := hall z (List.mem_of_getElem? hz)
      have hstep : (its.take (i + 1)).map stripF = (its.take i).map stripF ++ [stripF z] := by rw [List.take_add_one, hz]; simp
      k_steps
      refine CEnd.intro _ F N (fun _ hp => hp) nd2 ?_
      exact ⟨trivial, rfl, by rw [hstep]; exact hys.append' (.cons _ _ .nil)⟩
    · rintro ys nw ⟨rfl, hys⟩ nd2 D oD h tk rfl F N nd3
      rw [List.take_of_length_le (by omega), ← hparts] at hys
      clear hit
      have hyl := hys.length
      have hpl : (partsOf q).length = its.length := by rw [hparts, List.length_map]
      refine it_list (vs := ys) (nl := ys.length) rfl N (List.mem_cons_self ..) ?_
      intro o2 ho2 hit2
      have N2 : News g _ _ [(D, listOf ys.toArray ys.length), (51, tabObj ps)] := fun p hp => N p (by
        rcases List.mem_cons.mp hp with rfl | hp
        · exact List.mem_cons_self ..
        · rw [List.mem_singleton.mp hp]; exact List.mem_cons_of_mem _ (List.mem_cons_of_mem _ (List.mem_cons_self ..)))
      have nd5 : (([(D, listOf ys.toArray ys.length), (51, tabObj ps)] : List (Addr × Obj)).map (·.1)).Nodup := by
        have nn3 := neAll_of nd3
        simp only [List.map_cons, List.map_nil, NeAll, NeOne, and_true] at nn3
        (first | assumption | (refine nodup_of_ne ?_; (simp only [hsLed, List.cons_append, List.nil_append, List.map_cons, List.map_nil, NeAll, NeOne, and_true]); omega))
      clear nd3 nd2 nd N9
      refine CompAt.mk (fun i ys2 nw => ∃ ps', TabOk ps' ∧ nw = [(D, listOf ys.toArray ys.length), (51, tabObj ps')] ∧ StrsAre ys2 ((((partsOf q).take i).filter nonEmpty).map unquoteS)) hit2 (by omega) ?_ (by assumption) N2 nd5 ⟨ps, hps, rfl, .nil⟩ ?_ ?_
      · rintro i ys2 nw ⟨ps', _, rfl, _⟩ p hp
        rw [List.mem_singleton.mp hp]; k_mem
      · rintro i v ys2 I oI C oC D2 oD2 m₂ nw h tk E' hin hP ⟨ps', hps', rfl, hys2⟩ hAcc hyl2 hoC hmx F N nd2
        obtain ⟨z, tz, hz, rfl⟩ := strs_at hys hP
        have hzok := hok z (List.mem_of_getElem? hz)
        have hz2 : z.length ≤ 100 := by
          rcases hzok with h | h
          · rw [h]; decide
          · exact h.2
        have hstep : (((partsOf q).take (i + 1)).filter nonEmpty).map unquoteS = (((partsOf q).take i).filter nonEmpty).map unquoteS ++ (if nonEmpty z = true then [unquoteS z] else []) := by
          rw [List.take_add_one, hz, List.filter_append, List.map_append]
          congr 1
          by_cases e : nonEmpty z = true
          · rw [if_pos e]; simp [e]
          · rw [if_neg e]; simp [e]
        refine wpAny_tests_one ?_
        repeat ((fail_if_success (first | (with_reducible show wpAny _ _ (call (Value.ref _) _) _ _ _) | (with_reducible show CEnd _ _ _ _ _ _ _))); walk1)
        · rename ((z.length : Nat) : Int) ≠ 0 => hne
          have hnz : nonEmpty z = true := decide_eq_true (by omega)
          rw [if_pos hnz] at hstep
          repeat ((fail_if_success (with_reducible show wpAny _ _ (call (Value.ref _) _) _ _ _)); walk1)
          refine Ct.use (unquote_any_ct hps' hzok) (by assumption) (by assumption) (by assumption) (by assumption) nd2 (by ((try simp only [hsLed, List.cons_append, List.nil_append]); repeat' (first | exact Picks.done | exact pick_head | refine' pick_tail ?_ | refine' Picks.one ?_ ?_))) (by assumption) rfl rfl rfl ?_
          rintro v fp' h' tk' F' N' nd' ⟨tp, ps2, rfl, hps2, rfl⟩
          simp only [List.cons_append, List.nil_append, List.map_cons, List.map_nil] at N' nd'
          k_steps
          refine CEnd.intro [(D, listOf ys.toArray ys.length), (51, tabObj ps2)] (by assumption) N' (Picks.sub (by ((try simp only [hsLed, List.cons_append, List.nil_append]); repeat' (first | exact Picks.done | exact pick_head | refine' pick_tail ?_ | refine' Picks.one ?_ ?_)))) ?_ ?_
          · have nn3 := neAll_of nd'
            simp only [NeAll, NeOne, and_true] at nn3
            (first | assumption | (refine nodup_of_ne ?_; (simp only [hsLed, List.cons_append, List.nil_append, List.map_cons, List.map_nil, NeAll, NeOne, and_true]); omega))
          · exact ⟨trivial, ps2, hps2, rfl, by rw [hstep]; exact hys2.append' (.cons _ _ .nil)⟩
        · rename ((z.length : Nat) : Int) = 0 => hze
          have hnz : ¬ nonEmpty z = true := by unfold nonEmpty; simp; omega
          rw [if_neg hnz, List.append_nil] at hstep
          refine CEnd.intro [(D, listOf ys.toArray ys.length), (51, tabObj ps')] F N (fun _ hp => hp) nd2 ?_
          exact ⟨ps', hps', rfl, by rw [hstep]; exact hys2⟩
      · rintro ys2 nw ⟨ps', hps', rfl, hys2⟩ nd2 D2 oD2 h tk rfl F N nd3
        rw [List.take_of_length_le (by omega)] at hys2
        clear hit2
        k_steps
        (try dsimp only)
        refine Back.intro [(D2, listOf ys2.toArray ys2.length), (51, tabObj ps')] (by assumption) (by assumption) (fun p hp => ?_) ?_ ?_
        · rcases List.mem_cons.mp hp with rfl | hp
          · exact List.mem_cons_self ..
          · rw [List.mem_singleton.mp hp]; exact List.mem_cons_of_mem _ (List.mem_cons_of_mem _ (List.mem_cons_self ..))
        · have nn3 := neAll_of nd3
          simp only [List.map_cons, List.map_nil, NeAll, NeOne, and_true] at nn3
          (first | assumption | (refine nodup_of_ne ?_; (simp only [hsLed, List.cons_append, List.nil_append, List.map_cons, List.map_nil, NeAll, NeOne, and_true]); omega))
        · exact ⟨_, _, _, _, rfl, rfl, hps', hys2⟩

theorem tone65 : True := by
  w_top off
  trivial
/-! The plain law of the header text: parsed again, it gives the row. (The menu's names only.) -/
def plainCh (c : Nat) : Bool := !((⟨#[c]⟩ : Str) == Str.ofString "\\") && !((⟨#[c]⟩ : Str) == Str.ofString "\"") && !((⟨#[c]⟩ : Str) == Str.ofString ",")
theorem str_app (a b : Str) : a ++ b = ⟨a.cps ++ b.cps⟩ := rfl
theorem run_plain : ∀ (l : List Nat) (items : List Str) (item : Str) (quo : Bool), (∀ c ∈ l, plainCh c = true) → l.foldl mstep ⟨items, item, false, quo⟩ = ⟨items, ⟨item.cps ++ l.toArray⟩, false, quo⟩
  | [], items, item, quo, _ => by simp
  | c :: r, items, item, quo, h => by
    have hc := h c (List.mem_cons_self ..)
    unfold plainCh at hc
    simp only [Bool.and_eq_true, Bool.not_eq_true'] at hc
    have e : mstep ⟨items, item, false, quo⟩ c = ⟨items, item ++ (⟨#[c]⟩ : Str), false, quo⟩ := by
      cases quo <;> simp [mstep, hc.1.1, hc.1.2, hc.2]
    rw [List.foldl_cons, e, run_plain r items _ quo fun x hx => h x (List.mem_cons_of_mem _ hx)]
    rw [str_app]
    simp
def okQ (z : Str) : Prop := (∀ c ∈ z.cps.toList, plainCh c = true) ∨ z = strQXY
theorem run_q {z : Str} (h : okQ z) (items : List Str) (item : Str) : z.cps.toList.foldl mstep ⟨items, item, false, false⟩ = ⟨items, ⟨item.cps ++ z.cps⟩, false, false⟩ := by
  rcases h with h | rfl
  · rw [run_plain _ _ _ _ h]
  · have e : strQXY.cps.toList = [34, 120, 32, 121, 34] := by decide +kernel
    have e2 : strQXY.cps = #[34, 120, 32, 121, 34] := by decide +kernel
    rw [e, e2]
    have h1 : mstep ⟨items, item, false, false⟩ 34 = ⟨items, item ++ (⟨#[34]⟩ : Str), false, true⟩ := by
      simp [mstep, show ((⟨#[34]⟩ : Str) == Str.ofString ",") = false by decide +kernel, show ((⟨#[34]⟩ : Str) == Str.ofString "\"") = true by decide +kernel]
    have h2 : ∀ it : Str, mstep ⟨items, it, false, true⟩ 34 = ⟨items, it ++ (⟨#[34]⟩ : Str), false, false⟩ := fun it => by
      simp [mstep, show ((⟨#[34]⟩ : Str) == Str.ofString "\\") = false by decide +kernel, show ((⟨#[34]⟩ : Str) == Str.ofString "\"") = true by decide +kernel]
    rw [show [34, 120, 32, 121, 34] = 34 :: ([120, 32, 121] ++ [34]) from rfl, List.foldl_cons, h1, List.foldl_append, run_plain [120, 32, 121] items _ true (by decide +kernel), List.foldl_cons, List.foldl_nil, h2]
    simp only [str_app]
    simp
abbrev spQ (z : Str) : Str := ⟨#[32] ++ z.cps⟩
theorem run_sep (items : List Str) (item : Str) : [44, 32].foldl mstep ⟨items, item, false, false⟩ = ⟨items ++ [item], ⟨#[32]⟩, false, false⟩ := by
  have h1 : mstep ⟨items, item, false, false⟩ 44 = ⟨items ++ [item], Str.empty, false, false⟩ := by
    simp [mstep, show ((⟨#[44]⟩ : Str) == Str.ofString ",") = true by decide +kernel]
  have h2 : mstep ⟨items ++ [item], Str.empty, false, false⟩ 32 = ⟨items ++ [item], Str.empty ++ (⟨#[32]⟩ : Str), false, false⟩ := by
    simp [mstep, show ((⟨#[32]⟩ : Str) == Str.ofString ",") = false by decide +kernel, show ((⟨#[32]⟩ : Str) == Str.ofString "\"") = false by decide +kernel]
  rw [List.foldl_cons, h1, List.foldl_cons, h2, List.foldl_nil]
  rfl
theorem run_rest : ∀ (r : List Str) (items : List Str) (item : Str), (∀ z ∈ r, okQ z) → ∃ it' last, (r.flatMap fun z => [44, 32] ++ z.cps.toList).foldl mstep ⟨items, item, false, false⟩ = ⟨it', last, false, false⟩ ∧ it' ++ [last] = items ++ item :: r.map spQ
  | [], items, item, _ => ⟨items, item, rfl, rfl⟩
  | z :: r, items, item, h => by
    obtain ⟨it', last, e1, e2⟩ := run_rest r (items ++ [item]) (spQ z) fun y hy => h y (List.mem_cons_of_mem _ hy)
    refine ⟨it', last, ?_, by rw [e2]; simp⟩
    rw [List.flatMap_cons, List.foldl_append, List.foldl_append, run_sep, run_q (h z (List.mem_cons_self ..))]
    exact e1

theorem tone66 : True := by
  w_top off
  trivial
def stateNums (ns : List Int) : List Int := (ns.take 24).map (fun k' => (if k' < 0 then -k' else k').fmod 1000003) ++ [5, 0, 11]
theorem state_ok (ns : List Int) : (3 ≤ (stateNums ns).length ∧ (stateNums ns).length ≤ 27) ∧ ∀ x ∈ stateNums ns, 0 ≤ x ∧ x < 1000003 := by
  unfold stateNums
  refine ⟨?_, fun x hx => ?_⟩
  · simp only [List.length_append, List.length_map, List.length_take, List.length_cons, List.length_nil]; omega
  · rcases List.mem_append.mp hx with hx | hx
    · obtain ⟨k, _, rfl⟩ := List.mem_map.mp hx
      exact ⟨Int.fmod_nonneg_of_pos _ (by decide), Int.fmod_lt_of_pos _ (by decide)⟩
    · simp only [List.mem_cons, List.not_mem_nil, or_false] at hx
      rcases hx with rfl | rfl | rfl <;> decide

theorem tone67 : True := by
  w_top off
  trivial
def menu : List Str := [Str.ofString "Accept", Str.ofString "x y", Str.ofString "b", Str.ofString "a", Str.ofString "A", Str.ofString "accept", Str.ofString "ACCEPT", Str.ofString "c-d", Str.ofString "C-d"]
def menuLow : List Str := [Str.ofString "accept", Str.ofString "x y", Str.ofString "b", Str.ofString "a", Str.ofString "c-d"]
def RowOk (row : List Str) : Prop := (∀ z ∈ row, z ∈ menu) ∧ (row.map Txt.lower).Nodup
theorem menu_low : ∀ z ∈ menu, Txt.lower z ∈ menuLow := by decide +kernel
theorem menu_len : ∀ z ∈ menu, z.length ≤ 6 ∧ z.length ≠ 0 := by decide +kernel
theorem menuLow_fix : ∀ z ∈ menuLow, Txt.lower z = z ∧ z.length ≤ 6 := by decide +kernel
theorem menu_tok : ∀ z ∈ menu, z = strXY ∨ isTok z = true := by decide +kernel
theorem nodup_sub_len : ∀ {l m : List Str}, l.Nodup → (∀ z ∈ l, z ∈ m) → l.length ≤ m.length
  | [], m, _, _ => Nat.zero_le _
  | a :: r, m, h, hs => by
    have h1 := List.nodup_cons.mp h
    have ha := hs a (List.mem_cons_self ..)
    have := nodup_sub_len (l := r) (m := m.erase a) h1.2 fun z hz => by
      have hne : z ≠ a := fun e => by subst e; exact h1.1 hz
      exact (List.mem_erase_of_ne hne).mpr (hs z (List.mem_cons_of_mem _ hz))
    rw [List.length_erase_of_mem ha] at this
    have hp : 0 < m.length := List.length_pos_of_mem ha
    simp only [List.length_cons]; omega
theorem RowOk.len {row : List Str} (h : RowOk row) : row.length ≤ 5 := by
  have := nodup_sub_len (l := row.map Txt.lower) (m := menuLow) h.2 fun z hz => by
    obtain ⟨q, hq, rfl⟩ := List.mem_map.mp hz
    exact menu_low q (h.1 q hq)
  rw [List.length_map] at this
  exact this
theorem RowOk.sz {row : List Str} (h : RowOk row) : ∀ z ∈ row, z.length ≤ 100 := fun z hz => Nat.le_trans (menu_len z (h.1 z hz)).1 (by decide)
theorem RowOk.ok {row : List Str} (h : RowOk row) : ∀ z ∈ row, okName z := fun z hz => by
  rcases menu_tok z (h.1 z hz) with e | e
  · exact .inl e
  · exact .inr ⟨e, (menu_len z (h.1 z hz)).2, h.sz z hz⟩
theorem RowOk.add {row : List Str} {q : Str} (h : RowOk row) (hq : q ∈ menu) : RowOk (addName row q) := by
  unfold addName
  by_cases hc : (row.map Txt.lower).contains (Txt.lower q) = true
  · rw [if_pos hc]; exact h
  · rw [if_neg hc]
    refine ⟨fun z hz => ?_, ?_⟩
    · rcases List.mem_append.mp hz with hz | hz
      · exact h.1 z hz
      · rw [List.mem_singleton.mp hz]; exact hq
    · rw [List.map_append]
      refine List.nodup_append.mpr ⟨h.2, List.nodup_cons.mpr ⟨List.not_mem_nil, List.nodup_nil⟩, fun a ha b hb e => ?_⟩
      rw [List.map_cons, List.map_nil] at hb
      rw [List.mem_singleton.mp hb] at e
      exact hc (by rw [List.contains_iff_mem]; exact e ▸ ha)
theorem RowOk.adds {names : List Str} (hn : ∀ z ∈ names, z ∈ menu) : ∀ {row : List Str}, RowOk row → RowOk (names.foldl addName row) := by
  induction names with
  | nil => intro row h; exact h
  | cons a r ih =>
    intro row h
    exact ih (fun z hz => hn z (List.mem_cons_of_mem _ hz)) (h.add (hn a (List.mem_cons_self ..)))
theorem rmFirst_sub (q : Str) : ∀ (row : List Str), (rmFirst q row).Sublist row
  | [] => .slnil
  | z :: r => by
    unfold rmFirst
    split
    · exact .cons _ (List.Sublist.refl _)
    · exact .cons₂ _ (rmFirst_sub q r)
theorem RowOk.rm {row : List Str} (h : RowOk row) (q : Str) : RowOk (rmFirst q row) :=
  ⟨fun z hz => h.1 z ((rmFirst_sub q row).mem hz), ((rmFirst_sub q row).map Txt.lower).nodup h.2⟩
theorem start_row {t1 t2 t3 : Tok} {r0 : Int} (h0 : 0 ≤ r0) (h1 : r0 < 4) : ∃ rv row, slicePick #[.str (Str.ofString "Accept") t1, .str (Str.ofString "x y") t2, .str (Str.ofString "b") t3] none (some r0) none = rv.toArray ∧ StrsAre rv row ∧ RowOk row ∧ row.length ≤ 3 := by
  have hc : r0 = 0 ∨ r0 = 1 ∨ r0 = 2 ∨ r0 = 3 := by omega
  rcases hc with rfl | rfl | rfl | rfl
  · exact ⟨[], [], rfl, .nil, ⟨by simp, by simp⟩, by decide⟩
  · exact ⟨[_], [Str.ofString "Accept"], rfl, .cons _ _ .nil, ⟨by decide +kernel, by decide +kernel⟩, by decide⟩
  · exact ⟨[_, _], [Str.ofString "Accept", Str.ofString "x y"], rfl, .cons _ _ (.cons _ _ .nil), ⟨by decide +kernel, by decide +kernel⟩, by decide⟩
  · exact ⟨[_, _, _], [Str.ofString "Accept", Str.ofString "x y", Str.ofString "b"], rfl, .cons _ _ (.cons _ _ (.cons _ _ .nil)), ⟨by decide +kernel, by decide +kernel⟩, by decide⟩
theorem menu_okQ : ∀ z ∈ menu, (∀ c ∈ (quoteS z).cps.toList, plainCh c = true) ∨ quoteS z = strQXY := by decide +kernel
theorem menu_strip : ∀ z ∈ menu, stripF (quoteS z) = quoteS z ∧ stripF (spQ (quoteS z)) = quoteS z ∧ nonEmpty (quoteS z) = true ∧ unquoteS (quoteS z) = z := by decide +kernel
theorem menu_part : ∀ z ∈ menu, (quoteS z = strQXY ∨ Txt.startswith (quoteS z) (Str.ofString "\"") = false) ∧ (quoteS z).length ≤ 90 ∧ (spQ (quoteS z)).length ≤ 90 := by decide +kernel
theorem empty_strip : stripF Str.empty = Str.empty ∧ nonEmpty Str.empty = false ∧ Txt.startswith Str.empty (Str.ofString "\"") = false := by decide +kernel
theorem sep_list : (Str.ofString ", ").cps.toList = [44, 32] := by decide +kernel
theorem glued_list (sep : Array Nat) : ∀ (r : List Str) (acc : Array Nat), (r.foldl (fun acc p => acc ++ sep ++ p.cps) acc).toList = acc.toList ++ r.flatMap fun p => sep.toList ++ p.cps.toList
  | [], acc => by simp
  | a :: r, acc => by rw [List.foldl_cons, glued_list sep r, List.flatMap_cons]; simp
theorem mrun_full (h : Str) : mrun h h.cps.size = h.cps.toList.foldl mstep ⟨[], Str.empty, false, false⟩ := by
  unfold mrun
  rw [List.take_of_length_le (by simp)]
theorem header_run {z : Str} {r : List Str} (h : ∀ y ∈ z :: r, y ∈ menu) : ∃ it' last, mrun (headerS (z :: r)) (headerS (z :: r)).cps.size = ⟨it', last, false, false⟩ ∧ it' ++ [last] = quoteS z :: (r.map quoteS).map spQ := by
  have e : (headerS (z :: r)).cps.toList = (quoteS z).cps.toList ++ (r.map quoteS).flatMap fun p => [44, 32] ++ p.cps.toList := by
    show ((((z :: r).map quoteS).drop 1).foldl (fun acc p => acc ++ (Str.ofString ", ").cps ++ p.cps) (((z :: r).map quoteS).headD Str.empty).cps).toList = _
    rw [glued_list, sep_list]
    rfl
  obtain ⟨it', last, e1, e2⟩ := run_rest (r.map quoteS) [] (quoteS z) fun y hy => by
    obtain ⟨x, hx, rfl⟩ := List.mem_map.mp hy
    exact menu_okQ x (h x (List.mem_cons_of_mem _ hx))
  refine ⟨it', last, ?_, by rw [e2]; rfl⟩
  rw [mrun_full, e, List.foldl_append, run_q (menu_okQ z (h z (List.mem_cons_self ..)))]
  rw [show (⟨(Str.empty).cps ++ (quoteS z).cps⟩ : Str) = quoteS z by show (⟨#[] ++ (quoteS z).cps⟩ : Str) = _; rw [Array.empty_append]]
  exact e1
theorem parts_fold : ∀ {r : List Str}, (∀ y ∈ r, y ∈ menu) → ((((r.map quoteS).map spQ).map stripF).filter nonEmpty).map unquoteS = r
  | [], _ => rfl
  | a :: r, h => by
    have ha := menu_strip a (h a (List.mem_cons_self ..))
    simp only [List.map_cons, ha.2.1]
    rw [List.filter_cons_of_pos ha.2.2.1, List.map_cons, ha.2.2.2, parts_fold fun y hy => h y (List.mem_cons_of_mem _ hy)]
theorem parse_header {row : List Str} (h : ∀ y ∈ row, y ∈ menu) :
    parseS (headerS row) = row ∧ (mrun (headerS row) (headerS row).cps.size).quote = false ∧ (∀ z ∈ (mrun (headerS row) (headerS row).cps.size).items ++ [(mrun (headerS row) (headerS row).cps.size).item], z.length ≤ 100) ∧ ∀ z ∈ partsOf (headerS row), okPart z := by
  cases row with
  | nil =>
    have e : mrun (headerS []) (headerS []).cps.size = ⟨[], Str.empty, false, false⟩ := by rw [mrun_full]; rfl
    refine ⟨?_, by rw [e], by rw [e]; intro z hz; simp only [List.nil_append, List.mem_singleton] at hz; rw [hz]; decide, ?_⟩
    · unfold parseS partsOf
      rw [e]
      simp only [List.nil_append, List.map_cons, List.map_nil, empty_strip.1]
      rw [List.filter_cons_of_neg (by rw [empty_strip.2.1]; exact Bool.false_ne_true)]
      rfl
    · unfold partsOf
      rw [e]
      intro z hz
      simp only [List.nil_append, List.map_cons, List.map_nil, empty_strip.1, List.mem_singleton] at hz
      rw [hz]
      exact .inr ⟨empty_strip.2.2, by decide⟩
  | cons z r =>
    obtain ⟨it', last, e, e2⟩ := header_run h
    have hz := menu_strip z (h z (List.mem_cons_self ..))
    have hr : ∀ y ∈ r, y ∈ menu := fun y hy => h y (List.mem_cons_of_mem _ hy)
    have hall : ∀ y ∈ quoteS z :: (r.map quoteS).map spQ, ∃ x ∈ menu, y = quoteS x ∨ y = spQ (quoteS x) := fun y hy => by
      rcases List.mem_cons.mp hy with rfl | hy
      · exact ⟨z, h z (List.mem_cons_self ..), .inl rfl⟩
      · obtain ⟨y1, hy1, rfl⟩ := List.mem_map.mp hy
        obtain ⟨x, hx, rfl⟩ := List.mem_map.mp hy1
        exact ⟨x, hr x hx, .inr rfl⟩
    refine ⟨?_, by rw [e], ?_, ?_⟩
    · unfold parseS partsOf
      rw [e]
      dsimp only
      rw [e2, List.map_cons, hz.1, List.filter_cons_of_pos hz.2.2.1, List.map_cons, hz.2.2.2, parts_fold hr]
    · rw [e]
      dsimp only
      rw [e2]
      intro y hy
      obtain ⟨x, hx, e3 | e3⟩ := hall y hy
      · rw [e3]; have := (menu_part x hx).2.1; omega
      · rw [e3]; have := (menu_part x hx).2.2; omega
    · unfold partsOf
      rw [e]
      dsimp only
      rw [e2]
      intro y hy
      obtain ⟨y1, hy1, rfl⟩ := List.mem_map.mp hy
      obtain ⟨x, hx, e3 | e3⟩ := hall y1 hy1
      · rw [e3, (menu_strip x hx).1]
        rcases (menu_part x hx).1 with q | q
        · exact .inl q
        · exact .inr ⟨q, by have := (menu_part x hx).2.1; omega⟩
      · rw [e3, (menu_strip x hx).2.1]
        rcases (menu_part x hx).1 with q | q
        · exact .inl q
        · exact .inr ⟨q, by have := (menu_part x hx).2.1; omega⟩

theorem tone68 : True := by
  w_top off
  trivial
/-! Contracts at the level of codes (for a class's making, that calls __init__ from within). -/
def CtCode (prog : Program) (w : World) (D U : Nat) (f : Value) (args : List Value) (fp : List (Addr × Obj)) (R : Value → List (Addr × Obj) → Prop) : Prop :=
  ∀ (A' : Around) (cn : Str) (cs : Scope) (L a : Addr) (ccd : Value) (cl : List (Str × Addr)) (outer : List Env) (A₀ : Around) (base h₀ : Heap) (m mg mb : Str → Option Value) (rest : List (Addr × Obj)) (p : Program) (loose : List Str) (mean : ExcName → Option Value) (s : Shared) (RR : Result → Shared → Prop),
    A'.handled = none → A'.depth ≤ D → A'.frames = some (envX cn cs L a ccd cl :: outer) → A'.units ≤ U →
    Below A₀ base outer h₀ → Fr h₀ L s.heap m → (hd.heap_39 w.params).In h₀ → News h₀ L s.heap (fp ++ rest) → ((fp ++ rest).map (·.1)).Nodup → Top p loose mean mg mb h₀ → cs.kind = .function →
    (∀ v fp' h' tk', Fr h₀ L h' m → News h₀ L h' (fp' ++ rest) → ((fp' ++ rest).map (·.1)).Nodup → R v fp' → RR (.ok (.ret v)) { s with heap := h', toks := tk' }) →
    codeAny (model prog w) A' (.call f ⟨args, []⟩) RR s
theorem code_lower {M : Model} {D U : Nat} {cn : Str} {cs : Scope} {L a : Addr} {ccd : Value} {cl : List (Str × Addr)} {outer : List Env} {A' : Around} {c : Code} {RR : Result → Shared → Prop} {s : Shared}
    (h : codeAny M (ktrTop D U A'.guards cn cs L a ccd cl outer) c RR s) (hh : A'.handled = none) (hd' : A'.depth ≤ D) (hfr : A'.frames = some (envX cn cs L a ccd cl :: outer)) (hu : A'.units ≤ U) : codeAny M A' c RR s :=
  fun Γ p hc hB => h Γ p hc ⟨hB.1.trans hh, Nat.le_trans hB.2.1 hd', fun l hl => hB.2.2.1 l (hfr.trans hl), hB.2.2.2.1, Nat.le_trans hB.2.2.2.2 hu⟩
theorem CtCode.of {prog : Program} {w : World} {D U : Nat} {name qual : Str} {params : Arguments} {body : List Stmt} {scope : Scope} {dV kV doc pm cdv ct oc : Value} {an od : Option Addr} {osl : Array (Option Value)} {f : Addr} {args : List Value} {fp : List (Addr × Obj)} {R : Value → List (Addr × Obj) → Prop}
    {binds : List (Str × Value)}
    (ho : (hd.heap_39 w.params).lookup f = some ⟨oc, od, .func (fnOf name qual params body scope dV kV doc pm an cdv ct), osl⟩) (hcd : codeIn (hd.heap_39 w.params) cdv qual = true) (hroom : D < recursionLimit)
    (hbind : ∀ s : Shared, (hd.heap_39 w.params).In s.heap → BindsTo s (fnOf name qual params body scope dV kV doc pm an cdv ct) ⟨args, []⟩ binds) (hloc : ∀ y ∈ binds, scope.names.lookup y.1 = some .local)
    (h : ∀ (gd : Option (List Code)) (cn : Str) (cs : Scope) (L a : Addr) (ccd : Value) (cl : List (Str × Addr)) (outer : List Env) (base : Heap) (mg mb : Str → Option Value) (p : Program) (loose : List Str) (mean : ExcName → Option Value) (s : Shared) g L' h₁,
      (fp.map (·.1)).Nodup → Fr g L' h₁ (fun y => binds.reverse.lookup y) → News g L' h₁ fp → Below (ktrTop D U gd cn cs L a ccd cl outer) base (envX cn cs L a ccd cl :: outer) g → (hd.heap_39 w.params).In g → Top p loose mean mg mb g →
      wpAny (model prog w) ((ktrTop D U gd cn cs L a ccd cl outer).deeper (envOf qual scope L' f cdv)) (execs body (envOf qual scope L' f cdv))
        (fun fl s' => Back g (fun v fp' _ _ => R v fp') s (match fl with | .ret v => v | _ => .none) s')
        (fun _ _ => False)
        { s with heap := h₁, toks := s.toks + binds.length })
    (hcell : ∀ x ∈ scope.names, x.2 ≠ .cell := by decide) (hco : scope.isCoroutine = false := by rfl) (hgen : scope.isGenerator = false := by rfl) (hk : scope.kind = .function := by rfl) : CtCode prog w D U (.ref f) args fp R :=
  fun A' cn cs L a ccd cl outer _ base _ _ mg mb _ p loose mean s _ hh hd' hfr hu B F X N nd T hks ret =>
    code_lower (code_fp (args := ⟨args, []⟩) (A := ktrTop D U A'.guards cn cs L a ccd cl outer) B F X N nd T rfl rfl hks ho hcd hroom (hbind s (X.keeps F.keep)) hloc (fun v fp' _ _ => R v fp') (fun v fp' h' tk' F' N' D' r => ret v fp' h' tk' F' N' D' r)
      (fun g L' h₁ F' N' B' X' T' _ => wpAny_mono (h A'.guards cn cs L a ccd cl outer base mg mb p loose mean s g L' h₁ (by rw [List.map_append] at nd; exact (List.nodup_append.mp nd).1) F' N' B' X' T') (fun _ _ x => x) (fun _ _ x => x.elim)) hcell hco hgen hk) hh hd' hfr hu
theorem init_code {prog : Program} {w : World} {x dx rl : Addr} {vs : List Value} {row : List Str} {n : Nat} (hi : StrsAre vs row) (hl : row.length ≤ 3) (hsz : ∀ q ∈ row, q.length ≤ 100) (hno : (row.map Txt.lower).Nodup) :
    CtCode prog w 850 8500 (.ref 74) [.ref x, .ref rl] [(x, instObj 202 dx), (dx, dictOf [] 0), (rl, listOf vs.toArray n)]
      (fun v fp' => ∃ hl hs hh1 hh2 th1 th2 nd0 nl so, fp' = hsLed x dx hl hs hh1 hh2 th1 th2 nd0 vs nl so ++ [(rl, listOf vs.toArray n)] ∧ v = .none ∧ StrSet w so (row.map Txt.lower)) := by
  refine CtCode.of (binds := [(Str.ofString "self", .ref x), (Str.ofString "headers", .ref rl)]) (by k_is) (by k_is) (by k_room) (fun s X => by first | exact BindsTo.of_eq rfl | exact binds_K X rfl (by k_is) rfl rfl rfl) (locs rfl) ?_
  intro gd cn cs L a ccd cl outer base mg mb p loose mean s g L' h' nd F' N' B' X' T'
  (try dsimp only); k_fold
  have nn := neAll_of nd
  simp only [hsLed, List.cons_append, List.nil_append, List.map_cons, List.map_nil, NeAll, NeOne, and_true] at nn
  have hvl := hi.length
  cases hb : vs.isEmpty
  · k_steps
    refine SetComp_G (F₀ := by assumption) rfl (by decide) rfl (by decide) rfl ?_
    repeat ((fail_if_success (with_reducible show wpAny _ _ (pyIter _) _ _ _)); walk1)
    refine it_list rfl (by assumption) (by k_mem) ?_
    intro o ho hit
    refine CompAt.mk (fun i ys nw => nw = _ ∧ StrsAre ys ((row.take i).map Txt.lower)) hit (by omega) ?_ (by assumption) (by assumption) ?_ ⟨rfl, .nil⟩ ?_ ?_
    · rintro i ys nw ⟨rfl, _⟩ p hp
      rw [List.mem_singleton.mp hp]; k_mem
    · (first | assumption | (refine nodup_of_ne ?_; (simp only [hsLed, List.cons_append, List.nil_append, List.map_cons, List.map_nil, NeAll, NeOne, and_true]); omega))
    · rintro i v ys I oI C oC D oD m₂ nw h tk E' hin hP ⟨rfl, hys⟩ hAcc hyl hoC hmx F N nd2
      obtain ⟨q, t, hq', rfl⟩ := strs_at hi hP
      have hq2 := hsz q (List.mem_of_getElem? hq')
      have hstep : (row.take (i + 1)).map Txt.lower = (row.take i).map Txt.lower ++ [Txt.lower q] := by rw [List.take_add_one, hq']; simp
      k_steps
      exact CEnd.intro _ F N (fun _ hp => hp) nd2 ⟨⟨by omega, _, _, rfl⟩, rfl, by rw [hstep]; exact hys.append' (.cons _ _ .nil)⟩
    · rintro ys nw ⟨rfl, hys⟩ nd2 D oD h tk ⟨ss, hss, hS⟩ F N nd3
      have hrow : row.take vs.length = row := List.take_of_length_le (by omega)
      rw [hrow] at hys
      have hss' := strs_same hys hss
      subst hss'
      rw [addLow_nodup _ [] hno] at hS
      clear hit
      have nn3 := neAll_of nd3
      simp only [hsLed, List.cons_append, List.nil_append, List.map_cons, List.map_nil, NeAll, NeOne, and_true] at nn3
      k_steps
      refine Back.intro (hsLed x dx _ _ _ _ _ _ _ vs _ _ ++ [(rl, listOf vs.toArray n)]) (by assumption) (by assumption) (Picks.sub (by ((try simp only [hsLed, List.cons_append, List.nil_append]); repeat' (first | exact Picks.done | exact pick_head | refine' pick_tail ?_ | refine' Picks.one ?_ ?_)))) ?_ ⟨_, _, _, _, _, _, _, _, _, rfl, rfl, hS⟩
      (first | assumption | (refine nodup_of_ne ?_; (simp only [hsLed, List.cons_append, List.nil_append, List.map_cons, List.map_nil, NeAll, NeOne, and_true]); omega))
  · have hv0 : vs = [] := by simpa using hb
    subst hv0
    have hr0 : row = [] := by simpa using hvl.symm
    subst hr0
    k_steps
    refine SetComp_G (F₀ := by assumption) rfl (by decide) rfl (by decide) rfl ?_
    repeat ((fail_if_success (with_reducible show wpAny _ _ (pyIter _) _ _ _)); walk1)
    refine it_list (vs := []) rfl (by assumption) (by k_mem) ?_
    intro o ho hit
    refine CompAt.mk (fun i ys nw => nw = _ ∧ ys = []) hit (by decide) ?_ (by assumption) (by assumption) ?_ ⟨rfl, rfl⟩ ?_ ?_
    · rintro i ys nw ⟨rfl, _⟩ p hp
      rw [List.mem_singleton.mp hp]; k_mem
    · (first | assumption | (refine nodup_of_ne ?_; (simp only [hsLed, List.cons_append, List.nil_append, List.map_cons, List.map_nil, NeAll, NeOne, and_true]); omega))
    · rintro i v ys I oI C oC D oD m₂ nw h tk E' hin
      exact absurd hin (Nat.not_lt_zero _)
    · rintro ys nw ⟨rfl, rfl⟩ nd2 D oD h tk ⟨ss, hss, hS⟩ F N nd3
      have hss' := strs_same .nil hss
      subst hss'
      clear hit
      have nn3 := neAll_of nd3
      simp only [hsLed, List.cons_append, List.nil_append, List.map_cons, List.map_nil, NeAll, NeOne, and_true] at nn3
      k_steps
      refine Back.intro (hsLed x dx _ _ _ _ _ _ _ [] _ _ ++ [(rl, listOf [].toArray n)]) (by assumption) (by assumption) (Picks.sub (by ((try simp only [hsLed, List.cons_append, List.nil_append]); repeat' (first | exact Picks.done | exact pick_head | refine' pick_tail ?_ | refine' Picks.one ?_ ?_)))) ?_ ⟨_, _, _, _, _, _, _, _, _, rfl, rfl, hS⟩
      (first | assumption | (refine nodup_of_ne ?_; (simp only [hsLed, List.cons_append, List.nil_append, List.map_cons, List.map_nil, NeAll, NeOne, and_true]); omega))

theorem make_ct {prog : Program} {w : World} {rl : Addr} {vs : List Value} {row : List Str} {n : Nat} (hi : StrsAre vs row) (hl : row.length ≤ 3) (hsz : ∀ q ∈ row, q.length ≤ 100) (hno : (row.map Txt.lower).Nodup) :
    Ct prog w 830 8300 (.ref 202) [.ref rl] [(rl, listOf vs.toArray n)]
      (fun v fp' => ∃ x dx hl hs hh1 hh2 th1 th2 nd0 nl so, v = .ref x ∧ fp' = hsLed x dx hl hs hh1 hh2 th1 th2 nd0 vs nl so ++ [(rl, listOf vs.toArray n)] ∧ StrSet w so (row.map Txt.lower)) := by
  intro gd cn cs L a ccd cl outer A₀ base h₀ m mg mb rest p loose mean s Q E B F X N nd T hks ret
  refine call_cls F X N (by k_is) (by k_is) (by k_is) ?_
  intro x dx h' F' N' l1 l2
  have nd' : (([(x, instObj 202 dx), (dx, dictOf [] 0), (rl, listOf vs.toArray n)] ++ rest).map (·.1)).Nodup := by
    refine List.nodup_cons.mpr ⟨fun hm => ?_, List.nodup_cons.mpr ⟨fun hm => ?_, nd⟩⟩
    · rcases List.mem_cons.mp hm with e | hm
      · have e' : x = dx := e
        exact absurd l2 (by rw [e']; exact Nat.lt_irrefl _)
      · obtain ⟨p, hp, e⟩ := List.mem_map.mp hm
        have e' : p.1 = x := e
        have := l1 p hp
        rw [e'] at this
        exact absurd (Nat.lt_trans this l2) (Nat.lt_irrefl _)
    · obtain ⟨p, hp, e⟩ := List.mem_map.mp hm
      have e' : p.1 = dx := e
      exact absurd (l1 p hp) (by rw [e']; exact Nat.lt_irrefl _)
  refine init_code (prog := prog) hi hl hsz hno _ cn cs L a ccd cl outer A₀ base h₀ m mg mb rest p loose mean { s with heap := h' } _ rfl ?_ rfl ?_ B F' X (fun p hp => N' p hp) nd' T hks ?_
  · exact Nat.le_of_ble_eq_true rfl
  · exact Nat.le_of_ble_eq_true rfl
  · rintro v fp' h2 tk2 F2 N2 nd2 ⟨hl', hs, hh1, hh2, th1, th2, nd0, nl, so, rfl, rfl, hS⟩
    exact ⟨rfl, ret _ _ _ _ F2 N2 nd2 ⟨x, dx, hl', hs, hh1, hh2, th1, th2, nd0, nl, so, rfl, rfl, hS⟩⟩

theorem tone69 : True := by
  w_top off
  trivial
/-! Disequalities of ONE address with the others (omega splits on every ≠ it sees: never lay all pairs of a long ledger in the context). -/
def NePre (b : Nat) : List Addr → Prop
  | [] => True
  | a :: r => @Ne Nat a b ∧ NePre b r
theorem nePre_of {b : Addr} : ∀ {pre post : List Addr}, (pre ++ b :: post).Nodup → NePre b pre ∧ NeOne b post
  | [], post, h => ⟨trivial, neOne_of (List.nodup_cons.mp h).1⟩
  | a :: r, post, h => by
    have h1 := List.nodup_cons.mp h
    have h2 := nePre_of (pre := r) (post := post) h1.2
    exact ⟨⟨fun e => h1.1 (by rw [show a = b from e]; exact List.mem_append_right _ (List.mem_cons_self ..)), h2.1⟩, h2.2⟩

theorem tone72 : True := by
  w_top off
  trivial
/-! Plain facts of the law's turn. -/
theorem place_lowS (row : List Str) (q : Str) : lowS row (Txt.lower q) = decide (0 ≤ place row q) := by
  unfold lowS place
  rcases place_in (row := row) (q := q) 0 with ⟨h1, h2⟩ | ⟨h1, h2⟩
  · rw [h1, h2]; rfl
  · rw [h2]; exact (decide_eq_true (by simpa using h1)).symm
theorem slice_rm {row : List Str} {q : Str} (h : 0 ≤ place row q) : row.take (place row q).toNat ++ row.drop ((place row q).toNat + 1) = rmFirst q row := by
  have hc : (row.map Txt.lower).contains (Txt.lower q) = true := by
    have := place_lowS row q
    rw [decide_eq_true h] at this
    exact this
  obtain ⟨j, h1, h2, _⟩ := rmFirst_place q row 0 hc
  have : place row q = (j : Int) := by unfold place; rw [h1]; simp
  rw [this, Int.toNat_natCast, h2]
theorem rm_neg {row : List Str} {q : Str} (h : ¬ 0 ≤ place row q) : rmFirst q row = row := by
  refine rmFirst_none q row ?_
  have := place_lowS row q
  rw [decide_eq_false h] at this
  exact this
def leS (a b : Str) : Prop := ltCps b.cps.toList a.cps.toList = false
theorem leS_iff (a b : Str) : leS a b ↔ ¬ (b.cps.toList < a.cps.toList) := by
  unfold leS; rw [ltCps_eq]; simp
theorem leS_trans {a b c : Str} (h1 : leS a b) (h2 : leS b c) : leS a c := by
  rw [leS_iff] at *
  exact fun h => by
    rcases Classical.em (b.cps.toList < a.cps.toList) with e | e
    · exact h1 e
    · exact absurd (List.lt_of_le_of_lt (List.not_lt.mp h2) h) e
theorem leS_anti {a b : Str} (h1 : leS a b) (h2 : leS b a) : a = b := by
  rw [leS_iff] at *
  have := List.le_antisymm (List.not_lt.mp h1) (List.not_lt.mp h2)
  cases a; cases b
  simpa using this
theorem sortedS_pairwise : ∀ {l : List Str}, sortedS l = true → l.Pairwise leS
  | [], _ => .nil
  | [a], _ => List.pairwise_singleton _ _
  | a :: b :: r, h => by
    have h' : (!ltCps b.cps.toList a.cps.toList && risingS b r) = true := h
    rw [Bool.and_eq_true] at h'
    have hr := sortedS_pairwise (l := b :: r) h'.2
    have hab : leS a b := by unfold leS; simpa using h'.1
    refine List.pairwise_cons.mpr ⟨fun x hx => ?_, hr⟩
    rcases List.mem_cons.mp hx with rfl | hx
    · exact hab
    · exact leS_trans hab ((List.pairwise_cons.mp hr).1 x hx)
theorem pairwise_unique : ∀ {l1 l2 : List Str}, l1.Perm l2 → l1.Pairwise leS → l2.Pairwise leS → l1 = l2
  | [], l2, p, _, _ => by have := p.length_eq; exact (List.eq_nil_of_length_eq_zero this.symm).symm
  | a :: r, [], p, _, _ => by have := p.length_eq; cases this
  | a :: r, b :: t, p, h1, h2 => by
    have e : a = b := by
      have ha : a ∈ b :: t := p.mem_iff.mp (List.mem_cons_self ..)
      have hb : b ∈ a :: r := p.mem_iff.mpr (List.mem_cons_self ..)
      rcases List.mem_cons.mp ha with e | ha
      · exact e
      · rcases List.mem_cons.mp hb with e | hb
        · exact e.symm
        · exact leS_anti ((List.pairwise_cons.mp h1).1 b hb) ((List.pairwise_cons.mp h2).1 a ha)
    subst e
    rw [pairwise_unique (List.Perm.cons_inv p) (List.pairwise_cons.mp h1).2 (List.pairwise_cons.mp h2).2]
theorem sorted_unique {l1 l2 : List Str} (p : l1.Perm l2) (h1 : sortedS l1 = true) (h2 : sortedS l2 = true) : l1 = l2 := pairwise_unique p (sortedS_pairwise h1) (sortedS_pairwise h2)
theorem row_fold {row : List Str} (h : (row.map Txt.lower).Nodup) : row.foldl addLow [] = row := by
  have hn : row.Nodup := by
    have := List.pairwise_map.mp h
    exact this.imp fun hne e => hne (by rw [e])
  rw [addLow_nodup row [] (by simpa using hn)]; simp

theorem tone74 : True := by
  w_top off
  trivial
/-! The drawing of an order. -/
section
variable {prog : Program} {w : World} {A : Around} {E : Value → Shared → Prop} {s : Shared}
theorem wpAny_choose_of {src : Source} {n : Nat} {Q : Nat → Shared → Prop} (hn : n ≠ 0) (h : ∀ i d, i < n → Q i { s with drawn := d }) : wpAny (model prog w) A (choose src n) Q E s :=
  fun Γ p _ => by
    show Sem.wp _ Γ (.choose src n .pure) _ _ p s
    rw [Sem.wp_choose]
    exact ⟨hn, by
      rw [Sem.wp]
      exact h _ _ (Nat.mod_lt _ (Nat.pos_of_ne_zero hn))⟩
theorem wpAny_drawOrder_of {α : Type} {Q : List α → Shared → Prop} : ∀ (n : Nat) (xs : List α), n = xs.length → ∀ {s : Shared}, (∀ ys d, ys.Perm xs → Q ys { s with drawn := d }) → wpAny (model prog w) A (drawOrder n xs) Q E s
  | 0, xs, hn, s, h => by
    have : xs = [] := List.eq_nil_of_length_eq_zero hn.symm
    subst this
    exact wpAny_pure (h [] s.drawn (.refl _))
  | n + 1, [], hn, s, h => by cases hn
  | n + 1, x :: r, hn, s, h => by
    unfold drawOrder
    refine wpAny_bind (wpAny_choose_of (by simp) fun i d hi => ?_)
    rw [List.getElem?_eq_getElem hi]
    dsimp only
    refine wpAny_bind (wpAny_drawOrder_of n ((x :: r).eraseIdx i) (by rw [List.length_eraseIdx_of_lt hi]; omega) fun ys d2 hp => ?_)
    exact wpAny_pure (h _ _ ((hp.cons _).trans (eraseIdx_perm hi)))
end

theorem tone75 : True := by
  w_top off
  trivial
/-! A set's iterator. -/
theorem entry_set_iter' : entryFor table "set.__iter__" = some Builtin.«frozenset.__iter__» :=
  entryFor_alias (id' := "frozenset.__iter__") (by kernel_rfl) (by first | rfl | decide +kernel | (unfold String.splitOn; simp +decide [String.splitOnAux])) (by decide +kernel) (by kernel_rfl)
theorem setit_next : typeLookup (.type "set_iterator") "__next__" = pure (some (.builtin "set_iterator.__next__")) := by rw [typeLookup_type, builtinLookup_eq_fast]; kernel_rfl
abbrev siObj (first : Value) (i : Nat) (sa : Addr) (n ep : Nat) : Obj := { cls := .type "set_iterator", data := .fields #[first, .int (i : Int) 0, .ref sa, .int (n : Int) 0, .int (ep : Int) 0] }
section
variable {prog : Program} {w : World} {A : Around} {E : Value → Shared → Prop} {s : Shared}
set_option maxHeartbeats 1000000 in
theorem setDrawn_of {a : Addr} {o : Obj} {es : Array (Int × Value)} {ep : Nat} {t : SetTable} {Q : Bool → Shared → Prop} (ho : s.heap.get? a = some o) (hd : o.data = .set es ep t) (hf : t.fits es.size = true)
    (h : Q (!byTextW w && (!t.plain && decide (es.size > 1))) s) : wpAny (model prog w) A (setDrawn a) Q E s := by
  unfold setDrawn setsByText
  refine wpAny_bind (wpAny_setState_of ho hd hf ?_)
  dsimp only
  refine wpAny_bind (wpAny_bind (wpAny_askSetting (wpAny_pure ?_)))
  exact wpAny_pure h
set_option maxHeartbeats 1000000 in
theorem pyIter_set {sa : Addr} {so : Obj} {es : Array (Int × Value)} {ep : Nat} {t : SetTable} {Q : Value → Shared → Prop} (ho : s.heap.get? sa = some so) (hc : so.cls = .type "set") (hd : so.data = .set es ep t) (hf : t.fits es.size = true) (hz : es.size ≤ 100)
    (hplain : (!byTextW w && (!t.plain && decide (es.size > 1))) = false → Q (.ref s.heap.objs.size) { s with heap := s.heap.push (siObj (.int 0 0) 0 sa es.size ep) })
    (hdraw : (!byTextW w && (!t.plain && decide (es.size > 1))) = true → ∀ (ys : List Nat) (d : Drawn), ys.Perm (List.range es.size) →
      Q (.ref (s.heap.objs.size + 1)) { s with heap := (s.heap.push { cls := .type "tuple", data := .seq (ys.map fun (i : Nat) => Value.int (i : Int) 0).toArray }).push (siObj (.ref s.heap.objs.size) 0 sa es.size ep), drawn := d }) :
    wpAny (model prog w) A (pyIter (.ref sa)) Q E s := by
  have hT : s.TypeIs (.ref sa) "set" := ⟨so, ho, hc⟩
  refine wpAny_pyIter_slot hT PySem.F.slot_set_iter (wpAny_call_entry PySem.F.slot_set_iter hT entry_set_iter' ?_ (PySem.F.args_set_iter_1 _))
  unfold Builtin.«frozenset.__iter__» Builtin.Frozenset.slot0
  refine wpAny_bind (wpAny_bind (wpAny_pure (wpAny_pure ?_)))
  unfold Builtin.Frozenset.sizeOf
  refine wpAny_bind (wpAny_bind (wpAny_setEntries_of ho hd hf (wpAny_pure ?_)))
  refine wpAny_bind (setDrawn_of ho hd hf ?_)
  cases hb : (!byTextW w && (!t.plain && decide (es.size > 1))) with
  | false =>
    simp only [Bool.false_eq_true, if_false]
    refine wpAny_bind (wpAny_pure ?_)
    refine wpAny_bind (wpAny_setEpoch_of ho hd hf ?_)
    refine wpAny_bind (wpAny_newObj_type ?_)
    exact wpAny_pure ⟨_, rfl, "set_iterator", _, ⟨_, Heap.get?_push_size _ rfl, rfl⟩, setit_next, hplain hb⟩
  | true =>
    simp only [if_true]
    refine wpAny_bind (wpAny_drawOrder_of es.size (List.range es.size) (by rw [List.length_range]) fun ys d hp => ?_)
    have hl : ys.length = es.size := by rw [hp.length_eq, List.length_range]
    refine wpAny_bind (wpAny_newTuple (items := ys.map fun (i : Nat) => rawInt (i : Int)) ?_ (by rw [List.length_map, hl]; exact Nat.le_trans hz (by decide)))
    have ho' : (s.heap.push { cls := .type "tuple", data := .seq (ys.map fun (i : Nat) => rawInt (i : Int)).toArray }).get? sa = some so := Heap.get?_push_of_some _ ho
    refine wpAny_bind (wpAny_setEpoch_of ho' hd hf ?_)
    refine wpAny_bind (wpAny_newObj_type ?_)
    refine wpAny_pure ⟨_, rfl, "set_iterator", _, ⟨_, Heap.get?_push_size _ rfl, rfl⟩, setit_next, ?_⟩
    have := hdraw hb ys d hp
    rw [← Heap.size_push s.heap { cls := .type "tuple", data := .seq (ys.map fun (i : Nat) => Value.int (i : Int) 0).toArray }] at this
    exact this
end

theorem tone76 : True := by
  w_top off
  trivial
/-! A set's iterator, step by step. -/
theorem setit_slot : Slot "set_iterator" "__next__" "set_iterator.__next__" :=
  .of (owner := "set_iterator") (n := "__next__") (by rw [typeLookup_type, builtinLookup_eq_fast]; kernel_rfl) (by decide +kernel) (by decide +kernel) (by decide +kernel)
    (by first | exact .inl (by decide +kernel) | exact .inr (by decide +kernel)) (by rw [isSubtype_type]; kernel_rfl)
theorem setit_slot_iter : Slot "set_iterator" "__iter__" "set_iterator.__iter__" :=
  .of (owner := "set_iterator") (n := "__iter__") (by rw [typeLookup_type, builtinLookup_eq_fast]; kernel_rfl) (by decide +kernel) (by decide +kernel) (by decide +kernel)
    (by first | exact .inl (by decide +kernel) | exact .inr (by decide +kernel)) (by rw [isSubtype_type]; kernel_rfl)
theorem setit_entry : entryFor table "set_iterator.__next__" = some Builtin.«set_iterator.__next__» := entryFor_of_tree (by kernel_rfl)
theorem setit_entry_iter : entryFor table "set_iterator.__iter__" = some Builtin.«dict_keyiterator.__iter__» :=
  entryFor_alias (id' := "dict_keyiterator.__iter__") (by kernel_rfl) (by first | rfl | decide +kernel | (unfold String.splitOn; simp +decide [String.splitOnAux])) (by decide +kernel) (by kernel_rfl)
theorem setit_owner : Manifest.owners.lookup (String.ofList ['r', 'o', 't', 'a', 'r', 'e', 't', 'i', '_', 't', 'e', 's'].reverse) = some Manifest.sig_set_iterator := by kernel_rfl
theorem setit_args (a : Value) : argsOk "set_iterator.__next__" ⟨[a], []⟩ := by
  unfold argsOk; rw [signature?_of (id := "set_iterator.__next__") (n := ['_', '_', 't', 'x', 'e', 'n', '_', '_']) (o := ['r', 'o', 't', 'a', 'r', 'e', 't', 'i', '_', 't', 'e', 's']) (by kernel_rfl) setit_owner]; kernel_rfl
theorem setit_args_iter (a : Value) : argsOk "set_iterator.__iter__" ⟨[a], []⟩ := by
  unfold argsOk; rw [signature?_of (id := "set_iterator.__iter__") (n := ['_', '_', 'r', 'e', 't', 'i', '_', '_']) (o := ['r', 'o', 't', 'a', 'r', 'e', 't', 'i', '_', 't', 'e', 's']) (by kernel_rfl) setit_owner]; kernel_rfl

structure SetItAt (h : Heap) (it : Addr) (first : Value) (i : Nat) (sa : Addr) (es : Array (Int × Value)) (ep : Nat) (t : SetTable) : Prop where
  itr : h.get? it = some (siObj first i sa es.size ep)
  set : ∃ o, h.get? sa = some o ∧ o.cls = .type "set" ∧ o.data = .set es ep t
  fits : t.fits es.size = true
theorem SetItAt.typeIs {s : Shared} {it : Addr} {first : Value} {i : Nat} {sa : Addr} {es : Array (Int × Value)} {ep : Nat} {t : SetTable} (x : SetItAt s.heap it first i sa es ep t) : s.TypeIs (.ref it) "set_iterator" := ⟨_, x.itr, rfl⟩
theorem SetItAt.upd {h : Heap} {it : Addr} {first : Value} {i : Nat} {sa : Addr} {es : Array (Int × Value)} {ep : Nat} {t : SetTable} (x : SetItAt h it first i sa es ep t) (hne : sa ≠ it) {h' : Heap} {f' : Value} {j : Nat}
    (h1 : h'.get? it = some (siObj f' j sa es.size ep)) (h2 : ∀ b, b ≠ it → h'.get? b = h.get? b) : SetItAt h' it f' j sa es ep t :=
  ⟨h1, let ⟨o, ho, hc, hd⟩ := x.set; ⟨o, (h2 _ hne).trans ho, hc, hd⟩, x.fits⟩
section
variable {prog : Program} {w : World} {A : Around} {E : Value → Shared → Prop} {s : Shared}
set_option maxHeartbeats 1000000 in
theorem setit_item_drawn {it tp sa : Addr} {i k : Nat} {es : Array (Int × Value)} {ep : Nat} {t : SetTable} {e : Int × Value} {ys : Array Value} {ot : Obj} {nt : Nat} {Q : Option Value → Shared → Prop}
    (x : SetItAt s.heap it (.ref tp) i sa es ep t) (ht : s.heap.get? tp = some ot) (htd : ot.data = .seq ys nt) (hy : ys[i]? = some (.int (k : Int) 0)) (he : es[k]? = some e) (hne : sa ≠ it)
    (hQ : ∀ h', SetItAt h' it (.ref tp) (i + 1) sa es ep t → (∀ b, b ≠ it → h'.get? b = s.heap.get? b) → Q (some e.2) { s with heap := h' }) :
    wpAny (model prog w) A (pyNext (.ref it)) Q E s := by
  obtain ⟨so, hso, hsc, hsd⟩ := x.set
  unfold pyNext
  refine wpAny_bind (wpAny_attempt (wpAny_callSpecial?_slot (name := Str.ofString "__next__") x.typeIs setit_slot (wpAny_call_entry setit_slot x.typeIs setit_entry ?_ (setit_args _))))
  unfold Builtin.«set_iterator.__next__»
  refine wpAny_bind (wpAny_bind (wpAny_pure (wpAny_pure ?_)))
  refine wpAny_bind (wpAny_fieldsOf x.itr rfl ?_)
  dsimp only
  refine wpAny_bind (wpAny_setEntries_of hso hsd x.fits ?_)
  refine wpAny_ite_split (fun hab => absurd hab (by simp)) (fun _ => ?_)
  refine wpAny_bind (wpAny_seqItems ht htd ?_)
  simp only [Int.toNat_natCast, hy]
  unfold setNextDrawn
  refine wpAny_bind (wpAny_bind (wpAny_setState_of hso hsd x.fits ?_))
  dsimp only
  refine wpAny_ite_split (fun hab => absurd hab (by simp)) (fun _ => ?_)
  rw [he]
  obtain ⟨e1, e2⟩ := e
  dsimp only
  refine wpAny_pure ?_
  refine wpAny_bind (wpAny_setField x.itr rfl (by simp) ?_)
  refine wpAny_pure ⟨_, rfl, wpAny_pure (hQ _ (x.upd hne (Heap.get?_update_self _ x.itr rfl) fun b hb => Heap.get?_update_other _ _ (Ne.symm hb)) fun b hb => Heap.get?_update_other _ _ (Ne.symm hb))⟩
set_option maxHeartbeats 1000000 in
theorem setit_end_drawn {it tp sa : Addr} {i : Nat} {es : Array (Int × Value)} {ep : Nat} {t : SetTable} {ys : Array Value} {ot : Obj} {nt : Nat} {Q : Option Value → Shared → Prop} (hh : A.handled = none)
    (x : SetItAt s.heap it (.ref tp) i sa es ep t) (ht : s.heap.get? tp = some ot) (htd : ot.data = .seq ys nt) (hy : ys[i]? = none)
    (hQ : ∀ h', (∀ b o, b ≠ it → s.heap.get? b = some o → h'.get? b = some o) → Q none { s with heap := h' }) :
    wpAny (model prog w) A (pyNext (.ref it)) Q E s := by
  obtain ⟨so, hso, hsc, hsd⟩ := x.set
  unfold pyNext
  refine wpAny_bind (wpAny_attempt (wpAny_callSpecial?_slot (name := Str.ofString "__next__") x.typeIs setit_slot (wpAny_call_entry setit_slot x.typeIs setit_entry ?_ (setit_args _))))
  unfold Builtin.«set_iterator.__next__»
  refine wpAny_bind (wpAny_bind (wpAny_pure (wpAny_pure ?_)))
  refine wpAny_bind (wpAny_fieldsOf x.itr rfl ?_)
  dsimp only
  refine wpAny_bind (wpAny_setEntries_of hso hsd x.fits ?_)
  refine wpAny_ite_split (fun hab => absurd hab (by simp)) (fun _ => ?_)
  refine wpAny_bind (wpAny_seqItems ht htd ?_)
  simp only [Int.toNat_natCast, hy]
  refine wpAny_bind (wpAny_setField x.itr rfl (by simp) ?_)
  refine wpAny_bind (wpAny_setField (Heap.get?_update_self _ x.itr rfl) rfl (by simp) ?_)
  refine wpAny_bind ?_
  simp only [newExc, newTuple]
  refine wpAny_bind (wpAny_newObj_type ?_ (by size_fits))
  refine wpAny_bind (m := firstArgMember _ _) (wpAny_of_eq (a := Value.none) (by first | rfl | (simp only [firstArgMember]; rfl)) ?_)
  refine wpAny_newObj_type ?_ (by size_fits)
  simp only [raiseNew]
  refine wpAny_bind (wpAny_handled ?_)
  rw [show A.in1.handled = none from hh]
  refine wpAny_bind (wpAny_pure (wpAny_throw ?_))
  refine wpAny_bind (wpAny_isInstance (T := "StopIteration") (b := true) ⟨_, Heap.get?_push_size _ rfl, rfl⟩ isSubtype_stop ?_)
  exact wpAny_pure (hQ _ fun b o hb e => Heap.get?_push_of_some _ (Heap.get?_push_of_some _ ((Heap.get?_update_other _ _ (Ne.symm hb)).trans ((Heap.get?_update_other _ _ (Ne.symm hb)).trans e))))
/-- The plain counter: what the table says comes next. -/
def NextIs (prog : Program) (w : World) (es : Array (Int × Value)) (t : SetTable) (sa : Addr) (slot i ep : Nat) (r : Option (Value × Nat)) : Prop :=
  ∀ (A : Around) (E : Value → Shared → Prop) (s : Shared) (Q : Option (Value × Nat) → Shared → Prop) (o : Obj), s.heap.get? sa = some o → o.data = .set es ep t → t.fits es.size = true → Q r s → wpAny (model prog w) A (setNext sa slot i ep) Q E s
set_option maxHeartbeats 1000000 in
theorem setit_item_plain {it sa : Addr} {i slot nx : Nat} {es : Array (Int × Value)} {ep : Nat} {t : SetTable} {v : Value} {Q : Option Value → Shared → Prop}
    (x : SetItAt s.heap it (.int (slot : Int) 0) i sa es ep t) (hn : NextIs prog w es t sa slot i ep (some (v, nx))) (hne : sa ≠ it)
    (hQ : ∀ h', SetItAt h' it (.int (nx : Int) 0) (i + 1) sa es ep t → (∀ b, b ≠ it → h'.get? b = s.heap.get? b) → Q (some v) { s with heap := h' }) :
    wpAny (model prog w) A (pyNext (.ref it)) Q E s := by
  obtain ⟨so, hso, hsc, hsd⟩ := x.set
  unfold pyNext
  refine wpAny_bind (wpAny_attempt (wpAny_callSpecial?_slot (name := Str.ofString "__next__") x.typeIs setit_slot (wpAny_call_entry setit_slot x.typeIs setit_entry ?_ (setit_args _))))
  unfold Builtin.«set_iterator.__next__»
  refine wpAny_bind (wpAny_bind (wpAny_pure (wpAny_pure ?_)))
  refine wpAny_bind (wpAny_fieldsOf x.itr rfl ?_)
  dsimp only
  refine wpAny_bind (wpAny_setEntries_of hso hsd x.fits ?_)
  refine wpAny_ite_split (fun hab => absurd hab (by simp)) (fun _ => ?_)
  simp only [Int.toNat_natCast]
  refine wpAny_bind (hn _ _ _ _ _ hso hsd x.fits ?_)
  dsimp only
  refine wpAny_bind (wpAny_setField x.itr rfl (by simp) ?_)
  refine wpAny_bind (wpAny_setField (Heap.get?_update_self _ x.itr rfl) rfl (by simp) ?_)
  refine wpAny_pure ⟨_, rfl, wpAny_pure (hQ _ (x.upd hne (Heap.get?_update_self _ (Heap.get?_update_self _ x.itr rfl) rfl) fun b hb => (Heap.get?_update_other _ _ (Ne.symm hb)).trans (Heap.get?_update_other _ _ (Ne.symm hb))) fun b hb => (Heap.get?_update_other _ _ (Ne.symm hb)).trans (Heap.get?_update_other _ _ (Ne.symm hb)))⟩
set_option maxHeartbeats 1000000 in
theorem setit_end_plain {it sa : Addr} {i slot : Nat} {es : Array (Int × Value)} {ep : Nat} {t : SetTable} {Q : Option Value → Shared → Prop} (hh : A.handled = none)
    (x : SetItAt s.heap it (.int (slot : Int) 0) i sa es ep t) (hn : NextIs prog w es t sa slot i ep none)
    (hQ : ∀ h', (∀ b o, b ≠ it → s.heap.get? b = some o → h'.get? b = some o) → Q none { s with heap := h' }) :
    wpAny (model prog w) A (pyNext (.ref it)) Q E s := by
  obtain ⟨so, hso, hsc, hsd⟩ := x.set
  unfold pyNext
  refine wpAny_bind (wpAny_attempt (wpAny_callSpecial?_slot (name := Str.ofString "__next__") x.typeIs setit_slot (wpAny_call_entry setit_slot x.typeIs setit_entry ?_ (setit_args _))))
  unfold Builtin.«set_iterator.__next__»
  refine wpAny_bind (wpAny_bind (wpAny_pure (wpAny_pure ?_)))
  refine wpAny_bind (wpAny_fieldsOf x.itr rfl ?_)
  dsimp only
  refine wpAny_bind (wpAny_setEntries_of hso hsd x.fits ?_)
  refine wpAny_ite_split (fun hab => absurd hab (by simp)) (fun _ => ?_)
  simp only [Int.toNat_natCast]
  refine wpAny_bind (hn _ _ _ _ _ hso hsd x.fits ?_)
  dsimp only
  refine wpAny_bind (wpAny_setField x.itr rfl (by simp) ?_)
  refine wpAny_bind ?_
  simp only [newExc, newTuple]
  refine wpAny_bind (wpAny_newObj_type ?_ (by size_fits))
  refine wpAny_bind (m := firstArgMember _ _) (wpAny_of_eq (a := Value.none) (by first | rfl | (simp only [firstArgMember]; rfl)) ?_)
  refine wpAny_newObj_type ?_ (by size_fits)
  simp only [raiseNew]
  refine wpAny_bind (wpAny_handled ?_)
  rw [show A.in1.handled = none from hh]
  refine wpAny_bind (wpAny_pure (wpAny_throw ?_))
  refine wpAny_bind (wpAny_isInstance (T := "StopIteration") (b := true) ⟨_, Heap.get?_push_size _ rfl, rfl⟩ isSubtype_stop ?_)
  exact wpAny_pure (hQ _ fun b o hb e => Heap.get?_push_of_some _ (Heap.get?_push_of_some _ ((Heap.get?_update_other _ _ (Ne.symm hb)).trans e)))
theorem setit_self {it sa : Addr} {first : Value} {i : Nat} {es : Array (Int × Value)} {ep : Nat} {t : SetTable} {Q : Value → Shared → Prop} (x : SetItAt s.heap it first i sa es ep t) (h : Q (.ref it) s) :
    wpAny (model prog w) A (pyIter (.ref it)) Q E s := by
  refine wpAny_pyIter_slot x.typeIs setit_slot_iter (wpAny_call_entry setit_slot_iter x.typeIs setit_entry_iter ?_ (setit_args_iter _))
  show wpAny _ _ (ret (Value.ref it)) _ _ s
  exact wpAny_pure ⟨_, rfl, "set_iterator", _, x.typeIs, setit_slot.lookup, h⟩
end

theorem tone77 : True := by
  w_top off
  trivial
/-! A walk over a set of texts: some order of its elements, whatever the table or the draw say. -/
theorem nextIs_text {prog : Program} {w : World} {es : Array (Int × Value)} {t : SetTable} {sa : Addr} {slot i ep : Nat} (hb : byTextW w = true) :
    NextIs prog w es t sa slot i ep (((pickOrder (w.params.setOrder sa ep) es)[i]?).map fun e => (e.2, slot)) := by
  intro A E s Q o ho hd hf h
  unfold setNext
  refine wpAny_bind (wpAny_setState_of ho hd hf ?_)
  dsimp only
  unfold setsByText
  refine wpAny_bind (wpAny_bind (wpAny_askSetting (wpAny_pure ?_)))
  refine wpAny_ite_split (fun _ => ?_) (fun hab => absurd hb hab)
  refine wpAny_ite_split (fun hab => absurd hab (by simp)) (fun _ => ?_)
  refine wpAny_bind ?_
  unfold setWalk setsByText
  refine wpAny_bind (wpAny_setState_of ho hd hf ?_)
  dsimp only
  refine wpAny_bind (wpAny_bind (wpAny_askSetting (wpAny_pure ?_)))
  refine wpAny_ite_split (fun _ => ?_) (fun hab => absurd hb hab)
  refine wpAny_bind (wpAny_askSetting ?_)
  exact wpAny_pure (wpAny_pure h)
theorem nextIs_small {prog : Program} {w : World} {es : Array (Int × Value)} {t : SetTable} {sa : Addr} {slot i ep : Nat} (hb : byTextW w = false) (hl : t.led = true) (hz : es.size ≤ 1) :
    NextIs prog w es t sa slot i ep (match es[SetTable.below t.place slot]?, t.place[SetTable.below t.place slot]? with | some (_, x), some j => some (x, j + 1) | _, _ => none) := by
  intro A E s Q o ho hd hf h
  unfold setNext
  refine wpAny_bind (wpAny_setState_of ho hd hf ?_)
  dsimp only
  unfold setsByText
  refine wpAny_bind (wpAny_bind (wpAny_askSetting (wpAny_pure ?_)))
  refine wpAny_ite_split (fun hab => absurd (show byTextW w = true from hab) (by rw [hb]; decide)) (fun _ => ?_)
  refine wpAny_ite_split (fun hab => absurd (show (!t.plain && decide (es.size > 1)) = true from hab) (by rw [decide_eq_false (by omega)]; simp)) (fun _ => ?_)
  refine wpAny_bind (wpAny_ite_split (fun hab => absurd hab (by rw [hl]; simp)) (fun _ => ?_))
  refine wpAny_pure (wpAny_pure ?_)
  exact h
theorem pickGo_perm {α : Type} (next : Nat → Nat) : ∀ (fuel k : Nat) (left : List α) (out : Array α), fuel = left.length → (pickOrder.go next fuel k left out).toList.Perm (out.toList ++ left)
  | 0, k, left, out, h => by
    have : left = [] := List.eq_nil_of_length_eq_zero h.symm
    subst this
    simp [pickOrder.go]
  | fuel + 1, k, left, out, h => by
    have hi : next k % left.length < left.length := Nat.mod_lt _ (by omega)
    unfold pickOrder.go
    rw [List.getElem?_eq_getElem hi]
    dsimp only
    refine (pickGo_perm next fuel (k + 1) _ _ (by rw [List.length_eraseIdx_of_lt hi]; omega)).trans ?_
    rw [Array.toList_push, List.append_assoc]
    exact List.Perm.append_left _ (by simpa using (eraseIdx_perm hi))
theorem pickOrder_perm {α : Type} (next : Nat → Nat) (xs : Array α) : (pickOrder next xs).toList.Perm xs.toList := by
  unfold pickOrder
  exact (pickGo_perm next xs.size 0 xs.toList #[] (by simp)).trans (by simp)
section
variable {prog : Program} {w : World} {A : Around}
theorem Walks.setPlain (hh : A.handled = none) (I sa : Addr) (hne : sa ≠ I) (es : Array (Int × Value)) (ep : Nat) (t : SetTable) (ord : List (Int × Value)) (hl : ord.length = es.size) (slotAt : Nat → Nat)
    (hi : ∀ i e, ord[i]? = some e → NextIs prog w es t sa (slotAt i) i ep (some (e.2, slotAt (i + 1)))) (he : NextIs prog w es t sa (slotAt es.size) es.size ep none) :
    Walks prog w A I [I, sa] [I] es.size (fun i v => ∃ e, ord[i]? = some e ∧ v = e.2) (fun i h => SetItAt h I (.int (slotAt i : Int) 0) i sa es ep t) where
  sub := fun b hb => by simp at hb; simp [hb]
  frame := fun i h h' st hk => ⟨hk I (by simp) _ st.itr, let ⟨o, ho, hc, hd⟩ := st.set; ⟨o, hk sa (by simp) _ ho, hc, hd⟩, st.fits⟩
  item := fun i s Q E hlt st hQ => by
    have hx : ord[i]? = some (ord[i]'(by omega)) := List.getElem?_eq_getElem _
    exact setit_item_plain st (hi i _ hx) hne fun h' st' hk => hQ _ h' s.toks ⟨_, hx, rfl⟩ st' fun b o hb e => (hk b (fun h => hb (by simp [h]))).trans e
  done := fun s Q E st hQ => setit_end_plain hh st he fun h' hk => hQ h' s.toks fun b o hb e => hk b o (fun h => hb (by simp [h])) e
  self := fun _ _ _ _ st hQ => setit_self st hQ
theorem Walks.setDrawn (hh : A.handled = none) (I sa tp : Addr) (hne : sa ≠ I) (hnt : tp ≠ I) (es : Array (Int × Value)) (ep : Nat) (t : SetTable) (ys : List Nat) (hp : ys.Perm (List.range es.size)) (ord : List (Int × Value)) (ho : ∀ i : Nat, ord[i]? = (ys[i]?).bind fun k => es[k]?) :
    Walks prog w A I [I, sa, tp] [I] es.size (fun i v => ∃ e, ord[i]? = some e ∧ v = e.2)
      (fun i h => SetItAt h I (.ref tp) i sa es ep t ∧ h.get? tp = some { cls := .type "tuple", data := .seq (ys.map fun (i : Nat) => Value.int (i : Int) 0).toArray }) where
  sub := fun b hb => by simp at hb; simp [hb]
  frame := fun i h h' st hk => ⟨⟨hk I (by simp) _ st.1.itr, let ⟨o, ho, hc, hd⟩ := st.1.set; ⟨o, hk sa (by simp) _ ho, hc, hd⟩, st.1.fits⟩, hk tp (by simp) _ st.2⟩
  item := fun i s Q E hlt st hQ => by
    have hl : ys.length = es.size := by rw [hp.length_eq, List.length_range]
    have hy : ys[i]? = some (ys[i]'(by omega)) := List.getElem?_eq_getElem _
    have hk : ys[i]'(by omega) < es.size := List.mem_range.mp (hp.mem_iff.mp (List.getElem_mem _))
    have he : es[ys[i]'(by omega)]? = some (es[ys[i]'(by omega)]) := Array.getElem?_eq_getElem hk
    refine setit_item_drawn st.1 st.2 rfl (k := ys[i]'(by omega)) (by simp [hy]) he hne fun h' st' hk => hQ _ h' s.toks ⟨_, by rw [ho, hy]; exact he, rfl⟩ ⟨st', (hk tp hnt).trans st.2⟩ fun b o hb e => (hk b (fun h => hb (by simp [h]))).trans e
  done := fun s Q E st hQ => by
    have hl : ys.length = es.size := by rw [hp.length_eq, List.length_range]
    exact setit_end_drawn hh st.1 st.2 rfl (by simp [List.getElem?_eq_none, hl]) fun h' hk => hQ h' s.toks fun b o hb e => hk b o (fun h => hb (by simp [h])) e
  self := fun _ _ _ _ st hQ => setit_self st.1 hQ
end

theorem tone78 : True := by
  w_top off
  trivial
/-! A set collected into a list: some order of its elements. -/
theorem hint_set {prog : Program} {w : World} {A : Around} {E : Value → Shared → Prop} {s : Shared} {r : Addr} {Q : Bool → Shared → Prop} (hT : s.TypeIs (.ref r) "set") (h : Q false s) : wpAny (model prog w) A (Builtin.List.listLengthHint (.ref r)) Q E s := by
  unfold Builtin.List.listLengthHint
  refine wpAny_bind (wpAny_specialOf hT PySem.F.slot_set_len.lookup ?_)
  generalize hid : ("set.__len__" : String) = id0
  wp_delta
  rw [show splitId id0 = some ("set", "__len__") from by subst hid; decide +kernel]
  subst hid
  refine wpAny_bind (wpAny_isInstance (T := "set") (b := true) hT (by rw [isSubtype_type]; kernel_rfl) ?_)
  refine wpAny_ite_split (fun hab => absurd hab (by decide)) (fun _ => ?_)
  refine wpAny_ite_split (fun _ => ?_) (fun hab => absurd (by decide +kernel) hab)
  refine wpAny_bind (wpAny_typeOf hT ?_)
  exact wpAny_pure h
/-- What a walk over the set is: an iterator, an order, a state. -/
structure SetWalk (prog : Program) (w : World) (A : Around) (h₀ : Heap) (sa : Addr) (ks : List Str) (I : Addr) (h' : Heap) : Prop where
  walk : ∃ (n : Nat) (fp : List Addr) (ord : List (Int × Value)) (St : Nat → Heap → Prop) (ks' : List Str), Walks prog w A I fp [I] n (fun i v => ∃ e, ord[i]? = some e ∧ v = e.2) St ∧ St 0 h' ∧ n = ord.length ∧ EsAre w ord ks' ∧ ks'.Perm ks ∧ (∀ b ∈ fp, b = sa ∨ h₀.objs.size ≤ b)
  keep : ∀ b o, h₀.get? b = some o → h'.get? b = some o
  fresh : h₀.objs.size ≤ I
section
variable {prog : Program} {w : World} {A A' : Around} {E : Value → Shared → Prop} {s : Shared}
theorem set_walk {sa : Addr} {so : Obj} {ks : List Str} {Q : Value → Shared → Prop} (hh : A'.handled = none) (ho : s.heap.get? sa = some so) (hS : StrSet w so ks) (hz : ks.length ≤ 100)
    (h : ∀ I h' d, SetWalk prog w A' s.heap sa ks I h' → Q (.ref I) { s with heap := h', drawn := d }) : wpAny (model prog w) A (pyIter (.ref sa)) Q E s := by
  obtain ⟨hex, es, ep, t, ks', hd, hf, hled, hpl, hes, hp⟩ := hS
  have hlen : es.size = ks'.length := by rw [← hes.length, Array.length_toList]
  have hlt := Heap.lt_size ho
  refine pyIter_set ho hex.1 hd hf (by rw [hlen, hp.length_eq]; exact hz) (fun hb => ?_) fun hb ys d hys => ?_
  · have hne : sa ≠ s.heap.objs.size := Nat.ne_of_lt hlt
    have hset : ∃ o, (s.heap.push (siObj (.int 0 0) 0 sa es.size ep)).get? sa = some o ∧ o.cls = .type "set" ∧ o.data = .set es ep t := ⟨so, Heap.get?_push_of_some _ ho, hex.1, hd⟩
    refine h _ _ s.drawn ⟨?_, fun b o e => Heap.get?_push_of_some _ e, Nat.le_refl _⟩
    cases hbt : byTextW w with
    | true =>
      obtain ⟨k2, p2, e2⟩ := hes.perm (pickOrder_perm (w.params.setOrder sa ep) es).symm
      have hol : (pickOrder (w.params.setOrder sa ep) es).toList.length = es.size := by rw [(pickOrder_perm _ _).length_eq, Array.length_toList]
      refine ⟨es.size, _, (pickOrder (w.params.setOrder sa ep) es).toList, _, k2, Walks.setPlain hh s.heap.objs.size sa hne es ep t _ hol (fun _ => 0) (fun i e hi => ?_) ?_, ⟨Heap.get?_push_size _ rfl, hset, hf⟩, hol.symm, e2, p2.symm.trans hp, ?_⟩
      · have := nextIs_text (prog := prog) (es := es) (t := t) (sa := sa) (slot := 0) (i := i) (ep := ep) hbt
        rw [← Array.getElem?_toList, hi] at this
        exact this
      · have := nextIs_text (prog := prog) (es := es) (t := t) (sa := sa) (slot := 0) (i := es.size) (ep := ep) hbt
        rw [← Array.getElem?_toList, List.getElem?_eq_none (by omega)] at this
        exact this
      · intro b hb
        simp only [List.mem_cons, List.not_mem_nil, or_false] at hb
        rcases hb with rfl | rfl
        · exact .inr (Nat.le_refl _)
        · exact .inl rfl
    | false =>
      have hz1 : es.size ≤ 1 := by
        rw [hbt] at hb
        rcases Nat.lt_or_ge 1 es.size with h1 | h1
        · rw [hpl (by omega), decide_eq_true (show es.size > 1 from h1)] at hb
          exact absurd hb (by decide)
        · exact h1
      have hl : t.led = true := by rw [hled, hbt]; rfl
      have hpz : t.place.size = es.size := by
        unfold SetTable.fits at hf
        simpa using (Bool.and_eq_true _ _ |>.mp hf).1
      refine ⟨es.size, _, es.toList, _, ks', Walks.setPlain hh s.heap.objs.size sa hne es ep t _ Array.length_toList (fun i => if i = 0 then 0 else t.place.getD 0 0 + 1) (fun i e hi => ?_) ?_, ⟨Heap.get?_push_size _ rfl, hset, hf⟩, Array.length_toList.symm, hes, hp, ?_⟩
      · have hi0 : i = 0 ∧ es.size = 1 := by
          have : i < es.toList.length := (List.getElem?_eq_some_iff.mp hi).1
          rw [Array.length_toList] at this
          omega
        obtain ⟨rfl, h1⟩ := hi0
        have := nextIs_small (prog := prog) (es := es) (t := t) (sa := sa) (slot := 0) (i := 0) (ep := ep) hbt hl hz1
        have hb0 : SetTable.below t.place 0 = 0 := by
          unfold SetTable.below
          rw [hpz, h1]
          simp [SetTable.below.go]
        rw [hb0, ← Array.getElem?_toList, hi, Array.getElem?_eq_getElem (by omega)] at this
        simp only [if_true, Nat.zero_add, Nat.one_ne_zero, if_false]
        rw [show t.place.getD 0 0 = t.place[0]'(by omega) from by simp [Array.getD, show 0 < t.place.size by omega]]
        exact this
      · have := nextIs_small (prog := prog) (es := es) (t := t) (sa := sa) (slot := if es.size = 0 then 0 else t.place.getD 0 0 + 1) (i := es.size) (ep := ep) hbt hl hz1
        have hb1 : SetTable.below t.place (if es.size = 0 then 0 else t.place.getD 0 0 + 1) = es.size := by
          unfold SetTable.below
          rw [hpz]
          rcases (show es.size = 0 ∨ es.size = 1 by omega) with h0 | h0
          · rw [h0]; simp [SetTable.below.go]
          · rw [h0]; simp [SetTable.below.go, Array.getElem?_eq_getElem (show 0 < t.place.size by omega)]
        rw [hb1, Array.getElem?_eq_none (Nat.le_refl _)] at this
        exact this
      · intro b hb
        simp only [List.mem_cons, List.not_mem_nil, or_false] at hb
        rcases hb with rfl | rfl
        · exact .inr (Nat.le_refl _)
        · exact .inl rfl
  · refine h _ _ d ⟨?_, fun b o e => Heap.get?_push_of_some _ (Heap.get?_push_of_some _ e), Nat.le_succ _⟩
    have hyl : ys.length = es.size := by rw [hys.length_eq, List.length_range]
    have hgl : ∀ k ∈ ys, k < es.size := fun k hk => List.mem_range.mp (hys.mem_iff.mp hk)
    have ho' : ∀ i : Nat, (ys.map fun k => es[k]?.getD (0, .none))[i]? = (ys[i]?).bind fun k => es[k]? := by
      intro i
      rw [List.getElem?_map]
      cases hy : ys[i]? with
      | none => rfl
      | some k =>
        have hk := hgl k (List.mem_of_getElem? hy)
        simp [hk]
    have hperm : (ys.map fun k => es[k]?.getD (0, .none)).Perm es.toList := by
      refine (hys.map _).trans ?_
      refine List.Perm.of_eq (List.ext_getElem (by simp) fun i h1 h2 => ?_)
      simp only [List.length_map, List.length_range] at h1
      simp [h1]
    obtain ⟨k2, p2, e2⟩ := hes.perm hperm.symm
    have hset : ∃ o, ((s.heap.push { cls := .type "tuple", data := .seq (ys.map fun (i : Nat) => Value.int (i : Int) 0).toArray }).push (siObj (.ref s.heap.objs.size) 0 sa es.size ep)).get? sa = some o ∧ o.cls = .type "set" ∧ o.data = .set es ep t := ⟨so, Heap.get?_push_of_some _ (Heap.get?_push_of_some _ ho), hex.1, hd⟩
    refine ⟨es.size, _, _, _, k2, Walks.setDrawn hh (s.heap.objs.size + 1) sa s.heap.objs.size (Nat.ne_of_lt (Nat.lt_succ_of_lt hlt)) (Nat.ne_of_lt (Nat.lt_succ_self _)) es ep t ys hys _ ho', ⟨⟨?_, hset, hf⟩, Heap.get?_push_of_some _ (Heap.get?_push_size _ rfl)⟩, by rw [List.length_map, hyl], e2, p2.symm.trans hp, ?_⟩
    · have := Heap.get?_push_size (s.heap.push { cls := .type "tuple", data := .seq (ys.map fun (i : Nat) => Value.int (i : Int) 0).toArray }) (o := siObj (.ref s.heap.objs.size) 0 sa es.size ep) rfl
      rw [Heap.size_push] at this
      exact this
    · intro b hb
      simp only [List.mem_cons, List.not_mem_nil, or_false] at hb
      rcases hb with rfl | rfl | rfl
      · exact .inr (Nat.le_succ _)
      · exact .inl rfl
      · exact .inr (Nat.le_refl _)
set_option maxHeartbeats 1000000 in
theorem set_collect {sa : Addr} {so : Obj} {ks : List Str} {R : List Value → Shared → Prop} (hh : A.handled = none) (ho : s.heap.get? sa = some so) (hS : StrSet w so ks) (hz : ks.length ≤ 100)
    (h : ∀ h' tk d acc ks', (∀ b o, s.heap.get? b = some o → h'.get? b = some o) → StrsAre acc ks' → ks'.Perm ks → R acc { s with heap := h', toks := tk, drawn := d }) :
    wpAny (model prog w) A (collect (.ref sa)) R E s := by
  have hlt := Heap.lt_size ho
  unfold collect
  refine wpAny_bind (wpAny_runValue (codeAny_builtin entry_proto_collect' ?_))
  rw [Around.under_plainId PySem.F.plain_proto_collect _]
  show wpAny _ A.in1 (newList [] >>= fun l => again (.builtin "list.__iadd__" ⟨[l, .ref sa], []⟩)) _ _ s
  refine wpAny_bind (wpAny_newObj_type ?_)
  refine wpAny_pure ⟨plainId_quiet PySem.F.plain_list_iadd _, codeAny_builtin entry_list_iadd' ?_⟩
  rw [Around.under_plainId PySem.F.plain_list_iadd _]
  have hS₁ : (s.heap.push { cls := .type "list", data := .seq ([] : List Value).toArray }).get? s.heap.objs.size = some { cls := .type "list", data := .seq #[] } := Heap.get?_push_size _ rfl
  show wpAny _ A.in1 (Builtin.List.listExtendWith (.ref s.heap.objs.size) (.ref sa) (.ref s.heap.objs.size)) _ _ _
  have key : wpAny (model prog w) A.in1 (Builtin.List.listExtendWith (.ref s.heap.objs.size) (.ref sa) (.ref s.heap.objs.size))
      (fun fin s' => match fin with
        | .done f => False
        | .again c' => c'.quiet = true ∧ codeAny (model prog w) A c' (fun q s' => ∃ (h' : Heap) (tk : Nat) (d : Drawn) (acc' : Array Value) (c' : Nat) (ks' : List Str), q = .ok (.ret (.ref s.heap.objs.size)) ∧ s' = { s with heap := h', toks := tk, drawn := d } ∧
            (∀ b o, s.heap.get? b = some o → h'.get? b = some o) ∧ h'.get? s.heap.objs.size = some { cls := .type "list", dict := none, data := .seq acc' c', slots := #[] } ∧ StrsAre acc'.toList ks' ∧ ks'.Perm ks) s')
      (fun _ _ => False) { s with heap := s.heap.push { cls := .type "list", data := .seq ([] : List Value).toArray } } := by
    have ho₁ : (s.heap.push { cls := .type "list", data := .seq ([] : List Value).toArray }).get? sa = some so := Heap.get?_push_of_some _ ho
    unfold Builtin.List.listExtendWith
    refine wpAny_bind (wpAny_typeOf (T := "set") ⟨_, ho₁, hS.1.1⟩ ?_)
    have h1 : Builtin.List.listSameRef (.ref s.heap.objs.size) (.ref sa) = false := by simp [Builtin.List.listSameRef, Nat.ne_of_gt hlt]
    simp only [h1, show (Value.type "set" == Value.type "list") = false from by decide +kernel, show (Value.type "set" == Value.type "tuple") = false from by decide +kernel, Bool.or_false, Bool.false_eq_true, if_false]
    refine wpAny_bind (set_walk (A' := A.in1) hh ho₁ hS hz fun I h₁ d W => ?_)
    obtain ⟨⟨n, fp, ord, St, ks2, WW, st, hn, hes, hp2, hfp⟩, hk₁, hfr⟩ := W
    dsimp only at hk₁ hfr hfp
    have hgt : s.heap.objs.size < (s.heap.push { cls := .type "list", data := .seq ([] : List Value).toArray }).objs.size := Heap.lt_size hS₁
    have hSf : s.heap.objs.size ∉ fp := fun hm => by
      rcases hfp _ hm with e | e
      · exact absurd e (Nat.ne_of_gt hlt)
      · exact absurd hgt (Nat.not_lt.mpr e)
    have hn100 : n ≤ sizeLine := by
      rw [hn, hes.length, hp2.length_eq]
      exact Nat.le_trans hz (Nat.le_trans (by decide : (100 : Nat) ≤ 10000) (by decide))
    have go : ∀ (h : Heap) (c₁ tk : Nat), St 0 h → (∀ b o, s.heap.get? b = some o → h.get? b = some o) →
        h.get? s.heap.objs.size = some { cls := .type "list", data := .seq #[] c₁ } → codeAny (model prog w) A (.builtin "list.extend.loop" ⟨[.ref s.heap.objs.size, .ref I, .ref s.heap.objs.size], []⟩)
          (fun q s' => ∃ (h' : Heap) (tk : Nat) (d : Drawn) (acc' : Array Value) (c' : Nat) (ks' : List Str), q = .ok (.ret (.ref s.heap.objs.size)) ∧ s' = { s with heap := h', toks := tk, drawn := d } ∧
            (∀ b o, s.heap.get? b = some o → h'.get? b = some o) ∧ h'.get? s.heap.objs.size = some { cls := .type "list", dict := none, data := .seq acc' c', slots := #[] } ∧ StrsAre acc'.toList ks' ∧ ks'.Perm ks) { s with heap := h, toks := tk, drawn := d } := by
      intro h c₁ tk hst hk hS₁
      refine codeAny_extend_loopS WW.toS hn100 s.heap.objs.size hSf _ n 0 _ #[] c₁ rfl (Nat.zero_le _) hst hS₁ (ItemsOf.nil _) fun s' acc' c' hm hS' hacc => ?_
      rw [Moved.eq_with hm]
      refine ⟨s'.heap, s'.toks, d, acc', c', ks2, rfl, rfl, fun b o e => hm.heap b o (fun hmem => ?_) (hk b o e), hS', ?_, hp2⟩
      · rcases List.mem_cons.mp hmem with e' | hmem
        · exact absurd (Heap.lt_size e) (by rw [e']; exact Nat.lt_irrefl _)
        · have := Heap.lt_size e
          rw [List.mem_singleton.mp hmem] at this
          exact absurd (Nat.lt_trans this hgt) (Nat.not_lt.mpr hfr)
      · have : acc'.toList = ord.map (·.2) := by
          refine List.ext_getElem? fun j => ?_
          rw [List.getElem?_map, Array.getElem?_toList]
          cases hj : acc'[j]? with
          | none =>
            have : n ≤ j := by
              have := Array.getElem?_eq_none_iff.mp hj
              rw [hacc.1] at this
              exact this
            rw [List.getElem?_eq_none (by omega)]; rfl
          | some v =>
            obtain ⟨e, he, hv⟩ := hacc.2 j v hj
            rw [he, hv]; rfl
        rw [this]
        exact hes.strs
    refine wpAny_bind (wpAny_holding (hint_set ⟨_, hk₁ _ _ ho₁, hS.1.1⟩ ?_))
    have hS₂ := hk₁ _ _ hS₁
    refine wpAny_ite_split (fun _ => ?_) (fun _ => wpAny_pure ⟨plainId_quiet PySem.F.plain_extend_loop _, go _ 0 _ st (fun b o e => hk₁ _ _ (Heap.get?_push_of_some _ e)) hS₂⟩)
    refine wpAny_bind (wpAny_rule ?_)
    refine wpAny_bind ?_
    show wpAny _ _ (updateSeq s.heap.objs.size (·.push .none) >>= fun _ => updateSeq s.heap.objs.size (·.pop)) _ _ _
    refine wpAny_bind (wpAny_updateSeq hS₂ rfl ?_)
    have hS₃ := Heap.get?_update_self (Obj.mapSeq (·.push Value.none)) hS₂ rfl
    refine wpAny_updateSeq (hz := by seq_fits) hS₃ rfl ?_
    have hS₄ := Heap.get?_update_self (Obj.mapSeq (·.pop)) hS₃ rfl
    refine wpAny_pure ⟨plainId_quiet PySem.F.plain_extend_loop _, go _ _ _ ?_ (fun b o e => ?_) hS₄⟩
    · refine WW.frame 0 _ _ st fun b hb o e => ?_
      have hbS : b ≠ s.heap.objs.size := fun h => hSf (h ▸ hb)
      exact (Heap.get?_update_other _ _ (Ne.symm hbS)).trans ((Heap.get?_update_other _ _ (Ne.symm hbS)).trans e)
    · have hbS : b ≠ s.heap.objs.size := Nat.ne_of_lt (Heap.lt_size e)
      exact (Heap.get?_update_other _ _ (Ne.symm hbS)).trans ((Heap.get?_update_other _ _ (Ne.symm hbS)).trans (hk₁ _ _ (Heap.get?_push_of_some _ e)))
  refine wpAny_mono key (fun fin s' x => ?_) fun e s' x => x.elim
  cases fin with
  | done f => exact x.elim
  | again c₁ =>
    refine ⟨x.1, codeAny_mono x.2 fun q s₂ y => ?_⟩
    obtain ⟨h', tk, d, acc', c', ks', rfl, rfl, hk, hS', hacc, hp⟩ := y
    show wpAny _ A (load s.heap.objs.size >>= _) _ _ _
    refine wpAny_bind (wpAny_load hS' ?_)
    exact wpAny_pure (h h' tk d acc'.toList ks' hk hacc hp)
end

theorem tone79 : True := by
  w_top off
  trivial
/-! sorted(a set of texts). -/
section
variable {prog : Program} {w : World} {A : Around} {E : Value → Shared → Prop} {s : Shared}
set_option maxHeartbeats 1000000 in
theorem sorted_set {sa : Addr} {so : Obj} {ks : List Str} {h₀ : Heap} {L : Addr} {m : Str → Option Value} {news : List (Addr × Obj)} {Q : Value → Shared → Prop} (hh : A.handled = none)
    (F : Fr h₀ L s.heap m) (N : News h₀ L s.heap news) (hm : (sa, so) ∈ news) (hS : StrSet w so ks) (hz : ks.length ≤ 50)
    (h : ∀ (D : Addr) (h' : Heap) (tk : Nat) (d : Drawn) (vs' : List Value) (ss' : List Str) (e : Nat), Fr h₀ L h' m → News h₀ L h' ((D, seqObj "list" vs'.toArray e) :: news) → (∀ q ∈ news, q.1 < D) →
      StrsAre vs' ss' → ss'.Perm ks → sortedS ss' = true → Q (.ref D) { s with heap := h', toks := tk, drawn := d }) :
    wpAny (model prog w) A (call (.builtin "sorted") [.ref sa]) Q E s := by
  refine Calls.call_function_entry kind_sorted plain_sorted entry_sorted (args_sorted1 _) ?_
  unfold Builtin.«sorted»
  refine wpAny_bind (m := checkCount "sorted" 1 1 _) (wpAny_pure ?_)
  refine wpAny_bind (set_collect (A := A.in1) hh (N _ hm).1 hS (Nat.le_trans hz (by decide)) fun h' tk d acc ks' hk hacc hp => ?_)
  have hl : acc.length ≤ 50 := by rw [hacc.length, hp.length_eq]; exact hz
  refine wpAny_bind (wpAny_newList ?_ (Nat.le_trans hl (Nat.le_trans (by decide : (50 : Nat) ≤ 10000) (by decide))))
  have hoL : (h'.push (seqObj "list" acc.toArray 0)).get? h'.objs.size = some (seqObj "list" acc.toArray 0) := Heap.get?_push_size _ rfl
  refine wpAny_bind (wpAny_holding (wpAny_call_entry slot_list_sort ⟨_, hoL, rfl⟩ entry_list_sort (list_sort_treeK strKind_oneLt hoL hacc.keysOf (fun v₁ v₂ rest e => keyKind_strs (by rw [← e]; exact hacc)) (by omega) fun st' hp2 hs => ⟨_, rfl, ?_⟩) (args_list_sort _)))
  refine wpAny_pure ⟨_, rfl, ?_⟩
  obtain ⟨ss', h1, h2, h3⟩ := sorted_out_str hacc hp2 hs
  have hall : ∀ b o, h'.get? b = some o → (sortedHeap (h'.push (seqObj "list" acc.toArray 0)) h'.objs.size acc ((arrOf st').map (·.2))).get? b = some o := fun b o e' => by
    have hlt := Heap.lt_size e'
    rw [sortedHeap_old (Nat.ne_of_lt hlt) (by rw [size_push']; exact Nat.lt_succ_of_lt hlt), Heap.get?_push_ne _ _ _ (Nat.ne_of_lt hlt)]
    exact e'
  obtain ⟨e, he⟩ := sortedHeap_at (out := (arrOf st').map (·.2)) hoL
  have F1 := F.kept hk
  have N1 : News h₀ L h' news := fun p hp => ⟨hk _ _ (N p hp).1, (N p hp).2⟩
  exact h _ _ tk d _ ss' e (F1.kept hall) (N1.kept_cons F1 hall (Nat.le_refl _) he) (fun q hq => Heap.lt_size (N1 q hq).1) h1 (h2.trans hp) h3
end

theorem tone80 : True := by
  w_top off
  trivial
/-! The main loop's rule: like 15's, but a turn may draw. -/
def DrawQ (h₀ : Heap) (L : Addr) (Jn : (Str → Option Value) → List (Addr × Obj) → Prop) (keep : List (Addr × Obj)) (s₁ : Shared) (Q : Flow → Shared → Prop) (f : Flow) (s₂ : Shared) : Prop :=
  match f with
  | .ret v => Q (.ret v) s₂
  | .brk => Q .next s₂
  | _ => ∃ h' tk dr m' nw', s₂ = { s₁ with heap := h', toks := tk, drawn := dr } ∧ Fr h₀ L h' m' ∧ News h₀ L h' (keep ++ nw') ∧ ((keep ++ nw').map (·.1)).Nodup ∧ Jn m' nw'
theorem DrawQ.next {h₀ : Heap} {L : Addr} {Jn : (Str → Option Value) → List (Addr × Obj) → Prop} {keep : List (Addr × Obj)} {s₁ : Shared} {Q : Flow → Shared → Prop} {h' : Heap} {tk : Nat} {dr : Drawn} {m' : Str → Option Value} (nw' : List (Addr × Obj))
    (F' : Fr h₀ L h' m') (N' : News h₀ L h' (keep ++ nw')) (nd : ((keep ++ nw').map (·.1)).Nodup) (j : Jn m' nw') : DrawQ h₀ L Jn keep s₁ Q .next { s₁ with heap := h', toks := tk, drawn := dr } :=
  ⟨h', tk, dr, m', nw', rfl, F', N', nd, j⟩
section
variable {prog : Program} {w : World} {A : Around} {E : Value → Shared → Prop} {s : Shared} {env : Env} {h₀ : Heap} {x : Str} {body : List Stmt} {Q : Flow → Shared → Prop}
theorem codeAny_forLoop_draw {R : Result → Shared → Prop} {px : Pos} {I : Addr} {n : Nat} {P : Nat → Value → Prop} {St : Nat → Heap → Prop} {m : Str → Option Value} {news : List (Addr × Obj)}
    (J : Nat → (Str → Option Value) → List (Addr × Obj) → Prop) (W : Walks prog w A I [I] [I] n P St) (hx : env.kindOf x = some .local)
    (hp : (env.scope.kind == .class || (env.scope.kind == .module && env.locals != env.globals)) = false)
    (hI₀ : h₀.get? I = none) (hIL : I ≠ env.locals) (hI : ∀ i h, St i h → ∃ o, h.get? I = some o)
    (hst : St 0 s.heap) (F : Fr h₀ env.locals s.heap m) (N : News h₀ env.locals s.heap news) (nd : (I :: news.map (·.1)).Nodup) (hj : J 0 m news)
    (turn : ∀ i v m₁ nw h tk dr oI, i < n → P i v → J i m₁ nw → Fr h₀ env.locals h (fun y => if y = x then some v else m₁ y) → News h₀ env.locals h ((I, oI) :: nw) → (((I, oI) :: nw).map (·.1)).Nodup →
      wpAny (model prog w) A (execs body env) (DrawQ h₀ env.locals (J (i + 1)) [(I, oI)] { s with heap := h, toks := tk, drawn := dr } (fun f s' => R (.ok f) s')) (fun _ _ => False) { s with heap := h, toks := tk, drawn := dr })
    (done : ∀ m₁ nw h tk dr, J n m₁ nw → Fr h₀ env.locals h m₁ → News h₀ env.locals h nw → (nw.map (·.1)).Nodup → R (.ok .next) { s with heap := h, toks := tk, drawn := dr }) :
    codeAny (model prog w) A (.forLoop (.Name x px) (.ref I) body [] env) R s := by
  have hLw : env.locals ∉ [I] := fun h => hIL (List.mem_singleton.mp h).symm
  refine codeAny_forLoop
    (fun k s' => ∃ h' tk dr m' news' i, s' = { s with heap := h', toks := tk, drawn := dr } ∧ St i h' ∧ Fr h₀ env.locals h' m' ∧ News h₀ env.locals h' news' ∧ (I :: news'.map (·.1)).Nodup ∧ J i m' news' ∧ i ≤ n ∧ k = n + 1 - i) ?_ (n + 1)
    ⟨s.heap, s.toks, s.drawn, m, news, 0, rfl, hst, F, N, nd, hj, Nat.zero_le _, rfl⟩
  rintro k s' ⟨h', tk, dr, m', news', i, rfl, hst', F', N', nd', hJ, hi, rfl⟩
  have hne : ∀ p ∈ news', p.1 ∉ [I] := fun p hp hm => (List.nodup_cons.mp nd').1 (List.mem_map.mpr ⟨p, hp, List.mem_singleton.mp hm⟩)
  have next : ∀ h₁ : Heap, (∀ b o, b ∉ [I] → h'.get? b = some o → h₁.get? b = some o) → Fr h₀ env.locals h₁ m' ∧ News h₀ env.locals h₁ news' := fun h₁ hk₁ =>
    ⟨⟨F'.ns.at' fun o e => hk₁ _ o hLw e, fun b o e => hk₁ b o (fun hb => by rw [List.mem_singleton.mp hb, hI₀] at e; cases e) (F'.keep b o e), F'.above⟩, fun p hp => ⟨hk₁ _ _ (hne p hp) (N' p hp).1, (N' p hp).2⟩⟩
  by_cases hlt : i < n
  · refine W.item i _ _ _ hlt hst' fun v h₁ tk₁ hP hst₁ hk₁ => ?_
    obtain ⟨F₁, N₁⟩ := next h₁ hk₁
    refine wpAny_assign_Name (wpAny_storeName_local hx F₁.ns (fun h₂ hn₂ hs₂ => ?_) hp)
    have F₂ := F₁.set hn₂ hs₂
    have hst₂ : St (i + 1) h₂ := W.frame _ _ _ hst₁ fun b hb o e => (hs₂.2 b fun q => hIL ((List.mem_singleton.mp hb) ▸ q)).trans e
    obtain ⟨oI, hoI⟩ := hI _ _ hst₂
    have N₂ := N₁.set hs₂
    refine wpAny_mono (turn i v m' news' h₂ (tk₁ + 1) dr oI hlt hP hJ F₂ (fun p hp => ?_) nd') (fun f s₃ h₃ => ?_) fun _ _ e => False.elim e
    · rcases List.mem_cons.mp hp with rfl | hp
      · exact ⟨hoI, hIL, hI₀⟩
      · exact N₂ p hp
    · have fin : (∃ h' tk dr' m'' nw', s₃ = { s with heap := h', toks := tk, drawn := dr' } ∧ Fr h₀ env.locals h' m'' ∧ News h₀ env.locals h' ([(I, oI)] ++ nw') ∧ (([(I, oI)] ++ nw').map (·.1)).Nodup ∧ J (i + 1) m'' nw') →
          ∃ mm, mm < n + 1 - i ∧ ∃ h' tk dr m' news' i, s₃ = { s with heap := h', toks := tk, drawn := dr } ∧ St i h' ∧ Fr h₀ env.locals h' m' ∧ News h₀ env.locals h' news' ∧ (I :: news'.map (·.1)).Nodup ∧ J i m' news' ∧ i ≤ n ∧ mm = n + 1 - i := by
        rintro ⟨h₃', tk₃, dr₃, m₂, news₂, rfl, F₃, N₃, nd₃, hJ₃⟩
        refine ⟨n + 1 - (i + 1), by omega, h₃', tk₃, dr₃, m₂, news₂, i + 1, rfl, ?_, F₃, N₃.right, nd₃, hJ₃, hlt, rfl⟩
        refine W.frame _ _ _ hst₂ fun b hb o e => ?_
        rw [List.mem_singleton.mp hb] at e ⊢
        rw [hoI] at e
        rw [← Option.some.inj e]
        exact (N₃ (I, oI) (List.mem_cons_self ..)).1
      cases f with
      | ret v => exact h₃
      | brk => exact h₃
      | cont => exact fin h₃
      | next => exact fin h₃
  · have hin : i = n := by omega
    subst hin
    refine W.done _ _ _ hst' fun h₁ tk₁ hk₁ => wpAny_execs_nil ?_
    obtain ⟨F₁, N₁⟩ := next h₁ hk₁
    exact done m' news' h₁ tk₁ dr hJ F₁ N₁ (List.nodup_cons.mp nd').2

theorem For_draw {m : Str → Option Value} {px pos : Pos} {iter : Expr} (hx : env.kindOf x = some .local)
    (hp : (env.scope.kind == .class || (env.scope.kind == .module && env.locals != env.globals)) = false) (hh : A.handled = none)
    (h : wpAny (model prog w) A (eval iter env) (fun xv s₁ => ∃ (r : Addr) (b₀ : Int) (t₀ u₀ v₀ : Tok) (n : Nat) (m₀ : Str → Option Value) (news : List (Addr × Obj)) (J : Nat → (Str → Option Value) → List (Addr × Obj) → Prop), xv = .ref r ∧ IsRange s₁.heap r 0 b₀ 1 t₀ u₀ v₀ ∧ Builtin.Range.small 0 b₀ 1 = true ∧ Builtin.Range.rangeSize 0 b₀ 1 = ((n : Nat) : Int) ∧
      Fr h₀ env.locals s₁.heap m₀ ∧ News h₀ env.locals s₁.heap news ∧ (news.map (·.1)).Nodup ∧ J 0 m₀ news ∧
      (∀ (i : Nat) (t : Tok) (m₁ : Str → Option Value) (nw : List (Addr × Obj)) (hh : Heap) (tk : Nat) (dr : Drawn) (I : Addr) (oI : Obj), i < n → J i m₁ nw → Fr h₀ env.locals hh (fun y => if y = x then some (.int (i : Int) t) else m₁ y) → News h₀ env.locals hh ((I, oI) :: nw) → (((I, oI) :: nw).map (·.1)).Nodup →
        wpAny (model prog w) A (execs body env) (DrawQ h₀ env.locals (J (i + 1)) [(I, oI)] { s₁ with heap := hh, toks := tk, drawn := dr } Q) (fun _ _ => False) { s₁ with heap := hh, toks := tk, drawn := dr }) ∧
      (∀ (m₁ : Str → Option Value) (nw : List (Addr × Obj)) (hh : Heap) (tk : Nat) (dr : Drawn), J n m₁ nw → Fr h₀ env.locals hh m₁ → News h₀ env.locals hh nw → (nw.map (·.1)).Nodup → Q .next { s₁ with heap := hh, toks := tk, drawn := dr })) E s)
    (hs : ∀ x, foldedSetIterable iter env x = pure x := by intro _; rfl) :
    wpAny (model prog w) A (exec (.For (.Name x px) iter body [] pos) env) Q E s := by
  refine wpAny_For (wpAny_mono h (fun xv s₁ h₁ => ?_) fun _ _ e => e) hs
  obtain ⟨r, b₀, t₀, u₀, v₀, n, m₀, news, J, rfl, hr, hsmall, hn, F, N, nd, hj, turn, done⟩ := h₁
  refine wpAny_pyIter_range hr hsmall ?_
  refine codeAny_forLoop_draw (R := fun r s' => match r with | .ok f => Q f s' | .error e => cameBackBy (model prog w) A env E e s') J (Walks.range hh _ 0 1 n) hx hp (next_is_new F) (Nat.ne_of_gt F.ns.lt) (fun i h st => ⟨_, st⟩)
    (by show IsRangeIter _ _ _ _ _; rw [hn]; simpa using Heap.get?_push_size _ rfl) (F.push _) (fun p hp => ⟨Heap.get?_push_of_some _ (N p hp).1, (N p hp).2⟩) (led_size N nd) hj (fun i v m₁ nw h tk dr oI hi hP hJ F₁ N₁ nd₁ => ?_) (fun m₁ nw h tk dr hJ F₁ N₁ nd₁ => done m₁ nw h tk dr hJ F₁ N₁ nd₁)
  obtain ⟨t, rfl⟩ := hP
  have e1 : (0 : Int) + (i : Int) * 1 = (i : Int) := by omega
  rw [e1] at F₁
  exact turn i t m₁ nw h tk dr _ oI hi hJ F₁ N₁ nd₁
end

theorem tone81 : True := by
  w_top off
  trivial
/-! The turn of the main loop: its statements, its ledger, what holds between two turns. -/
def turnOf (body : List Stmt) : List Stmt := match body.drop 3 with | Stmt.For _ _ b _ _ :: _ => b | _ => []
abbrev lawLed (x dx hl hs rl sl nl : Addr) (hh1 hh2 at_ : Int) (th1 th2 ta : Tok) (nd0 nl0 nr n1 n2 : Nat) (so c1 c2 : Obj) (rv rrv ws : List Value) (ps : Array Value) (L : Addr) : List (Addr × Obj) :=
  hsLed x dx hl hs hh1 hh2 th1 th2 nd0 rv nl0 so ++ [(rl, listOf rrv.toArray nr), (sl, listOf #[.ref nl, .int at_ ta] n1), (nl, listOf ws.toArray n2), (L + 1 + 1, c1), (L + 1, c2), (51, tabObj ps)]
def LawInv (w : World) (L : Addr) (NS : List Int) (i : Nat) (m : Str → Option Value) (nw : List (Addr × Obj)) : Prop :=
  ∃ (x dx hl hs rl sl nl : Addr) (hh1 hh2 at_ : Int) (th1 th2 ta : Tok) (nd0 nl0 nr n1 n2 : Nat) (so c1 c2 : Obj) (rv rrv ws : List Value) (row : List Str) (ps : Array Value),
    nw = lawLed x dx hl hs rl sl nl hh1 hh2 at_ th1 th2 ta nd0 nl0 nr n1 n2 so c1 c2 rv rrv ws ps L ∧ IntsAre ws NS ∧ (0 ≤ at_ ∧ at_ ≤ 2 + 8 * (i : Int)) ∧ c1.data = .cell (some (.ref x)) ∧ c2.data = .cell (some (.ref sl)) ∧
    StrsAre rv row ∧ StrsAre rrv row ∧ StrSet w so (row.map Txt.lower) ∧ RowOk row ∧ TabOk ps ∧ m (Str.ofString "row") = some (.ref rl)
theorem hand {h₀ : Heap} {L : Addr} {h : Heap} {l l' r : List (Addr × Obj)} (N : News h₀ L h l') (nd : (l'.map (·.1)).Nodup) (P : Picks l l' r) : News h₀ L h l ∧ (l.map (·.1)).Nodup := by
  have P' := P.perm
  refine ⟨fun q hq => N q (P'.mem_iff.mpr (List.mem_append_left _ hq)), ?_⟩
  have := ((P'.map (·.1)).nodup_iff).mp nd
  rw [List.map_append] at this
  exact (List.nodup_append.mp this).1

theorem tone82 : True := by
  w_top off
  trivial
/-! Small steps of the law's own frame. -/
section
variable {prog : Program} {w : World} {A : Around} {E : Value → Shared → Prop} {s : Shared} {h₀ : Heap} {L l : Addr} {m : Str → Option Value} {news : List (Addr × Obj)} {value slice : PySem.Expr} {vs : List Value} {t : Tok} {j : Nat} {y : Int} {Q : Value → Shared → Prop}
theorem slice_to (F : Fr h₀ L s.heap m) (N : News h₀ L s.heap news) (hl : s.heap.IsList l vs.toArray) (hy : y = (j : Int))
    (h : ∀ D h', Fr h₀ L h' m → News h₀ L h' ((D, listOf (vs.take j).toArray 0) :: news) → (∀ p ∈ news, p.1 < D) → Q (.ref D) { s with heap := h' }) (hz : vs.length ≤ 100)
    (hs : subscripted slice false (.ref l) (.ref s.heap.objs.size) = operate [.ref s.heap.objs.size, .ref l] (getItem (.ref l) (.ref s.heap.objs.size))) (ht : ∀ r, letTemporaryGo value (.ref l) r = pure ()) :
    wpAny (model prog w) A (subscriptTail value slice (.ref l) (.ref s.heap.objs.size)) Q E { s with heap := s.heap.push { cls := .type "slice", data := .fields #[.none, .int y t, .none] } } := by
  subst hy
  refine kmk_slice (lo := none) (hi := some (j : Int)) F N hl .none (.int _ _) (fun D h' F' N' l1 => ?_) hs ht (by rw [List.size_toArray]; exact Nat.le_trans hz (by decide))
  rw [slicePick_upto'] at N'
  exact h D h' F' N' l1
theorem slice_fr (F : Fr h₀ L s.heap m) (N : News h₀ L s.heap news) (hl : s.heap.IsList l vs.toArray) (hy : y = (j : Int))
    (h : ∀ D h', Fr h₀ L h' m → News h₀ L h' ((D, listOf (vs.drop j).toArray 0) :: news) → (∀ p ∈ news, p.1 < D) → Q (.ref D) { s with heap := h' }) (hz : vs.length ≤ 100)
    (hs : subscripted slice false (.ref l) (.ref s.heap.objs.size) = operate [.ref s.heap.objs.size, .ref l] (getItem (.ref l) (.ref s.heap.objs.size))) (ht : ∀ r, letTemporaryGo value (.ref l) r = pure ()) :
    wpAny (model prog w) A (subscriptTail value slice (.ref l) (.ref s.heap.objs.size)) Q E { s with heap := s.heap.push { cls := .type "slice", data := .fields #[.int y t, .none, .none] } } := by
  subst hy
  refine kmk_slice (lo := some (j : Int)) (hi := none) F N hl (.int _ _) .none (fun D h' F' N' l1 => ?_) hs ht (by rw [List.size_toArray]; exact Nat.le_trans hz (by decide))
  rw [slicePick_from'] at N'
  exact h D h' F' N' l1
end
theorem nodup_lt2 {a : Addr} {news : List (Addr × Obj)} {o : Obj} (h : ∀ p ∈ news, p.1 < a) (nd : (news.map (·.1)).Nodup) : (((a, o) :: news).map (·.1)).Nodup := nodup_lt nd h
theorem strs_take {vs : List Value} {ss : List Str} (h : StrsAre vs ss) : ∀ n, StrsAre (vs.take n) (ss.take n) := by
  induction h with
  | nil => intro n; simp; exact .nil
  | cons x t _ ih =>
    intro n
    cases n with
    | zero => exact .nil
    | succ n => exact .cons x t (ih n)
theorem strs_drop {vs : List Value} {ss : List Str} (h : StrsAre vs ss) : ∀ n, StrsAre (vs.drop n) (ss.drop n) := by
  induction h with
  | nil => intro n; simp; exact .nil
  | cons x t h ih =>
    intro n
    cases n with
    | zero => exact .cons x t h
    | succ n => exact ih n
section
variable {prog : Program} {w : World} {A : Around} {E : Value → Shared → Prop} {s : Shared} {Q : Value → Shared → Prop}
theorem ne_same {l b : Addr} {vs ws : List Value} (hl : s.heap.IsList l vs.toArray) (hb : s.heap.IsList b ws.toArray) (hlen : vs.length = ws.length) (hu : A.units < cLine)
    (he : ∀ j (h1 : j < vs.length) (h2 : j < ws.length), SeqAt.EqAt A.in1 s vs[j] ws[j] true) (h : Q (.bool false) s) : wpAny (model prog w) A (compareOp .NotEq (.ref l) (.ref b)) Q E s := by
  have := SeqAt.RcNeAt.lists (A := A) (s := s) (e := fun _ => true) hl hb (by simpa using hlen) hu (fun j h1 h2 => by simpa using he j (by simpa using h1) (by simpa using h2))
  rw [show (!(List.range vs.toArray.size).all fun _ => true) = false from by simp] at this
  exact this prog w E Q h
theorem ne_strs {l b : Addr} {vs ws : List Value} {ks : List Str} (hl : s.heap.IsList l vs.toArray) (hb : s.heap.IsList b ws.toArray) (h1 : StrsAre vs ks) (h2 : StrsAre ws ks) (hu : A.units < cLine) (h : Q (.bool false) s) :
    wpAny (model prog w) A (compareOp .NotEq (.ref l) (.ref b)) Q E s := by
  refine ne_same hl hb (by rw [h1.length, h2.length]) hu (fun j j1 j2 => ?_) h
  obtain ⟨q1, t1, e1, e2⟩ := strs_at h1 (List.getElem?_eq_getElem j1)
  obtain ⟨q2, t2, e3, e4⟩ := strs_at h2 (List.getElem?_eq_getElem j2)
  rw [e1] at e3
  have : q1 = q2 := Option.some.inj e3
  subst this
  rw [e2, e4]
  have := SeqAt.EqAt.str_str (A := A.in1) (s := s) q1 t1 q1 t2
  rwa [beq_self_eq_true] at this
theorem ne_triple {l b : Addr} {a1 a2 : Int} {t1 t2 u1 u2 : Tok} {c : Bool} (hl : s.heap.IsList l #[.int a1 t1, .int a2 t2, .bool c]) (hb : s.heap.IsList b #[.int a1 u1, .int a2 u2, .bool c]) (hu : A.units < cLine) (h : Q (.bool false) s) :
    wpAny (model prog w) A (compareOp .NotEq (.ref l) (.ref b)) Q E s := by
  refine ne_same (vs := [.int a1 t1, .int a2 t2, .bool c]) (ws := [.int a1 u1, .int a2 u2, .bool c]) hl hb rfl hu (fun j j1 j2 => ?_) h
  match j with
  | 0 => have := SeqAt.EqAt.int_int (A := A.in1) (s := s) a1 t1 a1 u1; rwa [beq_self_eq_true] at this
  | 1 => have := SeqAt.EqAt.int_int (A := A.in1) (s := s) a2 t2 a2 u2; rwa [beq_self_eq_true] at this
  | 2 => have := SeqAt.EqAt.bool_bool (A := A.in1) (s := s) c c; rwa [beq_self_eq_true] at this
  | j + 3 => exact absurd j1 (by simp)
end
theorem flat_len : ∀ {l : List Str}, (∀ z ∈ l, z.length ≤ 100) → (l.flatMap fun p => [44, 32] ++ p.cps.toList).length ≤ l.length * 102
  | [], _ => Nat.zero_le _
  | a :: r, h => by
    have h1 : a.cps.size ≤ 100 := h a (List.mem_cons_self ..)
    have h2 := flat_len (l := r) fun z hz => h z (List.mem_cons_of_mem _ hz)
    have h5 : a.cps.toList.length = a.cps.size := Array.length_toList
    rw [List.flatMap_cons, List.length_append, List.length_append, h5]
    have h3 : (([44, 32] : List Nat)).length = 2 := rfl
    have h4 : (a :: r).length = r.length + 1 := rfl
    rw [h3, h4]
    omega
theorem header_len {row : List Str} (h : RowOk row) : (headerS row).length ≤ 1000 := by
  have hl := h.len
  have hok := h.ok
  cases row with
  | nil => decide
  | cons z r =>
    have e : (headerS (z :: r)).cps.toList = (quoteS z).cps.toList ++ (r.map quoteS).flatMap fun p => [44, 32] ++ p.cps.toList := by
      show ((((z :: r).map quoteS).drop 1).foldl (fun acc p => acc ++ (Str.ofString ", ").cps ++ p.cps) (((z :: r).map quoteS).headD Str.empty).cps).toList = _
      rw [glued_list, sep_list]
      rfl
    have h1 : (quoteS z).cps.size ≤ 100 := quoteS_len (hok z (List.mem_cons_self ..))
    have h2 := flat_len (l := r.map quoteS) fun y hy => by
      obtain ⟨x, hx, rfl⟩ := List.mem_map.mp hy
      exact quoteS_len (hok x (List.mem_cons_of_mem _ hx))
    show (headerS (z :: r)).cps.size ≤ 1000
    rw [← Array.length_toList, e, List.length_append, Array.length_toList]
    rw [List.length_map] at h2
    simp only [List.length_cons] at hl
    omega

theorem tone82b : True := by
  w_top off
  trivial
/-! list(heads): by __iter__ and __len__. -/
theorem Picks.push {q : Addr × Obj} : ∀ {fp l r : List (Addr × Obj)}, Picks fp l r → Picks fp (q :: l) (q :: r)
  | _, _, _, .done => .done
  | _, _, _, .one h k => .one (pick_tail h) k.push
theorem Picks.app : ∀ (fp r : List (Addr × Obj)), Picks fp (fp ++ r) r
  | [], _ => .done
  | _ :: fp, r => .one pick_head (Picks.app fp r)
section
variable {prog : Program} {w : World} {dp un : Nat} {gd : Option (List Code)} {cn : Str} {cs : Scope} {L a : Addr} {ccd : Value} {cl : List (Str × Addr)} {outer : List Env} {A₀ : Around} {base h₀ : Heap} {m mg mb : Str → Option Value} {news rest : List (Addr × Obj)} {p : Program} {loose : List Str} {mean : ExcName → Option Value} {s : Shared} {Q E : Value → Shared → Prop}
variable {x dx hl hs : Addr} {hh1 hh2 : Int} {th1 th2 : Tok} {nd0 nl : Nat} {vs : List Value} {so : Obj} {row : List Str}
set_option maxHeartbeats 2000000 in
theorem list_heads (B : Below A₀ base outer h₀) (F : Fr h₀ L s.heap m) (X : (hd.heap_39 w.params).In h₀) (N : News h₀ L s.heap news) (nd : (news.map (·.1)).Nodup) (P : Picks (hsLed x dx hl hs hh1 hh2 th1 th2 nd0 vs nl so) news rest) (T : Top p loose mean mg mb h₀) (hk : cs.kind = .function)
    (hd' : Nat.ble dp 800 = true) (hu : Nat.ble un 8000 = true) (hi : StrsAre vs row) (hS : StrSet w so (row.map Txt.lower)) (hsz : row.length ≤ 50)
    (ret : ∀ D c h' tk', Fr h₀ L h' m → News h₀ L h' ((D, listOf vs.toArray c) :: news) → (∀ q ∈ news, q.1 < D) → Q (.ref D) { s with heap := h', toks := tk' }) :
    wpAny (model prog w) (ktrTop dp un gd cn cs L a ccd cl outer) (call (.type "list") [.ref x]) Q E s := by
  have hdp := Nat.le_of_ble_eq_true hd'
  have hun := Nat.le_of_ble_eq_true hu
  refine callType_codes (Q₁ := fun obj s₁ => obj = .ref s.heap.objs.size ∧ s₁ = { s with heap := s.heap.push { cls := .type "list", data := .seq #[] } }) PySem.F.called_list (PySem.F.typeCall_list_1 _) PySem.F.entry_list_init
    (code_list_new _ ⟨rfl, rfl⟩) fun obj s₁ h₁ => ?_
  obtain ⟨rfl, rfl⟩ := h₁
  have hS0 : (s.heap.push { cls := .type "list", data := .seq #[] }).get? s.heap.objs.size = some { cls := .type "list", data := .seq #[] } := Heap.get?_push_size _ rfl
  refine ⟨⟨_, hS0, rfl⟩, PySem.F.args_list_init_2 _ _, ?_⟩
  show wpAny _ _ (do let old ← Builtin.List.listItems (.ref s.heap.objs.size); Builtin.List.listUpdate (.ref s.heap.objs.size) (fun _ => #[]); letGo old.toList.reverse; Builtin.List.listExtendWith (.ref s.heap.objs.size) (.ref x) .none) _ _ _
  refine wpAny_bind ?_
  unfold Builtin.List.listItems
  refine wpAny_bind (wpAny_seqItems hS0 rfl (wpAny_pure ?_))
  show wpAny _ _ (updateSeq s.heap.objs.size (fun _ => #[]) >>= fun _ => letGo (#[] : Array Value).toList.reverse >>= fun _ => Builtin.List.listExtendWith (.ref s.heap.objs.size) (.ref x) .none) _ _ _
  refine wpAny_bind (wpAny_updateSeq hS0 rfl ?_)
  have hS2 := Heap.get?_update_self (Obj.mapSeq (fun _ => (#[] : Array Value))) hS0 rfl
  refine wpAny_bind (wpAny_letGo ?_)
  have oth : ∀ b o, s.heap.get? b = some o → ((s.heap.push { cls := .type "list", data := .seq #[] }).update s.heap.objs.size (Obj.mapSeq (fun _ => (#[] : Array Value)))).get? b = some o :=
    fun b o e => (Heap.get?_update_other _ _ (Nat.ne_of_gt (Heap.lt_size e))).trans (Heap.get?_push_of_some _ e)
  have F2 := F.kept oth
  have N2 : News h₀ L _ ((s.heap.objs.size, _) :: news) := N.kept_cons F oth (Nat.le_refl _) hS2
  have nd2 : (((s.heap.objs.size, Obj.mapSeq (fun _ => (#[] : Array Value)) { cls := .type "list", data := .seq #[] }) :: news).map (·.1)).Nodup := nodup_lt nd (fun q hq => Heap.lt_size (N q hq).1)
  generalize ((s.heap.push { cls := .type "list", data := .seq #[] }).update s.heap.objs.size (Obj.mapSeq (fun _ => (#[] : Array Value)))) = h₂ at hS2 oth F2 N2 ⊢
  have hx : (x, instObj 202 dx) ∈ news := P.perm.mem_iff.mpr (by simp [hsLed])
  have hdx : (dx, dictOf [⟨hh1, .str (Str.ofString "_headers") th1, .ref hl⟩, ⟨hh2, .str (Str.ofString "_set") th2, .ref hs⟩] nd0) ∈ news := P.perm.mem_iff.mpr (by simp [hsLed])
  have hhl : (hl, listOf vs.toArray nl) ∈ news := P.perm.mem_iff.mpr (by simp [hsLed])
  have hxlt : x < s.heap.objs.size := Heap.lt_size (N _ hx).1
  have I2 := InstAt.of_news N2 (List.mem_cons_of_mem _ hx) (List.mem_cons_of_mem _ hdx)
  unfold Builtin.List.listExtendWith
  refine wpAny_bind (I2.type.here ?_)
  have h1 : Builtin.List.listSameRef (.ref s.heap.objs.size) (.ref x) = false := by simp [Builtin.List.listSameRef, Nat.ne_of_gt hxlt]
  simp only [h1, show (Value.ref 202 == Value.type "list") = false from by decide +kernel, show (Value.ref 202 == Value.type "tuple") = false from by decide +kernel, Bool.or_false, Bool.false_eq_true, if_false]
  refine wpAny_bind (owit_iter F2 X I2 (by k_is) (by k_is) ?_)
  refine Ct.use (dp := dp) (un := un + 2) (iter_ct hi hsz) B F2 X N2 nd2 P.push T hk (Nat.ble_eq_true_of_le (by omega)) (Nat.ble_eq_true_of_le (by omega)) ?_
  rintro v fp' h3 tk3 F3 N3 nd3 ⟨It, rfl, rfl⟩
  refine wpAny_specialOf (T := "list_iterator") ⟨_, (N3 _ (List.mem_append_left _ (List.mem_cons_self ..))).1, rfl⟩ slot_listiter_next.lookup ?_
  dsimp only
  have hx3 : (x, instObj 202 dx) ∈ (It, liObj hl 0) :: hsLed x dx hl hs hh1 hh2 th1 th2 nd0 vs nl so ++ (s.heap.objs.size, Obj.mapSeq (fun _ => (#[] : Array Value)) { cls := .type "list", data := .seq #[] }) :: rest := by simp [hsLed]
  have I3 := InstAt.of_news N3 hx3 (od := dictOf [⟨hh1, .str (Str.ofString "_headers") th1, .ref hl⟩, ⟨hh2, .str (Str.ofString "_set") th2, .ref hs⟩] nd0) (by simp [hsLed])
  refine wpAny_bind (wpAny_holding ?_)
  unfold Builtin.List.listLengthHint
  refine wpAny_bind (wpAny_bind (I3.type.here ((looks_findIn (r := some (.ref 171)) (X.keeps F3.keep) (by k_is)).here ?_)))
  dsimp only
  refine wpAny_ite_split (fun hab => absurd hab Bool.false_ne_true) (fun _ => ?_)
  refine wpAny_ite_split (fun _ => ?_) (fun hab => absurd rfl hab)
  refine wpAny_bind (wpAny_rule ?_)
  refine wpAny_bind (wpAny_attempt (len_K F3 X I3 (by k_is) (by k_is) ?_))
  refine Ct.use (dp := dp) (un := un + 3) (len_ct hS hsz) B F3 X N3 nd3 (Picks.push (Picks.app _ _)) T hk (Nat.ble_eq_true_of_le (by omega)) (Nat.ble_eq_true_of_le (by omega)) ?_
  rintro v fp' h4 tk4 F4 N4 nd4 ⟨t4, rfl, rfl⟩
  refine ⟨⟨by omega, by omega⟩, ?_⟩
  dsimp only
  refine wpAny_bind (wpAny_pure ?_)
  dsimp only
  refine wpAny_ite_split (fun hab => absurd hab (by
    rw [Int.toNat_natCast]
    unfold Builtin.List.listTooLong
    rw [decide_eq_false (Nat.not_lt.mpr (Nat.le_trans hsz (by decide)))]
    exact Bool.false_ne_true)) (fun _ => ?_)
  refine wpAny_pure ?_
  have hmem : ∀ q ∈ news, q ∈ hsLed x dx hl hs hh1 hh2 th1 th2 nd0 vs nl so ++ (It, liObj hl 0) :: (s.heap.objs.size, Obj.mapSeq (fun _ => (#[] : Array Value)) { cls := .type "list", data := .seq #[] }) :: rest := fun q hq => by
    rcases List.mem_append.mp (P.perm.mem_iff.mp hq) with h | h
    · exact List.mem_append_left _ h
    · exact List.mem_append_right _ (List.mem_cons_of_mem _ (List.mem_cons_of_mem _ h))
  have hIt : ∀ q ∈ news, q.1 ≠ It := fun q hq e => by
    have h1 := (List.nodup_cons.mp nd3).1
    refine h1 (List.mem_map.mpr ⟨q, ?_, e⟩)
    rcases List.mem_append.mp (P.perm.mem_iff.mp hq) with h | h
    · exact List.mem_append_left _ h
    · exact List.mem_append_right _ (List.mem_cons_of_mem _ h)
  have hIS : It ≠ s.heap.objs.size := fun e => (List.nodup_cons.mp nd3).1 (List.mem_map.mpr ⟨(s.heap.objs.size, Obj.mapSeq (fun _ => (#[] : Array Value)) { cls := .type "list", data := .seq #[] }), List.mem_append_right _ (List.mem_cons_self ..), e.symm⟩)
  have hlS : hl ≠ s.heap.objs.size := Nat.ne_of_lt (Heap.lt_size (N _ hhl).1)
  have hlI : hl ≠ It := hIt _ hhl
  have hn : vs.toArray.size ≤ sizeLine := by rw [List.size_toArray, hi.length]; exact Nat.le_trans hsz (by decide)
  have hSf : s.heap.objs.size ∉ [It, hl] := by
    simp only [List.mem_cons, List.not_mem_nil, or_false, not_or]
    exact ⟨hIS.symm, hlS.symm⟩
  have eIt := (N4 (It, liObj hl 0) (List.mem_append_right _ (List.mem_cons_self ..))).1
  have ehl := (N4 _ (hmem _ hhl)).1
  have eS := (N4 (s.heap.objs.size, Obj.mapSeq (fun _ => (#[] : Array Value)) { cls := .type "list", data := .seq #[] }) (List.mem_append_right _ (List.mem_cons_of_mem _ (List.mem_cons_self ..)))).1
  have go : ∀ (h : Heap) (c₁ tk : Nat), h.get? It = some (liObj hl 0) → (∀ b o, b ≠ s.heap.objs.size → h4.get? b = some o → h.get? b = some o) →
      h.get? s.heap.objs.size = some { cls := .type "list", data := .seq #[] c₁ } → codeAny (model prog w) (ktrTop dp un gd cn cs L a ccd cl outer).in1 (.builtin "list.extend.loop" ⟨[.ref s.heap.objs.size, .ref It, .none], []⟩)
        (wants (fun r s₂ => r = Value.none ∧ Q (Value.ref s.heap.objs.size) s₂) E) { s with heap := h, toks := tk } := by
    intro h c₁ tk hIth hk hS1
    refine codeAny_extend_loopS (Walks.list (prog := prog) (w := w) rfl It hl hlI vs.toArray).toS hn s.heap.objs.size hSf .none vs.toArray.size 0 _ #[] c₁ rfl (Nat.zero_le _) ⟨⟨_, hIth, rfl, rfl⟩, ⟨_, hk _ _ hlS ehl, rfl, nl, rfl⟩⟩ hS1 (ItemsOf.nil _) fun s' acc' c' hm hS' hacc => ?_
    rw [Moved.eq_with hm]
    have hacc' : acc' = vs.toArray := by
      refine Array.ext (by rw [hacc.1]) fun j h1 h2 => ?_
      have : vs.toArray[j]? = some _ := hacc.2 j _ (Array.getElem?_eq_getElem h1)
      rw [Array.getElem?_eq_getElem h2] at this
      exact (Option.some.inj this).symm
    rw [hacc'] at hS'
    have hkk : ∀ b o, b ≠ s.heap.objs.size → b ≠ It → h4.get? b = some o → s'.heap.get? b = some o := fun b o h1 h2 e => hm.heap b o (fun hmem => by
      rcases List.mem_cons.mp hmem with e' | hmem
      · exact h1 e'
      · exact h2 (List.mem_singleton.mp hmem)) (hk b o h1 e)
    have nS := (N4 _ (List.mem_append_right _ (List.mem_cons_of_mem _ (List.mem_cons_self ..)))).2
    have nI := (N4 (It, liObj hl 0) (List.mem_append_right _ (List.mem_cons_self ..))).2
    refine ⟨rfl, ret _ c' s'.heap s'.toks ⟨F4.ns.at' fun o e => hkk _ o (fun e' => nS.1 e'.symm) (fun e' => nI.1 e'.symm) e, fun b o e => hkk b o (fun e' => ?_) (fun e' => ?_) (F4.keep b o e), F4.above⟩ (fun q hq => ?_) (fun q hq => Heap.lt_size (N q hq).1)⟩
    · rw [e'] at e; rw [nS.2] at e; cases e
    · rw [e'] at e; rw [nI.2] at e; cases e
    · rcases List.mem_cons.mp hq with rfl | hq
      · exact ⟨hS', nS⟩
      · have := N4 q (hmem q hq)
        exact ⟨hkk _ _ (Nat.ne_of_lt (Heap.lt_size (N q hq).1)) (hIt q hq) this.1, this.2⟩
  refine wpAny_ite_split (fun _ => ?_) (fun _ => wpAny_pure ⟨plainId_quiet PySem.F.plain_extend_loop _, go _ _ _ eIt (fun b o _ e => e) eS⟩)
  refine wpAny_bind (wpAny_rule ?_)
  refine wpAny_bind ?_
  show wpAny _ _ (updateSeq s.heap.objs.size (·.push .none) >>= fun _ => updateSeq s.heap.objs.size (·.pop)) _ _ _
  refine wpAny_bind (wpAny_updateSeq eS rfl ?_)
  have hS₃ := Heap.get?_update_self (Obj.mapSeq (·.push Value.none)) eS rfl
  refine wpAny_updateSeq (hz := by seq_fits) hS₃ rfl ?_
  have hS₄ := Heap.get?_update_self (Obj.mapSeq (·.pop)) hS₃ rfl
  refine wpAny_pure ⟨plainId_quiet PySem.F.plain_extend_loop _, go _ _ _ ?_ (fun b o hb e => ?_) hS₄⟩
  · exact (Heap.get?_update_other _ _ hIS.symm).trans ((Heap.get?_update_other _ _ hIS.symm).trans eIt)
  · exact (Heap.get?_update_other _ _ (Ne.symm hb)).trans ((Heap.get?_update_other _ _ (Ne.symm hb)).trans e)
end

theorem tone83 : True := by
  w_top off
  trivial
/-! The turn from its statement 7 on. -/
theorem turn_p7 {fa : Addr} {cd : Value} {prog : Program} {w : World} {H : Heap} {name qual : Str} {params : Arguments} {body : List Stmt} {scope : Scope} {dV kV doc pm cdv ct oc : Value} {an od : Option Addr} {osl : Array (Option Value)} {mg mb : Str → Option Value} {p : Program} {loose : List Str} {mean : ExcName → Option Value} {L : Addr} {s₁ : Shared} {h₁ : Heap} {tk₁ : Nat} {dr₁ : Drawn} {m : Str → Option Value} {I x dx hl hs rl sl nl : Addr} {oI : Obj} {hh1 hh2 at_ : Int} {th1 th2 ta : Tok} {nd0 nl0 nr n1 n2 : Nat} {so c1 c2 : Obj} {rv rrv ws : List Value} {NS : List Int} {row : List Str} {ps : Array Value} {i : Nat} {Q : Flow → Shared → Prop} {q : Str} {tq : Tok} (ho : (hd.heap_39 w.params).lookup 249 = some ⟨oc, od, .func (fnOf name qual params body scope dV kV doc pm an cdv ct), osl⟩) (KB : Below callerA H [] H) (XX : (hd.heap_39 w.params).In H) (TT : Top p loose mean mg mb H) (hNS : (3 ≤ NS.length ∧ NS.length ≤ 27) ∧ ∀ x ∈ NS, 0 ≤ x ∧ x < 1000003) (hws : IntsAre ws NS) (hi : i < 21) (hc1 : c1.data = .cell (some (.ref x))) (hc2 : c2.data = .cell (some (.ref sl))) (hrv : StrsAre rv row) (hrr : StrsAre rrv row) (hS : StrSet w so (row.map Txt.lower)) (hok : RowOk row) (hps : TabOk ps) (F : Fr H L h₁ m) (hmr : m (Str.ofString "row") = some (.ref rl))
    (hat : 0 ≤ at_ ∧ at_ ≤ 2 + 8 * (i : Int) + 8) (hq : q ∈ menu) (hma : m (Str.ofString "asked") = some (.str q tq)) (N : News H L h₁ ((I, oI) :: lawLed x dx hl hs rl sl nl hh1 hh2 at_ th1 th2 ta nd0 nl0 nr n1 n2 so c1 c2 rv rrv ws ps L)) (nd : (((I, oI) :: lawLed x dx hl hs rl sl nl hh1 hh2 at_ th1 th2 ta nd0 nl0 nr n1 n2 so c1 c2 rv rrv ws ps L).map (·.1)).Nodup) :
    wpAny (model prog w) (callerA.deeper (envOfC qual scope L fa cd)) (execs ((turnOf body).drop 7) (envOfC qual scope L fa cd)) (DrawQ H L (LawInv w L NS (i + 1)) [(I, oI)] s₁ Q) (fun _ _ => False) { s₁ with heap := h₁, toks := tk₁, drawn := dr₁ } := by
  rw [show (hd.heap_39 w.params).lookup 249 = some _ from by k_is] at ho; have ho' := ho; cases ho
  simp only [turnOf, List.drop_succ_cons, List.drop_zero]
  (try k_fold)
  replace F := fr_known0 F hmr
  replace F := fr_known0 (n := Str.ofString "asked") F hma
  simp only [lawLed, hsLed, List.cons_append, List.nil_append] at N
  simp only [lawLed, hsLed, List.cons_append, List.nil_append, List.map_cons, List.map_nil] at nd
  have hrl := hok.len
  obtain ⟨hp1, hp2, hp3, hp4⟩ := parse_header hok.1
  repeat ((fail_if_success (with_reducible show wpAny _ _ (call (Value.ref _) _) _ _ _)); walk1)
  rename Fr H L _ _ => F1
  rename News H L _ _ => N1
  refine Ct.use (header_ct hrv (by omega) hok.ok) KB F1 XX N1 nd (by ((try simp only [hsLed, List.cons_append, List.nil_append]); repeat' (first | exact Picks.done | exact pick_head | refine' pick_tail ?_ | refine' Picks.one ?_ ?_))) TT rfl rfl rfl ?_
  rintro v fp' h2 tk2 F2 N2 nd2 ⟨t2, rfl, rfl⟩
  simp only [hsLed, List.cons_append, List.nil_append, List.map_cons, List.map_nil] at N2 nd2
  repeat ((fail_if_success (with_reducible show wpAny _ _ (call (Value.ref _) _) _ _ _)); walk1)
  rename Fr H L _ _ => F3
  rename News H L _ _ => N3
  refine Ct.use (parse_ct hps (header_len hok) hp2 hp3 hp4) KB F3 XX N3 nd2 (by ((try simp only [hsLed, List.cons_append, List.nil_append]); repeat' (first | exact Picks.done | exact pick_head | refine' pick_tail ?_ | refine' Picks.one ?_ ?_))) TT rfl rfl rfl ?_
  rintro v fp' h4 tk4 F4 N4 nd4 ⟨D1, vs4, n4, ps', rfl, rfl, hps', hs4⟩
  rw [hp1] at hs4
  simp only [List.cons_append, List.nil_append, List.map_cons, List.map_nil] at N4 nd4
  repeat ((fail_if_success (with_reducible show wpAny _ _ (compareOp CmpOp.NotEq _ _) _ _ _)); walk1)
  rename Fr H L _ _ => F5
  rename News H L _ _ => N5
  refine ne_strs (News.isList N5 (by k_mem)) (News.isList N5 (by k_mem)) hs4 hrr (room_of rfl) ?_
  repeat ((fail_if_success (with_reducible show wpAny _ _ (eval (Expr.ListComp _ _ _ _) _) _ _ _)); walk1)
  rename Fr H L _ _ => F6
  rename News H L _ _ => N6
  refine ListComp_G (F₀ := F6) (by with_unfolding_all rfl) (by decide) rfl (by decide) rfl ?_
  have hrl2 := hrr.length
  repeat ((fail_if_success (with_reducible show wpAny _ _ (call (Value.builtin "len") _) _ _ _)); walk1)
  rename Fr H L _ _ => F7
  rename News H L _ _ => N7
  refine kun_lenL (k := (row.length : Int)) (News.isList N7 (by k_mem)) (by rw [List.size_toArray, hrl2]) (by omega) ?_
  repeat ((fail_if_success (with_reducible show wpAny _ _ (pyIter _) _ _ _)); walk1)
  rename IsRange _ _ _ _ _ _ _ _ => R1
  rename Fr H L _ _ => F8
  rename News H L _ _ => N8
  have hr := range_n (n := row.length) (by omega)
  refine it_range (n := row.length) rfl R1 hr.1 hr.2 ?_
  intro o hof hit
  refine CompAt.mk (fun j ys nw => nw = _ ∧ StrsAre ys (row.take j)) hit (by omega) (by intro i ys nw _ p hp; cases hp) F8 N8 nd4 ⟨rfl, .nil⟩ ?_ ?_
  · rintro j v ys I2 oI2 C oC D oD m₂ nw h tk E' hjn ⟨tv, rfl⟩ ⟨rfl, hys⟩ hAcc hyl hoC hmx F9 N9 nd9
    repeat ((fail_if_success (with_reducible show wpAny _ _ (call (Value.ref _) _) _ _ _)); walk1)
    rename Fr H L _ _ => F10
    rename News H L _ _ => N10
    refine Ct.use (getitem_ct hrv hjn (by omega)) KB F10 XX N10 nd9 (by ((try simp only [hsLed, List.cons_append, List.nil_append]); repeat' (first | exact Picks.done | exact pick_head | refine' pick_tail ?_ | refine' Picks.one ?_ ?_))) TT rfl rfl rfl ?_
    rintro v fp' h11 tk11 F11 N11 nd11 ⟨t11, rfl, rfl⟩
    simp only [hsLed, List.cons_append, List.nil_append, List.map_cons, List.map_nil] at N11 nd11
    refine CEnd.intro _ F11 N11 (Picks.sub (by ((try simp only [hsLed, List.cons_append, List.nil_append]); repeat' (first | exact Picks.done | exact pick_head | refine' pick_tail ?_ | refine' Picks.one ?_ ?_)))) nd9 ⟨trivial, rfl, ?_⟩
    rw [List.take_add_one, List.getElem?_eq_getElem hjn, List.getD_eq_getElem?_getD, List.getElem?_eq_getElem hjn]
    exact hys.append' (.cons _ _ .nil)
  · rintro ys nw ⟨rfl, hys⟩ nd9 D oD h tk rfl F9 N9 nd10
    rw [List.take_length] at hys
    clear hit
    repeat ((fail_if_success (with_reducible show wpAny _ _ (compareOp CmpOp.NotEq _ _) _ _ _)); walk1)
    rename Fr H L _ _ => F11
    rename News H L _ _ => N11
    refine ne_strs (News.isList N11 (by k_mem)) (News.isList N11 (by k_mem)) hys hrr (room_of rfl) ?_
    repeat ((fail_if_success (with_reducible show wpAny _ _ (call (Value.ref _) _) _ _ _)); walk1)
    rename Fr H L _ _ => F12
    rename News H L _ _ => N12
    refine Ct.use (asset_f_ct hS hrl) KB F12 XX N12 nd10 (by ((try simp only [hsLed, List.cons_append, List.nil_append]); repeat' (first | exact Picks.done | exact pick_head | refine' pick_tail ?_ | refine' Picks.one ?_ ?_))) TT rfl rfl rfl ?_
    rintro v fp' h13 tk13 F13 N13 nd13 ⟨D2, o2, rfl, rfl, hS2⟩
    simp only [hsLed, List.cons_append, List.nil_append, List.map_cons, List.map_nil] at N13 nd13
    repeat ((fail_if_success (with_reducible show wpAny _ _ (call (Value.builtin "sorted") _) _ _ _)); walk1)
    rename Fr H L _ _ => F14
    rename News H L _ _ => N14
    refine sorted_set rfl F14 N14 (by k_mem) hS2 (by rw [List.length_map]; omega) ?_
    intro D3 h15 tk15 d15 vs15 ss15 e15 F15 N15 l15 hs15 hp15 hsr15
    have nd15 := nodup_lt2 (o := seqObj "list" vs15.toArray e15) l15 nd13
    repeat ((fail_if_success (with_reducible show wpAny _ _ (eval (Expr.ListComp _ _ _ _) _) _ _ _)); walk1)
    rename Fr H L _ _ => F16
    rename News H L _ _ => N16
    refine ListComp_G (F₀ := F16) (by with_unfolding_all rfl) (by decide) rfl (by decide) rfl ?_
    repeat ((fail_if_success (with_reducible show wpAny _ _ (pyIter _) _ _ _)); walk1)
    rename Fr H L _ _ => F17
    rename News H L _ _ => N17
    refine it_list (vs := rrv) rfl N17 (by k_mem) ?_
    intro o hof hit
    refine CompAt.mk (fun j ys nw => nw = _ ∧ StrsAre ys ((row.take j).map Txt.lower)) hit (by omega) ?_ F17 N17 nd15 ⟨rfl, .nil⟩ ?_ ?_
    · rintro j ys nw ⟨rfl, _⟩ p hp
      rw [List.mem_singleton.mp hp]; k_mem
    · rintro j v ys I2 oI2 C oC D4 oD m₂ nw h tk E' hjn hP ⟨rfl, hys4⟩ hAcc hyl hoC hmx F18 N18 nd18
      obtain ⟨z, tz, hz, rfl⟩ := strs_at hrr hP
      have hz2 := (menu_len z (hok.1 z (List.mem_of_getElem? hz))).1
      k_steps
      rename Fr H L _ _ => F19
      rename News H L _ _ => N19
      refine CEnd.intro _ F19 N19 (Picks.sub (by ((try simp only [hsLed, List.cons_append, List.nil_append]); repeat' (first | exact Picks.done | exact pick_head | refine' pick_tail ?_ | refine' Picks.one ?_ ?_)))) nd18 ⟨trivial, rfl, ?_⟩
      rw [List.take_add_one, hz, List.map_append]
      exact hys4.append' (.cons _ _ .nil)
    · rintro ys4 nw ⟨rfl, hys4⟩ nd18 D4 oD4 h19 tk19 rfl F18 N18 nd19
      rw [List.take_of_length_le (Nat.le_of_eq hrr.length.symm)] at hys4
      clear hit
      repeat ((fail_if_success (with_reducible show wpAny _ _ (call (Value.builtin "sorted") _) _ _ _)); walk1)
      rename Fr H L _ _ => F20
      rename News H L _ _ => N20
      refine sorted_N_str F20 N20 (News.isList N20 (List.mem_cons_self ..)) hys4 (by rw [hys4.length, List.length_map]; omega) ?_
      intro h21 vs21 ss21 e21 F21 N21 hs21 hp21 hsr21
      have hss : ss15 = ss21 := sorted_unique (hp15.trans hp21.symm) hsr15 hsr21
      subst hss
      refine ne_strs (vs := vs15) (ws := vs21) ⟨_, (N21 _ (List.mem_cons_of_mem _ (List.mem_cons_of_mem _ (List.mem_cons_self ..)))).1, rfl, _, rfl⟩ ⟨_, (N21 _ (List.mem_cons_self ..)).1, rfl, _, rfl⟩ hs15 hs21 (room_of rfl) ?_
      dsimp only at F21 N21
      have nd21 := nodup_lt2 (a := h19.objs.size + 1) (o := seqObj "list" vs21.toArray e21) (fun p hp => Nat.lt_succ_of_lt (Heap.lt_size (N20 p hp).1)) nd19
      repeat ((fail_if_success (show DrawQ _ _ _ _ _ _ _ _)); walk1)
      rename Fr H L _ _ => F22
      rename News H L _ _ => N22
      obtain ⟨N23, nd23⟩ := hand (l := (I, oI) :: lawLed x dx hl hs rl sl nl hh1 hh2 at_ th1 th2 ta nd0 nl0 nr n1 n2 so c1 c2 rv rrv ws ps' L) N22 nd21 (by simp only [lawLed]; ((try simp only [hsLed, List.cons_append, List.nil_append]); repeat' (first | exact Picks.done | exact pick_head | refine' pick_tail ?_ | refine' Picks.one ?_ ?_)))
      refine DrawQ.next (lawLed x dx hl hs rl sl nl hh1 hh2 at_ th1 th2 ta nd0 nl0 nr n1 n2 so c1 c2 rv rrv ws ps' L) F22 N23 nd23 ?_
      exact ⟨x, dx, hl, hs, rl, sl, nl, hh1, hh2, at_, th1, th2, ta, nd0, nl0, nr, n1, n2, so, c1, c2, rv, rrv, ws, row, ps', rfl, hws, ⟨hat.1, by omega⟩, hc1, hc2, hrv, hrr, hS, hok, hps', rfl⟩

theorem tone84 : True := by
  w_top off
  trivial
/-! The turn from its statement 6 on. -/
theorem turn_p6 {fa : Addr} {cd : Value} {prog : Program} {w : World} {H : Heap} {name qual : Str} {params : Arguments} {body : List Stmt} {scope : Scope} {dV kV doc pm cdv ct oc : Value} {an od : Option Addr} {osl : Array (Option Value)} {mg mb : Str → Option Value} {p : Program} {loose : List Str} {mean : ExcName → Option Value} {L : Addr} {s₁ : Shared} {h₁ : Heap} {tk₁ : Nat} {dr₁ : Drawn} {m : Str → Option Value} {I x dx hl hs rl sl nl : Addr} {oI : Obj} {hh1 hh2 at_ : Int} {th1 th2 ta : Tok} {nd0 nl0 nr n1 n2 : Nat} {so c1 c2 : Obj} {rv rrv ws : List Value} {NS : List Int} {row : List Str} {ps : Array Value} {i : Nat} {Q : Flow → Shared → Prop} {q : Str} {tq : Tok} (ho : (hd.heap_39 w.params).lookup 249 = some ⟨oc, od, .func (fnOf name qual params body scope dV kV doc pm an cdv ct), osl⟩) (KB : Below callerA H [] H) (XX : (hd.heap_39 w.params).In H) (TT : Top p loose mean mg mb H) (hNS : (3 ≤ NS.length ∧ NS.length ≤ 27) ∧ ∀ x ∈ NS, 0 ≤ x ∧ x < 1000003) (hws : IntsAre ws NS) (hi : i < 21) (hc1 : c1.data = .cell (some (.ref x))) (hc2 : c2.data = .cell (some (.ref sl))) (hrv : StrsAre rv row) (hrr : StrsAre rrv row) (hS : StrSet w so (row.map Txt.lower)) (hok : RowOk row) (hps : TabOk ps) (F : Fr H L h₁ m) (hmr : m (Str.ofString "row") = some (.ref rl))
    (hat : 0 ≤ at_ ∧ at_ ≤ 2 + 8 * (i : Int) + 8) (hq : q ∈ menu) (hma : m (Str.ofString "asked") = some (.str q tq)) (N : News H L h₁ ((I, oI) :: lawLed x dx hl hs rl sl nl hh1 hh2 at_ th1 th2 ta nd0 nl0 nr n1 n2 so c1 c2 rv rrv ws ps L)) (nd : (((I, oI) :: lawLed x dx hl hs rl sl nl hh1 hh2 at_ th1 th2 ta nd0 nl0 nr n1 n2 so c1 c2 rv rrv ws ps L).map (·.1)).Nodup) :
    wpAny (model prog w) (callerA.deeper (envOfC qual scope L fa cd)) (execs ((turnOf body).drop 6) (envOfC qual scope L fa cd)) (DrawQ H L (LawInv w L NS (i + 1)) [(I, oI)] s₁ Q) (fun _ _ => False) { s₁ with heap := h₁, toks := tk₁, drawn := dr₁ } := by
  rw [show (hd.heap_39 w.params).lookup 249 = some _ from by k_is] at ho; have ho' := ho; cases ho
  simp only [turnOf, List.drop_succ_cons, List.drop_zero]
  (try k_fold)
  replace F := fr_known0 F hmr
  replace F := fr_known0 (n := Str.ofString "asked") F hma
  simp only [lawLed, hsLed, List.cons_append, List.nil_append] at N
  simp only [lawLed, hsLed, List.cons_append, List.nil_append, List.map_cons, List.map_nil] at nd
  have hrl := hok.len
  have hql := (menu_len q hq).1
  repeat ((fail_if_success (with_reducible show wpAny _ _ (call (Value.ref _) _) _ _ _)); walk1)
  rename Fr H L _ _ => F1
  rename News H L _ _ => N1
  refine Ct.use (find_ct hrv (by omega) hok.sz (by omega)) KB F1 XX N1 nd (by ((try simp only [hsLed, List.cons_append, List.nil_append]); repeat' (first | exact Picks.done | exact pick_head | refine' pick_tail ?_ | refine' Picks.one ?_ ?_))) TT rfl rfl rfl ?_
  rintro v fp' h2 tk2 F2 N2 nd2 ⟨t2, rfl, rfl⟩
  simp only [hsLed, List.cons_append, List.nil_append, List.map_cons, List.map_nil] at N2 nd2
  repeat ((fail_if_success (with_reducible show wpAny _ _ (call (Value.ref _) _) _ _ _)); walk1)
  rename Fr H L _ _ => F3
  rename News H L _ _ => N3
  refine CtX.use (index_ct hrv (by omega) hok.sz (by omega)) KB F3 XX N3 nd2 (by ((try simp only [hsLed, List.cons_append, List.nil_append]); repeat' (first | exact Picks.done | exact pick_head | refine' pick_tail ?_ | refine' Picks.one ?_ ?_))) TT rfl rfl rfl ?_
  rintro v fp' h4 tk4 F4 N4 nd4 ⟨t4, rfl, rfl⟩
  simp only [hsLed, List.cons_append, List.nil_append, List.map_cons, List.map_nil] at N4 nd4
  repeat ((fail_if_success (with_reducible show wpAny _ _ (call (Value.ref _) _) _ _ _)); walk1)
  rename Fr H L _ _ => F5
  rename News H L _ _ => N5
  refine Ct.use (contains_ct hS (by omega) (by omega)) KB F5 XX N5 nd4 (by ((try simp only [hsLed, List.cons_append, List.nil_append]); repeat' (first | exact Picks.done | exact pick_head | refine' pick_tail ?_ | refine' Picks.one ?_ ?_))) TT rfl rfl rfl ?_
  rintro v fp' h6 tk6 F6 N6 nd6 ⟨rfl, rfl⟩
  simp only [hsLed, List.cons_append, List.nil_append, List.map_cons, List.map_nil] at N6 nd6
  repeat ((fail_if_success (with_reducible show wpAny _ _ (call (Value.ref _) _) _ _ _)); walk1)
  rename Fr H L _ _ => F7
  rename News H L _ _ => N7
  rename Addr => D1
  have nd7 : ((_ :: _ : List (Addr × Obj)).map (·.1)).Nodup := nodup_lt2 (a := D1) (o := listOf #[Value.int (place row q) t2, Value.int (place row q) t4, Value.bool (lowS row (Txt.lower q))] 0) (news := [(x, instObj 202 dx),
    (dx, dictOf [⟨hh1, .str (Str.ofString "_headers") th1, .ref hl⟩, ⟨hh2, .str (Str.ofString "_set") th2, .ref hs⟩] nd0), (hl, listOf rv.toArray nl0), (hs, so), (I, oI), (rl, listOf rrv.toArray nr), (sl, listOf #[Value.ref nl, Value.int at_ ta] n1), (nl, listOf ws.toArray n2), (L + 1 + 1, c1), (L + 1, c2), (51, tabObj ps)])
    (by simp only [List.forall_mem_cons, List.not_mem_nil, false_implies, implies_true, and_true]; omega) nd6
  refine Ct.use (place_ct (row := row) hrr (by omega) hok.sz (by omega)) KB F7 XX N7 nd7 (by ((try simp only [hsLed, List.cons_append, List.nil_append]); repeat' (first | exact Picks.done | exact pick_head | refine' pick_tail ?_ | refine' Picks.one ?_ ?_))) TT rfl rfl rfl ?_
  rintro v fp' h8 tk8 F8 N8 nd8 ⟨t8, rfl, rfl⟩
  simp only [List.cons_append, List.nil_append, List.map_cons, List.map_nil] at N8 nd8
  repeat ((fail_if_success (with_reducible show wpAny _ _ (call (Value.ref _) _) _ _ _)); walk1)
  rename Fr H L _ _ => F9
  rename News H L _ _ => N9
  refine Ct.use (place_ct (row := row) hrr (by omega) hok.sz (by omega)) KB F9 XX N9 nd8 (by ((try simp only [hsLed, List.cons_append, List.nil_append]); repeat' (first | exact Picks.done | exact pick_head | refine' pick_tail ?_ | refine' Picks.one ?_ ?_))) TT rfl rfl rfl ?_
  rintro v fp' h10 tk10 F10 N10 nd10 ⟨t10, rfl, rfl⟩
  simp only [List.cons_append, List.nil_append, List.map_cons, List.map_nil] at N10 nd10
  repeat ((fail_if_success (with_reducible show wpAny _ _ (call (Value.ref _) _) _ _ _)); walk1)
  rename Fr H L _ _ => F11
  rename News H L _ _ => N11
  refine Ct.use (place_ct (row := row) hrr (by omega) hok.sz (by omega)) KB F11 XX N11 nd10 (by ((try simp only [hsLed, List.cons_append, List.nil_append]); repeat' (first | exact Picks.done | exact pick_head | refine' pick_tail ?_ | refine' Picks.one ?_ ?_))) TT rfl rfl rfl ?_
  rintro v fp' h12 tk12 F12 N12 nd12 ⟨t12, rfl, rfl⟩
  simp only [List.cons_append, List.nil_append, List.map_cons, List.map_nil] at N12 nd12
  repeat ((fail_if_success (with_reducible show wpAny _ _ (compareOp CmpOp.NotEq _ _) _ _ _)); walk1)
  rename Fr H L _ _ => F13
  rename News H L _ _ => N13
  rename Addr => D2
  rw [← place_lowS] at N13
  refine ne_triple ⟨_, (N13 (D1, _) (List.mem_cons_of_mem _ (List.mem_cons_of_mem _ (List.mem_cons_self ..)))).1, rfl, _, rfl⟩ ⟨_, (N13 _ (List.mem_cons_self ..)).1, rfl, _, rfl⟩ (room_of rfl) ?_
  repeat ((fail_if_success (with_reducible show wpAny _ _ (execs (Stmt.If _ _ _ _ :: _) _) _ _ _)); walk1)
  rename Fr H L _ _ => F14
  rename News H L _ _ => N14
  obtain ⟨N15, nd15⟩ := hand (l := (I, oI) :: lawLed x dx hl hs rl sl nl hh1 hh2 at_ th1 th2 ta nd0 nl0 nr n1 n2 so c1 c2 rv rrv ws ps L) N14 (by (refine List.nodup_cons.mpr ⟨not_mem_of ?_, by assumption⟩; (simp only [List.map_cons, List.map_nil, NeOne, and_true]); omega)) (by simp only [lawLed]; ((try simp only [hsLed, List.cons_append, List.nil_append]); repeat' (first | exact Picks.done | exact pick_head | refine' pick_tail ?_ | refine' Picks.one ?_ ?_)))
  exact turn_p7 ho' KB XX TT hNS hws hi hc1 hc2 hrv hrr hS hok hps F14 rfl hat hq rfl N15 nd15

theorem tone85 : True := by
  w_top off
  trivial
/-! The turn from its statement 5 on. -/
theorem turn_p5 {fa : Addr} {cd : Value} {prog : Program} {w : World} {H : Heap} {name qual : Str} {params : Arguments} {body : List Stmt} {scope : Scope} {dV kV doc pm cdv ct oc : Value} {an od : Option Addr} {osl : Array (Option Value)} {mg mb : Str → Option Value} {p : Program} {loose : List Str} {mean : ExcName → Option Value} {L : Addr} {s₁ : Shared} {h₁ : Heap} {tk₁ : Nat} {dr₁ : Drawn} {m : Str → Option Value} {I x dx hl hs rl sl nl : Addr} {oI : Obj} {hh1 hh2 at_ : Int} {th1 th2 ta : Tok} {nd0 nl0 nr n1 n2 : Nat} {so c1 c2 : Obj} {rv rrv ws : List Value} {NS : List Int} {row : List Str} {ps : Array Value} {i : Nat} {Q : Flow → Shared → Prop} {q : Str} {tq : Tok} (ho : (hd.heap_39 w.params).lookup 249 = some ⟨oc, od, .func (fnOf name qual params body scope dV kV doc pm an cdv ct), osl⟩) (KB : Below callerA H [] H) (XX : (hd.heap_39 w.params).In H) (TT : Top p loose mean mg mb H) (hNS : (3 ≤ NS.length ∧ NS.length ≤ 27) ∧ ∀ x ∈ NS, 0 ≤ x ∧ x < 1000003) (hws : IntsAre ws NS) (hi : i < 21) (hc1 : c1.data = .cell (some (.ref x))) (hc2 : c2.data = .cell (some (.ref sl))) (hrv : StrsAre rv row) (hrr : StrsAre rrv row) (hS : StrSet w so (row.map Txt.lower)) (hok : RowOk row) (hps : TabOk ps) (F : Fr H L h₁ m) (hmr : m (Str.ofString "row") = some (.ref rl))
    (hat : 0 ≤ at_ ∧ at_ ≤ 2 + 8 * (i : Int) + 8) (hq : q ∈ menu) (hma : m (Str.ofString "asked") = some (.str q tq)) (N : News H L h₁ ((I, oI) :: lawLed x dx hl hs rl sl nl hh1 hh2 at_ th1 th2 ta nd0 nl0 nr n1 n2 so c1 c2 rv rrv ws ps L)) (nd : (((I, oI) :: lawLed x dx hl hs rl sl nl hh1 hh2 at_ th1 th2 ta nd0 nl0 nr n1 n2 so c1 c2 rv rrv ws ps L).map (·.1)).Nodup) :
    wpAny (model prog w) (callerA.deeper (envOfC qual scope L fa cd)) (execs ((turnOf body).drop 5) (envOfC qual scope L fa cd)) (DrawQ H L (LawInv w L NS (i + 1)) [(I, oI)] s₁ Q) (fun _ _ => False) { s₁ with heap := h₁, toks := tk₁, drawn := dr₁ } := by
  rw [show (hd.heap_39 w.params).lookup 249 = some _ from by k_is] at ho; have ho' := ho; cases ho
  simp only [turnOf, List.drop_succ_cons, List.drop_zero]
  (try k_fold)
  replace F := fr_known0 F hmr
  replace F := fr_known0 (n := Str.ofString "asked") F hma
  simp only [lawLed, hsLed, List.cons_append, List.nil_append] at N
  simp only [lawLed, hsLed, List.cons_append, List.nil_append, List.map_cons, List.map_nil] at nd
  have hrl := hok.len
  repeat ((fail_if_success (with_reducible show wpAny _ _ (call (Value.type _) _) _ _ _)); walk1)
  rename Fr H L _ _ => F1
  rename News H L _ _ => N1
  refine list_heads KB F1 XX N1 nd (by ((try simp only [hsLed, List.cons_append, List.nil_append]); repeat' (first | exact Picks.done | exact pick_head | refine' pick_tail ?_ | refine' Picks.one ?_ ?_))) TT rfl rfl rfl hrv hS (by omega) ?_
  intro D c h' tk' F2 N2 l2
  have nd2 := nodup_lt2 (o := listOf rv.toArray c) l2 nd
  repeat ((fail_if_success (with_reducible show wpAny _ _ (compareOp _ _ _) _ _ _)); walk1)
  refine ne_strs (News.isList N2 (by k_mem)) (News.isList N2 (by k_mem)) hrv hrr (room_of rfl) ?_
  repeat ((fail_if_success (with_reducible show wpAny _ _ (call (Value.builtin "len") _) _ _ _)); walk1)
  rename Fr H L _ _ => F3
  rename News H L _ _ => N3
  refine len_K F3 XX (InstAt.of_news N3 (by k_mem) (od := dictOf [⟨hh1, .str (Str.ofString "_headers") th1, .ref hl⟩, ⟨hh2, .str (Str.ofString "_set") th2, .ref hs⟩] nd0) (by k_mem)) (by k_is) (by k_is) ?_
  refine Ct.use (len_ct hS (by omega)) KB F3 XX N3 nd2 (by ((try simp only [hsLed, List.cons_append, List.nil_append]); repeat' (first | exact Picks.done | exact pick_head | refine' pick_tail ?_ | refine' Picks.one ?_ ?_))) TT rfl rfl rfl ?_
  rintro v fp' h4 tk4 F4 N4 nd4 ⟨t4, rfl, rfl⟩
  simp only [hsLed, List.cons_append, List.nil_append, List.map_cons, List.map_nil] at N4 nd4
  refine ⟨⟨by omega, by omega⟩, ?_⟩
  have hrl2 := hrr.length
  repeat ((fail_if_success (with_reducible show wpAny _ _ (call (Value.ref _) _) _ _ _)); walk1)
  refine kun_lenL (k := (row.length : Int)) (News.isList N4 (by k_mem)) (by rw [List.size_toArray, hrl2]) (by omega) ?_
  repeat ((fail_if_success (with_reducible show wpAny _ _ (call (Value.ref _) _) _ _ _)); walk1)
  all_goals (try (exfalso; rename ((row.length : Int) ≠ _) => hb; exact hb rfl; done))
  repeat ((fail_if_success (with_reducible show wpAny _ _ (call (Value.ref _) _) _ _ _)); walk1)
  rename Fr H L _ _ => F5
  rename News H L _ _ => N5
  refine Ct.use (asset_t_ct hrv (by omega)) KB F5 XX N5 nd4 (by ((try simp only [hsLed, List.cons_append, List.nil_append]); repeat' (first | exact Picks.done | exact pick_head | refine' pick_tail ?_ | refine' Picks.one ?_ ?_))) TT rfl rfl rfl ?_
  rintro v fp' h5 tk5 F6 N6 nd6 ⟨D2, o2, rfl, rfl, hS2⟩
  rw [row_fold hok.2] at hS2
  simp only [hsLed, List.cons_append, List.nil_append, List.map_cons, List.map_nil] at N6 nd6
  repeat ((fail_if_success (with_reducible show wpAny _ _ (call (Value.builtin "sorted") _) _ _ _)); walk1)
  rename Fr H L _ _ => F7
  rename News H L _ _ => N7
  refine sorted_set rfl F7 N7 (by k_mem) hS2 (by omega) ?_
  intro D3 h6 tk6 d6 vs3 ss3 e3 F8 N8 l8 hs3 hp3 hsr3
  have nd8 := nodup_lt2 (o := seqObj "list" vs3.toArray e3) l8 nd6
  repeat ((fail_if_success (with_reducible show wpAny _ _ (call (Value.builtin "sorted") _) _ _ _)); walk1)
  rename Fr H L _ _ => F9
  rename News H L _ _ => N9
  refine sorted_N_str F9 N9 (News.isList N9 (by k_mem)) hrr (by omega) ?_
  intro h7 vs4 ss4 e4 F10 N10 hs4 hp4 hsr4
  have hss : ss3 = ss4 := sorted_unique (hp3.trans hp4.symm) hsr3 hsr4
  subst hss
  repeat ((fail_if_success (with_reducible show wpAny _ _ (compareOp _ _ _) _ _ _)); walk1)
  refine ne_strs (vs := vs3) (ws := vs4) ⟨_, (N10 _ (List.mem_cons_of_mem _ (List.mem_cons_self ..))).1, rfl, _, rfl⟩ ⟨_, (N10 _ (List.mem_cons_self ..)).1, rfl, _, rfl⟩ hs3 hs4 (room_of rfl) ?_
  dsimp only at F10 N10
  have nd10 := nodup_lt2 (a := h6.objs.size + 1) (o := seqObj "list" vs4.toArray e4) (fun p hp => Nat.lt_succ_of_lt (Heap.lt_size (N9 p hp).1)) nd8
  repeat ((fail_if_success (with_reducible show wpAny _ _ (execs (Stmt.If _ _ _ _ :: _) _) _ _ _)); walk1)
  rename Fr H L _ _ => F11
  rename News H L _ _ => N11
  obtain ⟨N12, nd12⟩ := hand (l := (I, oI) :: lawLed x dx hl hs rl sl nl hh1 hh2 at_ th1 th2 ta nd0 nl0 nr n1 n2 so c1 c2 rv rrv ws ps L) N11 nd10 (by simp only [lawLed]; ((try simp only [hsLed, List.cons_append, List.nil_append]); repeat' (first | exact Picks.done | exact pick_head | refine' pick_tail ?_ | refine' Picks.one ?_ ?_)))
  exact turn_p6 ho' KB XX TT hNS hws hi hc1 hc2 hrv hrr hS hok hps F11 rfl hat hq rfl N12 nd12

theorem tone86 : True := by
  w_top off
  trivial
/-! The turn from its statement 4 on. -/
theorem turn_p4 {fa : Addr} {cd : Value} {prog : Program} {w : World} {H : Heap} {name qual : Str} {params : Arguments} {body : List Stmt} {scope : Scope} {dV kV doc pm cdv ct oc : Value} {an od : Option Addr} {osl : Array (Option Value)} {mg mb : Str → Option Value} {p : Program} {loose : List Str} {mean : ExcName → Option Value} {L : Addr} {s₁ : Shared} {h₁ : Heap} {tk₁ : Nat} {dr₁ : Drawn} {m : Str → Option Value} {I x dx hl hs rl sl nl : Addr} {oI : Obj} {hh1 hh2 at_ : Int} {th1 th2 ta : Tok} {nd0 nl0 nr n1 n2 : Nat} {so c1 c2 : Obj} {rv rrv ws : List Value} {NS : List Int} {row : List Str} {ps : Array Value} {i : Nat} {Q : Flow → Shared → Prop} {nm : Addr} {nv : List Value} {q0 : Str} {nms : List Str} {nn : Nat} (ho : (hd.heap_39 w.params).lookup 249 = some ⟨oc, od, .func (fnOf name qual params body scope dV kV doc pm an cdv ct), osl⟩) (KB : Below callerA H [] H) (XX : (hd.heap_39 w.params).In H) (TT : Top p loose mean mg mb H) (hNS : (3 ≤ NS.length ∧ NS.length ≤ 27) ∧ ∀ x ∈ NS, 0 ≤ x ∧ x < 1000003) (hws : IntsAre ws NS) (hi : i < 21) (hc1 : c1.data = .cell (some (.ref x))) (hc2 : c2.data = .cell (some (.ref sl))) (hrv : StrsAre rv row) (hrr : StrsAre rrv row) (hS : StrSet w so (row.map Txt.lower)) (hok : RowOk row) (hps : TabOk ps) (F : Fr H L h₁ m) (hmr : m (Str.ofString "row") = some (.ref rl))
    (hat : 0 ≤ at_ ∧ at_ ≤ 2 + 8 * (i : Int) + 8) (hnv : StrsAre nv (q0 :: nms)) (hnl : nms.length ≤ 3) (hnm : ∀ z ∈ q0 :: nms, z ∈ menu) (hmn : m (Str.ofString "names") = some (.ref nm)) (N : News H L h₁ ((I, oI) :: (nm, listOf nv.toArray nn) :: lawLed x dx hl hs rl sl nl hh1 hh2 at_ th1 th2 ta nd0 nl0 nr n1 n2 so c1 c2 rv rrv ws ps L)) (nd : (((I, oI) :: (nm, listOf nv.toArray nn) :: lawLed x dx hl hs rl sl nl hh1 hh2 at_ th1 th2 ta nd0 nl0 nr n1 n2 so c1 c2 rv rrv ws ps L).map (·.1)).Nodup) :
    wpAny (model prog w) (callerA.deeper (envOfC qual scope L fa cd)) (execs ((turnOf body).drop 4) (envOfC qual scope L fa cd)) (DrawQ H L (LawInv w L NS (i + 1)) [(I, oI)] s₁ Q) (fun _ _ => False) { s₁ with heap := h₁, toks := tk₁, drawn := dr₁ } := by
  rw [show (hd.heap_39 w.params).lookup 249 = some _ from by k_is] at ho; have ho' := ho; cases ho
  simp only [turnOf, List.drop_succ_cons, List.drop_zero]
  (try k_fold)
  replace F := fr_known0 F hmr
  replace F := fr_known0 (n := Str.ofString "names") F hmn
  simp only [lawLed, hsLed, List.cons_append, List.nil_append] at N
  simp only [lawLed, hsLed, List.cons_append, List.nil_append, List.map_cons, List.map_nil] at nd
  have hnvl := hnv.length
  simp only [List.length_cons] at hnvl
  repeat ((fail_if_success (with_reducible show wpAny _ _ (execs (Stmt.If _ _ _ _ :: _) _) _ _ _)); walk1)
  rename Fr H L _ _ => F1
  rename News H L _ _ => N1
  dsimp only
  obtain ⟨N9, nd9⟩ := hand (l := (I, oI) :: lawLed x dx hl hs rl sl nl hh1 hh2 at_ th1 th2 ta nd0 nl0 nr n1 n2 so c1 c2 rv rrv ws ps L) N1 nd (by simp only [lawLed]; ((try simp only [hsLed, List.cons_append, List.nil_append]); repeat' (first | exact Picks.done | exact pick_head | refine' pick_tail ?_ | refine' Picks.one ?_ ?_)))
  refine turn_p5 ho' KB XX TT hNS hws hi hc1 hc2 hrv hrr hS hok hps F1 rfl ⟨hat.1, by omega⟩ (q := (q0 :: nms).getD (-1 + ((q0 :: nms).length : Int)).toNat Str.empty) ?_ rfl N9 nd9
  have hlt : (-1 + ((q0 :: nms).length : Int)).toNat < (q0 :: nms).length := by simp only [List.length_cons]; omega
  rw [List.getD_eq_getElem?_getD, List.getElem?_eq_getElem hlt]
  exact hnm _ (List.getElem_mem hlt)

theorem tone87 : True := by
  w_top off
  trivial
/-! The turn from its statement 3 on. -/
theorem turn_p3 {fa : Addr} {cd : Value} {prog : Program} {w : World} {H : Heap} {name qual : Str} {params : Arguments} {body : List Stmt} {scope : Scope} {dV kV doc pm cdv ct oc : Value} {an od : Option Addr} {osl : Array (Option Value)} {mg mb : Str → Option Value} {p : Program} {loose : List Str} {mean : ExcName → Option Value} {L : Addr} {s₁ : Shared} {h₁ : Heap} {tk₁ : Nat} {dr₁ : Drawn} {m : Str → Option Value} {I x dx hl hs rl sl nl : Addr} {oI : Obj} {hh1 hh2 at_ : Int} {th1 th2 ta : Tok} {nd0 nl0 nr n1 n2 : Nat} {so c1 c2 : Obj} {rv rrv ws : List Value} {NS : List Int} {row : List Str} {ps : Array Value} {i : Nat} {Q : Flow → Shared → Prop} {nm : Addr} {nv : List Value} {q0 : Str} {nms : List Str} {nn : Nat} {deed : Int} {td tsm tth : Tok} (ho : (hd.heap_39 w.params).lookup 249 = some ⟨oc, od, .func (fnOf name qual params body scope dV kV doc pm an cdv ct), osl⟩) (KB : Below callerA H [] H) (XX : (hd.heap_39 w.params).In H) (TT : Top p loose mean mg mb H) (hNS : (3 ≤ NS.length ∧ NS.length ≤ 27) ∧ ∀ x ∈ NS, 0 ≤ x ∧ x < 1000003) (hws : IntsAre ws NS) (hi : i < 21) (hc1 : c1.data = .cell (some (.ref x))) (hc2 : c2.data = .cell (some (.ref sl))) (hrv : StrsAre rv row) (hrr : StrsAre rrv row) (hS : StrSet w so (row.map Txt.lower)) (hok : RowOk row) (hps : TabOk ps) (F : Fr H L h₁ m) (hmr : m (Str.ofString "row") = some (.ref rl))
    (hat : 0 ≤ at_ ∧ at_ ≤ 2 + 8 * (i : Int) + 7) (hnv : StrsAre nv (q0 :: nms)) (hnl : nms.length ≤ 3) (hnm : ∀ z ∈ q0 :: nms, z ∈ menu) (hmn : m (Str.ofString "names") = some (.ref nm)) (hdeed : 0 ≤ deed ∧ deed < 4) (hmd : m (Str.ofString "deed") = some (.int deed td)) (hms : m (Str.ofString "small") = some (.str (Txt.lower q0) tsm)) (hmt : m (Str.ofString "there") = some (.int (place row (Txt.lower q0)) tth)) (N : News H L h₁ ((I, oI) :: (nm, listOf nv.toArray nn) :: lawLed x dx hl hs rl sl nl hh1 hh2 at_ th1 th2 ta nd0 nl0 nr n1 n2 so c1 c2 rv rrv ws ps L)) (nd : (((I, oI) :: (nm, listOf nv.toArray nn) :: lawLed x dx hl hs rl sl nl hh1 hh2 at_ th1 th2 ta nd0 nl0 nr n1 n2 so c1 c2 rv rrv ws ps L).map (·.1)).Nodup) :
    wpAny (model prog w) (callerA.deeper (envOfC qual scope L fa cd)) (execs ((turnOf body).drop 3) (envOfC qual scope L fa cd)) (DrawQ H L (LawInv w L NS (i + 1)) [(I, oI)] s₁ Q) (fun _ _ => False) { s₁ with heap := h₁, toks := tk₁, drawn := dr₁ } := by
  rw [show (hd.heap_39 w.params).lookup 249 = some _ from by k_is] at ho; have ho' := ho; cases ho
  simp only [turnOf, List.drop_succ_cons, List.drop_zero]
  (try k_fold)
  replace F := fr_known0 F hmr
  replace F := fr_known0 (n := Str.ofString "names") F hmn
  replace F := fr_known0 (n := Str.ofString "deed") F hmd
  replace F := fr_known0 (n := Str.ofString "small") F hms
  replace F := fr_known0 (n := Str.ofString "there") F hmt
  simp only [lawLed, hsLed, List.cons_append, List.nil_append] at N
  simp only [lawLed, hsLed, List.cons_append, List.nil_append, List.map_cons, List.map_nil] at nd
  cases hnv
  rename_i tq0 nv hnv
  have hq0 := (menu_len q0 (hnm q0 (List.mem_cons_self ..))).1
  have hrl := hok.len
  obtain rfl | rfl | rfl | rfl : deed = 0 ∨ deed = 1 ∨ deed = 2 ∨ deed = 3 := by omega
  · repeat ((fail_if_success (with_reducible show wpAny _ _ (call (Value.ref _) _) _ _ _)); walk1)
    rename Fr H L _ _ => F1
    rename News H L _ _ => N1
    refine Ct.use (add_ct hrv hS (by omega) (by omega)) KB F1 XX N1 nd (by ((try simp only [hsLed, List.cons_append, List.nil_append]); repeat' (first | exact Picks.done | exact pick_head | refine' pick_tail ?_ | refine' Picks.one ?_ ?_))) TT rfl rfl rfl ?_
    rintro v fp' h' tk' F2 N2 nd2 ⟨rv', nl', so', rfl, rfl, hrv', hS'⟩
    simp only [hsLed, List.cons_append, List.nil_append, List.map_cons, List.map_nil] at N2 nd2
    repeat ((fail_if_success (with_reducible show wpAny _ _ (subscriptTail _ (PySem.Expr.Slice _ _ _ _) _ _) _ _ _)); walk1)
    rename Fr H L _ _ => F3
    rename News H L _ _ => N3
    refine slice_to (j := 1) F3 N3 (News.isList N3 (by k_mem)) rfl (fun D h9 F4 N4 l1 => ?_) (by simp only [List.length_cons, hnv.length]; omega) (by with_unfolding_all rfl) (by kmk_pure)
    have nd4 := nodup_lt2 (o := listOf ((Value.str q0 tq0 :: nv).take 1).toArray 0) l1 nd2
    simp only [List.take_succ_cons, List.take_zero] at N4 nd4
    repeat ((fail_if_success (with_reducible show wpAny _ _ (call (Value.ref _) _) _ _ _)); walk1)
    rename Fr H L _ _ => F5
    rename News H L _ _ => N5
    refine Ct.use (put_ct (names := [q0]) hrr (.cons q0 tq0 .nil) (by simp only [List.length_cons, List.length_nil]; omega) hok.sz (fun z hz => by rw [List.mem_singleton.mp hz]; omega)) KB F5 XX N5 nd4 (by ((try simp only [hsLed, List.cons_append, List.nil_append]); repeat' (first | exact Picks.done | exact pick_head | refine' pick_tail ?_ | refine' Picks.one ?_ ?_))) TT rfl rfl rfl ?_
    rintro v fp' h' tk' F6 N6 nd6 ⟨rl', rrv', nr', rfl, rfl, hrr'⟩
    simp only [List.cons_append, List.nil_append, List.map_cons, List.map_nil] at N6 nd6
    repeat ((fail_if_success (with_reducible show wpAny _ _ (execs (Stmt.Assign _ _ _ :: Stmt.If _ _ _ _ :: _) _) _ _ _)); walk1)
    rename Fr H L _ _ => F7
    rename News H L _ _ => N7
    obtain ⟨N9, nd9⟩ := hand (l := (I, oI) :: (nm, listOf (Value.str q0 tq0 :: nv).toArray nn) :: lawLed x dx hl hs rl' sl nl hh1 hh2 at_ th1 th2 ta nd0 nl' nr' n1 n2 so' c1 c2 rv' rrv' ws ps L) N7 nd6 (by simp only [lawLed]; ((try simp only [hsLed, List.cons_append, List.nil_append]); repeat' (first | exact Picks.done | exact pick_head | refine' pick_tail ?_ | refine' Picks.one ?_ ?_)))
    exact turn_p4 ho' KB XX TT hNS hws hi hc1 hc2 hrv' hrr' hS' (hok.add (hnm q0 (List.mem_cons_self ..))) hps F7 rfl ⟨by omega, by omega⟩ (.cons q0 tq0 hnv) hnl hnm rfl N9 nd9
  · repeat ((fail_if_success (with_reducible show wpAny _ _ (call (Value.ref _) _) _ _ _)); walk1)
    rename Fr H L _ _ => F1
    rename News H L _ _ => N1
    refine Ct.use (update_ct (iterBy_list nm _ nn) hrv hS (.cons q0 tq0 hnv) (by simp only [List.length_cons]; omega) (fun z hz => Nat.le_trans (menu_len z (hnm z hz)).1 (by decide))) KB F1 XX N1 nd (by ((try simp only [hsLed, List.cons_append, List.nil_append]); repeat' (first | exact Picks.done | exact pick_head | refine' pick_tail ?_ | refine' Picks.one ?_ ?_))) TT rfl rfl rfl ?_
    rintro v fp' h' tk' F2 N2 nd2 ⟨rv', nl', so', rfl, rfl, hrv', hS'⟩
    simp only [hsLed, List.cons_append, List.nil_append, List.map_cons, List.map_nil] at N2 nd2
    repeat ((fail_if_success (with_reducible show wpAny _ _ (call (Value.ref _) _) _ _ _)); walk1)
    rename Fr H L _ _ => F3
    rename News H L _ _ => N3
    refine Ct.use (put_ct hrr (.cons q0 tq0 hnv) (by simp only [List.length_cons]; omega) hok.sz (fun z hz => Nat.le_trans (menu_len z (hnm z hz)).1 (by decide))) KB F3 XX N3 nd2 (by ((try simp only [hsLed, List.cons_append, List.nil_append]); repeat' (first | exact Picks.done | exact pick_head | refine' pick_tail ?_ | refine' Picks.one ?_ ?_))) TT rfl rfl rfl ?_
    rintro v fp' h' tk' F4 N4 nd4 ⟨rl', rrv', nr', rfl, rfl, hrr'⟩
    simp only [List.cons_append, List.nil_append, List.map_cons, List.map_nil] at N4 nd4
    repeat ((fail_if_success (with_reducible show wpAny _ _ (execs (Stmt.Assign _ _ _ :: Stmt.If _ _ _ _ :: _) _) _ _ _)); walk1)
    rename Fr H L _ _ => F5
    rename News H L _ _ => N5
    obtain ⟨N9, nd9⟩ := hand (l := (I, oI) :: (nm, listOf (Value.str q0 tq0 :: nv).toArray nn) :: lawLed x dx hl hs rl' sl nl hh1 hh2 at_ th1 th2 ta nd0 nl' nr' n1 n2 so' c1 c2 rv' rrv' ws ps L) N5 nd4 (by simp only [lawLed]; ((try simp only [hsLed, List.cons_append, List.nil_append]); repeat' (first | exact Picks.done | exact pick_head | refine' pick_tail ?_ | refine' Picks.one ?_ ?_)))
    exact turn_p4 ho' KB XX TT hNS hws hi hc1 hc2 hrv' hrr' hS' (RowOk.adds hnm hok) hps F5 rfl ⟨by omega, by omega⟩ (.cons q0 tq0 hnv) hnl hnm rfl N9 nd9
  · obtain ⟨pl, hpl⟩ : ∃ pl, pl = place row (Txt.lower q0) := ⟨_, rfl⟩
    rw [← hpl] at F
    have hll := menuLow_fix _ (menu_low q0 (hnm q0 (List.mem_cons_self ..)))
    repeat ((fail_if_success (with_reducible show wpAny _ _ (call (Value.ref _) _) _ _ _)); walk1)
    rename Fr H L _ _ => F1
    rename News H L _ _ => N1
    refine CtX.use (discard_ct hrv hS (by omega) hok.sz (by omega) hll.1) KB F1 XX N1 nd (by ((try simp only [hsLed, List.cons_append, List.nil_append]); repeat' (first | exact Picks.done | exact pick_head | refine' pick_tail ?_ | refine' Picks.one ?_ ?_))) TT rfl rfl rfl ?_
    rintro v fp' h' tk' F2 N2 nd2 ⟨rv', nl', so', rfl, rfl, hrv', hS'⟩
    simp only [hsLed, List.cons_append, List.nil_append, List.map_cons, List.map_nil] at N2 nd2
    rcases Int.lt_or_le pl 0 with h0 | h0
    rotate_left
    · obtain ⟨j, rfl⟩ := Int.eq_ofNat_of_zero_le h0
      repeat ((fail_if_success (with_reducible show wpAny _ _ (subscriptTail _ (PySem.Expr.Slice _ _ _ _) _ _) _ _ _)); walk1)
      rename Fr H L _ _ => F3
      rename News H L _ _ => N3
      refine slice_to (j := j) F3 N3 (News.isList N3 (by k_mem)) rfl (fun D h9 F4 N4 l1 => ?_) (by rw [hrr.length]; omega) (by with_unfolding_all rfl) (by kmk_pure)
      have nd4 := nodup_lt2 (o := listOf (rrv.take j).toArray 0) l1 nd2
      repeat ((fail_if_success (with_reducible show wpAny _ _ (subscriptTail _ (PySem.Expr.Slice _ _ _ _) _ _) _ _ _)); walk1)
      rename Fr H L _ _ => F5
      rename News H L _ _ => N5
      refine slice_fr (j := j + 1) F5 N5 (News.isList N5 (by k_mem)) rfl (fun D2 h9 F6 N6 l2 => ?_) (by rw [hrr.length]; omega) (by with_unfolding_all rfl) (by kmk_pure)
      have nd6 := nodup_lt2 (o := listOf (rrv.drop (j + 1)).toArray 0) l2 nd4
      have nd7 := fun o => nodup_lt2 (o := o) (fun p hp => Heap.lt_size (N6 p hp).1) nd6
      have hlr := hrr.length
      have hl1 : (rrv.take j).length ≤ 5 := by rw [List.length_take]; omega
      have hl2 : (rrv.drop (j + 1)).length ≤ 5 := by rw [List.length_drop]; omega
      repeat ((fail_if_success (with_reducible show wpAny _ _ (execs (Stmt.Assign _ _ _ :: Stmt.If _ _ _ _ :: _) _) _ _ _)); walk1)
      rename Fr H L _ _ => F7
      rename News H L _ _ => N7
      dsimp only at F7 N7 ⊢
      have hrr' : StrsAre (rrv.take j ++ rrv.drop (j + 1)) (rmFirst (Txt.lower q0) row) := by
        have := slice_rm (row := row) (q := Txt.lower q0) (by rw [← hpl]; exact h0)
        rw [← hpl, Int.toNat_natCast] at this
        rw [← this]
        exact (strs_take hrr j).append' (strs_drop hrr (j + 1))
      obtain ⟨N9, nd9⟩ := hand (l := (I, oI) :: (nm, listOf (Value.str q0 tq0 :: nv).toArray nn) :: lawLed x dx hl hs h9.objs.size sl nl hh1 hh2 at_ th1 th2 ta nd0 nl' 0 n1 n2 so' c1 c2 rv' (rrv.take j ++ rrv.drop (j + 1)) ws ps L) N7 (nd7 _) (by simp only [lawLed]; ((try simp only [hsLed, List.cons_append, List.nil_append]); repeat' (first | exact Picks.done | exact pick_head | refine' pick_tail ?_ | refine' Picks.one ?_ ?_)))
      exact turn_p4 ho' KB XX TT hNS hws hi hc1 hc2 (by assumption) hrr' (by assumption) (hok.rm _) hps F7 rfl ⟨by omega, by omega⟩ (.cons q0 tq0 hnv) hnl hnm rfl N9 nd9
    · repeat ((fail_if_success (with_reducible show wpAny _ _ (execs (Stmt.Assign _ _ _ :: Stmt.If _ _ _ _ :: _) _) _ _ _)); walk1)
      rename Fr H L _ _ => F3
      rename News H L _ _ => N3
      have hrm : rmFirst (Txt.lower q0) row = row := rm_neg (by omega)
      rw [hrm] at hrv' hS'
      obtain ⟨N9, nd9⟩ := hand (l := (I, oI) :: (nm, listOf (Value.str q0 tq0 :: nv).toArray nn) :: lawLed x dx hl hs rl sl nl hh1 hh2 at_ th1 th2 ta nd0 nl' nr n1 n2 so' c1 c2 rv' rrv ws ps L) N3 nd2 (by simp only [lawLed]; ((try simp only [hsLed, List.cons_append, List.nil_append]); repeat' (first | exact Picks.done | exact pick_head | refine' pick_tail ?_ | refine' Picks.one ?_ ?_)))
      exact turn_p4 ho' KB XX TT hNS hws hi hc1 hc2 hrv' hrr hS' hok hps F3 rfl ⟨by omega, by omega⟩ (.cons q0 tq0 hnv) hnl hnm rfl N9 nd9
  · obtain ⟨pl, hpl⟩ : ∃ pl, pl = place row (Txt.lower q0) := ⟨_, rfl⟩
    rw [← hpl] at F
    have hll := menuLow_fix _ (menu_low q0 (hnm q0 (List.mem_cons_self ..)))
    repeat ((fail_if_success (with_reducible show wpAny _ _ (call (Value.ref _) _) _ _ _)); walk1)
    rename Fr H L _ _ => F1
    rename News H L _ _ => N1
    refine CtX.use (removed_ct hrv hS (by omega) hok.sz (by omega) hll.1) KB F1 XX N1 nd (by ((try simp only [hsLed, List.cons_append, List.nil_append]); repeat' (first | exact Picks.done | exact pick_head | refine' pick_tail ?_ | refine' Picks.one ?_ ?_))) TT rfl rfl rfl ?_
    rintro v fp' h' tk' F2 N2 nd2 ⟨rv', nl', so', rfl, rfl, hrv', hS'⟩
    simp only [hsLed, List.cons_append, List.nil_append, List.map_cons, List.map_nil] at N2 nd2
    have hin : (row.map Txt.lower).contains (Txt.lower (Txt.lower q0)) = decide (0 ≤ pl) := by rw [hpl]; exact place_lowS row (Txt.lower q0)
    rw [hin]
    repeat ((fail_if_success (with_reducible show wpAny _ _ (execs (Stmt.Assign _ _ _ :: _) _) _ _ _)); walk1)
    all_goals (try (exfalso; rename (_ != _) = true => hb; simp at hb; done))
    rename Fr H L _ _ => F2
    rename News H L _ _ => N2
    rcases Int.lt_or_le pl 0 with h0 | h0
    rotate_left
    · obtain ⟨j, rfl⟩ := Int.eq_ofNat_of_zero_le h0
      repeat ((fail_if_success (with_reducible show wpAny _ _ (subscriptTail _ (PySem.Expr.Slice _ _ _ _) _ _) _ _ _)); walk1)
      rename Fr H L _ _ => F3
      rename News H L _ _ => N3
      refine slice_to (j := j) F3 N3 (News.isList N3 (by k_mem)) rfl (fun D h9 F4 N4 l1 => ?_) (by rw [hrr.length]; omega) (by with_unfolding_all rfl) (by kmk_pure)
      have nd4 := nodup_lt2 (o := listOf (rrv.take j).toArray 0) l1 nd2
      repeat ((fail_if_success (with_reducible show wpAny _ _ (subscriptTail _ (PySem.Expr.Slice _ _ _ _) _ _) _ _ _)); walk1)
      rename Fr H L _ _ => F5
      rename News H L _ _ => N5
      refine slice_fr (j := j + 1) F5 N5 (News.isList N5 (by k_mem)) rfl (fun D2 h9 F6 N6 l2 => ?_) (by rw [hrr.length]; omega) (by with_unfolding_all rfl) (by kmk_pure)
      have nd6 := nodup_lt2 (o := listOf (rrv.drop (j + 1)).toArray 0) l2 nd4
      have nd7 := fun o => nodup_lt2 (o := o) (fun p hp => Heap.lt_size (N6 p hp).1) nd6
      have hlr := hrr.length
      have hl1 : (rrv.take j).length ≤ 5 := by rw [List.length_take]; omega
      have hl2 : (rrv.drop (j + 1)).length ≤ 5 := by rw [List.length_drop]; omega
      repeat ((fail_if_success (with_reducible show wpAny _ _ (execs (Stmt.Assign _ _ _ :: Stmt.If _ _ _ _ :: _) _) _ _ _)); walk1)
      rename Fr H L _ _ => F7
      rename News H L _ _ => N7
      dsimp only at F7 N7 ⊢
      have hrr' : StrsAre (rrv.take j ++ rrv.drop (j + 1)) (rmFirst (Txt.lower q0) row) := by
        have := slice_rm (row := row) (q := Txt.lower q0) (by rw [← hpl]; exact h0)
        rw [← hpl, Int.toNat_natCast] at this
        rw [← this]
        exact (strs_take hrr j).append' (strs_drop hrr (j + 1))
      obtain ⟨N9, nd9⟩ := hand (l := (I, oI) :: (nm, listOf (Value.str q0 tq0 :: nv).toArray nn) :: lawLed x dx hl hs h9.objs.size sl nl hh1 hh2 at_ th1 th2 ta nd0 nl' 0 n1 n2 so' c1 c2 rv' (rrv.take j ++ rrv.drop (j + 1)) ws ps L) N7 (nd7 _) (by simp only [lawLed]; ((try simp only [hsLed, List.cons_append, List.nil_append]); repeat' (first | exact Picks.done | exact pick_head | refine' pick_tail ?_ | refine' Picks.one ?_ ?_)))
      exact turn_p4 ho' KB XX TT hNS hws hi hc1 hc2 (by assumption) hrr' (by assumption) (hok.rm _) hps F7 rfl ⟨by omega, by omega⟩ (.cons q0 tq0 hnv) hnl hnm rfl N9 nd9
    · repeat ((fail_if_success (with_reducible show wpAny _ _ (execs (Stmt.Assign _ _ _ :: Stmt.If _ _ _ _ :: _) _) _ _ _)); walk1)
      rename Fr H L _ _ => F3
      rename News H L _ _ => N3
      have hrm : rmFirst (Txt.lower q0) row = row := rm_neg (by omega)
      rw [hrm] at hrv' hS'
      obtain ⟨N9, nd9⟩ := hand (l := (I, oI) :: (nm, listOf (Value.str q0 tq0 :: nv).toArray nn) :: lawLed x dx hl hs rl sl nl hh1 hh2 at_ th1 th2 ta nd0 nl' nr n1 n2 so' c1 c2 rv' rrv ws ps L) N3 nd2 (by simp only [lawLed]; ((try simp only [hsLed, List.cons_append, List.nil_append]); repeat' (first | exact Picks.done | exact pick_head | refine' pick_tail ?_ | refine' Picks.one ?_ ?_)))
      exact turn_p4 ho' KB XX TT hNS hws hi hc1 hc2 hrv' hrr hS' hok hps F3 rfl ⟨by omega, by omega⟩ (.cons q0 tq0 hnv) hnl hnm rfl N9 nd9

theorem tone88 : True := by
  w_top off
  trivial
/-! The turn from its statement 1 on. -/
theorem turn_p1 {fa : Addr} {cd : Value} {prog : Program} {w : World} {H : Heap} {name qual : Str} {params : Arguments} {body : List Stmt} {scope : Scope} {dV kV doc pm cdv ct oc : Value} {an od : Option Addr} {osl : Array (Option Value)} {mg mb : Str → Option Value} {p : Program} {loose : List Str} {mean : ExcName → Option Value} {L : Addr} {s₁ : Shared} {h₁ : Heap} {tk₁ : Nat} {dr₁ : Drawn} {m : Str → Option Value} {I x dx hl hs rl sl nl : Addr} {oI : Obj} {hh1 hh2 at_ : Int} {th1 th2 ta : Tok} {nd0 nl0 nr n1 n2 : Nat} {so c1 c2 : Obj} {rv rrv ws : List Value} {NS : List Int} {row : List Str} {ps : Array Value} {i : Nat} {Q : Flow → Shared → Prop} {nm : Addr} {nv : List Value} {q0 : Str} {nms : List Str} {nn : Nat} (ho : (hd.heap_39 w.params).lookup 249 = some ⟨oc, od, .func (fnOf name qual params body scope dV kV doc pm an cdv ct), osl⟩) (KB : Below callerA H [] H) (XX : (hd.heap_39 w.params).In H) (TT : Top p loose mean mg mb H) (hNS : (3 ≤ NS.length ∧ NS.length ≤ 27) ∧ ∀ x ∈ NS, 0 ≤ x ∧ x < 1000003) (hws : IntsAre ws NS) (hi : i < 21) (hc1 : c1.data = .cell (some (.ref x))) (hc2 : c2.data = .cell (some (.ref sl))) (hrv : StrsAre rv row) (hrr : StrsAre rrv row) (hS : StrSet w so (row.map Txt.lower)) (hok : RowOk row) (hps : TabOk ps) (F : Fr H L h₁ m) (hmr : m (Str.ofString "row") = some (.ref rl))
    (hat : 0 ≤ at_ ∧ at_ ≤ 2 + 8 * (i : Int) + 5) (hnv : StrsAre nv (q0 :: nms)) (hnl : nms.length ≤ 3) (hnm : ∀ z ∈ q0 :: nms, z ∈ menu) (hmn : m (Str.ofString "names") = some (.ref nm)) (N : News H L h₁ ((I, oI) :: (nm, listOf nv.toArray nn) :: lawLed x dx hl hs rl sl nl hh1 hh2 at_ th1 th2 ta nd0 nl0 nr n1 n2 so c1 c2 rv rrv ws ps L)) (nd : (((I, oI) :: (nm, listOf nv.toArray nn) :: lawLed x dx hl hs rl sl nl hh1 hh2 at_ th1 th2 ta nd0 nl0 nr n1 n2 so c1 c2 rv rrv ws ps L).map (·.1)).Nodup) :
    wpAny (model prog w) (callerA.deeper (envOfC qual scope L fa cd)) (execs ((turnOf body).drop 1) (envOfC qual scope L fa cd)) (DrawQ H L (LawInv w L NS (i + 1)) [(I, oI)] s₁ Q) (fun _ _ => False) { s₁ with heap := h₁, toks := tk₁, drawn := dr₁ } := by
  rw [show (hd.heap_39 w.params).lookup 249 = some _ from by k_is] at ho; have ho' := ho; cases ho
  simp only [turnOf, List.drop_succ_cons, List.drop_zero]
  (try k_fold)
  replace F := fr_known0 F hmr
  replace F := fr_known0 (n := Str.ofString "names") F hmn
  simp only [lawLed, hsLed, List.cons_append, List.nil_append] at N
  simp only [lawLed, hsLed, List.cons_append, List.nil_append, List.map_cons, List.map_nil] at nd
  cases hnv
  rename_i tq0 nv hnv
  repeat ((fail_if_success (with_reducible show wpAny _ _ (call (Value.ref 213) _) _ _ _)); walk1)
  rename Fr H L _ _ => F1
  rename News H L _ _ => N1
  refine Ct.use (next_ct (at_ := at_) (many := 4) hws hNS.1 hNS.2 ⟨hat.1, by omega⟩ ⟨by decide, by decide⟩) KB F1 XX N1 nd (by ((try simp only [hsLed, List.cons_append, List.nil_append]); repeat' (first | exact Picks.done | exact pick_head | refine' pick_tail ?_ | refine' Picks.one ?_ ?_))) TT rfl rfl rfl ?_
  rintro v fp' h' tk' F2 N2 nd2 ⟨r0, t0, t1, n1', rfl, hr0, hr1, rfl⟩
  simp only [List.cons_append, List.nil_append, List.map_cons, List.map_nil] at N2 nd2
  have hq0 := (menu_len q0 (hnm q0 (List.mem_cons_self ..))).1
  repeat ((fail_if_success (with_reducible show wpAny _ _ (call (Value.ref 223) _) _ _ _)); walk1)
  rename Fr H L _ _ => F3
  rename News H L _ _ => N3
  refine Ct.use (place_ct (row := row) hrr (by have := hok.len; omega) hok.sz (by omega)) KB F3 XX N3 (by (refine List.nodup_cons.mpr ⟨not_mem_of ?_, by assumption⟩; (simp only [List.map_cons, List.map_nil, NeOne, and_true]); omega)) (by ((try simp only [hsLed, List.cons_append, List.nil_append]); repeat' (first | exact Picks.done | exact pick_head | refine' pick_tail ?_ | refine' Picks.one ?_ ?_))) TT rfl rfl rfl ?_
  rintro v fp' h2 tk2 F4 N4 nd4 ⟨tp, rfl, rfl⟩
  simp only [List.cons_append, List.nil_append, List.map_cons, List.map_nil] at N4 nd4
  repeat ((fail_if_success (with_reducible show wpAny _ _ (execs (Stmt.If _ _ _ _ :: _) _) _ _ _)); walk1)
  rename Fr H L _ _ => F5
  rename News H L _ _ => N5
  obtain ⟨N9, nd9⟩ := hand (l := (I, oI) :: (nm, listOf (Value.str q0 tq0 :: nv).toArray nn) :: lawLed x dx hl hs rl sl nl hh1 hh2 (at_ + 1) th1 th2 t1 nd0 nl0 nr n1' n2 so c1 c2 rv rrv ws ps L) N5 nd4 (by simp only [lawLed]; ((try simp only [hsLed, List.cons_append, List.nil_append]); repeat' (first | exact Picks.done | exact pick_head | refine' pick_tail ?_ | refine' Picks.one ?_ ?_)))
  exact turn_p3 ho' KB XX TT hNS hws hi hc1 hc2 hrv hrr hS hok hps F5 rfl ⟨by omega, by omega⟩ (.cons q0 tq0 hnv) hnl hnm rfl ⟨hr0, hr1⟩ rfl rfl rfl N9 nd9

theorem tone89 : True := by
  w_top off
  trivial
/-! The turn's first statement: the names. -/
theorem turn_p0 {fa : Addr} {cd : Value} {prog : Program} {w : World} {H : Heap} {name qual : Str} {params : Arguments} {body : List Stmt} {scope : Scope} {dV kV doc pm cdv ct oc : Value} {an od : Option Addr} {osl : Array (Option Value)} {mg mb : Str → Option Value} {p : Program} {loose : List Str} {mean : ExcName → Option Value} {L : Addr} {s₁ : Shared} {h₁ : Heap} {tk₁ : Nat} {dr₁ : Drawn} {m : Str → Option Value} {I x dx hl hs rl sl nl : Addr} {oI : Obj} {hh1 hh2 at_ : Int} {th1 th2 ta : Tok} {nd0 nl0 nr n1 n2 : Nat} {so c1 c2 : Obj} {rv rrv ws : List Value} {NS : List Int} {row : List Str} {ps : Array Value} {i : Nat} {Q : Flow → Shared → Prop} (ho : (hd.heap_39 w.params).lookup 249 = some ⟨oc, od, .func (fnOf name qual params body scope dV kV doc pm an cdv ct), osl⟩) (KB : Below callerA H [] H) (XX : (hd.heap_39 w.params).In H) (TT : Top p loose mean mg mb H) (hNS : (3 ≤ NS.length ∧ NS.length ≤ 27) ∧ ∀ x ∈ NS, 0 ≤ x ∧ x < 1000003) (hws : IntsAre ws NS) (hi : i < 21) (hc1 : c1.data = .cell (some (.ref x))) (hc2 : c2.data = .cell (some (.ref sl))) (hrv : StrsAre rv row) (hrr : StrsAre rrv row) (hS : StrSet w so (row.map Txt.lower)) (hok : RowOk row) (hps : TabOk ps) (F : Fr H L h₁ m) (hmr : m (Str.ofString "row") = some (.ref rl))
    (hat : 0 ≤ at_ ∧ at_ ≤ 2 + 8 * (i : Int)) (N : News H L h₁ ((I, oI) :: lawLed x dx hl hs rl sl nl hh1 hh2 at_ th1 th2 ta nd0 nl0 nr n1 n2 so c1 c2 rv rrv ws ps L)) (nd : (((I, oI) :: lawLed x dx hl hs rl sl nl hh1 hh2 at_ th1 th2 ta nd0 nl0 nr n1 n2 so c1 c2 rv rrv ws ps L).map (·.1)).Nodup) :
    wpAny (model prog w) (callerA.deeper (envOfC qual scope L fa cd)) (execs (turnOf body) (envOfC qual scope L fa cd)) (DrawQ H L (LawInv w L NS (i + 1)) [(I, oI)] s₁ Q) (fun _ _ => False) { s₁ with heap := h₁, toks := tk₁, drawn := dr₁ } := by
  rw [show (hd.heap_39 w.params).lookup 249 = some _ from by k_is] at ho; have ho' := ho; cases ho
  simp only [turnOf, List.drop_succ_cons, List.drop_zero]
  (try k_fold)
  replace F := fr_known0 F hmr
  simp only [lawLed, hsLed, List.cons_append, List.nil_append] at N
  simp only [lawLed, hsLed, List.cons_append, List.nil_append, List.map_cons, List.map_nil] at nd
  repeat ((fail_if_success (with_reducible show wpAny _ _ (exec (Stmt.Assign _ _ _) _) _ _ _)); walk1)
  refine Assign_ListComp_G (F₀ := F) rfl (by with_unfolding_all rfl) (by with_unfolding_all rfl) (by decide) rfl (by decide) rfl rfl rfl ?_
  repeat ((fail_if_success (with_reducible show wpAny _ _ (call (Value.ref 213) _) _ _ _)); walk1)
  rename Fr H L _ _ => F1
  rename News H L _ _ => N1
  refine Ct.use (next_ct (at_ := at_) (many := 4) hws hNS.1 hNS.2 ⟨hat.1, by omega⟩ ⟨by decide, by decide⟩) KB F1 XX N1 nd (by ((try simp only [hsLed, List.cons_append, List.nil_append]); repeat' (first | exact Picks.done | exact pick_head | refine' pick_tail ?_ | refine' Picks.one ?_ ?_))) TT rfl rfl rfl ?_
  rintro v fp' h' tk' F2 N2 nd2 ⟨r0, t0, t1, n1', rfl, hr0, hr1, rfl⟩
  simp only [List.cons_append, List.nil_append, List.map_cons, List.map_nil] at N2 nd2
  repeat ((fail_if_success (with_reducible show wpAny _ _ (pyIter _) _ _ _)); walk1)
  obtain ⟨k, rfl⟩ := Int.eq_ofNat_of_zero_le hr0
  rename IsRange _ _ _ _ _ _ _ _ => R1
  rename Fr H L _ _ => F3
  rename News H L _ _ => N3
  rw [show (1 : Int) + (k : Int) = ((1 + k : Nat) : Int) by omega] at R1
  have hr := range_n (n := 1 + k) (by omega)
  refine it_range (n := 1 + k) rfl R1 hr.1 hr.2 ?_
  intro o hof hit
  refine CompAt.mk (fun j ys nw => ∃ (at' : Int) (t' : Tok) (n' : Nat) (names : List Str), nw = [(sl, listOf #[.ref nl, .int at' t'] n'), (nl, listOf ws.toArray n2), (I, oI), (x, instObj 202 dx),
      (dx, dictOf [⟨hh1, .str (Str.ofString "_headers") th1, .ref hl⟩, ⟨hh2, .str (Str.ofString "_set") th2, .ref hs⟩] nd0), (hl, listOf rv.toArray nl0), (hs, so), (rl, listOf rrv.toArray nr), (L + 1 + 1, c1), (L + 1, c2), (51, tabObj ps)] ∧
      (0 ≤ at' ∧ at' ≤ at_ + 1 + (j : Int)) ∧ StrsAre ys names ∧ names.length = j ∧ ∀ z ∈ names, z ∈ menu) hit (by omega) (by intro i ys nw _ p hp; cases hp) F3 N3 nd2 ⟨at_ + 1, t1, n1', [], rfl, ⟨by omega, by omega⟩, .nil, rfl, fun z hz => by cases hz⟩ ?_ ?_
  · rintro j v ys I2 oI2 C oC D oD m₂ nw h tk E' hjn ⟨tv, rfl⟩ ⟨at', t', n', names, rfl, hat', hys, hnl, hnm⟩ hAcc hyl hoC hmx F4 N4 nd4
    repeat ((fail_if_success (with_reducible show wpAny _ _ (call (Value.ref 213) _) _ _ _)); walk1)
    rename Fr H L _ _ => F5
    rename News H L _ _ => N5
    refine Ct.use (next_ct (at_ := at') (many := 8) hws hNS.1 hNS.2 ⟨hat'.1, by omega⟩ ⟨by decide, by decide⟩) KB F5 XX N5 (by (refine List.nodup_cons.mpr ⟨not_mem_of ?_, by assumption⟩; (simp only [List.map_cons, List.map_nil, NeOne, and_true]); omega)) (by ((try simp only [hsLed, List.cons_append, List.nil_append]); repeat' (first | exact Picks.done | exact pick_head | refine' pick_tail ?_ | refine' Picks.one ?_ ?_))) TT rfl rfl rfl ?_
    rintro v fp' h' tk' F6 N6 nd6 ⟨r1, t2, t3, n2', rfl, hr2, hr3, rfl⟩
    simp only [List.cons_append, List.nil_append, List.map_cons, List.map_nil] at N6 nd6
    k_steps
    all_goals refine CEnd.intro [(sl, listOf #[.ref nl, .int (at' + 1) t3] n2'), (nl, listOf ws.toArray n2), (I, oI), (x, instObj 202 dx),
      (dx, dictOf [⟨hh1, .str (Str.ofString "_headers") th1, .ref hl⟩, ⟨hh2, .str (Str.ofString "_set") th2, .ref hs⟩] nd0), (hl, listOf rv.toArray nl0), (hs, so), (rl, listOf rrv.toArray nr), (L + 1 + 1, c1), (L + 1, c2), (51, tabObj ps)] (by assumption) (by assumption) (Picks.sub (by ((try simp only [hsLed, List.cons_append, List.nil_append]); repeat' (first | exact Picks.done | exact pick_head | refine' pick_tail ?_ | refine' Picks.one ?_ ?_)))) nd4 ?_
    all_goals refine ⟨trivial, at' + 1, t3, n2', _, rfl, ⟨by omega, by omega⟩, hys.append' (.cons _ _ .nil), by rw [List.length_append, hnl]; rfl, fun z hz => ?_⟩
    all_goals (rcases List.mem_append.mp hz with hz | hz)
    all_goals (first | exact hnm z hz | (rw [List.mem_singleton.mp hz]; decide +kernel))
  · rintro ys nw ⟨at', t', n', names, rfl, hat', hys, hnl, hnm⟩ nd5 D oD h tk rfl F N nd6
    clear hit
    obtain ⟨q0, nms, rfl⟩ : ∃ q0 nms, names = q0 :: nms := by
      cases names with
      | nil => simp only [List.length_nil] at hnl; omega
      | cons a r => exact ⟨a, r, rfl⟩
    simp only [List.length_cons] at hnl
    (try dsimp only)
    obtain ⟨N9, nd9⟩ := hand (l := (I, oI) :: (D, listOf ys.toArray _) :: lawLed x dx hl hs rl sl nl hh1 hh2 at' th1 th2 t' nd0 nl0 nr n' n2 so c1 c2 rv rrv ws ps L) N nd6 (by simp only [lawLed]; ((try simp only [hsLed, List.cons_append, List.nil_append]); repeat' (first | exact Picks.done | exact pick_head | refine' pick_tail ?_ | refine' Picks.one ?_ ?_)))
    exact turn_p1 ho' KB XX TT hNS hws hi hc1 hc2 hrv hrr hS hok hps F rfl ⟨hat'.1, by omega⟩ hys (by omega) hnm rfl N9 nd9

theorem tone89b : True := by
  w_top off
  trivial
/-! The law's last statements. -/
section
variable {prog : Program} {w : World} {A : Around} {E : Value → Shared → Prop} {s : Shared} {Q : Value → Shared → Prop}
theorem eq_strs {l b : Addr} {vs ws : List Value} {ks : List Str} (hl : s.heap.IsList l vs.toArray) (hb : s.heap.IsList b ws.toArray) (h1 : StrsAre vs ks) (h2 : StrsAre ws ks) (hu : A.units < cLine) (h : Q (.bool true) s) :
    wpAny (model prog w) A (compareOp .Eq (.ref l) (.ref b)) Q E s := by
  have := SeqAt.RcAt.lists (A := A) (s := s) (e := fun _ => true) hl hb (by simp [h1.length, h2.length]) hu (fun j j1 j2 => by
    have j1' : j < vs.length := by simpa using j1
    have j2' : j < ws.length := by simpa using j2
    obtain ⟨q1, t1, e1, e2⟩ := strs_at h1 (List.getElem?_eq_getElem j1')
    obtain ⟨q2, t2, e3, e4⟩ := strs_at h2 (List.getElem?_eq_getElem j2')
    rw [e1] at e3
    have : q1 = q2 := Option.some.inj e3
    subst this
    have e5 : vs.toArray[j] = vs[j] := by simp
    have e6 : ws.toArray[j] = ws[j] := by simp
    rw [e5, e6, e2, e4]
    have := SeqAt.EqAt.str_str (A := A.in1) (s := s) q1 t1 q1 t2
    rwa [beq_self_eq_true] at this)
  rw [show ((List.range vs.toArray.size).all fun _ => true) = true from by simp] at this
  exact this prog w E Q h
end
theorem law_end {fa : Addr} {cd : Value} {prog : Program} {w : World} {H : Heap} {name qual : Str} {params : Arguments} {body : List Stmt} {scope : Scope} {dV kV doc pm cdv ct oc : Value} {an od : Option Addr} {osl : Array (Option Value)} {mg mb : Str → Option Value} {p : Program} {loose : List Str} {mean : ExcName → Option Value}
    {L : Addr} {s₁ : Shared} {h₁ : Heap} {tk₁ : Nat} {dr₁ : Drawn} {m : Str → Option Value} {ps : Array Value} {Q : Flow → Shared → Prop} {E : Value → Shared → Prop}
    (ho : (hd.heap_39 w.params).lookup 249 = some ⟨oc, od, .func (fnOf name qual params body scope dV kV doc pm an cdv ct), osl⟩) (KB : Below callerA H [] H) (XX : (hd.heap_39 w.params).In H) (TT : Top p loose mean mg mb H)
    (F : Fr H L h₁ m) (N : News H L h₁ [(51, tabObj ps)]) (hQ : ∀ h' tk dr m' ps', Fr H L h' m' → News H L h' [(51, tabObj ps')] → Q (.ret (.bool true)) { s₁ with heap := h', toks := tk, drawn := dr }) :
    wpAny (model prog w) (callerA.deeper (envOfC qual scope L fa cd)) (execs (body.drop 4) (envOfC qual scope L fa cd)) Q E { s₁ with heap := h₁, toks := tk₁, drawn := dr₁ } := by
  rw [show (hd.heap_39 w.params).lookup 249 = some _ from by k_is] at ho; have ho' := ho; cases ho
  simp only [List.drop_succ_cons, List.drop_zero]
  (try k_fold)
  have nd : (([(51, tabObj ps)] : List (Addr × Obj)).map (·.1)).Nodup := List.nodup_cons.mpr ⟨List.not_mem_nil, List.nodup_nil⟩
  repeat ((fail_if_success (with_reducible show wpAny _ _ (call (Value.ref _) _) _ _ _)); walk1)
  rename Fr H L _ _ => F1
  rename News H L _ _ => N1
  refine Ct.use (make_ct (vs := [.str (Str.ofString "a") tk₁]) (row := [Str.ofString "a"]) (.cons _ _ .nil) (by decide) (by decide +kernel) (by decide +kernel)) KB F1 XX N1 (by (refine List.nodup_cons.mpr ⟨not_mem_of ?_, by assumption⟩; (simp only [List.map_cons, List.map_nil, NeOne, and_true]); omega)) (by ((try simp only [hsLed, List.cons_append, List.nil_append]); repeat' (first | exact Picks.done | exact pick_head | refine' pick_tail ?_ | refine' Picks.one ?_ ?_))) TT rfl rfl rfl ?_
  rintro v fp' h2 tk2 F2 N2 nd2 ⟨x, dx, hl, hs, hh1, hh2, th1, th2, nd0, nl0, so, rfl, rfl, hS⟩
  simp only [hsLed, List.cons_append, List.nil_append, List.map_cons, List.map_nil] at N2 nd2
  repeat ((fail_if_success (with_reducible show wpAny _ _ (call (Value.ref _) _) _ _ _)); walk1)
  rename Fr H L _ _ => F3
  rename News H L _ _ => N3
  refine Ct.use (update_ct (ws := [.str (Str.ofString "b") _, .str (Str.ofString "A") _, .str (Str.ofString "b") _, .str (Str.ofString "c") _]) (iterBy_list _ _ 0) (.cons _ _ .nil) hS (.cons _ _ (.cons _ _ (.cons _ _ (.cons _ _ .nil)))) (by decide) (by decide +kernel)) KB F3 XX N3 (by (refine List.nodup_cons.mpr ⟨not_mem_of ?_, by assumption⟩; (simp only [List.map_cons, List.map_nil, NeOne, and_true]); omega)) (by ((try simp only [hsLed, List.cons_append, List.nil_append]); repeat' (first | exact Picks.done | exact pick_head | refine' pick_tail ?_ | refine' Picks.one ?_ ?_))) TT rfl rfl rfl ?_
  rintro v fp' h4 tk4 F4 N4 nd4 ⟨vs4, nl4, so4, rfl, rfl, hv4, hS4⟩
  simp only [hsLed, List.cons_append, List.nil_append, List.map_cons, List.map_nil] at N4 nd4
  repeat ((fail_if_success (with_reducible show wpAny _ _ (call (Value.type _) _) _ _ _)); walk1)
  rename Fr H L _ _ => F5
  rename News H L _ _ => N5
  refine list_heads KB F5 XX N5 nd4 (by ((try simp only [hsLed, List.cons_append, List.nil_append]); repeat' (first | exact Picks.done | exact pick_head | refine' pick_tail ?_ | refine' Picks.one ?_ ?_))) TT rfl rfl rfl hv4 hS4 (by decide +kernel) ?_
  intro D c h6 tk6 F6 N6 l6
  have e : [Str.ofString "b", Str.ofString "A", Str.ofString "b", Str.ofString "c"].foldl addName [Str.ofString "a"] = [Str.ofString "a", Str.ofString "b", Str.ofString "c"] := by decide +kernel
  rw [e] at hv4
  repeat ((fail_if_success (with_reducible show wpAny _ _ (compareOp _ _ _) _ _ _)); walk1)
  rename Fr H L _ _ => F7
  rename News H L _ _ => N7
  refine eq_strs (vs := vs4) (ws := [.str (Str.ofString "a") tk6, .str (Str.ofString "b") (tk6 + 1), .str (Str.ofString "c") (tk6 + 1 + 1)]) ⟨_, (N7 _ (List.mem_cons_of_mem _ (List.mem_cons_self ..))).1, rfl, _, rfl⟩ ⟨_, (N7 _ (List.mem_cons_self ..)).1, rfl, _, rfl⟩ hv4 (.cons _ _ (.cons _ _ (.cons _ _ .nil))) (room_of rfl) ?_
  exact hQ _ _ _ _ ps F7 fun p hp => N7 p (by rw [List.mem_singleton.mp hp]; k_mem)

theorem tone90 : True := by
  w_top off
  trivial
/-! The law's own body from its second statement on, in a clean context (the body comes from the part: ho). -/
theorem law_rest {fa : Addr} {cd : Value} {prog : Program} {w : World} {H : Heap} {name qual : Str} {params : Arguments} {body : List Stmt} {scope : Scope} {dV kV doc pm cdv ct oc : Value} {an od : Option Addr} {osl : Array (Option Value)} {mg mb : Str → Option Value} {p : Program} {loose : List Str} {mean : ExcName → Option Value}
    (ho : (hd.heap_39 w.params).lookup 249 = some ⟨oc, od, .func (fnOf name qual params body scope dV kV doc pm an cdv ct), osl⟩)
    (KB : Below callerA H [] H) (XX : (hd.heap_39 w.params).In H) (TT : Top p loose mean mg mb H) {sc sl nl : Addr} {NS : List Int} (hNS : (3 ≤ NS.length ∧ NS.length ≤ 27) ∧ ∀ x ∈ NS, 0 ≤ x ∧ x < 1000003)
    {L : Addr} {s : Shared} {c1 c2 : Obj} {t0 : Tok} {n1 n2 : Nat} {ws : List Value} (hws : IntsAre ws NS) (hc1 : c1.data = .cell none) (hc2 : c2.data = .cell (some (.ref sl)))
    (F : Fr H L s.heap (bindL (envOfC qual scope L fa cd).kindOf [(Str.ofString "script", .ref sc)] fun _ => none))
    (N : News H L s.heap [(sl, listOf #[.ref nl, .int 0 t0] n1), (nl, listOf ws.toArray n2), (L + 1 + 1, c1), (L + 1, c2), (51, tabObj #[])]) (nd : (([(sl, listOf #[.ref nl, .int 0 t0] n1), (nl, listOf ws.toArray n2), (L + 1 + 1, c1), (L + 1, c2), (51, tabObj #[])] : List (Addr × Obj)).map (·.1)).Nodup)
    {Q : Flow → Shared → Prop} {E : Value → Shared → Prop} (hQ : ∀ h' tk dr m' ps', Fr H L h' m' → News H L h' [(51, tabObj ps')] → Q (.ret (.bool true)) { s with heap := h', toks := tk, drawn := dr }) :
    wpAny (model prog w) (callerA.deeper (envOfC qual scope L fa cd)) (execs (body.drop 1) (envOfC qual scope L fa cd)) Q E s := by
  rw [show (hd.heap_39 w.params).lookup 249 = some _ from by k_is] at ho
  have ho' := ho
  cases ho
  simp only [List.drop_succ_cons, List.drop_zero]
  (try k_fold)
  have nn := neAll_of nd
  simp only [List.map_cons, List.map_nil, NeAll, NeOne, and_true] at nn
  repeat ((fail_if_success (with_reducible show wpAny _ _ (call (Value.ref 213) _) _ _ _)); walk1)
  rename Fr H L _ _ => F
  rename News H L _ _ => N
  refine Ct.use (next_ct (at_ := 0) (many := 4) hws hNS.1 hNS.2 ⟨by decide, by decide⟩ ⟨by decide, by decide⟩) KB F XX N ?_ (by ((try simp only [hsLed, List.cons_append, List.nil_append]); repeat' (first | exact Picks.done | exact pick_head | refine' pick_tail ?_ | refine' Picks.one ?_ ?_))) TT rfl rfl rfl ?_
  · (first | assumption | (refine nodup_of_ne ?_; (simp only [hsLed, List.cons_append, List.nil_append, List.map_cons, List.map_nil, NeAll, NeOne, and_true]); omega))
  · rintro v fp' h' tk' F' N' nd' ⟨r0, t0, t1, n1, rfl, hr0, hr1, rfl⟩
    simp only [List.cons_append, List.nil_append, List.map_cons, List.map_nil] at N' nd'
    have hb := fun q hq => Heap.lt_size (N' q hq).1
    simp only [List.forall_mem_cons, List.not_mem_nil, false_implies, implies_true, and_true] at hb
    have hb := And.intro (ltN hb.1) (And.intro (ltN hb.2.1) (And.intro (ltN hb.2.2.1) (And.intro (ltN hb.2.2.2.1) (And.intro (ltN hb.2.2.2.2.1) (ltN hb.2.2.2.2.2)))))
    iterate 3 walk1
    rename Fr H L _ _ => F5
    rename News H L _ _ => N5
    obtain ⟨rv, row, hrv, hrow, hok, hr3⟩ := start_row (t1 := s.toks) (t2 := s.toks + 1) (t3 := s.toks + 1 + 1) hr0 hr1
    rw [hrv] at N5
    clear hrv
    repeat ((fail_if_success (with_reducible show wpAny _ _ (call (Value.ref 202) _) _ _ _)); walk1)
    rename Fr H L _ _ => F6
    rename News H L _ _ => N6
    refine Ct.use (make_ct (vs := rv) (row := row) hrow hr3 hok.sz hok.2) KB F6 XX N6 ?_ (by ((try simp only [hsLed, List.cons_append, List.nil_append]); repeat' (first | exact Picks.done | exact pick_head | refine' pick_tail ?_ | refine' Picks.one ?_ ?_))) TT rfl rfl rfl ?_
    · have nn2 := neAll_of nd'
      simp only [List.map_cons, List.map_nil, NeAll, NeOne, and_true] at nn2
      (first | assumption | (refine nodup_of_ne ?_; (simp only [hsLed, List.cons_append, List.nil_append, List.map_cons, List.map_nil, NeAll, NeOne, and_true]); omega))
    · rintro v fp' h' tk' F' N' nd' ⟨x, dx, hl, hs, hh1, hh2, th1, th2, nd0, nl0, so, rfl, rfl, hS⟩
      simp only [hsLed, List.cons_append, List.nil_append, List.map_cons, List.map_nil] at N' nd'
      have nn3 := nePre_of (pre := [x, dx, hl, hs, _, sl, nl, _]) (b := L + 1 + 1) (post := [L + 1, 51]) nd'
      simp only [NePre, NeOne, and_true] at nn3
      clear nn hb
      repeat ((fail_if_success (with_reducible show wpAny _ _ (exec (Stmt.For _ _ _ _ _) _) _ _ _)); walk1)
      rename Fr H L _ _ => F7
      rename News H L _ _ => N7
      refine For_draw (h₀ := H) (m := fun _ => none) rfl rfl rfl ?_
      repeat ((fail_if_success (with_reducible show wpAny _ _ (call (Value.ref 213) _) _ _ _)); walk1)
      rename Obj => cO
      rename cO.data = _ => dO
      rename Fr H L _ _ => F8
      rename News H L _ _ => N8
      refine Ct.use (next_ct (at_ := 0 + 1) (many := 21) hws hNS.1 hNS.2 ⟨by decide, by decide⟩ ⟨by decide, by decide⟩) KB F8 XX N8 nd' (by ((try simp only [hsLed, List.cons_append, List.nil_append]); repeat' (first | exact Picks.done | exact pick_head | refine' pick_tail ?_ | refine' Picks.one ?_ ?_))) TT rfl rfl rfl ?_
      rintro v fp' h9 tk9 F9 N9 nd9 ⟨r1, t2, t3, n1', rfl, hr2, hr4, rfl⟩
      simp only [List.cons_append, List.nil_append, List.map_cons, List.map_nil] at N9 nd9
      obtain ⟨k, rfl⟩ := Int.eq_ofNat_of_zero_le hr2
      dsimp only at F9 N9
      repeat ((fail_if_success (show ∃ _ : Addr, _)); walk1)
      rename IsRange _ _ _ _ _ _ _ _ => R1
      rename Fr H L _ _ => F10
      rename News H L _ _ => N10
      have hr := range_n (n := k) (by omega)
      obtain ⟨N11, nd11⟩ := hand (l := lawLed x dx hl hs _ sl nl hh1 hh2 (0 + 1 + 1) th1 th2 t3 nd0 nl0 0 n1' n2 so cO c2 rv rv ws #[] L) N10 nd9 (by simp only [lawLed]; ((try simp only [hsLed, List.cons_append, List.nil_append]); repeat' (first | exact Picks.done | exact pick_head | refine' pick_tail ?_ | refine' Picks.one ?_ ?_)))
      refine ⟨_, _, _, _, _, k, _, _, LawInv w L NS, rfl, R1, hr.1, hr.2, F10, N11, nd11, ⟨x, dx, hl, hs, _, sl, nl, hh1, hh2, (0 + 1 + 1), th1, th2, t3, nd0, nl0, 0, n1', n2, so, cO, c2, rv, rv, ws, row, #[], rfl, hws, ⟨by decide, by decide⟩, dO, hc2, hrow, hrow, hS, hok, ⟨?_, ?_⟩, rfl⟩, ?_, ?_⟩
      · first | trivial | exact .nil | decide | simp [TriplesOk]
      · exact .inl rfl
      · intro i t m₁ nw hh tk dr I oI hik hJ F N nd
        obtain ⟨x, dx, hl, hs, rl, sl, nl, hh1, hh2, at_, th1, th2, ta, nd0, nl0, nr, n1, n2, so, c1, c2, rv, rrv, ws, row, ps, rfl, hws, hat, hc1, hc2, hrv, hrr, hS, hok, hps, hmr⟩ := hJ
        exact turn_p0 ho' KB XX TT hNS hws (by omega) hc1 hc2 hrv hrr hS hok hps F hmr hat N nd
      · intro m₁ nw hh tk dr hJ F N nd
        obtain ⟨x, dx, hl, hs, rl, sl, nl, hh1, hh2, at_, th1, th2, ta, nd0, nl0, nr, n1, n2, so, c1, c2, rv, rrv, ws, row, ps, rfl, hws, hat, hc1, hc2, hrv, hrr, hS, hok, hps, hmr⟩ := hJ
        refine law_end (ps := ps) ho' KB XX TT F (fun p hp => N p (by rw [List.mem_singleton.mp hp]; simp only [lawLed, hsLed, List.cons_append, List.nil_append]; k_mem)) ?_
        intro h' tk' dr' m' ps' F' N'
        exact hQ h' tk' dr' m' ps' F' N'

theorem tone91 : True := by
  w_top off
  trivial
/-! The law's own body, in a clean context (the body comes from the part: ho). -/
theorem law_rest8 {fa : Addr} {cd : Value} {prog : Program} {w : World} {H : Heap} {name qual : Str} {params : Arguments} {body : List Stmt} {scope : Scope} {dV kV doc pm cdv ct oc : Value} {an od : Option Addr} {osl : Array (Option Value)} {mg mb : Str → Option Value} {p : Program} {loose : List Str} {mean : ExcName → Option Value}
    (ho : (hd.heap_39 w.params).lookup 249 = some ⟨oc, od, .func (fnOf name qual params body scope dV kV doc pm an cdv ct), osl⟩)
    (KB : Below callerA H [] H) (XX : (hd.heap_39 w.params).In H) (TT : Top p loose mean mg mb H) {sc sl nl : Addr} {NS : List Int} (hNS : (3 ≤ NS.length ∧ NS.length ≤ 27) ∧ ∀ x ∈ NS, 0 ≤ x ∧ x < 1000003)
    {L : Addr} {s : Shared} {c1 c2 : Obj} {t0 : Tok} {n1 n2 : Nat} {ws : List Value} (hws : IntsAre ws NS) (hc1 : c1.data = .cell none) (hc2 : c2.data = .cell (some (.ref sl)))
    (F : Fr H L s.heap (bindL (envOfC qual scope L fa cd).kindOf [(Str.ofString "script", .ref sc)] fun _ => none))
    {e1 e2 e3 : Addr × Obj} (N : News H L s.heap [(sl, listOf #[.ref nl, .int 0 t0] n1), (nl, listOf ws.toArray n2), e1, e2, e3, (L + 1 + 1, c1), (L + 1, c2), (51, tabObj #[])]) (o1 : @LT.lt Nat _ nl sl) (o2 : @LT.lt Nat _ (L + 1 + 1) nl) (o3 : @LT.lt Nat _ 51 nl) (o4 : (@Ne Nat (L + 1 + 1) 51) ∧ @Ne Nat (L + 1) 51)
    {Q : Flow → Shared → Prop} {E : Value → Shared → Prop} (hQ : ∀ h' tk dr m' ps', Fr H L h' m' → News H L h' [(51, tabObj ps')] → Q (.ret (.bool true)) { s with heap := h', toks := tk, drawn := dr }) :
    wpAny (model prog w) (callerA.deeper (envOfC qual scope L fa cd)) (execs (body.drop 1) (envOfC qual scope L fa cd)) Q E s := by
  refine law_rest (nl := nl) (t0 := t0) (n1 := n1) (n2 := n2) ho KB XX TT hNS hws hc1 hc2 F (fun p hp => N p ?_) ?_ hQ
  · simp only [List.mem_cons, List.not_mem_nil, or_false] at hp ⊢
    rcases hp with h | h | h | h | h
    · exact .inl h
    · exact .inr (.inl h)
    · exact .inr (.inr (.inr (.inr (.inr (.inl h)))))
    · exact .inr (.inr (.inr (.inr (.inr (.inr (.inl h))))))
    · exact .inr (.inr (.inr (.inr (.inr (.inr (.inr h))))))
  · refine nodup_of_ne ?_
    simp only [List.map_cons, List.map_nil, NeAll, NeOne, and_true]
    omega
theorem law_walk {fa : Addr} {cd : Value} {prog : Program} {w : World} {H : Heap} {name qual : Str} {params : Arguments} {body : List Stmt} {scope : Scope} {dV kV doc pm cdv ct oc : Value} {an od : Option Addr} {osl : Array (Option Value)} {mg mb : Str → Option Value} {p : Program} {loose : List Str} {mean : ExcName → Option Value}
    (ho : (hd.heap_39 w.params).lookup 249 = some ⟨oc, od, .func (fnOf name qual params body scope dV kV doc pm an cdv ct), osl⟩)
    (KB : Below callerA H [] H) (XX : (hd.heap_39 w.params).In H) (TT : Top p loose mean mg mb H) {sc : Addr} {vs : List Value} {ns : List Int} (hl : H.IsList sc vs.toArray) (hI : IntsAre vs ns) (hlen : ns.length ≤ 63)
    {L : Addr} {s : Shared} {cells : List (Addr × Obj)} (F : Fr H L s.heap (bindL (envOfC qual scope L fa cd).kindOf [(Str.ofString "script", .ref sc)] fun _ => none)) (N : News H L s.heap (cells ++ [(51, tabObj #[])])) (nd : ((cells ++ [(51, tabObj #[])] : List (Addr × Obj)).map (·.1)).Nodup)
    (Y : CellsAre (bindC (envOfC qual scope L fa cd).kindOf [(Str.ofString "script", .ref sc)] fun _ => none) (cellsFrom (L + 1) scope.names []) cells)
    {Q : Flow → Shared → Prop} {E : Value → Shared → Prop} (hQ : ∀ h' tk dr m' ps', Fr H L h' m' → News H L h' [(51, tabObj ps')] → Q (.ret (.bool true)) { s with heap := h', toks := tk, drawn := dr }) :
    wpAny (model prog w) (callerA.deeper (envOfC qual scope L fa cd)) (execs body (envOfC qual scope L fa cd)) Q E s := by
  rw [show (hd.heap_39 w.params).lookup 249 = some _ from by k_is] at ho
  have ho' := ho
  cases ho
  obtain ⟨c1, c2, rfl, hc1, hc2⟩ := CellsAre.two Y
  clear Y
  simp only [List.cons_append, List.nil_append] at N nd
  replace hc1 : c1.data = .cell none := hc1
  replace hc2 : c2.data = .cell none := hc2
  have nn := neAll_of nd
  simp only [List.map_cons, List.map_nil, NeAll, NeOne, and_true] at nn
  (try k_fold)
  repeat ((fail_if_success (with_reducible show wpAny _ _ (execs (Stmt.Assign [Expr.Name (Str.ofString "row") _] _ _ :: _) _) _ _ _)); walk1)
  rename IntsAre _ (List.map _ (List.take 24 ns) ++ [5, 0, 11]) => hW
  rename Fr H L _ _ => F9
  rename News H L _ _ => N9
  rename Obj => cO
  rename cO.data = _ => dO
  refine law_rest8 (NS := stateNums ns) ho' KB XX TT (state_ok ns) hW hc1 dO F9 N9 ?_ ?_ ?_ ⟨nn.1.2, nn.2⟩ hQ
  all_goals omega

theorem tone92 : True := by
  w_top off
  trivial
theorem top : PySem.Challenge.rw_ez0424_01.Holds := hd (by
  k_go0
  all_goals try k_fold
  rename Below callerA _ [] _ => KB
  rename Top _ _ _ _ _ (ghostOf _ _) => TT
  rename Frag.In _ (ghostOf _ _) => XX
  rename Fr (ghostOf _ _) _ _ _ => F0
  rename News (ghostOf _ _) _ _ _ => N0
  rename Heap.IsList (ghostOf _ _) _ _ => LL
  rename IntsAre _ _ => II
  rename CellsAre _ _ _ => YY
  rename ¬ ((63 : Nat) : Int) < _ => hc
  rename 51 < _ => l0
  dsimp only at F0 N0 YY ⊢
  refine' law_walk (cells := [_, _]) ?ho KB XX TT LL II ?hl ?F ?N ?nd ?Y ?q
  case ho => k_is
  case hl => omega
  case F => exact F0
  case N => exact N0
  case Y => exact YY
  case nd =>
    refine nodup_of_ne ?_
    simp only [List.cons_append, List.nil_append, List.map_cons, List.map_nil, NeAll, NeOne, and_true]
    omega
  case q =>
    intro h' tk dr m' ps' F' N'
    dsimp only
    refine And.intro ?_ ⟨⟨ps', (N' _ (List.mem_cons_self ..)).1⟩, True.intro⟩
    k_end
    wrow_close)

end Mine
theorem PySem.Challenge.cw_ez0424_01_holds : PySem.Challenge.rw_ez0424_01.Holds := by
  exact Mine.top
