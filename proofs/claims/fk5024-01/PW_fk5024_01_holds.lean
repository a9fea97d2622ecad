import PyProof.Rows.All
import Wide.All
import OpenK.AllK
import Wide.FinOn
import PySem.Challenge.RW_fk5024_01
open PySem PySem.W PyProof.Rows PySem.Calls PySem.Spec
set_option Elab.async false
set_option maxRecDepth 100000
namespace Mine
local macro_rules | `(tactic| o_head ($f:term $k $a $e $ts)) => `(tactic| o_head (($f $k $a $e (237 :: $ts) : PySem.W.Hook)))
set_option maxHeartbeats 8000000 in
open_top hd for PySem.Challenge.rw_fk5024_01
theorem fill (w : World) : Mine.hd.heap_39 w.params = Mine.hd.heap_39 w.params ∧ PySem.Challenge.rw_fk5024_01 = PySem.Challenge.rw_fk5024_01 := by
  k_fill
  w_top off
  exact ⟨rfl, rfl⟩
abbrev Stays (h h' : Heap) : Prop := ∀ b o, h.get? b = some o → h'.get? b = some o
abbrev Led := List (Addr × Obj)

def LeaveP (H h₀ : Heap) (L : Addr) (m : Str → Option Value) (g : Heap) (args : Led) (R : Result → Shared → Prop) (v : Value) (s' : Shared) : Prop :=
  ∃ L' m' news', Fr g L' s'.heap m' ∧ News g L' s'.heap news' ∧ (∀ p ∈ args, p ∈ news') ∧ (Fr h₀ L s'.heap m → News h₀ L s'.heap news' → Stays H s'.heap → R (.ok (.ret v)) s')

theorem leaveP_ {H h₀ g : Heap} {L L' : Addr} {m m' : Str → Option Value} {args news' : Led} {R : Result → Shared → Prop} {v : Value} {s' : Shared} (F' : Fr g L' s'.heap m') (N' : News g L' s'.heap news') (hs : ∀ p ∈ args, p ∈ news')
    (k : Fr h₀ L s'.heap m → News h₀ L s'.heap news' → Stays H s'.heap → R (.ok (.ret v)) s') : LeaveP H h₀ L m g args R v s' := ⟨L', m', news', F', N', hs, k⟩

section
variable {prog : Program} {w : World} {A₀ A : Around} {s : Shared} {base h₀ : Heap} {outer : List Env} {L : Addr} {m : Str → Option Value} {env : Env} {args : Led}
theorem code_defP {K : Frag} {p : Program} {loose : List Str} {mean : ExcName → Option Value} {mg mb : Str → Option Value} {R : Result → Shared → Prop} {name qual : Str} {params : Arguments} {body : List Stmt} {scope : Scope} {dV kV doc pm cdv ct oc : Value} {an od : Option Addr} {osl : Array (Option Value)} {f : Addr} {vals : Args} {binds : List (Str × Value)}
    (B : Below A₀ base outer h₀) (F : Fr h₀ L s.heap m) (X₀ : K.In h₀) (N : News h₀ L s.heap args) (T : Top p loose mean mg mb h₀) (hA : A.frames = some (env :: outer)) (hf : env.frame = some L) (hke : env.scope.kind = .function)
    (ho : K.lookup f = some ⟨oc, od, .func (fnOf name qual params body scope dV kV doc pm an cdv ct), osl⟩) (hcd : codeIn K cdv qual = true) (hroom : A.depth < recursionLimit)
    (hbind : BindsTo s (fnOf name qual params body scope dV kV doc pm an cdv ct) vals binds) (hloc : ∀ y ∈ binds, scope.names.lookup y.1 = some .local)
    (h : ∀ g L' h₁, Fr h₀ L g m → Fr g L' h₁ (fun y => binds.reverse.lookup y) → News g L' h₁ args → Below A base (env :: outer) g → K.In g → Top p loose mean mg mb g →
      wpAny (model prog w) (A.deeper (envOf qual scope L' f cdv)) (execs body (envOf qual scope L' f cdv))
        (fun fl s' => LeaveP s.heap h₀ L m g args R (match fl with | .ret v => v | _ => .none) s')
        (fun e s' => wpAny (model prog w) (A.deeper (envOf qual scope L' f cdv)) (leaving (envOf qual scope L' f cdv) e) (fun _ s'' => R (.error e) s'') (fun e' s'' => R (.error e') s'') s')
        { s with heap := h₁, toks := s.toks + binds.length })
    (hco : scope.isCoroutine = false) (hgen : scope.isGenerator = false) (hk : scope.kind = .function)
    (hcell : ∀ x ∈ scope.names, x.2 ≠ .cell) : codeAny (model prog w) A (.call (.ref f) vals) R s := by
  refine code_defG B F X₀ N T hA hf hke ho hcd hroom hbind hloc (fun g L' h₁ FG F' N' B' X' T' GS => ?_) hco hgen hk hcell
  refine wpAny_mono (h g L' h₁ FG F' N' B' X' T') (fun fl s' hl => ?_) fun _ _ x => x
  obtain ⟨L₂, m₂, news₂, F₂, N₂, hs, k⟩ := hl
  refine ⟨L₂, m₂, news₂, F₂, N₂, fun Fc Nc => k Fc Nc fun b o e => ?_⟩
  by_cases hb : b ∈ args.map (·.1)
  · obtain ⟨p, hp, rfl⟩ := List.mem_map.mp hb
    have h1 := (N p hp).1
    rw [e] at h1
    cases h1
    exact (N₂ p (hs p hp)).1
  · exact F₂.keep b o (GS b o e hb)
end

/-- a call of f that leaves all that stood as it was -/
def PureC (prog : Program) (w : World) (D U : Nat) (f : Addr) (vs : List Value) (args : Led) (R : Heap → Heap → Addr → Heap → Value → Prop) : Prop :=
  ∀ (loose : List Str) (mean : ExcName → Option Value) (mg mb : Str → Option Value) (gd : Option (List Code)) (cn : Str) (cs : Scope) (a : Addr) (ccd : Value) (cl : List (Str × Addr)) (outer : List Env) (A₀ : Around) (base h₀ : Heap) (L : Addr) (m : Str → Option Value) (s : Shared)
    (Q E : Value → Shared → Prop),
    Below A₀ base outer h₀ → Fr h₀ L s.heap m → (Mine.hd.heap_39 w.params).In h₀ → News h₀ L s.heap args → Top topProg loose mean mg mb h₀ → cs.kind = .function →
    (∀ r h' tk', Fr h₀ L h' m → Stays s.heap h' → R s.heap h₀ L h' r → Q r { s with heap := h', toks := tk' }) →
    wpAny (model prog w) (ktrTop D U gd cn cs L a ccd cl outer) (call (.ref f) vs) Q E s

theorem News.stay {h₀ h h' : Heap} {L : Addr} {news : Led} (N : News h₀ L h news) (k : Stays h h') : News h₀ L h' news := fun p hp => ⟨k _ _ (N p hp).1, (N p hp).2⟩
theorem News.sub {h₀ h : Heap} {L : Addr} {news args : Led} (N : News h₀ L h news) (k : ∀ p ∈ args, p ∈ news) : News h₀ L h args := fun p hp => N p (k p hp)

theorem PureC.use {prog : Program} {w : World} {D U : Nat} {f : Addr} {vs : List Value} {args : Led} {R : Heap → Heap → Addr → Heap → Value → Prop} (C : PureC prog w D U f vs args R)
    {loose : List Str} {mean : ExcName → Option Value} {mg mb : Str → Option Value} {A : Around} {cn : Str} {cs : Scope} {a : Addr} {ccd : Value} {cl : List (Str × Addr)} {outer : List Env} {A₀ : Around} {base h₀ : Heap} {L : Addr} {m : Str → Option Value} {s : Shared} {news : Led}
    {Q E : Value → Shared → Prop} (hA : A.frames = some (envX cn cs L a ccd cl :: outer)) (hh : A.handled = none) (hd : A.depth ≤ D) (hu : A.units ≤ U)
    (B : Below A₀ base outer h₀) (F : Fr h₀ L s.heap m) (X : (Mine.hd.heap_39 w.params).In h₀) (N : News h₀ L s.heap news) (hs : ∀ p ∈ args, p ∈ news) (T : Top topProg loose mean mg mb h₀) (hk : cs.kind = .function)
    (ret : ∀ r h' tk', Fr h₀ L h' m → News h₀ L h' news → News h₀ L s.heap news → Stays s.heap h' → R s.heap h₀ L h' r → Q r { s with heap := h', toks := tk' }) :
    wpAny (model prog w) A (call (.ref f) vs) Q E s := by
  have z := C loose mean mg mb A.guards cn cs a ccd cl outer A₀ base h₀ L m s Q E B F X (News.sub N hs) T hk (fun r h' tk' F' st hR => ret r h' tk' F' (News.stay N st) N st hR)
  intro Γ p hΓ
  refine z Γ p ⟨by rw [hΓ.1, hh], Nat.le_trans hΓ.2.1 hd, fun l hl => hΓ.2.2.1 l (hA.trans hl), fun g hg => hΓ.2.2.2.1 g hg, Nat.le_trans hΓ.2.2.2.2 hu⟩

theorem PureC.mono {prog : Program} {w : World} {D U : Nat} {f : Addr} {vs : List Value} {args : Led} {R R' : Heap → Heap → Addr → Heap → Value → Prop} (C : PureC prog w D U f vs args R) (k : ∀ H h₀ L h v, R H h₀ L h v → R' H h₀ L h v) : PureC prog w D U f vs args R' := by
  intro loose mean mg mb gd cn cs a ccd cl outer A₀ base h₀ L m s Q E B F X N T hk ret
  exact C loose mean mg mb gd cn cs a ccd cl outer A₀ base h₀ L m s Q E B F X N T hk fun r h' tk' F' st hR => ret r h' tk' F' st (k _ _ _ _ _ hR)

def LeaveM (H h₀ : Heap) (L : Addr) (m : Str → Option Value) (g : Heap) (args : Led) (x : Addr) (Q : Value → Shared → Prop) (v : Value) (s' : Shared) : Prop :=
  v = .none ∧ ∃ L₂ m₂ news', Fr g L₂ s'.heap m₂ ∧ News g L₂ s'.heap news' ∧ (∀ p ∈ args, p ∈ news') ∧ (Fr h₀ L s'.heap m → News h₀ L s'.heap news' → Stays H s'.heap → Q (.ref x) s')
theorem leaveM_ {H h₀ g : Heap} {L L' x : Addr} {m m' : Str → Option Value} {args news' : Led} {Q : Value → Shared → Prop} {s' : Shared} (F' : Fr g L' s'.heap m') (N' : News g L' s'.heap news') (hs : ∀ p ∈ args, p ∈ news')
    (k : Fr h₀ L s'.heap m → News h₀ L s'.heap news' → Stays H s'.heap → Q (.ref x) s') : LeaveM H h₀ L m g args x Q .none s' := ⟨rfl, L', m', news', F', N', hs, k⟩
/-- a class of the text's is called: its __init__ over two new objects -/
theorem make_P {prog : Program} {w : World} {A₀ A : Around} {s : Shared} {base h₀ : Heap} {outer : List Env} {L : Addr} {m : Str → Option Value} {env : Env} {args : Led}
    {K : Frag} {C fI : Addr} {p : Program} {loose : List Str} {mean : ExcName → Option Value} {mg mb : Str → Option Value} {Q E : Value → Shared → Prop} {name qual : Str} {params : Arguments} {body : List Stmt} {scope : Scope} {dV kV doc pm cdv ct oc : Value} {an od : Option Addr} {osl : Array (Option Value)} {vals : List Value} {binds : Addr → List (Str × Value)}
    (B : Below A₀ base outer h₀) (F : Fr h₀ L s.heap m) (X₀ : K.In h₀) (N : News h₀ L s.heap args) (T : Top p loose mean mg mb h₀) (hf : env.frame = some L) (hke : env.scope.kind = .function)
    (hA' : (A.under (.builtin "type.__call__" ⟨.ref C :: vals, []⟩)).frames = some (env :: outer)) (hm : makesIn K C = true) (hi : findIn K (.ref C) "__init__" = some (some (.ref fI))) (hfn : isFn K (.ref fI) = true)
    (ho : K.lookup fI = some ⟨oc, od, .func (fnOf name qual params body scope dV kV doc pm an cdv ct), osl⟩) (hcd : codeIn K cdv qual = true) (hroom : A.depth + 1 < recursionLimit)
    (hbind : ∀ x s, BindsTo s (fnOf name qual params body scope dV kV doc pm an cdv ct) ⟨.ref x :: vals, []⟩ (binds x)) (hloc : ∀ x, ∀ y ∈ binds x, scope.names.lookup y.1 = some .local)
    (h : ∀ x dx g L' h₁ tk, (∀ p ∈ args, p.1 < dx) → dx < x → s.heap.get? x = none ∧ s.heap.get? dx = none → Fr h₀ L g m → Fr g L' h₁ (fun y => (binds x).reverse.lookup y) → News g L' h₁ ((x, instObj C dx) :: (dx, dictOf [] 0) :: args) → Below (A.under (.builtin "type.__call__" ⟨.ref C :: vals, []⟩)) base (env :: outer) g → K.In g → Top p loose mean mg mb g →
      wpAny (model prog w) ((A.under (.builtin "type.__call__" ⟨.ref C :: vals, []⟩)).deeper (envOf qual scope L' fI cdv)) (execs body (envOf qual scope L' fI cdv))
        (fun fl s' => LeaveM s.heap h₀ L m g args x Q (match fl with | .ret v => v | _ => Value.none) s')
        (fun e s' => wpAny (model prog w) ((A.under (.builtin "type.__call__" ⟨.ref C :: vals, []⟩)).deeper (envOf qual scope L' fI cdv)) (leaving (envOf qual scope L' fI cdv) e) (fun _ s'' => E e s'') (fun e' s'' => E e' s'') s')
        { s with heap := h₁, toks := tk })
    (hco : scope.isCoroutine = false) (hgen : scope.isGenerator = false) (hk : scope.kind = .function)
    (hcell : ∀ x ∈ scope.names, x.2 ≠ .cell) : wpAny (model prog w) A (call (.ref C) vals) Q E s := by
  refine wpAny_call ?_
  have X := X₀.keeps F.keep
  obtain ⟨hh, g, d, t, os⟩ := s
  refine make_core (makes_of X hm) (looks_findIn X hi) (fun self => bind_fn X self (beq_iff_eq.mp hfn)) (.inl rfl) ?_
  have N' := (N.push F emptyDict).push (F.push _) (instObj C hh.objs.size)
  rw [Heap.size_push] at N'
  have F₁ : Fr h₀ L ((hh.push emptyDict).push (instObj C hh.objs.size)) m := (F.push _).push _
  have st₁ : Stays hh ((hh.push emptyDict).push (instObj C hh.objs.size)) := fun b o e => Heap.get?_push_of_some _ (Heap.get?_push_of_some _ e)
  refine code_defG (s := ⟨(hh.push emptyDict).push (instObj C hh.objs.size), g, d, t, os⟩) (R := InitBack (hh.objs.size + 1) (fun r s' => match r with | .ok (.ret v) => Q v s' | .ok _ => False | .error e => E e s')) (A := A.under (.builtin "type.__call__" ⟨.ref C :: vals, []⟩)) B F₁ X₀ N' T hA' hf hke ho hcd (by show A.depth + 1 < _; exact hroom) (hbind _ _) (hloc _) (fun g' L' h₁ FG F' N₁ B' X' T' GS => ?_) hco hgen hk hcell
  refine wpAny_mono (h _ hh.objs.size g' L' h₁ _ (fun p hp => Heap.lt_size (N p hp).1) (Nat.lt_succ_self _) ⟨Heap.get?_none_of_le (Nat.le_succ _), Heap.get?_none_of_le (Nat.le_refl _)⟩ FG F' N₁ B' X' T') (fun fl s' hl => ?_) fun e s' z => wpAny_mono z (fun _ _ y => y) fun _ _ y => y
  obtain ⟨e1, L₂, m₂, news₂, F₂, N₂, hs, k⟩ := hl
  refine ⟨L₂, m₂, news₂, F₂, N₂, fun Fc Nc => ⟨e1, k Fc Nc fun b o e => ?_⟩⟩
  have e2 := st₁ b o e
  by_cases hb : b ∈ ((hh.objs.size + 1, instObj C hh.objs.size) :: (hh.objs.size, emptyDict) :: args).map (·.1)
  · rw [List.map_cons, List.map_cons] at hb
    have lt := Heap.lt_size e
    rcases List.mem_cons.mp hb with rfl | hb
    · exact absurd lt (Nat.not_lt.mpr (Nat.le_succ _))
    · rcases List.mem_cons.mp hb with rfl | hb
      · exact absurd lt (Nat.lt_irrefl _)
      · obtain ⟨p, hp, rfl⟩ := List.mem_map.mp hb
        have h1 := (N p hp).1
        rw [e] at h1
        cases h1
        exact (N₂ p (hs p hp)).1
  · exact F₂.keep b o (GS b o e2 hb)

local macro_rules | `(tactic| walk_at "MINE enterM") => `(tactic| (
  refine' make_P ?kB0 ?kF0 ?kX0 ?kN0 ?kT0 ?kf ?kK ?kA ?k4 ?k5 ?k6 ?k7 ?k8 ?k9 ?k10 ?kB ?_ ?c2 ?c3 ?c4 ?c5
  (case kB0 => assumption); (case kF0 => assumption); (case kX0 => assumption); (case kN0 => assumption); (case kT0 => assumption)
  (case kA => exact rfl)
  (case kf => exact rfl)
  (case kK => assumption)
  (case k4 => k_dflt k_is); (case k5 => k_dflt k_is); (case k6 => k_dflt k_is); (case k7 => k_dflt k_is); (case k8 => k_dflt k_is)
  (case k9 => k_dflt ((try simp only [depth_under_make, depth_under_kw, depth_in1, depth_deeper, depth_caller]); decide))
  (case k10 => exact fun x s => BindsTo.of_eq rfl)
  (case kB => exact fun x => locs rfl)
  (case c5 => decide); (case c2 => exact rfl); (case c3 => exact rfl); (case c4 => exact rfl)
  k_whole
  intro x dx g' L' h' tk l1 l2 l3 FG' F' N' B' X' T'
  (try dsimp only)
  (try k_lt l1); (try k_lt2 l2)
  (try k_fold)))
local macro_rules | `(tactic| walk_at "MINE enter") => `(tactic| (k_dflt (
  (refine' code_defP ?k1 ?k2 ?k3 ?k4 ?k5 ?kA ?kF ?kK ?k6 ?k7 ?k8 ?k9 ?kB ?_ ?c2 ?c3 ?c4 ?c5; (case k1 => assumption); (case k2 => assumption); (case k3 => assumption); (case k4 => assumption); (case k5 => assumption); (case kA => exact rfl); (case kF => exact rfl); (case kK => assumption); (case k6 => k_is); (case k7 => k_is); (case k8 => k_room); (case k9 => first | exact BindsTo.of_eq rfl | exact binds_K (by k_in) rfl (by k_is) rfl rfl rfl | fail "enter: no rule for these arguments"); (case c5 => decide); (case kB => exact locs rfl); (case c2 => exact rfl); (case c3 => exact rfl); (case c4 => exact rfl); k_whole; intro g' L' h' FG' F' N' B' X' T'; (try dsimp only); (try k_fold)))))
local macro_rules | `(tactic| walk_at "MINE sub") => `(tactic| k_dflt (first | exact List.forall_mem_nil _ | (refine' List.forall_mem_cons.mpr ⟨?pa, ?pb⟩; (case pa => k_mem); (case pb => walk_at "MINE sub"))))
abbrev numD (P : Params) (n : Int) (k1 k2 k3 v1 v2 v3 : Tok) : Obj :=
  dictOf [⟨PyData.keyHash P (Str.ofString "b"), .str (Str.ofString "b") k1, .int n v1⟩, ⟨PyData.keyHash P (Str.ofString "min"), .str (Str.ofString "min") k2, .int n v2⟩, ⟨PyData.keyHash P (Str.ofString "max"), .str (Str.ofString "max") k3, .int n v3⟩] 3

def NumR (P : Params) (n : Int) (_H h₀ : Heap) (L : Addr) (h : Heap) (r : Value) : Prop :=
  ∃ x dx k1 k2 k3 v1 v2 v3, r = .ref x ∧ News h₀ L h [(x, instObj 357 dx), (dx, numD P n k1 k2 k3 v1 v2 v3)]

def NewR (P : Params) (n : Int) (H h₀ : Heap) (L : Addr) (h : Heap) (r : Value) : Prop :=
  ∃ x dx k1 k2 k3 v1 v2 v3, r = .ref x ∧ News h₀ L h [(x, instObj 357 dx), (dx, numD P n k1 k2 k3 v1 v2 v3)] ∧ H.get? x = none ∧ H.get? dx = none

set_option maxHeartbeats 4000000
theorem new_num (prog : Program) (w : World) (n : Int) (t : Tok) : PureC prog w 600 3000 357 [.int n t] [] (NewR w.params n) := by
  unfold PureC
  intro loose mean mg mb gd cn cs a ccd cl outer A₀ base h₀ L m s Q E B F X N T hk hret
  walk_at "MINE enterM"
  k_steps
  refine leaveM_ (by k_asm) (by k_asm) (List.forall_mem_nil _) ?_
  intro Fz Nz Sz
  refine' hret _ _ _ Fz Sz ⟨_, _, _, _, _, _, _, _, rfl, News.sub Nz ?sb, And.left (by assumption), And.right (by assumption)⟩
  case sb => walk_at "MINE sub"

def IntR (n : Int) (_H _h₀ : Heap) (_L : Addr) (_h : Heap) (r : Value) : Prop := ∃ t, r = .int n t

theorem fmod_lt (p q : Int) (hq : q ≠ 0) : (p.fmod q).natAbs < q.natAbs := by
  have h := (fdiv_fmod_facts p q).2.2
  rcases Int.lt_trichotomy q 0 with k | k | k
  · have := h.2 k; omega
  · exact absurd k hq
  · have := h.1 k; omega
theorem gcd_fmod (p q : Int) : Int.gcd q (p.fmod q) = Int.gcd p q := by
  have e : p.fmod q = p + q * -(p.fdiv q) := by have := Int.mul_fdiv_add_fmod p q; rw [Int.mul_neg]; omega
  rw [e, Int.gcd_comm p q, Int.gcd_add_mul_left_right]
theorem gcd_word {x y p q : Int} (h : Int.gcd p q = Int.gcd x y) : Int.gcd q (p.fmod q) = Int.gcd x y := (gcd_fmod p q).trans h
theorem gcd_end {x y p q : Int} (h : Int.gcd p q = Int.gcd x y) (hq : q = 0) : (if p < 0 then -p else p) = (Int.gcd x y : Int) := by
  subst hq
  rw [← h, Int.gcd_zero_right]
  split <;> omega
theorem gcd_word2 {x y p q : Int} (h : Int.gcd p q = Int.gcd x y) (h0 : 0 ≤ q) (hq : 0 < q) : Int.gcd q (p.fmod q) = Int.gcd x y ∧ 0 ≤ q ∧ 0 ≤ p.fmod q :=
  ⟨gcd_word h, h0, ((fdiv_fmod_facts p q).2.2.1 hq).1⟩
theorem gcd_word3 {x y : Int} : Int.gcd (if x < 0 then -x else x) (if y < 0 then -y else y) = Int.gcd x y ∧ 0 ≤ (if x < 0 then -x else x) ∧ 0 ≤ (if y < 0 then -y else y) := by
  refine ⟨?_, by split <;> omega, by split <;> omega⟩
  split <;> split <;> simp
theorem gcd_end2 {x y p q : Int} (h : Int.gcd p q = Int.gcd x y) (hp : 0 ≤ p) (hq : q = 0) : p = (Int.gcd x y : Int) := by
  subst hq
  rw [← h, Int.gcd_zero_right]
  omega
set_option maxHeartbeats 4000000
theorem gcd_c (prog : Program) (w : World) (x y : Int) (tx ty : Tok) : PureC prog w 600 3000 35 [.int x tx, .int y ty] [] (IntR (Int.gcd x y)) := by
  unfold PureC
  intro loose mean mg mb gd cn cs a ccd cl outer A₀ base h₀ L m s Q E B F X N T hk hret
  refine wpAny_call ?_
  walk_at "MINE enter"
  k_with "exec While Name cons nil" => k_while (fun _ p q => Int.gcd p q = Int.gcd x y) (fun _ _ q => q.natAbs) "a" "b"
  k_with "state" => exact gcd_word (by assumption)
  k_with "measure" => exact fmod_lt _ _ (by assumption)
  k_steps
  refine leaveP_ (by k_asm) (by k_asm) (List.forall_mem_nil _) ?_
  intro Fz Nz Sz
  exact hret _ _ _ Fz Sz ⟨_, congrArg (Value.int · _) (gcd_end (by assumption) (by omega))⟩
theorem divisor_c (prog : Program) (w : World) (x y : Int) (tx ty : Tok) : PureC prog w 600 3000 760 [.int x tx, .int y ty] [] (IntR (Int.gcd x y)) := by
  unfold PureC
  intro loose mean mg mb gd cn cs a ccd cl outer A₀ base h₀ L m s Q E B F X N T hk hret
  refine wpAny_call ?_
  walk_at "MINE enter"
  k_with "exec While Compare cons nil" => k_while (fun _ p q => Int.gcd p q = Int.gcd x y ∧ 0 ≤ p ∧ 0 ≤ q) (fun _ _ q => q.natAbs) "a" "b"
  k_with "state" => first | exact gcd_word2 (by assumption) (by assumption) (by assumption) | exact gcd_word3
  k_with "measure" => exact fmod_lt _ _ (by omega)
  k_steps
  refine leaveP_ (by k_asm) (by k_asm) (List.forall_mem_nil _) ?_
  intro Fz Nz Sz
  exact hret _ _ _ Fz Sz ⟨_, congrArg (Value.int · _) (gcd_end2 (by assumption) (by assumption) (by omega))⟩

theorem Frag.up {w : World} {h h' : Heap} (X : (Mine.hd.heap_39 w.params).In h) (k : Stays h h') : (Mine.hd.heap_39 w.params).In h' := X.keeps k

def NumL (P : Params) (led : Led) (v : Value) (n : Int) : Prop :=
  ∃ x dx k1 k2 k3 v1 v2 v3, v = .ref x ∧ (x, instObj 357 dx) ∈ led ∧ (dx, numD P n k1 k2 k3 v1 v2 v3) ∈ led
def NumH (P : Params) (h : Heap) (v : Value) (n : Int) : Prop :=
  ∃ x dx k1 k2 k3 v1 v2 v3, v = .ref x ∧ h.get? x = some (instObj 357 dx) ∧ h.get? dx = some (numD P n k1 k2 k3 v1 v2 v3)
theorem NumL.heap {P : Params} {led : Led} {v : Value} {n : Int} {h₀ h : Heap} {L : Addr} (x : NumL P led v n) (N : News h₀ L h led) : NumH P h v n :=
  let ⟨a, b, k1, k2, k3, v1, v2, v3, e, m1, m2⟩ := x
  ⟨a, b, k1, k2, k3, v1, v2, v3, e, (N _ m1).1, (N _ m2).1⟩
theorem NumH.up {P : Params} {h h' : Heap} {v : Value} {n : Int} (x : NumH P h v n) (k : Stays h h') : NumH P h' v n :=
  let ⟨a, b, k1, k2, k3, v1, v2, v3, e, m1, m2⟩ := x
  ⟨a, b, k1, k2, k3, v1, v2, v3, e, k _ _ m1, k _ _ m2⟩
theorem NumL.sub {P : Params} {led led' : Led} {v : Value} {n : Int} (x : NumL P led v n) (k : ∀ p ∈ led, p ∈ led') : NumL P led' v n :=
  let ⟨a, b, k1, k2, k3, v1, v2, v3, e, m1, m2⟩ := x
  ⟨a, b, k1, k2, k3, v1, v2, v3, e, k _ m1, k _ m2⟩
theorem NumH.uniq {P : Params} {h : Heap} {v : Value} {n n' : Int} (x : NumH P h v n) (y : NumH P h v n') : n = n' := by
  obtain ⟨a, b, _, _, _, _, _, _, rfl, m1, m2⟩ := x
  obtain ⟨a', b', _, _, _, _, _, _, e, m1', m2'⟩ := y
  cases e
  rw [m1] at m1'
  cases m1'
  rw [m2] at m2'
  cases m2'
  rfl
theorem Paired.imp {α β : Type} {F G : α → β → Prop} (k : ∀ a b, F a b → G a b) : ∀ {l₁ : List α} {l₂ : List β}, Paired F l₁ l₂ → Paired G l₁ l₂
  | _, _, .nil => .nil
  | _, _, .cons h r => .cons (k _ _ h) (Paired.imp k r)
theorem Paired.memL {α β : Type} {F : α → β → Prop} : ∀ {l₁ : List α} {l₂ : List β}, Paired F l₁ l₂ → ∀ a ∈ l₁, ∃ b ∈ l₂, F a b
  | _, _, .nil, _, h => nomatch h
  | _, _, .cons h r, a, m => by
    rcases List.mem_cons.mp m with rfl | m
    · exact ⟨_, .head _, h⟩
    · obtain ⟨b, mb, hb⟩ := Paired.memL r a m
      exact ⟨b, .tail _ mb, hb⟩

set_option maxHeartbeats 4000000
theorem node_min {prog : Program} {w : World} {A : Around} {E : Value → Shared → Prop} {s : Shared} {v : Value} {n : Int} {ex : Bool} {Q : Value → Shared → Prop} (X : (Mine.hd.heap_39 w.params).In s.heap) (hn : NumH w.params s.heap v n)
    (h : ∀ t, Q (.int n t) { s with toks := s.toks + 1 }) : wpAny (model prog w) A (getAttr v (Str.ofString "min") ex) Q E s := by
  obtain ⟨a, b, k1, k2, k3, v1, v2, v3, rfl, m1, m2⟩ := hn
  refine' get_value X (⟨m1, rfl, rfl, m2⟩ : W.InstAt s.heap a (instObj 357 b) 357 (some (numD w.params n k1 k2 k3 v1 v2 v3))) (plainGet_of (name := Str.ofString "min") ?k4).1 (findObj_own ?k5 ?k6 ?k7 (v := .int n v2) ?k8) rfl (h v2)
  case k4 => k_dflt k_is
  case k5 => k_dflt k_is
  case k6 => k_dflt k_is
  case k7 => k_dflt k_is
  case k8 => rfl
theorem node_max {prog : Program} {w : World} {A : Around} {E : Value → Shared → Prop} {s : Shared} {v : Value} {n : Int} {ex : Bool} {Q : Value → Shared → Prop} (X : (Mine.hd.heap_39 w.params).In s.heap) (hn : NumH w.params s.heap v n)
    (h : ∀ t, Q (.int n t) { s with toks := s.toks + 1 }) : wpAny (model prog w) A (getAttr v (Str.ofString "max") ex) Q E s := by
  obtain ⟨a, b, k1, k2, k3, v1, v2, v3, rfl, m1, m2⟩ := hn
  refine' get_value X (⟨m1, rfl, rfl, m2⟩ : W.InstAt s.heap a (instObj 357 b) 357 (some (numD w.params n k1 k2 k3 v1 v2 v3))) (plainGet_of (name := Str.ofString "max") ?k4).1 (findObj_own ?k5 ?k6 ?k7 (v := .int n v3) ?k8) rfl (h v3)
  case k4 => k_dflt k_is
  case k5 => k_dflt k_is
  case k6 => k_dflt k_is
  case k7 => k_dflt k_is
  case k8 => rfl

theorem comp_name {prog : Program} {w : World} {A : Around} {E : Value → Shared → Prop} {s : Shared} {env : Env} {scope : Scope} {cl : List (Str × Addr)} {C : Addr} {m : Str → Option Value} {x : Str} {p : Pos} {v : Value} {Q : Value → Shared → Prop}
    (hk : scope.kind = .function) (hx : scope.names.lookup x = some .local) (hn : s.heap.Ns C m) (hm : m x = some v) (hd : (x == ("__debug__" : Str)) = false) (h : Q v s) :
    wpAny (model prog w) A (eval (.Name x p) (compEnvC scope cl C env)) Q E s :=
  wpAny_Name (wpAny_loadName_local (env := compEnvC scope cl C env) (by show (relabel scope env).kind = _; exact hk) (lookup_relabel_local hx) hn hm h) hd

theorem node_test {prog : Program} {w : World} {A : Around} {E : Value → Shared → Prop} {s : Shared} {env : Env} {scope : Scope} {cl : List (Str × Addr)} {C : Addr} {m : Str → Option Value} {x : Str} {p1 p2 p3 p4 p5 : Pos} {v : Value} {n : Int}
    (hk : scope.kind = .function) (hx : scope.names.lookup x = some .local) (hn : s.heap.Ns C m) (hm : m x = some v) (hd : (x == ("__debug__" : Str)) = false) (X : (Mine.hd.heap_39 w.params).In s.heap) (hv : NumH w.params s.heap v n) :
    wpAny (model prog w) A (forIn [Expr.BoolOp .Or [.Attribute (.Name x p1) (Str.ofString "max") p2, .Attribute (.Name x p3) (Str.ofString "min") p4] p5] true fun c r => if r = true then do let ok ← isTrue c (compEnvC scope cl C env) (eval c (compEnvC scope cl C env)); pure (ForInStep.yield ok) else pure (ForInStep.yield r))
      (fun ok s₃ => ok = (n != 0) ∧ Keeps s s₃) E s := by
  rw [List.forIn_cons]
  refine wpAny_bind ?_
  simp only [if_true]
  refine wpAny_bind (isTrue_or (isTrue_plain (Attribute_Name_ (comp_name hk hx hn hm hd (node_max X hv fun t => truthy_int ?_)))))
  by_cases h0 : n = 0
  · subst h0
    simp only [bne_self_eq_false, Bool.false_eq_true, if_false]
    refine isTrue_or (isTrue_plain (Attribute_Name_ (comp_name hk hx (s := { s with toks := s.toks + 1 }) hn hm hd (node_min (s := { s with toks := s.toks + 1 }) X hv fun t => truthy_int ?_))))
    simp only [bne_self_eq_false, Bool.false_eq_true, if_false]
    refine isTrue_or_nil (wpAny_pure ?_)
    dsimp only
    rw [List.forIn_nil]
    exact wpAny_pure ⟨rfl, _, _, rfl, fun _ _ e => e⟩
  · have e : (n != 0) = true := by simpa using h0
    simp only [e, if_true]
    refine wpAny_pure ?_
    dsimp only
    rw [List.forIn_nil]
    exact wpAny_pure ⟨rfl, _, _, rfl, fun _ _ e => e⟩

theorem node_elt {prog : Program} {w : World} {A : Around} {E : Value → Shared → Prop} {s : Shared} {env : Env} {scope : Scope} {cl : List (Str × Addr)} {C : Addr} {m : Str → Option Value} {x : Str} {p1 : Pos} {v : Value}
    (hk : scope.kind = .function) (hx : scope.names.lookup x = some .local) (hn : s.heap.Ns C m) (hm : m x = some v) (hd : (x == ("__debug__" : Str)) = false) :
    wpAny (model prog w) A (eval (.Name x p1) (compEnvC scope cl C env)) (fun y s₃ => y = v ∧ Keeps s s₃) E s :=
  comp_name hk hx hn hm hd ⟨rfl, _, _, rfl, fun _ _ e => e⟩

/-- one clause over a list, the turned list assigned to a local name -/
theorem assign_comp {prog : Program} {w : World} {A : Around} {E : Value → Shared → Prop} {s : Shared} {env : Env} {elt iter : Expr} {x y : Str} {px py : Pos} {ifs : List Expr} {scope : Scope} {cl : List (Str × Addr)} {pos spos : Pos} {Q : Flow → Shared → Prop}
    (p : Value → Bool) (G : Value → Value → Prop)
    (hsw : swapsWith (.ListComp elt [⟨.Name x px, iter, ifs, 0⟩] scope pos) (some (.Name y py)) spos.line env = pure true)
    (hh : A.handled = none) (hclos : closureFor scope env = pure cl) (hcell : ∀ z ∈ scope.names, z.2 ≠ .cell) (hkind : scope.kind = .function)
    (hnames : ∀ z ∈ scope.names, z.2 = .local → scope.names.lookup z.1 = some .local) (hx : scope.names.lookup x = some .local)
    (hy : env.kindOf y = some .local) (hp : (env.scope.kind == .class || (env.scope.kind == .module && env.locals != env.globals)) = false)
    (h : wpAny (model prog w) A (eval iter env) (fun xv s₁ => ∃ (ax : Addr) (vs : List Value) (m : Str → Option Value), xv = .ref ax ∧ s₁.heap.IsList ax vs.toArray ∧ vs.length ≤ sizeLine ∧ s₁.heap.Ns env.locals m ∧
      (∀ (C : Addr) (v : Value) (s₂ : Shared) (m₂ : Str → Option Value) (E' : Value → Shared → Prop), v ∈ vs → s₂.heap.Ns C m₂ → m₂ x = some v → Stays s₁.heap s₂.heap →
        wpAny (model prog w) A (forIn ifs true fun c r => if r = true then do let ok ← isTrue c (compEnvC scope cl C env) (eval c (compEnvC scope cl C env)); pure (ForInStep.yield ok) else pure (ForInStep.yield r))
          (fun ok s₃ => ok = p v ∧ Keeps s₂ s₃) E' s₂) ∧
      (∀ (C : Addr) (v : Value) (s₂ : Shared) (m₂ : Str → Option Value) (E' : Value → Shared → Prop), v ∈ vs → p v = true → s₂.heap.Ns C m₂ → m₂ x = some v → Stays s₁.heap s₂.heap →
        wpAny (model prog w) A (eval elt (compEnvC scope cl C env)) (fun y s₃ => G v y ∧ Keeps s₂ s₃) E' s₂) ∧
      (∀ (D : Addr) (ys : List Value) (nn : Nat) (h' : Heap) (tk : Nat), s₁.heap.get? D = none → h'.get? D = some (listOf ys.toArray nn) → Paired G (vs.filter p) ys → h'.Ns env.locals (fun z => if z = y then some (.ref D) else m z) → (∀ b o, b ≠ env.locals → s₁.heap.get? b = some o → h'.get? b = some o) → Q .next { s₁ with heap := h', toks := tk })) E s)
    (hs : ∀ x, foldedSetIterable iter env x = pure x) :
    wpAny (model prog w) A (exec (.Assign [.Name y py] (.ListComp elt [⟨.Name x px, iter, ifs, 0⟩] scope pos) spos) env) Q E s := by
  refine wpAny_Assign_ListComp_free p G hsw hclos hcell hkind hnames hx hy hp (wpAny_mono h (fun xv s₁ h₁ => ?_) fun _ _ e => e) hs
  obtain ⟨ax, vs, m, rfl, hl, hsz, hn, htests, helt, hQ⟩ := h₁
  have hlt : ax < s₁.heap.objs.size := by obtain ⟨_, e, _⟩ := hl; exact Heap.lt_size e
  have up : ∀ (s₃ : Shared), (∀ b o, b ∉ [s₁.heap.objs.size] → (s₁.heap.push { cls := .type "list_iterator", data := .fields #[.ref ax, .int 0 0] }).get? b = some o → s₃.heap.get? b = some o) → ∀ b o, s₁.heap.get? b = some o → s₃.heap.get? b = some o :=
    fun s₃ hk b o e => hk b o (fun hm => by rcases List.mem_cons.mp hm with rfl | hm; exact Nat.lt_irrefl _ (Heap.lt_size e); cases hm) (Heap.get?_push_of_some _ e)
  refine wpAny_pyIter_list hl ⟨s₁.heap.objs.size, [s₁.heap.objs.size, ax], [s₁.heap.objs.size], vs.toArray.size, _, _, m, rfl, Walks.list hh _ _ (Nat.ne_of_lt hlt) vs.toArray, (by rw [List.size_toArray]; exact hsz), ⟨⟨_, Heap.get?_push_size _ rfl, rfl, rfl⟩, hl.push _⟩, ?_, ?_, hn.push _, ⟨?_, ?_⟩, ?_⟩
  · intro b hb
    show b < (s₁.heap.push _).objs.size
    rw [Heap.size_push]
    rcases List.mem_cons.mp hb with rfl | hb
    · exact Nat.lt_succ_self _
    · rcases List.mem_cons.mp hb with rfl | hb
      · exact Nat.lt_succ_of_lt hlt
      · cases hb
  · intro hm
    rcases List.mem_cons.mp hm with e | hm
    · exact Nat.lt_irrefl _ (e ▸ hn.lt)
    · cases hm
  · intro C i v s₃ m₃ E' _ hP hn hm hk _
    exact htests C v s₃ m₃ E' (by simpa using Array.mem_of_getElem? hP) hn hm (up s₃ hk)
  · intro C i v s₃ m₃ E' _ hP hp' hn hm hk _
    exact helt C v s₃ m₃ E' (by simpa using Array.mem_of_getElem? hP) hp' hn hm (up s₃ hk)
  · intro D h' tk ys vs' hnew hlD hplD hlen hP hF hn' hk
    have e : vs' = vs := by simpa using list_of_places hlen hP
    subst e
    obtain ⟨nn, hplD⟩ := hplD
    refine hQ D ys.toList nn h' tk ?_ (by rw [Array.toArray_toList]; exact hplD) hF hn' fun b o hb e => hk b o hb (fun hm => by rcases List.mem_cons.mp hm with rfl | hm; exact Nat.lt_irrefl _ (Heap.lt_size e); cases hm) (Heap.get?_push_of_some _ e)
    cases e : s₁.heap.get? D with
    | none => rfl
    | some o' => rw [Heap.get?_push_of_some _ e] at hnew; cases hnew

theorem eval_comp {prog : Program} {w : World} {A : Around} {E : Value → Shared → Prop} {s : Shared} {env : Env} {elt iter : Expr} {x : Str} {px : Pos} {ifs : List Expr} {scope : Scope} {cl : List (Str × Addr)} {pos : Pos} {Q : Value → Shared → Prop}
    (p : Value → Bool) (G : Value → Value → Prop)
    (hh : A.handled = none) (hclos : closureFor scope env = pure cl) (hcell : ∀ z ∈ scope.names, z.2 ≠ .cell) (hkind : scope.kind = .function)
    (hnames : ∀ z ∈ scope.names, z.2 = .local → scope.names.lookup z.1 = some .local) (hx : scope.names.lookup x = some .local)
    (h : wpAny (model prog w) A (eval iter env) (fun xv s₁ => ∃ (ax : Addr) (vs : List Value), xv = .ref ax ∧ s₁.heap.IsList ax vs.toArray ∧ vs.length ≤ sizeLine ∧
      (∀ (C : Addr) (v : Value) (s₂ : Shared) (m₂ : Str → Option Value) (E' : Value → Shared → Prop), v ∈ vs → s₂.heap.Ns C m₂ → m₂ x = some v → Stays s₁.heap s₂.heap →
        wpAny (model prog w) A (forIn ifs true fun c r => if r = true then do let ok ← isTrue c (compEnvC scope cl C env) (eval c (compEnvC scope cl C env)); pure (ForInStep.yield ok) else pure (ForInStep.yield r))
          (fun ok s₃ => ok = p v ∧ Keeps s₂ s₃) E' s₂) ∧
      (∀ (C : Addr) (v : Value) (s₂ : Shared) (m₂ : Str → Option Value) (E' : Value → Shared → Prop), v ∈ vs → p v = true → s₂.heap.Ns C m₂ → m₂ x = some v → Stays s₁.heap s₂.heap →
        wpAny (model prog w) A (eval elt (compEnvC scope cl C env)) (fun y s₃ => G v y ∧ Keeps s₂ s₃) E' s₂) ∧
      (∀ (D : Addr) (ys : List Value) (nn : Nat) (h' : Heap) (tk : Nat), s₁.heap.get? D = none → h'.get? D = some (listOf ys.toArray nn) → Paired G (vs.filter p) ys → Stays s₁.heap h' → Q (.ref D) { s₁ with heap := h', toks := tk })) E s)
    (hs : ∀ x, foldedSetIterable iter env x = pure x) :
    wpAny (model prog w) A (eval (.ListComp elt [⟨.Name x px, iter, ifs, 0⟩] scope pos) env) Q E s := by
  refine wpAny_ListComp_free p G hclos hcell hkind hnames hx (wpAny_mono h (fun xv s₁ h₁ => ?_) fun _ _ e => e) hs
  obtain ⟨ax, vs, rfl, hl, hsz, htests, helt, hQ⟩ := h₁
  have hlt : ax < s₁.heap.objs.size := by obtain ⟨_, e, _⟩ := hl; exact Heap.lt_size e
  have up : ∀ (s₃ : Shared), (∀ b o, b ∉ [s₁.heap.objs.size] → (s₁.heap.push { cls := .type "list_iterator", data := .fields #[.ref ax, .int 0 0] }).get? b = some o → s₃.heap.get? b = some o) → ∀ b o, s₁.heap.get? b = some o → s₃.heap.get? b = some o :=
    fun s₃ hk b o e => hk b o (fun hm => by rcases List.mem_cons.mp hm with rfl | hm; exact Nat.lt_irrefl _ (Heap.lt_size e); cases hm) (Heap.get?_push_of_some _ e)
  refine wpAny_pyIter_list hl ⟨s₁.heap.objs.size, [s₁.heap.objs.size, ax], [s₁.heap.objs.size], vs.toArray.size, _, _, rfl, Walks.list hh _ _ (Nat.ne_of_lt hlt) vs.toArray, (by rw [List.size_toArray]; exact hsz), ⟨⟨_, Heap.get?_push_size _ rfl, rfl, rfl⟩, hl.push _⟩, ?_, ⟨?_, ?_⟩, ?_⟩
  · intro b hb
    show b < (s₁.heap.push _).objs.size
    rw [Heap.size_push]
    rcases List.mem_cons.mp hb with rfl | hb
    · exact Nat.lt_succ_self _
    · rcases List.mem_cons.mp hb with rfl | hb
      · exact Nat.lt_succ_of_lt hlt
      · cases hb
  · intro C i v s₃ m₃ E' _ hP hn hm hk _
    exact htests C v s₃ m₃ E' (by simpa using Array.mem_of_getElem? hP) hn hm (up s₃ hk)
  · intro C i v s₃ m₃ E' _ hP hp' hn hm hk _
    exact helt C v s₃ m₃ E' (by simpa using Array.mem_of_getElem? hP) hp' hn hm (up s₃ hk)
  · intro D h' tk ys vs' hnew hlD hplD hlen hP hF hk
    have e : vs' = vs := by simpa using list_of_places hlen hP
    subst e
    obtain ⟨nn, hplD⟩ := hplD
    refine hQ D ys.toList nn h' tk ?_ (by rw [Array.toArray_toList]; exact hplD) hF fun b o e => hk b o (fun hm => by rcases List.mem_cons.mp hm with rfl | hm; exact Nat.lt_irrefl _ (Heap.lt_size e); cases hm) (Heap.get?_push_of_some _ e)
    cases e : s₁.heap.get? D with
    | none => rfl
    | some o' => rw [Heap.get?_push_of_some _ e] at hnew; cases hnew

def NeAll (d : Nat) : Led → Prop
  | [] => True
  | p :: r => @Ne Nat p.1 d ∧ NeAll d r
theorem neAll_of {d : Addr} : ∀ {l : Led}, (∀ p ∈ l, p.1 ≠ d) → NeAll d l
  | [], _ => trivial
  | p :: _, h => ⟨h p (.head _), neAll_of fun q hq => h q (.tail _ hq)⟩

/-- a new list of the ints that the nodes say -/
def IntsSrc (H : Heap) (vs : List Value) (ns : List Int) (Q : Value → Shared → Prop) (xv : Value) (s₁ : Shared) : Prop :=
  ∃ ax : Addr, xv = .ref ax ∧ s₁.heap.IsList ax vs.toArray ∧ Stays H s₁.heap ∧
    ∀ (D : Addr) (ys : List Value) (nn : Nat) (h' : Heap) (tk : Nat), s₁.heap.get? D = none → h'.get? D = some (listOf ys.toArray nn) → IntsAre ys ns → Stays s₁.heap h' → Q (.ref D) { s₁ with heap := h', toks := tk }

theorem NewsCons {h₀ h h' : Heap} {L : Addr} {m : Str → Option Value} {news : Led} {D : Addr} {o : Obj} (F : Fr h₀ L h m) (N : News h₀ L h news) (hD : h.get? D = none) (k : Stays h h') (e : h'.get? D = some o) : News h₀ L h' ((D, o) :: news) := by
  intro p hp
  rcases List.mem_cons.mp hp with rfl | hp
  · refine ⟨e, ?_, ?_⟩
    · rintro rfl
      obtain ⟨oL, _, _, hL, _⟩ := F.ns
      rw [hL] at hD
      cases hD
    · cases q : h₀.get? D with
      | none => rfl
      | some o' => rw [F.keep _ _ q] at hD; cases hD
  · exact ⟨k _ _ (N p hp).1, (N p hp).2⟩
theorem neNew {h₀ h : Heap} {L : Addr} {news : Led} {D : Addr} (N : News h₀ L h news) (hD : h.get? D = none) : ∀ p ∈ news, p.1 ≠ D := by
  rintro p hp rfl
  rw [(N p hp).1] at hD
  cases hD
theorem IntsSrc.intro {H h₀ : Heap} {L : Addr} {m : Str → Option Value} {news : Led} {ax : Addr} {vs : List Value} {ns : List Int} {nn : Nat} {Q : Value → Shared → Prop} {s₁ : Shared}
    (F : Fr h₀ L s₁.heap m) (N : News h₀ L s₁.heap news) (hl : (ax, listOf vs.toArray nn) ∈ news) (hH : Stays H s₁.heap)
    (k : ∀ (D : Addr) (ys : List Value) (nn : Nat) (h' : Heap) (tk : Nat), Fr h₀ L h' m → News h₀ L h' ((D, listOf ys.toArray nn) :: news) → NeAll D news → IntsAre ys ns → Q (.ref D) { s₁ with heap := h', toks := tk }) : IntsSrc H vs ns Q (.ref ax) s₁ :=
  ⟨ax, rfl, ⟨_, (N _ hl).1, rfl, _, rfl⟩, hH, fun D ys nn h' tk hD e hi st =>
    k D ys nn h' tk (F.keeps st) (NewsCons F N hD st e) (neAll_of (neNew N hD)) hi⟩

theorem ints_of_pairs {P : Params} {h : Heap} : ∀ {vs : List Value} {ns : List Int} {ys : List Value}, Paired (NumH P h) vs ns → Paired (fun v y => ∃ n t, NumH P h v n ∧ y = .int n t) vs ys → IntsAre ys ns
  | _, _, _, .nil, .nil => .nil
  | _, _, _, .cons h1 r1, .cons ⟨n, t, h2, e⟩ r2 => by
    subst e
    rw [NumH.uniq h2 h1]
    exact .cons _ _ (ints_of_pairs r1 r2)

theorem forIn_none {prog : Program} {w : World} {A : Around} {E : Value → Shared → Prop} {s : Shared} {f : Expr → Bool → Sem (ForInStep Bool)} :
    wpAny (model prog w) A (forIn ([] : List Expr) true f) (fun ok s₃ => ok = (fun _ => true) () ∧ Keeps s s₃) E s := by
  rw [List.forIn_nil]
  exact wpAny_pure ⟨rfl, _, _, rfl, fun _ _ e => e⟩
theorem filter_all {vs : List Value} : vs.filter (fun _ => true) = vs := by simp

theorem comp_min {prog : Program} {w : World} {A : Around} {E : Value → Shared → Prop} {s : Shared} {env : Env} {iter : Expr} {x : Str} {px p1 p2 : Pos} {scope : Scope} {cl : List (Str × Addr)} {pos : Pos} {Q : Value → Shared → Prop} {vs : List Value} {ns : List Int} {h₀ : Heap} {L : Addr} {m : Str → Option Value} {news led : Led}
    (F : Fr h₀ L s.heap m) (X : (Mine.hd.heap_39 w.params).In h₀) (N : News h₀ L s.heap news) (hp : Paired (NumL w.params led) vs ns) (hsub : ∀ p ∈ led, p ∈ news) (hlen : vs.length ≤ 1000)
    (hh : A.handled = none) (hclos : closureFor scope env = pure cl) (hcell : ∀ z ∈ scope.names, z.2 ≠ .cell) (hkind : scope.kind = .function)
    (hnames : ∀ z ∈ scope.names, z.2 = .local → scope.names.lookup z.1 = some .local) (hx : scope.names.lookup x = some .local) (hd : (x == ("__debug__" : Str)) = false)
    (hs : ∀ x, foldedSetIterable iter env x = pure x)
    (h : wpAny (model prog w) A (eval iter env) (IntsSrc s.heap vs ns Q) E s) :
    wpAny (model prog w) A (eval (.ListComp (.Attribute (.Name x p1) (Str.ofString "min") p2) [⟨.Name x px, iter, [], 0⟩] scope pos) env) Q E s := by
  have hv : Paired (NumH w.params s.heap) vs ns := Paired.imp (fun _ _ x => NumL.heap x (News.sub N hsub)) hp
  have XS := X.keeps F.keep
  refine eval_comp (fun _ => true) (fun v y => ∃ n t, NumH w.params s.heap v n ∧ y = .int n t) hh hclos hcell hkind hnames hx (wpAny_mono h (fun xv s₁ h₁ => ?_) fun _ _ e => e) hs
  obtain ⟨ax, rfl, hl, hH, k⟩ := h₁
  refine ⟨ax, vs, rfl, hl, Nat.le_trans hlen (by decide), fun C v s₂ m₂ E' _ _ _ _ => forIn_none, ?_, fun D ys nn h' tk hD e hF st => k D ys nn h' tk hD e ?_ st⟩
  · intro C v s₂ m₂ E' hm _ hn hmx st
    obtain ⟨n, _, hvn⟩ := Paired.memL hv v hm
    exact Attribute_Name_ (comp_name hkind hx hn hmx hd (node_min (XS.keeps fun b o e => st b o (hH b o e)) (hvn.up fun b o e => st b o (hH b o e)) fun t => ⟨⟨n, t, hvn, rfl⟩, _, _, rfl, fun _ _ e => e⟩))
  · rw [filter_all] at hF
    exact ints_of_pairs hv hF
theorem comp_max {prog : Program} {w : World} {A : Around} {E : Value → Shared → Prop} {s : Shared} {env : Env} {iter : Expr} {x : Str} {px p1 p2 : Pos} {scope : Scope} {cl : List (Str × Addr)} {pos : Pos} {Q : Value → Shared → Prop} {vs : List Value} {ns : List Int} {h₀ : Heap} {L : Addr} {m : Str → Option Value} {news led : Led}
    (F : Fr h₀ L s.heap m) (X : (Mine.hd.heap_39 w.params).In h₀) (N : News h₀ L s.heap news) (hp : Paired (NumL w.params led) vs ns) (hsub : ∀ p ∈ led, p ∈ news) (hlen : vs.length ≤ 1000)
    (hh : A.handled = none) (hclos : closureFor scope env = pure cl) (hcell : ∀ z ∈ scope.names, z.2 ≠ .cell) (hkind : scope.kind = .function)
    (hnames : ∀ z ∈ scope.names, z.2 = .local → scope.names.lookup z.1 = some .local) (hx : scope.names.lookup x = some .local) (hd : (x == ("__debug__" : Str)) = false)
    (hs : ∀ x, foldedSetIterable iter env x = pure x)
    (h : wpAny (model prog w) A (eval iter env) (IntsSrc s.heap vs ns Q) E s) :
    wpAny (model prog w) A (eval (.ListComp (.Attribute (.Name x p1) (Str.ofString "max") p2) [⟨.Name x px, iter, [], 0⟩] scope pos) env) Q E s := by
  have hv : Paired (NumH w.params s.heap) vs ns := Paired.imp (fun _ _ x => NumL.heap x (News.sub N hsub)) hp
  have XS := X.keeps F.keep
  refine eval_comp (fun _ => true) (fun v y => ∃ n t, NumH w.params s.heap v n ∧ y = .int n t) hh hclos hcell hkind hnames hx (wpAny_mono h (fun xv s₁ h₁ => ?_) fun _ _ e => e) hs
  obtain ⟨ax, rfl, hl, hH, k⟩ := h₁
  refine ⟨ax, vs, rfl, hl, Nat.le_trans hlen (by decide), fun C v s₂ m₂ E' _ _ _ _ => forIn_none, ?_, fun D ys nn h' tk hD e hF st => k D ys nn h' tk hD e ?_ st⟩
  · intro C v s₂ m₂ E' hm _ hn hmx st
    obtain ⟨n, _, hvn⟩ := Paired.memL hv v hm
    exact Attribute_Name_ (comp_name hkind hx hn hmx hd (node_max (XS.keeps fun b o e => st b o (hH b o e)) (hvn.up fun b o e => st b o (hH b o e)) fun t => ⟨⟨n, t, hvn, rfl⟩, _, _, rfl, fun _ _ e => e⟩))
  · rw [filter_all] at hF
    exact ints_of_pairs hv hF

local macro_rules | `(tactic| walk_at "MINE subled") => `(tactic| (intro p9 hp9; repeat' (first | exact hp9 | refine List.mem_cons_of_mem _ ?_)))
local macro_rules | `(tactic| walk_at "eval ListComp") => `(tactic| (k_here; (first
  | ((with_reducible show wpAny _ _ (eval (Expr.ListComp (Expr.Attribute _ (Str.ofString "min") _) _ _ _) _) _ _ _); k_dflt (refine' comp_min ?F ?X ?N ?hp ?hsub ?hlen ?hh ?hclos ?hcell ?hkind ?hnames ?hx ?hd ?hs ?_; (case F => k_asm); (case X => k_asm); (case N => k_asm); (case hp => assumption); (case hsub => walk_at "MINE subled"); (case hlen => assumption); (case hh => rfl); (case hclos => with_unfolding_all rfl); (case hcell => decide); (case hkind => rfl); (case hnames => decide); (case hx => rfl); (case hd => decide); (case hs => intro _; with_unfolding_all rfl)))
  | ((with_reducible show wpAny _ _ (eval (Expr.ListComp (Expr.Attribute _ (Str.ofString "max") _) _ _ _) _) _ _ _); k_dflt (refine' comp_max ?F ?X ?N ?hp ?hsub ?hlen ?hh ?hclos ?hcell ?hkind ?hnames ?hx ?hd ?hs ?_; (case F => k_asm); (case X => k_asm); (case N => k_asm); (case hp => assumption); (case hsub => walk_at "MINE subled"); (case hlen => assumption); (case hh => rfl); (case hclos => with_unfolding_all rfl); (case hcell => decide); (case hkind => rfl); (case hnames => decide); (case hx => rfl); (case hd => decide); (case hs => intro _; with_unfolding_all rfl))))))
local macro_rules | `(tactic| walk_at "IntsSrc") => `(tactic| (k_dflt (refine' IntsSrc.intro ?F ?N ?hl ?hH ?_; (case F => k_asm); (case N => k_asm); (case hl => k_mem); (case hH => exact fun _ _ e => e)); intro D' ys' nn' h' tk' F' N' l1 hi'; (try simp only [NeAll, and_true] at l1); (try k_sweep)))
set_option maxHeartbeats 4000000
theorem sumnode_c (prog : Program) (w : World) (l : Addr) (vs : List Value) (ns : List Int) (nn : Nat) (led : Led) (hN : Paired (NumL w.params led) vs ns) (hlen : vs.length ≤ 1000) :
    PureC prog w 540 2700 630 [.ref l] ((l, listOf vs.toArray nn) :: led) (fun _ h₀ L h r => ∃ x dx k1 k2 k3 n2 n3 v2 v3, r = .ref x ∧
      News h₀ L h [(x, instObj 630 dx), (dx, dictOf [⟨PyData.keyHash w.params (Str.ofString "nodes"), .str (Str.ofString "nodes") k1, .ref l⟩, ⟨PyData.keyHash w.params (Str.ofString "min"), .str (Str.ofString "min") k2, .int n2 v2⟩, ⟨PyData.keyHash w.params (Str.ofString "max"), .str (Str.ofString "max") k3, .int n3 v3⟩] 3)]) := by
  unfold PureC
  intro loose mean mg mb gd cn cs a ccd cl outer A₀ base h₀ L m s Q E B F X N T hk hret
  walk_at "MINE enterM"
  k_steps
  refine leaveM_ (by k_asm) (by k_asm) (by walk_at "MINE subled") ?_
  intro Fz Nz Sz
  refine' hret _ _ _ Fz Sz ⟨_, _, _, _, _, _, _, _, _, rfl, News.sub Nz ?sb⟩
  case sb => walk_at "MINE sub"

theorem compTurn_n0 (elt t0 i0 t1 i1 : Expr) (scope : Scope) (pos : Pos) (it acc : Value) (env : Env) :
    compTurn (.ListComp elt [⟨t0, i0, [], 0⟩, ⟨t1, i1, [], 0⟩] scope pos) 0 it acc env = (standAt i0.pos >>= fun _ => pyNext it >>= fun r => match r with
      | none => pure (.done .next)
      | some v => letOwnedTupleGo t0 it v >>= fun _ => assign t0 env v >>= fun _ =>
        eval i1 env >>= fun x => standAt i1.pos >>= fun _ => foldedSetIterable i1 env x >>= fun x => holding [x] (pyIter x) >>= fun it1 =>
          runOwn (.compStart (.ListComp elt [⟨t0, i0, [], 0⟩, ⟨t1, i1, [], 0⟩] scope pos) 1 it1 acc env) env >>= fun _ =>
          again (.compLoop (.ListComp elt [⟨t0, i0, [], 0⟩, ⟨t1, i1, [], 0⟩] scope pos) 0 it acc env)) := by rfl
theorem compTurn_n1 (elt t0 i0 t1 i1 : Expr) (scope : Scope) (pos : Pos) (it acc : Value) (env : Env) :
    compTurn (.ListComp elt [⟨t0, i0, [], 0⟩, ⟨t1, i1, [], 0⟩] scope pos) 1 it acc env = (standAt i1.pos >>= fun _ => pyNext it >>= fun r => match r with
      | none => pure (.done .next)
      | some v => letOwnedTupleGo t1 it v >>= fun _ => assign t1 env v >>= fun _ =>
        (eval elt env >>= fun x => call (.builtin "list.append") [acc, x] >>= fun _ => pure ()) >>= fun _ =>
          again (.compLoop (.ListComp elt [⟨t0, i0, [], 0⟩, ⟨t1, i1, [], 0⟩] scope pos) 1 it acc env)) := by rfl

section
variable {prog : Program} {w : World} {A : Around} {R : Result → Shared → Prop} {s : Shared}
theorem compStart_n1 {elt t0 i0 t1 i1 scope pos it acc env}
    (h0 : codeAny (model prog w) A (.compLoop (.ListComp elt [⟨t0, i0, [], 0⟩, ⟨t1, i1, [], 0⟩] scope pos) 1 it acc env) R s)
    (h : wpAny (model prog w) A (pyIter it) (fun it' s' => codeAny (model prog w) A (.compLoop (.ListComp elt [⟨t0, i0, [], 0⟩, ⟨t1, i1, [], 0⟩] scope pos) 1 it' acc env) R s')
      (notedBy (model prog w) A env fun x s' => R (.error x) s') s) :
    codeAny (model prog w) A (.compStart (.ListComp elt [⟨t0, i0, [], 0⟩, ⟨t1, i1, [], 0⟩] scope pos) 1 it acc env) R s := by
  refine codeAny_of_tree ?_
  show wpAny _ _ ((compStart (.ListComp elt [⟨t0, i0, [], 0⟩, ⟨t1, i1, [], 0⟩] scope pos) 1 it acc env).onRaise (fun x => do noteFrame x env; standAt theWindowsPlace)) _ _ s
  refine wpAny_notedAt ?_
  unfold compStart
  show wpAny _ _ (ask >>= _) _ _ s
  refine wpAny_bind (wpAny_askSetting (wpAny_ite ?_))
  split
  · first
      | exact wpAny_bind (wpAny_pure (wpAny_pure (And.intro rfl h0)))
      | exact wpAny_pure (And.intro rfl h0)
  · first
      | exact wpAny_bind (wpAny_rule (wpAny_bind (wpAny_standAt (wpAny_bind (wpAny_mono h (fun it' s' h' => wpAny_pure (And.intro rfl h')) fun _ _ x => x)))))
      | (refine wpAny_bind (wpAny_rule ?_); show wpAny _ _ (standAt i1.pos >>= _) _ _ s; exact wpAny_bind (wpAny_standAt (wpAny_bind (wpAny_mono h (fun it' s' h' => wpAny_pure (And.intro rfl h')) fun _ _ x => x))))

/-- the inner clause over a list of one item -/
theorem inner_one {t0 i0 i1 : Expr} {y : Str} {py pe : Pos} {scope : Scope} {pos : Pos} {I1 ly D : Addr} {v : Value} {ws : Array Value} {cenv : Env} {m : Str → Option Value}
    (hh : A.handled = none) (hy : cenv.kindOf y = some .local) (hk : cenv.scope.kind = .function) (hd : (y == ("__debug__" : Str)) = false)
    (hit : s.heap.IsListIter I1 ly 0) (hl : s.heap.IsList ly #[v]) (hacc : s.heap.PlainList D ws) (hn : s.heap.Ns cenv.locals m) (hws : ws.size ≤ sizeLine)
    (d1 : ly ≠ I1) (d2 : ly ≠ cenv.locals) (d3 : ly ≠ D) (d4 : I1 ≠ cenv.locals) (d5 : I1 ≠ D) (d6 : D ≠ cenv.locals)
    (hR : ∀ h' tk m', h'.PlainList D (ws.push v) → h'.Ns cenv.locals m' → (∀ b o, b ≠ cenv.locals → b ≠ I1 → b ≠ D → s.heap.get? b = some o → h'.get? b = some o) → R (.ok .next) { s with heap := h', toks := tk }) :
    codeAny (model prog w) A (.compLoop (.ListComp (.Name y pe) [⟨t0, i0, [], 0⟩, ⟨.Name y py, i1, [], 0⟩] scope pos) 1 (.ref I1) (.ref D) cenv) R s := by
  have hp : (cenv.scope.kind == .class || (cenv.scope.kind == .module && cenv.locals != cenv.globals)) = false := by rw [hk]; rfl
  refine codeAny_loop rfl (fun n s' => ∃ H tk m', s' = { s with heap := H, toks := tk } ∧ H.Ns cenv.locals m' ∧ (∀ b o, b ≠ cenv.locals → b ≠ I1 → b ≠ D → s.heap.get? b = some o → H.get? b = some o) ∧ H.IsList ly #[v] ∧
    ((n = 2 ∧ H.IsListIter I1 ly 0 ∧ H.PlainList D ws) ∨ (n = 1 ∧ H.IsListIter I1 ly 1 ∧ H.PlainList D (ws.push v)))) (fun n s' hI => ?_) 2 ⟨s.heap, s.toks, m, rfl, hn, fun _ _ _ _ _ e => e, hl, .inl ⟨rfl, hit, hacc⟩⟩
  obtain ⟨H, tk, m', rfl, hn', hkeep, hl', hcase⟩ := hI
  show wpAny _ A ((compTurn (.ListComp (.Name y pe) [⟨t0, i0, [], 0⟩, ⟨.Name y py, i1, [], 0⟩] scope pos) 1 (.ref I1) (.ref D) cenv).onRaise (fun x => do noteFrame x cenv; theTreesLotGoes x)) _ _ _
  refine wpAny_noted ?_
  rw [compTurn_n1]
  refine wpAny_bind (wpAny_standAt (wpAny_bind ?_))
  rcases hcase with ⟨rfl, hit', hacc'⟩ | ⟨rfl, hit', hacc'⟩
  · refine wpAny_pyNext_list_item hit' hl' (x := v) rfl fun h1 hit1 hs1 => ?_
    refine wpAny_bind (wpAny_of_eq (show letOwnedTupleGo (.Name y py) (.ref I1) v = pure () from rfl) ?_)
    refine wpAny_bind (wpAny_assign_Name (wpAny_storeName_local hy (hn'.sameBut hs1 (Ne.symm d4)) (fun h2 hn2 hs2 => ?_) hp))
    refine wpAny_bind (wpAny_bind (wpAny_Name (wpAny_loadName_local (env := cenv) hk hy hn2 (v := v) (by simp) ?_) hd))
    have acc2 : h2.PlainList D ws := (hacc'.at fun o e => hs1.extBut D o (Ne.symm d5) e).at fun o e => hs2.extBut D o d6 e
    refine wpAny_bind (wpAny_list_append_plain (hsz := hws) acc2 fun h3 acc3 hs3 => ?_)
    refine wpAny_pure (wpAny_pure ⟨rfl, 1, by decide, h3, _, _, rfl, hn2.sameBut hs3 (Ne.symm d6), fun b o b1 b2 b3 e => hs3.extBut b o b3 (hs2.extBut b o b1 (hs1.extBut b o b2 (hkeep b o b1 b2 b3 e))), ?_, .inr ⟨rfl, ?_, acc3⟩⟩)
    · exact hl'.at fun o e => hs3.extBut ly o d3 (hs2.extBut ly o d2 (hs1.extBut ly o d1 e))
    · exact hit1.at fun o e => hs3.extBut I1 o d5 (hs2.extBut I1 o d4 e)
  · refine wpAny_pyNext_list_end hh hit' hl' rfl fun h1 he1 => ?_
    refine wpAny_pure (hR h1 tk m' ?_ (hn'.at' fun o e => he1 _ o (Ne.symm d4) e) fun b o b1 b2 b3 e => he1 b o b2 (hkeep b o b1 b2 b3 e))
    exact hacc'.at fun o e => he1 D o (Ne.symm d5) e
end
section
variable {prog : Program} {w : World} {A : Around} {R : Result → Shared → Prop} {s : Shared}
theorem outer_all {i0 i1 : Expr} {x y : Str} {px py pe : Pos} {scope : Scope} {pos : Pos} {I ax D : Addr} {vs : List Value} {cenv : Env} {m : Str → Option Value}
    (hh : A.handled = none) (hx : cenv.kindOf x = some .local) (hy : cenv.kindOf y = some .local) (hk : cenv.scope.kind = .function) (hd : (y == ("__debug__" : Str)) = false)
    (hit : s.heap.IsListIter I ax 0) (hl : s.heap.IsList ax vs.toArray) (hacc : s.heap.PlainList D #[]) (hn : s.heap.Ns cenv.locals m) (hlen : vs.length ≤ 1000)
    (d1 : ax ≠ I) (d2 : ax ≠ cenv.locals) (d3 : ax ≠ D) (d4 : I ≠ cenv.locals) (d5 : I ≠ D) (d6 : D ≠ cenv.locals)
    (hf : ∀ x, foldedSetIterable i1 cenv x = pure x)
    (hin : ∀ v s₂ m₂ E', v ∈ vs → s₂.heap.Ns cenv.locals m₂ → m₂ x = some v → (∀ b o, b ≠ cenv.locals → b ≠ I → b ≠ D → s.heap.get? b = some o → s₂.heap.get? b = some o) →
      wpAny (model prog w) A (eval i1 cenv) (fun u s₃ => ∃ ly h' tk, u = .ref ly ∧ s₃ = { s₂ with heap := h', toks := tk } ∧ Stays s₂.heap h' ∧ h'.IsList ly #[v] ∧ s₂.heap.get? ly = none) E' s₂)
    (hR : ∀ h' tk m', h'.PlainList D vs.toArray → h'.Ns cenv.locals m' → (∀ b o, b ≠ cenv.locals → b ≠ I → b ≠ D → s.heap.get? b = some o → h'.get? b = some o) → R (.ok .next) { s with heap := h', toks := tk }) :
    codeAny (model prog w) A (.compLoop (.ListComp (.Name y pe) [⟨.Name x px, i0, [], 0⟩, ⟨.Name y py, i1, [], 0⟩] scope pos) 0 (.ref I) (.ref D) cenv) R s := by
  have hp : (cenv.scope.kind == .class || (cenv.scope.kind == .module && cenv.locals != cenv.globals)) = false := by rw [hk]; rfl
  refine codeAny_loop rfl (fun n s' => ∃ H tk m' i, s' = { s with heap := H, toks := tk } ∧ H.Ns cenv.locals m' ∧ (∀ b o, b ≠ cenv.locals → b ≠ I → b ≠ D → s.heap.get? b = some o → H.get? b = some o) ∧ H.IsList ax vs.toArray ∧
    H.IsListIter I ax i ∧ H.PlainList D (vs.take i).toArray ∧ i ≤ vs.length ∧ n = vs.length + 1 - i) (fun n s' hI => ?_) (vs.length + 1) ⟨s.heap, s.toks, m, 0, rfl, hn, fun _ _ _ _ _ e => e, hl, hit, by simpa using hacc, Nat.zero_le _, rfl⟩
  obtain ⟨H, tk, m', i, rfl, hn', hkeep, hl', hit', hacc', hi, rfl⟩ := hI
  show wpAny _ A ((compTurn (.ListComp (.Name y pe) [⟨.Name x px, i0, [], 0⟩, ⟨.Name y py, i1, [], 0⟩] scope pos) 0 (.ref I) (.ref D) cenv).onRaise (fun x => do noteFrame x cenv; theTreesLotGoes x)) _ _ _
  refine wpAny_noted ?_
  rw [compTurn_n0]
  refine wpAny_bind (wpAny_standAt (wpAny_bind ?_))
  by_cases hlt : i < vs.length
  · have hget : (vs.toArray)[i]? = some vs[i] := by simp [hlt]
    refine wpAny_pyNext_list_item hit' hl' hget fun h1 hit1 hs1 => ?_
    refine wpAny_bind (wpAny_of_eq (show letOwnedTupleGo (.Name x px) (.ref I) vs[i] = pure () from rfl) ?_)
    refine wpAny_bind (wpAny_assign_Name (wpAny_storeName_local hx (hn'.sameBut hs1 (Ne.symm d4)) (fun h2 hn2 hs2 => ?_) hp))
    have k2 : ∀ b o, b ≠ cenv.locals → b ≠ I → H.get? b = some o → h2.get? b = some o := fun b o b1 b2 e => hs2.extBut b o b1 (hs1.extBut b o b2 e)
    refine wpAny_bind (wpAny_mono (hin vs[i] _ _ _ (List.getElem_mem hlt) hn2 (by simp) (fun b o b1 b2 b3 e => k2 b o b1 b2 (hkeep b o b1 b2 b3 e))) (fun u s₃ h₃ => ?_) fun _ _ z => z)
    obtain ⟨ly, h3, tk3, rfl, rfl, st3, hly, hnew⟩ := h₃
    refine wpAny_bind (wpAny_standAt (wpAny_bind (wpAny_of_eq (hf _) (wpAny_bind (wpAny_holding (wpAny_pyIter_list hly ?_))))))
    have hI1 : h3.get? h3.objs.size = none := Heap.get?_none_of_le (Nat.le_refl _)
    have isIn : ∀ {b o}, h3.get? b = some o → b ≠ h3.objs.size := fun e q => Nat.lt_irrefl _ (q ▸ Heap.lt_size e)
    have notly : ∀ {b o}, h2.get? b = some o → ly ≠ b := fun e q => by rw [q] at hnew; rw [hnew] at e; cases e
    obtain ⟨oD, eD⟩ : ∃ o, h2.get? D = some o := by obtain ⟨_, e⟩ := hacc'; exact ⟨_, k2 _ _ d6 (Ne.symm d5) e⟩
    obtain ⟨oC, eC⟩ : ∃ o, h2.get? cenv.locals = some o := by obtain ⟨o, _, _, e, _⟩ := hn2; exact ⟨o, e⟩
    obtain ⟨oI, eI⟩ : ∃ o, h2.get? I = some o := by obtain ⟨o, e, _⟩ := hit1; exact ⟨o, hs2.extBut I o d4 e⟩
    obtain ⟨oY, eY⟩ : ∃ o, h3.get? ly = some o := by obtain ⟨o, e, _⟩ := hly; exact ⟨o, e⟩
    have up4 : ∀ b o, h3.get? b = some o → (h3.push { cls := .type "list_iterator", data := .fields #[.ref ly, .int 0 0] }).get? b = some o := fun b o e => Heap.get?_push_of_some _ e
    have acc3 : h3.PlainList D (vs.take i).toArray := (hacc'.at fun o e => k2 D o d6 (Ne.symm d5) e).at fun o e => st3 D o e
    refine wpAny_bind (wpAny_runOwn (h := none) ?_)
    have hloop : codeAny (model prog w) (A.mark none) (.compLoop (.ListComp (.Name y pe) [⟨.Name x px, i0, [], 0⟩, ⟨.Name y py, i1, [], 0⟩] scope pos) 1 (.ref h3.objs.size) (.ref D) cenv)
        (fun r s' => match r with
          | .ok f => wpAny (model prog w) A (again (.compLoop (.ListComp (.Name y pe) [⟨.Name x px, i0, [], 0⟩, ⟨.Name y py, i1, [], 0⟩] scope pos) 0 (.ref I) (.ref D) cenv)) (fun fin s' => match fin with
              | .done f => R (.ok f) s'
              | .again c' => c' = (.compLoop (.ListComp (.Name y pe) [⟨.Name x px, i0, [], 0⟩, ⟨.Name y py, i1, [], 0⟩] scope pos) 0 (.ref I) (.ref D) cenv) ∧ ∃ m, m < vs.length + 1 - i ∧ ∃ H tk m' i, s' = { s with heap := H, toks := tk } ∧ H.Ns cenv.locals m' ∧ (∀ b o, b ≠ cenv.locals → b ≠ I → b ≠ D → s.heap.get? b = some o → H.get? b = some o) ∧ H.IsList ax vs.toArray ∧
                  H.IsListIter I ax i ∧ H.PlainList D (vs.take i).toArray ∧ i ≤ vs.length ∧ m = vs.length + 1 - i) (notedBy (model prog w) A cenv fun e s' => R (.error e) s') s'
          | .error e => cameBackBy (model prog w) A cenv (notedBy (model prog w) A cenv fun e s' => R (.error e) s') e s') { s with heap := h3.push { cls := .type "list_iterator", data := .fields #[.ref ly, .int 0 0] }, toks := tk3 } := by
      refine inner_one (s := { s with heap := h3.push { cls := .type "list_iterator", data := .fields #[.ref ly, .int 0 0] }, toks := tk3 }) (ws := (vs.take i).toArray) (v := vs[i]) ?_ hy hk hd ⟨_, Heap.get?_push_size _ rfl, rfl, rfl⟩ (hly.at fun o e => up4 _ o e) (acc3.at fun o e => up4 _ o e) ((hn2.keeps st3).keeps up4) ?_ (isIn eY) (notly eC) (notly eD) (Ne.symm (isIn (st3 _ _ eC))) (Ne.symm (isIn (st3 _ _ eD))) d6 ?_
      · exact hh
      · rw [List.size_toArray]
        exact Nat.le_trans (List.length_take_le _ _) (Nat.le_trans (Nat.le_trans hi hlen) (by decide))
      · intro h5 tk5 m5 acc5 hn5 hk5
        have up5 : ∀ b o, b ≠ cenv.locals → b ≠ D → b ≠ h3.objs.size → h3.get? b = some o → h5.get? b = some o := fun b o b1 b2 b3 e => hk5 b o b1 b3 b2 (up4 b o e)
        have up25 : ∀ b o, b ≠ cenv.locals → b ≠ D → h2.get? b = some o → h5.get? b = some o := fun b o b1 b2 e => up5 b o b1 b2 (isIn (st3 _ _ e)) (st3 _ _ e)
        refine wpAny_pure ⟨rfl, vs.length + 1 - (i + 1), by omega, h5, tk5, m5, i + 1, rfl, hn5, fun b o b1 b2 b3 e => up25 b o b1 b3 (k2 b o b1 b2 (hkeep b o b1 b2 b3 e)), hl'.at fun o e => up25 ax o d2 d3 (k2 ax o d2 d1 e), hit1.at fun o e => up25 I o d4 d5 (hs2.extBut I o d4 e), ?_, hlt, rfl⟩
        have : (vs.take (i + 1)).toArray = (vs.take i).toArray.push vs[i] := by
          rw [List.take_add_one]; simp [hlt]
        rw [this]; exact acc5
    refine compStart_n1 hloop (wpAny_pyIter_listiter ⟨_, Heap.get?_push_size _ rfl, rfl, rfl⟩ hloop)
  · have hin' : i = vs.length := by omega
    subst hin'
    refine wpAny_pyNext_list_end hh hit' hl' (by simp) fun h1 he1 => ?_
    refine wpAny_pure (hR h1 tk m' ?_ (hn'.at' fun o e => he1 _ o (Ne.symm d4) e) fun b o b1 b2 b3 e => he1 b o b2 (hkeep b o b1 b2 b3 e))
    rw [List.take_length] at hacc'
    exact hacc'.at fun o e => he1 D o (Ne.symm d5) e
end

def FlatSrc (H : Heap) (vs : List Value) (Q : Value → Shared → Prop) (xv : Value) (s₁ : Shared) : Prop :=
  ∃ ax : Addr, xv = .ref ax ∧ s₁.heap.IsList ax vs.toArray ∧ Stays H s₁.heap ∧ H.objs.size ≤ s₁.heap.objs.size ∧
    ∀ (D : Addr) (nn : Nat) (h' : Heap) (tk : Nat), s₁.heap.get? D = none → h'.get? D = some (listOf vs.toArray nn) → Stays s₁.heap h' → Q (.ref D) { s₁ with heap := h', toks := tk }
theorem FlatSrc.intro {H h₀ : Heap} {L : Addr} {m : Str → Option Value} {news : Led} {ax : Addr} {vs : List Value} {nn : Nat} {Q : Value → Shared → Prop} {s₁ : Shared}
    (F : Fr h₀ L s₁.heap m) (N : News h₀ L s₁.heap news) (hl : (ax, listOf vs.toArray nn) ∈ news) (hH : Stays H s₁.heap) (hz : H.objs.size ≤ s₁.heap.objs.size)
    (k : ∀ (D : Addr) (nn : Nat) (h' : Heap) (tk : Nat), Fr h₀ L h' m → News h₀ L h' ((D, listOf vs.toArray nn) :: news) → NeAll D news → Q (.ref D) { s₁ with heap := h', toks := tk }) : FlatSrc H vs Q (.ref ax) s₁ :=
  ⟨ax, rfl, ⟨_, (N _ hl).1, rfl, _, rfl⟩, hH, hz, fun D nn h' tk hD e st =>
    k D nn h' tk (F.keeps st) (NewsCons F N hD st e) (neAll_of (neNew N hD))⟩

theorem eval_flat {prog : Program} {w : World} {A : Around} {E : Value → Shared → Prop} {s : Shared} {env : Env} {iter i1 : Expr} {x y : Str} {px py pe : Pos} {scope : Scope} {cl : List (Str × Addr)} {pos : Pos} {Q : Value → Shared → Prop} {vs : List Value}
    (hlen : vs.length ≤ 1000)
    (hh : A.handled = none) (hclos : closureFor scope env = pure cl) (hcell : ∀ z ∈ scope.names, z.2 ≠ .cell) (hkind : scope.kind = .function)
    (hnames : ∀ z ∈ scope.names, z.2 = .local → scope.names.lookup z.1 = some .local) (hx : scope.names.lookup x = some .local) (hy : scope.names.lookup y = some .local) (hd : (y == ("__debug__" : Str)) = false)
    (hs : ∀ x, foldedSetIterable iter env x = pure x) (hs1 : ∀ C x, foldedSetIterable i1 (compEnvC scope cl C env) x = pure x)
    (hin : ∀ C v s₂ m₂ E', s.heap.objs.size ≤ C → v ∈ vs → s₂.heap.Ns C m₂ → m₂ x = some v → Stays s.heap s₂.heap →
      wpAny (model prog w) A (eval i1 (compEnvC scope cl C env)) (fun u s₃ => ∃ ly h' tk, u = .ref ly ∧ s₃ = { s₂ with heap := h', toks := tk } ∧ Stays s₂.heap h' ∧ h'.IsList ly #[v] ∧ s₂.heap.get? ly = none) E' s₂)
    (h : wpAny (model prog w) A (eval iter env) (FlatSrc s.heap vs Q) E s) :
    wpAny (model prog w) A (eval (.ListComp (.Name y pe) [⟨.Name x px, iter, [], 0⟩, ⟨.Name y py, i1, [], 0⟩] scope pos) env) Q E s := by
  rw [eval_ListComp]
  refine wpAny_comprehension_free (use := none) rfl hs hclos hkind hnames (wpAny_mono h (fun xv s₁ h₁ => ?_) fun _ _ e => e)
  obtain ⟨ax, rfl, hl, hH, hz, hQ⟩ := h₁
  have hlt : ax < s₁.heap.objs.size := by obtain ⟨_, e, _⟩ := hl; exact Heap.lt_size e
  refine wpAny_pyIter_list hl ?_
  refine wpAny_newObj_type (wpAny_newFunctionEnv hcell (by intro y hy; simp at hy) (fun h₁ hns₁ hsb₁ => ?_) hkind)
  dsimp only at hns₁ hsb₁ ⊢
  generalize hH1 : s₁.heap.push { cls := .type "list_iterator", data := .fields #[.ref ax, .int 0 0] } = H1 at hns₁ hsb₁ ⊢
  have hS1 : H1.objs.size = s₁.heap.objs.size + 1 := by rw [← hH1, Heap.size_push]
  generalize hH2 : H1.push { cls := .type "list", dict := none, data := .seq ([] : List Value).toArray } = H2 at hns₁ hsb₁ ⊢
  have hS2 : H2.objs.size = s₁.heap.objs.size + 1 + 1 := by rw [← hH2, Heap.size_push, hS1]
  have up1 : ∀ b o, s₁.heap.get? b = some o → H1.get? b = some o := fun b o e => hH1 ▸ Heap.get?_push_of_some _ e
  have up2 : ∀ b o, H1.get? b = some o → H2.get? b = some o := fun b o e => hH2 ▸ Heap.get?_push_of_some _ e
  have nI : s₁.heap.objs.size ≠ H2.objs.size := by rw [hS2]; exact Nat.ne_of_lt (Nat.lt_succ_of_lt (Nat.lt_succ_self _))
  have nD : H1.objs.size ≠ H2.objs.size := by rw [hS2, hS1]; exact Nat.ne_of_lt (Nat.lt_succ_self _)
  have nID : s₁.heap.objs.size ≠ H1.objs.size := by rw [hS1]; exact Nat.ne_of_lt (Nat.lt_succ_self _)
  have below : ∀ b, b < s₁.heap.objs.size → b ≠ H2.objs.size ∧ b ≠ s₁.heap.objs.size ∧ b ≠ H1.objs.size := fun b hb =>
    ⟨by rw [hS2]; exact Nat.ne_of_lt (Nat.lt_succ_of_lt (Nat.lt_succ_of_lt hb)), Nat.ne_of_lt hb, by rw [hS1]; exact Nat.ne_of_lt (Nat.lt_succ_of_lt hb)⟩
  have old : Stays s₁.heap h₁ := fun b o e => hsb₁.extBut b o (below b (Heap.lt_size e)).1 (Heap.get?_push_of_some _ (up2 _ _ (up1 _ _ e)))
  have hiter : h₁.IsListIter s₁.heap.objs.size ax 0 := ⟨_, hsb₁.extBut _ _ nI (Heap.get?_push_of_some _ (up2 _ _ (hH1 ▸ Heap.get?_push_size _ rfl))), rfl, rfl⟩
  have hacc : h₁.PlainList H1.objs.size #[] := ⟨_, hsb₁.extBut _ _ nD (Heap.get?_push_of_some _ (hH2 ▸ Heap.get?_push_size _ rfl))⟩
  have fresh : ∀ a, s₁.heap.objs.size ≤ a → s₁.heap.get? a = none := fun a ha => Heap.get?_none_of_le ha
  have loop : codeAny (model prog w) A (.compLoop (.ListComp (.Name y pe) [⟨.Name x px, iter, [], 0⟩, ⟨.Name y py, i1, [], 0⟩] scope pos) 0 (.ref s₁.heap.objs.size) (.ref H1.objs.size) (compEnvC scope cl H2.objs.size env))
      (compPost (model prog w) A E none Q (.ref H1.objs.size) H2.objs.size) { s₁ with heap := h₁, toks := s₁.toks + ([] : List (Str × Value)).length } := by
    refine outer_all (cenv := compEnvC scope cl H2.objs.size env) hh (lookup_relabel_local hx) (lookup_relabel_local hy) (by show (relabel scope env).kind = _; exact hkind) hd hiter (hl.at fun o e => old _ o e) hacc hns₁ hlen (below ax hlt).2.1 (below ax hlt).1 (below ax hlt).2.2 nI nID nD (hs1 _) ?_ ?_
    · intro v s₂ m₂ E' hm hn hmx hk
      exact hin _ v s₂ m₂ E' (Nat.le_trans hz (by show _ ≤ H2.objs.size; rw [hS2]; exact Nat.le_succ_of_le (Nat.le_succ _))) hm hn hmx fun b o e => by
        have e1 := hH b o e
        have hb := below b (Heap.lt_size e1)
        exact hk b o hb.1 hb.2.1 hb.2.2 (old b o e1)
    · intro h' tk m' acc hn hk
      refine ⟨m', hn, fun h'' hs'' => ?_⟩
      obtain ⟨nn, eD⟩ := acc
      refine hQ _ nn h'' tk (fresh _ (by rw [hS1]; exact Nat.le_succ _)) (hs''.extBut _ _ nD eD) fun b o e => ?_
      have hb := below b (Heap.lt_size e)
      exact hs''.extBut b o hb.1 (hk b o hb.1 hb.2.1 hb.2.2 (old b o e))
  exact codeAny_compStart_list loop (wpAny_pyIter_listiter hiter loop)


/-- the nodes that are not nought -/
def NodesSrc (H : Heap) (P : Params) (led : Led) (L : Addr) (m : Str → Option Value) (y : Str) (vs : List Value) (ns : List Int) (Q : Flow → Shared → Prop) (xv : Value) (s₁ : Shared) : Prop :=
  ∃ ax : Addr, xv = .ref ax ∧ s₁.heap.IsList ax vs.toArray ∧ Stays H s₁.heap ∧ s₁.heap.Ns L m ∧
    ∀ (D : Addr) (ws : List Value) (nn : Nat) (h' : Heap) (tk : Nat), s₁.heap.get? D = none → h'.get? D = some (listOf ws.toArray nn) → Paired (NumL P led) ws (ns.filter (· != 0)) → h'.Ns L (fun z => if z = y then some (.ref D) else m z) → (∀ b o, b ≠ L → s₁.heap.get? b = some o → h'.get? b = some o) → Q .next { s₁ with heap := h', toks := tk }
theorem Paired.len_filter {P : Params} {led : Led} {ws : List Value} {ns : List Int} (h : Paired (NumL P led) ws (ns.filter (· != 0))) : ws.length ≤ ns.length := by
  rw [h.length]; exact List.length_filter_le _ _
theorem NodesSrc.intro {H h₀ : Heap} {P : Params} {led : Led} {L : Addr} {m : Str → Option Value} {y : Str} {news : Led} {ax : Addr} {vs : List Value} {ns : List Int} {nn : Nat} {Q : Flow → Shared → Prop} {s₁ : Shared}
    (F : Fr h₀ L s₁.heap m) (N : News h₀ L s₁.heap news) (hl : (ax, listOf vs.toArray nn) ∈ news) (hH : Stays H s₁.heap) (hp : Paired (NumL P led) vs ns) (hlen : vs.length ≤ 1000)
    (k : ∀ (D : Addr) (ws : List Value) (ks : List Int) (nn : Nat) (h' : Heap) (tk : Nat), ks = ns.filter (· != 0) → Fr h₀ L h' (fun z => if z = y then some (.ref D) else m z) → News h₀ L h' ((D, listOf ws.toArray nn) :: news) → NeAll D news → Paired (NumL P led) ws ks → ws.length ≤ 1000 → Q .next { s₁ with heap := h', toks := tk }) : NodesSrc H P led L m y vs ns Q (.ref ax) s₁ := by
  refine ⟨ax, rfl, ⟨_, (N _ hl).1, rfl, _, rfl⟩, hH, F.ns, fun D ws nn h' tk hD e hw hn' st => ?_⟩
  have nL : D ≠ L := by
    rintro rfl
    obtain ⟨oL, _, _, hL, _⟩ := F.ns
    rw [hL] at hD
    cases hD
  refine k D ws _ nn h' tk rfl ⟨hn', fun b o q => st b o (Nat.ne_of_lt (Nat.lt_of_lt_of_le (Heap.lt_size q) F.above)) (F.keep b o q), F.above⟩ (fun p hp => ?_) (neAll_of (neNew N hD)) hw (Nat.le_trans (Paired.len_filter hw) (hp.length ▸ hlen))
  rcases List.mem_cons.mp hp with rfl | hp
  · refine ⟨e, nL, ?_⟩
    cases q : h₀.get? D with
    | none => rfl
    | some o' => rw [F.keep _ _ q] at hD; cases hD
  · exact ⟨st _ _ (N p hp).2.1 (N p hp).1, (N p hp).2⟩

open Classical in
theorem assign_nodes {prog : Program} {w : World} {A : Around} {E : Value → Shared → Prop} {s : Shared} {env : Env} {iter : Expr} {x y : Str} {px py pe p1 p2 p3 p4 p5 : Pos} {scope : Scope} {cl : List (Str × Addr)} {pos spos : Pos} {Q : Flow → Shared → Prop} {vs : List Value} {ns : List Int} {h₀ : Heap} {L : Addr} {m : Str → Option Value} {news led : Led}
    (hL : env.locals = L) (F : Fr h₀ L s.heap m) (X : (Mine.hd.heap_39 w.params).In h₀) (N : News h₀ L s.heap news) (hp : Paired (NumL w.params led) vs ns) (hsub : ∀ p ∈ led, p ∈ news) (hlen : vs.length ≤ 1000)
    (hsw : swapsWith (.ListComp (.Name x pe) [⟨.Name x px, iter, [Expr.BoolOp .Or [.Attribute (.Name x p1) (Str.ofString "max") p2, .Attribute (.Name x p3) (Str.ofString "min") p4] p5], 0⟩] scope pos) (some (.Name y py)) spos.line env = pure true)
    (hh : A.handled = none) (hclos : closureFor scope env = pure cl) (hcell : ∀ z ∈ scope.names, z.2 ≠ .cell) (hkind : scope.kind = .function)
    (hnames : ∀ z ∈ scope.names, z.2 = .local → scope.names.lookup z.1 = some .local) (hx : scope.names.lookup x = some .local) (hd : (x == ("__debug__" : Str)) = false)
    (hy : env.kindOf y = some .local) (hpp : (env.scope.kind == .class || (env.scope.kind == .module && env.locals != env.globals)) = false)
    (hs : ∀ x, foldedSetIterable iter env x = pure x)
    (h : wpAny (model prog w) A (eval iter env) (NodesSrc s.heap w.params led L m y vs ns Q) E s) :
    wpAny (model prog w) A (exec (.Assign [.Name y py] (.ListComp (.Name x pe) [⟨.Name x px, iter, [Expr.BoolOp .Or [.Attribute (.Name x p1) (Str.ofString "max") p2, .Attribute (.Name x p3) (Str.ofString "min") p4] p5], 0⟩] scope pos) spos) env) Q E s := by
  subst hL
  have hv : Paired (NumH w.params s.heap) vs ns := Paired.imp (fun _ _ x => NumL.heap x (News.sub N hsub)) hp
  have XS := X.keeps F.keep
  let p : Value → Bool := fun v => decide (∃ n, NumH w.params s.heap v n ∧ n ≠ 0)
  have pv : ∀ v n, NumH w.params s.heap v n → p v = (n != 0) := by
    intro v n hn
    by_cases h0 : n = 0
    · subst h0
      have : ¬ ∃ n, NumH w.params s.heap v n ∧ n ≠ 0 := fun ⟨n', h1, h2⟩ => h2 (NumH.uniq h1 hn)
      simp [p, this]
    · have : ∃ n, NumH w.params s.heap v n ∧ n ≠ 0 := ⟨n, hn, h0⟩
      simp [p, this, h0]
  have hfil : ∀ {vs : List Value} {ns : List Int}, Paired (NumL w.params led) vs ns → Paired (NumL w.params led) (vs.filter p) (ns.filter (· != 0)) := by
    intro vs ns h
    induction h with
    | nil => exact .nil
    | @cons a b l₁ l₂ h1 r ih =>
      have e := pv a b (NumL.heap h1 (News.sub N hsub))
      rw [List.filter_cons, List.filter_cons, e]
      split
      · exact .cons h1 ih
      · exact ih
  refine assign_comp p (fun v y => y = v) hsw hh hclos hcell hkind hnames hx hy hpp (wpAny_mono h (fun xv s₁ h₁ => ?_) fun _ _ e => e) hs
  obtain ⟨ax, rfl, hl, hH, hn, k⟩ := h₁
  refine ⟨ax, vs, m, rfl, hl, Nat.le_trans hlen (by decide), hn, ?_, ?_, fun D ys nn h' tk hD e hF hn' st => k D ys nn h' tk hD e ?_ hn' st⟩
  · intro C v s₂ m₂ E' hm hn hmx st
    obtain ⟨n, _, hvn⟩ := Paired.memL hv v hm
    rw [pv v n hvn]
    exact node_test hkind hx hn hmx hd (XS.keeps fun b o e => st b o (hH b o e)) (hvn.up fun b o e => st b o (hH b o e))
  · intro C v s₂ m₂ E' hm _ hn hmx st
    exact node_elt hkind hx hn hmx hd
  · have e : ∀ {as bs : List Value}, Paired (fun v y => y = v) as bs → bs = as := by
      intro as bs h
      induction h with
      | nil => rfl
      | cons h1 _ ih => rw [h1, ih]
    rw [e hF]
    exact hfil hp

theorem NewsTwo {h₀ h : Heap} {L : Addr} {p q : Addr × Obj} {news : Led} (M : News h₀ L h [p, q]) (N : News h₀ L h news) : News h₀ L h (p :: q :: news) := fun r hr => by
  rcases List.mem_cons.mp hr with rfl | hr
  · exact M _ (.head _)
  · rcases List.mem_cons.mp hr with rfl | hr
    · exact M _ (.tail _ (.head _))
    · exact N _ hr

theorem len_led {prog : Program} {w : World} {A : Around} {E : Value → Shared → Prop} {s : Shared} {h₀ : Heap} {L l : Addr} {news : Led} {ws : List Value} {nn : Nat} {Q : Value → Shared → Prop} (N : News h₀ L s.heap news) (hl : (l, listOf ws.toArray nn) ∈ news) (hlen : ws.length ≤ 1000)
    (h : Q (.int ws.length (s.toks + 1)) { s with toks := s.toks + 1 + 1 }) : wpAny (model prog w) A (call (.builtin "len") [.ref l]) Q E s := by
  have e : ws.toArray.size = ws.length := by simp
  exact call_len_list (items := ws.toArray) ⟨_, (N _ hl).1, rfl, _, rfl⟩ (by rw [e]; omega) (by rw [e]; exact h)

theorem paired_one {P : Params} {led : Led} {ws : List Value} {ks : List Int} (hw : Paired (NumL P led) ws ks) (h1 : (ws.length : Int) = 1) : ∃ x dx k1 k2 k3 v1 v2 v3 n, ws = [.ref x] ∧ ks = [n] ∧ (x, instObj 357 dx) ∈ led ∧ (dx, numD P n k1 k2 k3 v1 v2 v3) ∈ led := by
  cases hw with
  | nil => simp at h1
  | cons h r =>
    cases r with
    | nil => obtain ⟨x, dx, k1, k2, k3, v1, v2, v3, rfl, m1, m2⟩ := h; exact ⟨x, dx, k1, k2, k3, v1, v2, v3, _, rfl, rfl, m1, m2⟩
    | cons _ _ => simp at h1; omega
theorem NewsAdd {h₀ h : Heap} {L : Addr} {p q : Addr × Obj} {news led : Led} (N : News h₀ L h news) (hs : ∀ p ∈ led, p ∈ news) (m1 : p ∈ led) (m2 : q ∈ led) : News h₀ L h (p :: q :: news) := fun r hr => by
  rcases List.mem_cons.mp hr with rfl | hr
  · exact N _ (hs _ m1)
  · rcases List.mem_cons.mp hr with rfl | hr
    · exact N _ (hs _ m2)
    · exact N _ hr
theorem off_all {D : Addr} : ∀ {l : Led}, LCg.Off1 D l → ∀ p ∈ l, p.1 ≠ D
  | [], _, _, hp => nomatch hp
  | q :: r, h, p, hp => by
    rcases List.mem_cons.mp hp with rfl | hp
    · exact h.1
    · exact off_all h.2 p hp
theorem sum_filter : ∀ ns : List Int, (ns.filter (· != 0)).sum = ns.sum
  | [] => rfl
  | n :: r => by
    rw [List.filter_cons]
    by_cases h : n = 0
    · subst h; simp [sum_filter r]
    · have : (n != 0) = true := by simpa using h
      rw [this]; simp [sum_filter r]
theorem sub0_led {prog : Program} {w : World} {A : Around} {E : Value → Shared → Prop} {s : Shared} {h₀ : Heap} {L l : Addr} {news : Led} {ws : List Value} {nn : Nat} {value slice : PySem.Expr} {u : Tok} {v : Value} {Q : Value → Shared → Prop} (N : News h₀ L s.heap news) (hl : (l, listOf ws.toArray nn) ∈ news) (hv : ws[0]? = some v)
    (hs : subscripted slice false (.ref l) (.int 0 u) = operate [.ref l, .int 0 u] (getItem (.ref l) (.int 0 u)))
    (h : Q v s) : wpAny (model prog w) A (subscriptTail value slice (.ref l) (.int 0 u)) Q E s := by
  have hL : s.heap.IsList l ws.toArray := ⟨_, (N _ hl).1, rfl, _, rfl⟩
  exact tail_any hL.typeIs slot_list_getitem.lookup (wpAny_getItem_list hL (by decide) (by decide) (by simpa using hv) h) hs

def TestNo (s : Shared) (c : Bool) (s' : Shared) : Prop := c = false ∧ ∃ tk, s' = { s with toks := tk }
theorem flat_in {prog : Program} {w : World} {A : Around} {E : Value → Shared → Prop} {s : Shared} {env : Env} {scope : Scope} {cl : List (Str × Addr)} {C : Addr} {m : Str → Option Value} {x : Str} {p6 p7 p8 : Pos} {v : Value} {test body : Expr}
    (hk : scope.kind = .function) (hx : scope.names.lookup x = some .local) (hn : s.heap.Ns C m) (hm : m x = some v) (hd : (x == ("__debug__" : Str)) = false)
    (htest : wpAny (model prog w) A (PySem.isTrue test (compEnvC scope cl C env) (eval test (compEnvC scope cl C env))) (TestNo s) E s) :
    wpAny (model prog w) A (eval (.IfExp test body (.List [.Name x p6] p7) p8) (compEnvC scope cl C env))
      (fun u s₃ => ∃ ly h' tk, u = .ref ly ∧ s₃ = { s with heap := h', toks := tk } ∧ Stays s.heap h' ∧ h'.IsList ly #[v] ∧ s.heap.get? ly = none) E s := by
  refine IfExp_ (wpAny_mono htest (fun c s₁ h₁ => ?_) fun _ _ z => z)
  obtain ⟨rfl, tk, rfl⟩ := h₁
  simp only [Bool.false_eq_true, if_false]
  refine List_ (spliced_more (comp_name hk hx hn hm hd (spliced_none ?_)))
  exact wpAny_newObj_type ⟨_, _, _, rfl, rfl, fun b o e => Heap.get?_push_of_some _ e, ⟨_, Heap.get?_push_size _ rfl, rfl, _, rfl⟩, Heap.get?_none_of_le (Nat.le_refl _)⟩

def NTurn (h₀ : Heap) (L : Addr) (x y : Str) (m₀ : Str → Option Value) (nx : Led) (b : Int) (s₁ : Shared) (f : Flow) (s₂ : Shared) : Prop :=
  f = .next ∧ ∃ h' tk m' news', s₂ = { s₁ with heap := h', toks := tk } ∧ Fr h₀ L h' m' ∧ News h₀ L h' news' ∧ (∀ p ∈ nx, p ∈ news') ∧ (∃ t, m' y = some (.int b t)) ∧ ∀ z, z ≠ x → z ≠ y → m' z = m₀ z
theorem NTurn.intro {h₀ h' : Heap} {L : Addr} {x y : Str} {m₀ m' : Str → Option Value} {nx news' : Led} {b b' : Int} {t : Tok} {s₁ : Shared} {tk : Nat} (F : Fr h₀ L h' m') (N : News h₀ L h' news') (hs : ∀ p ∈ nx, p ∈ news') (hb : m' y = some (.int b' t)) (e : b' = b) (hm : ∀ z, z ≠ x → z ≠ y → m' z = m₀ z) :
    NTurn h₀ L x y m₀ nx b s₁ .next { s₁ with heap := h', toks := tk } := ⟨rfl, h', tk, m', news', rfl, F, N, hs, ⟨t, e ▸ hb⟩, hm⟩

theorem Paired.getD {α β : Type} {F : α → β → Prop} : ∀ {l₁ : List α} {l₂ : List β} (i : Nat) (a : α), Paired F l₁ l₂ → l₁[i]? = some a → ∃ b, l₂[i]? = some b ∧ F a b
  | _, _, _, _, .nil, h => by simp at h
  | _, _, 0, a, .cons h _, e => by simp at e; subst e; exact ⟨_, rfl, h⟩
  | _, _, i + 1, a, .cons _ r, e => by simp at e; obtain ⟨b, h1, h2⟩ := Paired.getD i a r e; exact ⟨b, by simpa using h1, h2⟩

theorem loop_nodes {prog : Program} {w : World} {A : Around} {E : Value → Shared → Prop} {s : Shared} {env : Env} {h₀ : Heap} {L : Addr} {x y : Str} {body : List Stmt} {Q : Flow → Shared → Prop} {l : Addr} {ws : List Value} {ks : List Int} {nn : Nat} {m₀ : Str → Option Value} {news led : Led} {P : Params} {t₀ : Tok}
    (hh : A.handled = none) (hL : env.locals = L) (F : Fr h₀ L s.heap m₀) (N : News h₀ L s.heap news) (hl : (l, listOf ws.toArray nn) ∈ news) (hw : Paired (NumL P led) ws ks) (hsub : ∀ p ∈ led, p ∈ news) (hy : m₀ y = some (.int 0 t₀)) (hxy : y ≠ x)
    (turn : ∀ a ta n xa dx k1 k2 k3 v1 v2 v3 h tk (nx : Led), Fr h₀ L h (fun z => if z = x then some (.ref xa) else if z = y then some (.int a ta) else m₀ z) → News h₀ L h ((xa, instObj 357 dx) :: (dx, numD P n k1 k2 k3 v1 v2 v3) :: nx) →
      wpAny (model prog w) A (execs body env) (NTurn h₀ L x y m₀ nx (a + n) { s with heap := h, toks := tk }) E { s with heap := h, toks := tk })
    (done : ∀ (u : Str → Option Value) t h tk, Fr h₀ L h (fun z => if z = x then u z else if z = y then some (.int ks.sum t) else m₀ z) → News h₀ L h news → Q .next { s with heap := h, toks := tk }) :
    wpAny (model prog w) A (pyIter (.ref l)) (fun it s₂ => LoopAtV prog w A h₀ env x body Q E it s₂) E s := by
  subst hL
  have hls : s.heap.IsList l ws.toArray := ⟨_, (N _ hl).1, rfl, _, rfl⟩
  have hll : l < s.heap.objs.size := Heap.lt_size (N _ hl).1
  have hne : l ≠ s.heap.objs.size := Nat.ne_of_lt hll
  refine wpAny_pyIter_list hls ?_
  have W := Walks.list (prog := prog) (w := w) hh s.heap.objs.size l hne ws.toArray
  refine ⟨_, _, _, ws.toArray.size, _, _, m₀, news, (fun i m nx => nx = news ∧ (∃ t, m y = some (.int (ks.take i).sum t)) ∧ ∀ z, z ≠ x → z ≠ y → m z = m₀ z), rfl, W, ?_, ?_, ?_, ⟨⟨_, Heap.get?_push_size _ rfl, rfl, rfl⟩, hls.at fun o e => Heap.get?_push_of_some _ e⟩, F.push _, (fun p hp => ⟨Heap.get?_push_of_some _ (N p hp).1, (N p hp).2⟩), ⟨rfl, ⟨t₀, by simpa using hy⟩, fun _ _ _ => rfl⟩, ?_, ?_⟩
  · intro hm
    rcases List.mem_cons.mp hm with e | hm
    · exact absurd F.ns.lt (e ▸ Nat.lt_irrefl _)
    · have e2 := List.mem_singleton.mp hm
      exact (N _ hl).2.1 e2.symm
  · intro b hb
    rw [List.mem_singleton.mp hb]
    exact next_is_new F
  · intro p hp hI
    exact absurd (Heap.lt_size (N p hp).1) ((List.mem_singleton.mp hI) ▸ Nat.lt_irrefl _)
  · rintro i v m₁ news₁ s₁ own ⟨hh', tk', rfl⟩ hin hP ⟨rfl, ⟨ta, hta⟩, hm⟩ hoff _ _ _ _ F₁ N₁
    have hv : ws[i]? = some v := by simpa using hP
    obtain ⟨n, hk, xa, dx, k1, k2, k3, v1, v2, v3, rfl, m1, m2⟩ := Paired.getD i v hw hv
    have e : (fun z => if z = x then some (Value.ref xa) else m₁ z) = fun z => if z = x then some (Value.ref xa) else if z = y then some (Value.int (ks.take i).sum ta) else m₀ z := by
      funext z
      by_cases h1 : z = x
      · simp [h1]
      · simp only [if_neg h1]
        by_cases h2 : z = y
        · subst h2; simp [hta]
        · simp only [if_neg h2]; exact hm z h1 h2
    rw [e] at F₁
    have N₂ : News h₀ env.locals hh' ((xa, instObj 357 dx) :: (dx, numD P n k1 k2 k3 v1 v2 v3) :: (own ++ news₁)) := by
      intro p hp
      rcases List.mem_cons.mp hp with rfl | hp
      · exact N₁ _ (List.mem_append_right _ (hsub _ m1))
      · rcases List.mem_cons.mp hp with rfl | hp
        · exact N₁ _ (List.mem_append_right _ (hsub _ m2))
        · exact N₁ _ hp
    have hs : (ks.take (i + 1)).sum = (ks.take i).sum + n := by
      rw [List.take_add_one, hk]; simp
    refine wpAny_mono (turn (ks.take i).sum ta n xa dx k1 k2 k3 v1 v2 v3 hh' tk' _ F₁ N₂) (fun f s₂ p => ?_) fun _ _ e => e
    obtain ⟨rfl, h', tk, m', news', rfl, F', N', hsb, hb, hm'⟩ := p
    rw [← hs] at hb
    exact .next ⟨rfl, h', tk, m', news₁, rfl, F', fun p hp => N' p (hsb p hp), hoff, rfl, hb, hm'⟩
  · rintro h' tk m' news' F' N' _ ⟨rfl, ⟨t, hta⟩, hm⟩
    have ht : ks.take ws.toArray.size = ks := by rw [List.size_toArray, hw.length, List.take_length]
    rw [ht] at hta
    refine done m' t h' tk ?_ N'
    have e : (fun z => if z = x then m' z else if z = y then some (Value.int ks.sum t) else m₀ z) = m' := by
      funext z
      by_cases h1 : z = x
      · simp [h1]
      · simp only [if_neg h1]
        by_cases h2 : z = y
        · subst h2; simp [hta]
        · simp only [if_neg h2]; exact (hm z h1 h2).symm
    rw [e]; exact F'

theorem numR_end {P : Params} {n n' : Int} {H h₀ h : Heap} {L x dx : Addr} {k1 k2 k3 v1 v2 v3 : Tok} {news : Led} (N : News h₀ L h news) (m : ∀ p ∈ [(x, instObj 357 dx), (dx, numD P n' k1 k2 k3 v1 v2 v3)], p ∈ news) (e : n' = n) : NumR P n H h₀ L h (.ref x) := by
  subst e
  exact ⟨x, dx, k1, k2, k3, v1, v2, v3, rfl, News.sub N m⟩
theorem sum_e1 {α : Type} {F : α → Int → Prop} {ws : List α} {ks ns : List Int} (hw : Paired F ws ks) (hk : ks = ns.filter (· != 0)) (he : ws.isEmpty = true) : 0 = ns.sum := by
  have e : ws = [] := by simpa using he
  subst e
  cases hw
  rw [← sum_filter ns, ← hk]; rfl
theorem sum_e2 {ks ns : List Int} {n : Int} (hk : ks = ns.filter (· != 0)) (e : ks = [n]) : n = ns.sum := by
  rw [← sum_filter ns, ← hk, e]; simp
theorem sum_e3 {ks ns : List Int} (hk : ks = ns.filter (· != 0)) : ks.sum = ns.sum := by
  rw [hk, sum_filter]
theorem sum_e4 {ks ns : List Int} (hk : ks = ns.filter (· != 0)) (e : ks.sum = 0) : 0 = ns.sum := by
  rw [← sum_filter ns, ← hk, e]

local macro_rules | `(tactic| walk_at "exec Assign cons ListComp") => `(tactic| (k_here; (with_reducible show wpAny _ _ (exec (Stmt.Assign _ (Expr.ListComp (Expr.Name _ _) [Comprehension.mk _ _ [Expr.BoolOp BoolOp.Or _ _] _] _ _) _) _) _ _ _); k_dflt (refine' assign_nodes ?hL ?F ?X ?N ?hp ?hsub ?hlen ?hsw ?hh ?hclos ?hcell ?hkind ?hnames ?hx ?hd ?hy ?hpp ?hs ?_; (case F => k_asm); (case hL => exact rfl); (case X => k_asm); (case N => k_asm); (case hp => assumption); (case hsub => walk_at "MINE subled"); (case hlen => assumption); (case hsw => with_unfolding_all rfl); (case hh => rfl); (case hclos => with_unfolding_all rfl); (case hcell => decide); (case hkind => rfl); (case hnames => decide); (case hx => rfl); (case hd => decide); (case hy => rfl); (case hpp => rfl); (case hs => intro _; with_unfolding_all rfl))))
local macro_rules | `(tactic| walk_at "NodesSrc") => `(tactic| (k_dflt (refine' NodesSrc.intro ?F ?N ?hl ?hH ?hp ?hlen ?_; (case F => k_asm); (case N => k_asm); (case hl => k_mem); (case hH => exact fun _ _ e => e); (case hp => assumption); (case hlen => assumption)); intro D' ws' ks' nn' h' tk' hks' F' N' l1 hw' hwl'; (try simp only [NeAll, and_true] at l1); (try k_sweep)))
local macro_rules | `(tactic| walk_at "call ref") => `(tactic| (k_here; (with_reducible show wpAny _ _ (call (Value.ref _) [Value.int _ _]) _ _ _); (k_dflt (show wpAny _ _ (call (Value.ref 357) _) _ _ _)); k_dflt ( refine' PureC.use (new_num _ _ _ _) ?hA ?hh ?hd ?hu ?k1 ?k2 ?k3 ?k4 ?hs ?k5 ?hk ?_; (case hA => exact rfl); (case hh => exact rfl); (case hd => exact Nat.le_of_ble_eq_true rfl); (case hu => exact Nat.le_of_ble_eq_true rfl); (case k1 => k_asm); (case k2 => k_asm); (case k3 => k_asm); (case k4 => k_asm); (case hs => walk_at "MINE sub"); (case k5 => k_asm); (case hk => first | exact rfl | assumption)); intro r9 h9 tk9 F9 N9 N8 st9 hR9; (k_dflt (obtain ⟨x9, dx9, j1, j2, j3, u1, u2, u3, e9, M9, q1, q2⟩ := hR9)); subst e9; (have l9 := neAll_of (neNew N8 q1)); (have l8 := neAll_of (neNew N8 q2)); (try simp only [NeAll, and_true] at l9 l8); (have N9' := NewsTwo M9 N9); clear M9 N9 N8 q1 q2; (try k_sweep); (try dsimp only); (try k_unmd)))
local macro_rules | `(tactic| walk_at "call ref") => `(tactic| (k_here; (with_reducible show wpAny _ _ (call (Value.ref _) [Value.ref _]) _ _ _); (k_dflt (show wpAny _ _ (call (Value.ref 630) _) _ _ _)); k_dflt ( refine' PureC.use (sumnode_c _ _ _ _ _ _ _ ?hN ?hl) ?hA ?hh ?hd ?hu ?k1 ?k2 ?k3 ?k4 ?hs ?k5 ?hk ?_; (case hN => assumption); (case hl => assumption); (case hA => exact rfl); (case hh => exact rfl); (case hd => exact Nat.le_of_ble_eq_true rfl); (case hu => exact Nat.le_of_ble_eq_true rfl); (case k1 => k_asm); (case k2 => k_asm); (case k3 => k_asm); (case k4 => k_asm); (case hs => walk_at "MINE sub2"); (case k5 => k_asm); (case hk => first | exact rfl | assumption)); intro r9 h9 tk9 F9 N9 N8 st9 hR9; clear N8; (k_dflt (obtain ⟨x9, dx9, j1, j2, j3, i1, i2, u1, u2, e9, M9⟩ := hR9)); subst e9; (have N9' := NewsTwo M9 N9); clear M9 N9; (try k_sweep); (try dsimp only); (try k_unmd)))
local macro_rules | `(tactic| walk_at "MINE sub2") => `(tactic| k_dflt (first | exact List.forall_mem_nil _ | (walk_at "MINE subled"; done) | (refine' List.forall_mem_cons.mpr ⟨?pa, ?pb⟩; (case pa => k_mem); (case pb => walk_at "MINE sub2"))))
local macro_rules | `(tactic| walk_at "call builtin:len") => `(tactic| (k_here; (with_reducible show wpAny _ _ (call (Value.builtin "len") [Value.ref _]) _ _ _); k_dflt (refine' len_led ?N ?hl ?hlen ?_; (case N => k_asm); (case hl => k_mem); (case hlen => assumption))))
local macro_rules | `(tactic| k_inst) => `(tactic| assumption)
local macro_rules | `(tactic| walk_at "TestNo") => `(tactic| exact ⟨rfl, _, rfl⟩)
local macro_rules | `(tactic| walk_at "FlatSrc") => `(tactic| (k_dflt (refine' FlatSrc.intro ?F ?N ?hl ?hH ?hz ?_; (case F => k_asm); (case N => k_asm); (case hl => k_mem); (case hH => exact fun _ _ e => e); (case hz => exact Nat.le_refl _)); intro D' nn' h' tk' F' N' l1; (try simp only [NeAll, and_true] at l1); (try k_sweep)))
local macro_rules | `(tactic| walk_at "eval ListComp") => `(tactic| (k_here; (with_reducible show wpAny _ _ (eval (Expr.ListComp (Expr.Name _ _) [Comprehension.mk _ _ _ _, Comprehension.mk _ _ _ _] _ _) _) _ _ _); (rename Fr _ _ _ _ => F8); (rename News _ _ _ _ => N8); (rename Frag.In _ _ => X8); (rename Top _ _ _ _ _ _ => T8); k_dflt (refine' eval_flat ?hlen ?hh ?hclos ?hcell ?hkind ?hnames ?hx ?hy ?hd ?hs ?hs1 ?hin ?hgo; (case hlen => assumption); (case hh => rfl); (case hclos => with_unfolding_all rfl); (case hcell => decide); (case hkind => rfl); (case hnames => decide); (case hx => rfl); (case hy => rfl); (case hd => decide); (case hs => intro _; with_unfolding_all rfl); (case hs1 => intro _ _; with_unfolding_all rfl); (case hin => ((intro C9 v9 s9 m9 E9 hC9 hm9 hn9 hmx9 st9); (obtain ⟨n9, _, hv9⟩ := Paired.memL (by assumption : Paired (NumL _ _) _ _) v9 hm9); (obtain ⟨xa, dx, k1, k2, k3, v1, v2, v3, hv, m1, m2⟩ := NumH.up (NumL.heap hv9 (News.sub N8 (by walk_at "MINE subled"))) st9); (have bF := frInComp hn9 st9 hC9); (have bX := Frag.In.keeps X8 (Fr.keep F8)); (have bT := Top.keeps T8 (Fr.keep F8)); (subst hv); (have I9 : W.InstAt s9.heap xa (instObj 357 dx) 357 (some (numD _ n9 k1 k2 k3 v1 v2 v3)) := ⟨m1, rfl, rfl, m2⟩); (refine flat_in rfl rfl hn9 hmx9 (by decide) ?_); (clear F8 N8); k_steps)))))
local macro_rules | `(tactic| walk_at "NTurn") => `(tactic| (k_dflt (refine' NTurn.intro ?F ?N ?hs ?hb ?e ?hm; (case F => k_asm); (case N => k_asm); (case hs => walk_at "MINE subled"); (case hb => with_unfolding_all rfl); (case e => first | rfl | omega); (case hm => k_same2))))
local macro_rules | `(tactic| walk_at "pyIter ref") => `(tactic| ((with_reducible show wpAny _ _ (pyIter (Value.ref _)) (fun it s₂ => LoopAtV _ _ _ _ _ _ _ _ _ it s₂) _ _); k_here; k_dflt (refine' loop_nodes (y := Str.ofString "num_node_sum") ?hh ?hL ?F ?N ?hl ?hw ?hsub ?hy ?hxy ?turn ?done; (case hh => rfl); (case F => k_asm); (case hL => rfl); (case N => k_asm); (case hl => k_mem); (case hw => assumption); (case hsub => (walk_at "MINE subled"; done)); (case hy => with_unfolding_all rfl); (case hxy => decide)); (case' turn => (intro a' ta' n' xa' dx' k1' k2' k3' v1' v2' v3' h' tk' nx' F' N'; (try k_fold))); (case' done => (intro u' t' h' tk' F' N'; (try k_sweep)))))
local macro_rules | `(tactic| k_all) => `(tactic| assumption)
local macro_rules | `(tactic| walk_at "FinA") => `(tactic| ((unfold LCg.FinA); intro D' h' tk' F' N' o1'; (have o2' := off_all o1'); (try simp only [LCg.Off1, and_true] at o1'); (try simp only [List.nil_append, List.cons_append] at N' o2'); (try dsimp only)))
local macro_rules | `(tactic| walk_at "exec Assign cons ListComp") => `(tactic| (k_here; (with_reducible show wpAny _ _ (exec (Stmt.Assign _ (Expr.ListComp _ [Comprehension.mk (Expr.Tuple _ _ _) (Expr.Call (Expr.Attribute _ _ _) _ _ _) [Expr.Compare _ _ _ _] _] _ _) _) _) _ _ _); (rename Fr _ _ _ _ => lF'); (rename News _ _ _ _ => lN'); (k_dflt (refine kct_Assign (PySem.strKind _ _) lF' (by rfl) (by with_unfolding_all rfl) (by rfl) (by decide) (by rfl) (by decide) (by rfl) (by rfl) (by first | decide | decide +kernel) (by rfl) (by rfl) ?_)); with_unfolding_all ((refine MethodCall_ ?_); (refine ld lF' (by rfl) ?_); (refine kdl_method (knd := PySem.strKind _ _) PySem.F.slot_dict_items PySem.F.type_dict_items lN' (by k_mem) (by k_asm) ?_); (refine callWith_method0 ?_); (refine kta_callItems (knd := PySem.strKind _ _) lF' lN' (by k_mem) (by k_asm) (by k_asm) ?_)); intro h' hv' F' N'; (with_unfolding_all refine KctSrc.intro (enc := PyData.str) (xs := []) (by rfl) F' N' hv' (by k_mem) (by k_asm) (by exact Nat.le_of_ble_eq_true rfl) (fun _ _ h => Value.isStrOf_shape h) (by rfl) ?_); clear lF' lN'; intro g'))
local macro_rules | `(tactic| walk_at "subscriptTail") => `(tactic| (k_here; (with_reducible show wpAny _ _ (subscriptTail _ _ (Value.ref _) (Value.int _ _)) _ _ _); (with_reducible rename Paired _ _ _ => hP9); (with_reducible rename ((List.length _ : Nat) : Int) = 1 => hL9); k_dflt ((obtain ⟨x9, dx9, k1, k2, k3, v1, v2, v3, n9, hws9, hks9, m1, m2⟩ := paired_one hP9 hL9); (rename News _ _ _ _ => N8); (have N9' := NewsAdd N8 (by walk_at "MINE subled") m1 m2); (refine' sub0_led ?N ?hl ?hv ?hs ?_; (case N => exact N8); (case hl => k_mem); (case hv => (rw [hws9]; rfl)); (case hs => with_unfolding_all rfl)); clear N8); (try dsimp only); (try k_unmd)))
set_option maxHeartbeats 4000000
theorem sum_c (prog : Program) (w : World) (l : Addr) (vs : List Value) (ns : List Int) (nn : Nat) (led : Led) (hN : Paired (NumL w.params led) vs ns) (hlen : vs.length ≤ 1000) :
    PureC prog w 500 2500 232 [.ref l] ((l, listOf vs.toArray nn) :: led) (NumR w.params ns.sum) := by
  unfold PureC
  intro loose mean mg mb gd cn cs a ccd cl outer A₀ base h₀ L m s Q E B F X N T hk hret
  refine wpAny_call ?_
  walk_at "MINE enter"
  k_steps
  all_goals (refine leaveP_ (by k_asm) (by k_asm) (by walk_at "MINE subled") ?_)
  all_goals (intro Fz Nz Sz)
  all_goals (refine' hret _ _ _ Fz Sz (numR_end Nz ?m ?e); (case m => walk_at "MINE sub"); (case e => first | exact sum_e1 (by assumption) (by assumption) (by assumption) | exact sum_e2 (by assumption) (by assumption) | exact sum_e3 (by assumption) | exact sum_e4 (by assumption) (by omega)))

local macro_rules | `(tactic| walk_at "MINE use") => `(tactic| ((case hA => exact rfl); (case k2 => k_asm); (case k1 => k_asm); (case k3 => k_asm); (case k4 => k_asm); (case hs => walk_at "MINE sub"); (case hh => exact rfl); (case hd => exact Nat.le_of_ble_eq_true rfl); (case hu => exact Nat.le_of_ble_eq_true rfl); (case k5 => k_asm); (case hk => first | exact rfl | assumption)))
local macro_rules | `(tactic| walk_at "MINE num") => `(tactic| (intro r9 h9 tk9 F9 N9 N8 st9 hR9; (k_dflt (obtain ⟨x9, dx9, j1, j2, j3, u1, u2, u3, e9, M9⟩ := hR9)); subst e9; (have N9' := NewsTwo M9 N9); clear M9 N9 N8; (try k_sweep); (try dsimp only [W.CmpBack]); (try dsimp only); (try k_unmd)))
local macro_rules | `(tactic| walk_at "MINE end") => `(tactic| ((refine leaveP_ (by k_asm) (by k_asm) (by walk_at "MINE sub") ?_)))
local macro_rules | `(tactic| mul_fits) => `(tactic| first | assumption | exact PySem.IntMulOk.of_right (PySem.intBits_le_64 (by omega) (by omega)) | exact PySem.IntMulOk.of_left (PySem.intBits_le_64 (by omega) (by omega)))
local macro_rules | `(tactic| walk_at "ite") => `(tactic| (k_here; (refine W.ite_pos (beq_self_eq_true (_ : Int)) ?_)))
local macro_rules | `(tactic| walk_at "ite") => `(tactic| (k_here; (with_reducible show (if ((_ : Int) != _) = true then _ else _)); (refine W.ite_pos (by (simp only [bne_iff_ne, ne_eq]; omega)) ?_)))
local macro_rules | `(tactic| walk_at "MINE hyp") => `(tactic| omega)
local macro_rules | `(tactic| walk_at "binaryOp LShift ref") => `(tactic| ((with_reducible show wpAny _ _ (binaryOp Operator.LShift (Value.ref _) _) _ _ _); ksp_bin))
set_option maxHeartbeats 4000000
theorem sum2_c (prog : Program) (w : World) (l x y dx dy : Addr) (nn : Nat) (n m : Int) (k1 k2 k3 v1 v2 v3 i1 i2 i3 j1 j2 j3 : Tok) :
    PureC prog w 500 2500 232 [.ref l] [(l, listOf [.ref x, .ref y].toArray nn), (x, instObj 357 dx), (dx, numD w.params n k1 k2 k3 v1 v2 v3), (y, instObj 357 dy), (dy, numD w.params m i1 i2 i3 j1 j2 j3)] (NumR w.params (n + m)) := by
  have z := sum_c prog w l [.ref x, .ref y] [n, m] nn [(x, instObj 357 dx), (dx, numD w.params n k1 k2 k3 v1 v2 v3), (y, instObj 357 dy), (dy, numD w.params m i1 i2 i3 j1 j2 j3)]
    (.cons ⟨x, dx, k1, k2, k3, v1, v2, v3, rfl, .head _, .tail _ (.head _)⟩ (.cons ⟨y, dy, i1, i2, i3, j1, j2, j3, rfl, .tail _ (.tail _ (.head _)), .tail _ (.tail _ (.tail _ (.head _)))⟩ .nil)) (by simp)
  simpa using z
theorem NumR.of {P : Params} {n n' : Int} {H h₀ h : Heap} {L : Addr} {v : Value} (e : n = n') (x : NumR P n H h₀ L h v) : NumR P n' H h₀ L h v := e ▸ x

local macro_rules | `(tactic| walk_at "call ref") => `(tactic| (k_here; (with_reducible show wpAny _ _ (call (Value.ref _) [Value.ref _]) _ _ _); (k_dflt (show wpAny _ _ (call (Value.ref 232) _) _ _ _)); k_dflt ( refine' PureC.use (sum2_c _ _ _ _ _ _ _ _ _ _ _ _ _ _ _ _ _ _ _ _ _ _) ?hA ?hh ?hd ?hu ?k1 ?k2 ?k3 ?k4 ?hs ?k5 ?hk ?_; walk_at "MINE use"); walk_at "MINE num"))
set_option maxHeartbeats 1000000
theorem add_i (prog : Program) (w : World) (x dx : Addr) (n b : Int) (t k1 k2 k3 v1 v2 v3 : Tok) :
    PureC prog w 440 2200 128 [.ref x, .int b t] [(x, instObj 357 dx), (dx, numD w.params n k1 k2 k3 v1 v2 v3)] (NumR w.params (n + b)) := by
  unfold PureC
  intro loose mean mg mb gd cn cs a ccd cl outer A₀ base h₀ L m' s Q E B F X N T hk hret
  refine wpAny_call ?_
  walk_at "MINE enter"
  k_steps
  all_goals (refine leaveP_ (by k_asm) (by k_asm) (by walk_at "MINE sub") ?_)
  all_goals (intro Fz Nz Sz)
  all_goals (refine' hret _ _ _ Fz Sz (numR_end Nz ?mm ?ee); (case mm => walk_at "MINE sub"); (case ee => first | rfl | omega))
local macro_rules | `(tactic| walk_at "call ref") => `(tactic| (k_here; (with_reducible show wpAny _ _ (call (Value.ref _) [Value.ref _, Value.int _ _]) _ _ _); (k_dflt (show wpAny _ _ (call (Value.ref 128) _) _ _ _)); k_dflt ( refine' PureC.use (add_i _ _ _ _ _ _ _ _ _ _ _ _ _) ?hA ?hh ?hd ?hu ?k1 ?k2 ?k3 ?k4 ?hs ?k5 ?hk ?_; walk_at "MINE use"); walk_at "MINE num"))
theorem add_n (prog : Program) (w : World) (x y dx dy : Addr) (n m : Int) (k1 k2 k3 v1 v2 v3 i1 i2 i3 j1 j2 j3 : Tok) :
    PureC prog w 440 2200 128 [.ref x, .ref y] [(x, instObj 357 dx), (dx, numD w.params n k1 k2 k3 v1 v2 v3), (y, instObj 357 dy), (dy, numD w.params m i1 i2 i3 j1 j2 j3)] (NumR w.params (n + m)) := by
  unfold PureC
  intro loose mean mg mb gd cn cs a ccd cl outer A₀ base h₀ L m' s Q E B F X N T hk hret
  refine wpAny_call ?_
  walk_at "MINE enter"
  k_steps
  all_goals (refine leaveP_ (by k_asm) (by k_asm) (by walk_at "MINE sub") ?_)
  all_goals (intro Fz Nz Sz)
  all_goals (refine' hret _ _ _ Fz Sz (numR_end Nz ?mm ?ee); (case mm => walk_at "MINE sub"); (case ee => first | rfl | omega))
local macro_rules | `(tactic| walk_at "call ref") => `(tactic| (k_here; (with_reducible show wpAny _ _ (call (Value.ref _) [Value.ref _, Value.ref _]) _ _ _); (k_dflt (show wpAny _ _ (call (Value.ref 128) _) _ _ _)); k_dflt ( refine' PureC.use (add_n _ _ _ _ _ _ _ _ _ _ _ _ _ _ _ _ _ _ _ _) ?hA ?hh ?hd ?hu ?k1 ?k2 ?k3 ?k4 ?hs ?k5 ?hk ?_; walk_at "MINE use"); walk_at "MINE num"))
theorem mul_i (prog : Program) (w : World) (x dx : Addr) (n b : Int) (t k1 k2 k3 v1 v2 v3 : Tok) (hm : IntMulOk n b) :
    PureC prog w 480 2400 333 [.ref x, .int b t] [(x, instObj 357 dx), (dx, numD w.params n k1 k2 k3 v1 v2 v3)] (NumR w.params (n * b)) := by
  unfold PureC
  intro loose mean mg mb gd cn cs a ccd cl outer A₀ base h₀ L m' s Q E B F X N T hk hret
  refine wpAny_call ?_
  walk_at "MINE enter"
  k_steps
  all_goals (refine leaveP_ (by k_asm) (by k_asm) (by walk_at "MINE sub") ?_)
  all_goals (intro Fz Nz Sz)
  all_goals (refine' hret _ _ _ Fz Sz (numR_end Nz ?mm ?ee); (case mm => walk_at "MINE sub"); (case ee => first | rfl | omega))
local macro_rules | `(tactic| walk_at "call ref") => `(tactic| (k_here; (with_reducible show wpAny _ _ (call (Value.ref _) [Value.ref _, Value.int _ _]) _ _ _); (k_dflt (show wpAny _ _ (call (Value.ref 333) _) _ _ _)); k_dflt ( refine' PureC.use (mul_i _ _ _ _ _ _ _ _ _ _ _ _ _ ?hm) ?hA ?hh ?hd ?hu ?k1 ?k2 ?k3 ?k4 ?hs ?k5 ?hk ?_; walk_at "MINE use"; (case hm => mul_fits)); walk_at "MINE num"))
theorem mul_n (prog : Program) (w : World) (x y dx dy : Addr) (n m : Int) (k1 k2 k3 v1 v2 v3 i1 i2 i3 j1 j2 j3 : Tok) (hm : IntMulOk m n) :
    PureC prog w 470 2350 333 [.ref x, .ref y] [(x, instObj 357 dx), (dx, numD w.params n k1 k2 k3 v1 v2 v3), (y, instObj 357 dy), (dy, numD w.params m i1 i2 i3 j1 j2 j3)] (NumR w.params (m * n)) := by
  unfold PureC
  intro loose mean mg mb gd cn cs a ccd cl outer A₀ base h₀ L m' s Q E B F X N T hk hret
  refine wpAny_call ?_
  walk_at "MINE enter"
  k_steps
  all_goals (refine leaveP_ (by k_asm) (by k_asm) (by walk_at "MINE sub") ?_)
  all_goals (intro Fz Nz Sz)
  all_goals (refine' hret _ _ _ Fz Sz (numR_end Nz ?mm ?ee); (case mm => walk_at "MINE sub"); (case ee => first | rfl | omega))
local macro_rules | `(tactic| walk_at "call ref") => `(tactic| (k_here; (with_reducible show wpAny _ _ (call (Value.ref _) [Value.ref _, Value.ref _]) _ _ _); (k_dflt (show wpAny _ _ (call (Value.ref 333) _) _ _ _)); k_dflt ( refine' PureC.use (mul_n _ _ _ _ _ _ _ _ _ _ _ _ _ _ _ _ _ _ _ _ ?hm) ?hA ?hh ?hd ?hu ?k1 ?k2 ?k3 ?k4 ?hs ?k5 ?hk ?_; walk_at "MINE use"; (case hm => mul_fits)); walk_at "MINE num"))
theorem neg_u (prog : Program) (w : World) (x dx : Addr) (n : Int) (k1 k2 k3 v1 v2 v3 : Tok) :
    PureC prog w 460 2300 121 [.ref x] [(x, instObj 357 dx), (dx, numD w.params n k1 k2 k3 v1 v2 v3)] (NumR w.params (-n)) := by
  unfold PureC
  intro loose mean mg mb gd cn cs a ccd cl outer A₀ base h₀ L m' s Q E B F X N T hk hret
  refine wpAny_call ?_
  walk_at "MINE enter"
  k_steps
  all_goals (refine leaveP_ (by k_asm) (by k_asm) (by walk_at "MINE sub") ?_)
  all_goals (intro Fz Nz Sz)
  all_goals (refine' hret _ _ _ Fz Sz (numR_end Nz ?mm ?ee); (case mm => walk_at "MINE sub"); (case ee => first | rfl | omega))
local macro_rules | `(tactic| walk_at "call ref") => `(tactic| (k_here; (with_reducible show wpAny _ _ (call (Value.ref _) [Value.ref _]) _ _ _); (k_dflt (show wpAny _ _ (call (Value.ref 121) _) _ _ _)); k_dflt ( refine' PureC.use (neg_u _ _ _ _ _ _ _ _ _ _ _) ?hA ?hh ?hd ?hu ?k1 ?k2 ?k3 ?k4 ?hs ?k5 ?hk ?_; walk_at "MINE use"); walk_at "MINE num"))
theorem sub_i (prog : Program) (w : World) (x dx : Addr) (n b : Int) (t k1 k2 k3 v1 v2 v3 : Tok) :
    PureC prog w 420 2100 142 [.ref x, .int b t] [(x, instObj 357 dx), (dx, numD w.params n k1 k2 k3 v1 v2 v3)] (NumR w.params (n - b)) := by
  unfold PureC
  intro loose mean mg mb gd cn cs a ccd cl outer A₀ base h₀ L m' s Q E B F X N T hk hret
  refine wpAny_call ?_
  walk_at "MINE enter"
  k_steps
  all_goals (refine leaveP_ (by k_asm) (by k_asm) (by walk_at "MINE sub") ?_)
  all_goals (intro Fz Nz Sz)
  all_goals (refine' hret _ _ _ Fz Sz (numR_end Nz ?mm ?ee); (case mm => walk_at "MINE sub"); (case ee => first | rfl | omega))
local macro_rules | `(tactic| walk_at "call ref") => `(tactic| (k_here; (with_reducible show wpAny _ _ (call (Value.ref _) [Value.ref _, Value.int _ _]) _ _ _); (k_dflt (show wpAny _ _ (call (Value.ref 142) _) _ _ _)); k_dflt ( refine' PureC.use (sub_i _ _ _ _ _ _ _ _ _ _ _ _ _) ?hA ?hh ?hd ?hu ?k1 ?k2 ?k3 ?k4 ?hs ?k5 ?hk ?_; walk_at "MINE use"); walk_at "MINE num"))
theorem sub_n (prog : Program) (w : World) (x y dx dy : Addr) (n m : Int) (k1 k2 k3 v1 v2 v3 i1 i2 i3 j1 j2 j3 : Tok) :
    PureC prog w 420 2100 142 [.ref x, .ref y] [(x, instObj 357 dx), (dx, numD w.params n k1 k2 k3 v1 v2 v3), (y, instObj 357 dy), (dy, numD w.params m i1 i2 i3 j1 j2 j3)] (NumR w.params (n - m)) := by
  unfold PureC
  intro loose mean mg mb gd cn cs a ccd cl outer A₀ base h₀ L m' s Q E B F X N T hk hret
  refine wpAny_call ?_
  walk_at "MINE enter"
  k_steps
  all_goals (refine leaveP_ (by k_asm) (by k_asm) (by walk_at "MINE sub") ?_)
  all_goals (intro Fz Nz Sz)
  all_goals (refine' hret _ _ _ Fz Sz (numR_end Nz ?mm ?ee); (case mm => walk_at "MINE sub"); (case ee => first | rfl | omega))
local macro_rules | `(tactic| walk_at "call ref") => `(tactic| (k_here; (with_reducible show wpAny _ _ (call (Value.ref _) [Value.ref _, Value.ref _]) _ _ _); (k_dflt (show wpAny _ _ (call (Value.ref 142) _) _ _ _)); k_dflt ( refine' PureC.use (sub_n _ _ _ _ _ _ _ _ _ _ _ _ _ _ _ _ _ _ _ _) ?hA ?hh ?hd ?hu ?k1 ?k2 ?k3 ?k4 ?hs ?k5 ?hk ?_; walk_at "MINE use"); walk_at "MINE num"))

local macro_rules | `(tactic| walk_at "call ref") => `(tactic| (k_here; (with_reducible show wpAny _ _ (call (Value.ref _) [Value.ref _, Value.int _ _]) _ _ _); (k_dflt (show wpAny _ _ (call (Value.ref 128) _) _ _ _)); k_dflt ( refine' PureC.use (add_i _ _ _ _ _ _ _ _ _ _ _ _ _) ?hA ?hh ?hd ?hu ?k1 ?k2 ?k3 ?k4 ?hs ?k5 ?hk ?_; walk_at "MINE use"); walk_at "MINE num"))
local macro_rules | `(tactic| walk_at "call ref") => `(tactic| (k_here; (with_reducible show wpAny _ _ (call (Value.ref _) [Value.ref _, Value.ref _]) _ _ _); (k_dflt (show wpAny _ _ (call (Value.ref 128) _) _ _ _)); k_dflt ( refine' PureC.use (add_n _ _ _ _ _ _ _ _ _ _ _ _ _ _ _ _ _ _ _ _) ?hA ?hh ?hd ?hu ?k1 ?k2 ?k3 ?k4 ?hs ?k5 ?hk ?_; walk_at "MINE use"); walk_at "MINE num"))
local macro_rules | `(tactic| walk_at "call ref") => `(tactic| (k_here; (with_reducible show wpAny _ _ (call (Value.ref _) [Value.ref _, Value.int _ _]) _ _ _); (k_dflt (show wpAny _ _ (call (Value.ref 333) _) _ _ _)); k_dflt ( refine' PureC.use (mul_i _ _ _ _ _ _ _ _ _ _ _ _ _ ?hm) ?hA ?hh ?hd ?hu ?k1 ?k2 ?k3 ?k4 ?hs ?k5 ?hk ?_; walk_at "MINE use"; (case hm => mul_fits)); walk_at "MINE num"))
local macro_rules | `(tactic| walk_at "call ref") => `(tactic| (k_here; (with_reducible show wpAny _ _ (call (Value.ref _) [Value.ref _, Value.ref _]) _ _ _); (k_dflt (show wpAny _ _ (call (Value.ref 333) _) _ _ _)); k_dflt ( refine' PureC.use (mul_n _ _ _ _ _ _ _ _ _ _ _ _ _ _ _ _ _ _ _ _ ?hm) ?hA ?hh ?hd ?hu ?k1 ?k2 ?k3 ?k4 ?hs ?k5 ?hk ?_; walk_at "MINE use"; (case hm => mul_fits)); walk_at "MINE num"))
local macro_rules | `(tactic| walk_at "call ref") => `(tactic| (k_here; (with_reducible show wpAny _ _ (call (Value.ref _) [Value.ref _]) _ _ _); (k_dflt (show wpAny _ _ (call (Value.ref 121) _) _ _ _)); k_dflt ( refine' PureC.use (neg_u _ _ _ _ _ _ _ _ _ _ _) ?hA ?hh ?hd ?hu ?k1 ?k2 ?k3 ?k4 ?hs ?k5 ?hk ?_; walk_at "MINE use"); walk_at "MINE num"))
local macro_rules | `(tactic| walk_at "call ref") => `(tactic| (k_here; (with_reducible show wpAny _ _ (call (Value.ref _) [Value.ref _, Value.int _ _]) _ _ _); (k_dflt (show wpAny _ _ (call (Value.ref 142) _) _ _ _)); k_dflt ( refine' PureC.use (sub_i _ _ _ _ _ _ _ _ _ _ _ _ _) ?hA ?hh ?hd ?hu ?k1 ?k2 ?k3 ?k4 ?hs ?k5 ?hk ?_; walk_at "MINE use"); walk_at "MINE num"))
local macro_rules | `(tactic| walk_at "call ref") => `(tactic| (k_here; (with_reducible show wpAny _ _ (call (Value.ref _) [Value.ref _, Value.ref _]) _ _ _); (k_dflt (show wpAny _ _ (call (Value.ref 142) _) _ _ _)); k_dflt ( refine' PureC.use (sub_n _ _ _ _ _ _ _ _ _ _ _ _ _ _ _ _ _ _ _ _) ?hA ?hh ?hd ?hu ?k1 ?k2 ?k3 ?k4 ?hs ?k5 ?hk ?_; walk_at "MINE use"); walk_at "MINE num"))
set_option maxHeartbeats 1000000
theorem lt_i (prog : Program) (w : World) (x dx : Addr) (n b : Int) (t k1 k2 k3 v1 v2 v3 : Tok) :
    PureC prog w 460 2300 177 [.ref x, .int b t] [(x, instObj 357 dx), (dx, numD w.params n k1 k2 k3 v1 v2 v3)] (NumR w.params (if n < b then 1 else 0)) := by
  unfold PureC
  intro loose mean mg mb gd cn cs a ccd cl outer A₀ base h₀ L m' s Q E B F X N T hk hret
  refine wpAny_call ?_
  walk_at "MINE enter"
  k_steps
  all_goals (refine leaveP_ (by k_asm) (by k_asm) (by walk_at "MINE sub") ?_)
  all_goals (intro Fz Nz Sz)
  all_goals (refine' hret _ _ _ Fz Sz (numR_end Nz ?mm ?ee); (case mm => walk_at "MINE sub"); (case ee => first | rfl | omega | (split <;> omega) | (simp_all; done)))
local macro_rules | `(tactic| walk_at "call ref") => `(tactic| (k_here; (with_reducible show wpAny _ _ (call (Value.ref _) [Value.ref _, Value.int _ _]) _ _ _); (k_dflt (show wpAny _ _ (call (Value.ref 177) _) _ _ _)); k_dflt ( refine' PureC.use (lt_i _ _ _ _ _ _ _ _ _ _ _ _ _) ?hA ?hh ?hd ?hu ?k1 ?k2 ?k3 ?k4 ?hs ?k5 ?hk ?_; walk_at "MINE use"); walk_at "MINE num"))
theorem lt_n (prog : Program) (w : World) (x y dx dy : Addr) (n m : Int) (k1 k2 k3 v1 v2 v3 i1 i2 i3 j1 j2 j3 : Tok) :
    PureC prog w 460 2300 177 [.ref x, .ref y] [(x, instObj 357 dx), (dx, numD w.params n k1 k2 k3 v1 v2 v3), (y, instObj 357 dy), (dy, numD w.params m i1 i2 i3 j1 j2 j3)] (NumR w.params (if n < m then 1 else 0)) := by
  unfold PureC
  intro loose mean mg mb gd cn cs a ccd cl outer A₀ base h₀ L m' s Q E B F X N T hk hret
  refine wpAny_call ?_
  walk_at "MINE enter"
  k_steps
  all_goals (refine leaveP_ (by k_asm) (by k_asm) (by walk_at "MINE sub") ?_)
  all_goals (intro Fz Nz Sz)
  all_goals (refine' hret _ _ _ Fz Sz (numR_end Nz ?mm ?ee); (case mm => walk_at "MINE sub"); (case ee => first | rfl | omega | (split <;> omega) | (simp_all; done)))
local macro_rules | `(tactic| walk_at "call ref") => `(tactic| (k_here; (with_reducible show wpAny _ _ (call (Value.ref _) [Value.ref _, Value.ref _]) _ _ _); (k_dflt (show wpAny _ _ (call (Value.ref 177) _) _ _ _)); k_dflt ( refine' PureC.use (lt_n _ _ _ _ _ _ _ _ _ _ _ _ _ _ _ _ _ _ _ _) ?hA ?hh ?hd ?hu ?k1 ?k2 ?k3 ?k4 ?hs ?k5 ?hk ?_; walk_at "MINE use"); walk_at "MINE num"))

local macro_rules | `(tactic| walk_at "call ref") => `(tactic| (k_here; (with_reducible show wpAny _ _ (call (Value.ref _) [Value.ref _, Value.int _ _]) _ _ _); (k_dflt (show wpAny _ _ (call (Value.ref 177) _) _ _ _)); k_dflt ( refine' PureC.use (lt_i _ _ _ _ _ _ _ _ _ _ _ _ _) ?hA ?hh ?hd ?hu ?k1 ?k2 ?k3 ?k4 ?hs ?k5 ?hk ?_; walk_at "MINE use"); walk_at "MINE num"))
local macro_rules | `(tactic| walk_at "call ref") => `(tactic| (k_here; (with_reducible show wpAny _ _ (call (Value.ref _) [Value.ref _, Value.ref _]) _ _ _); (k_dflt (show wpAny _ _ (call (Value.ref 177) _) _ _ _)); k_dflt ( refine' PureC.use (lt_n _ _ _ _ _ _ _ _ _ _ _ _ _ _ _ _ _ _ _ _) ?hA ?hh ?hd ?hu ?k1 ?k2 ?k3 ?k4 ?hs ?k5 ?hk ?_; walk_at "MINE use"); walk_at "MINE num"))
set_option maxHeartbeats 1000000
theorem le_i (prog : Program) (w : World) (x dx : Addr) (n b : Int) (t k1 k2 k3 v1 v2 v3 : Tok) :
    PureC prog w 420 2100 156 [.ref x, .int b t] [(x, instObj 357 dx), (dx, numD w.params n k1 k2 k3 v1 v2 v3)] (NumR w.params (if n ≤ b then 1 else 0)) := by
  unfold PureC
  intro loose mean mg mb gd cn cs a ccd cl outer A₀ base h₀ L m' s Q E B F X N T hk hret
  refine wpAny_call ?_
  walk_at "MINE enter"
  k_steps
  all_goals (refine leaveP_ (by k_asm) (by k_asm) (by walk_at "MINE sub") ?_)
  all_goals (intro Fz Nz Sz)
  all_goals (refine' hret _ _ _ Fz Sz (numR_end Nz ?mm ?ee); (case mm => walk_at "MINE sub"); (case ee => first | rfl | omega | (split <;> omega) | (split <;> split <;> omega)))
local macro_rules | `(tactic| walk_at "call ref") => `(tactic| (k_here; (with_reducible show wpAny _ _ (call (Value.ref _) [Value.ref _, Value.int _ _]) _ _ _); (k_dflt (show wpAny _ _ (call (Value.ref 156) _) _ _ _)); k_dflt ( refine' PureC.use (le_i _ _ _ _ _ _ _ _ _ _ _ _ _) ?hA ?hh ?hd ?hu ?k1 ?k2 ?k3 ?k4 ?hs ?k5 ?hk ?_; walk_at "MINE use"); walk_at "MINE num"))
theorem le_n (prog : Program) (w : World) (x y dx dy : Addr) (n m : Int) (k1 k2 k3 v1 v2 v3 i1 i2 i3 j1 j2 j3 : Tok) :
    PureC prog w 420 2100 156 [.ref x, .ref y] [(x, instObj 357 dx), (dx, numD w.params n k1 k2 k3 v1 v2 v3), (y, instObj 357 dy), (dy, numD w.params m i1 i2 i3 j1 j2 j3)] (NumR w.params (if n ≤ m then 1 else 0)) := by
  unfold PureC
  intro loose mean mg mb gd cn cs a ccd cl outer A₀ base h₀ L m' s Q E B F X N T hk hret
  refine wpAny_call ?_
  walk_at "MINE enter"
  k_steps
  all_goals (refine leaveP_ (by k_asm) (by k_asm) (by walk_at "MINE sub") ?_)
  all_goals (intro Fz Nz Sz)
  all_goals (refine' hret _ _ _ Fz Sz (numR_end Nz ?mm ?ee); (case mm => walk_at "MINE sub"); (case ee => first | rfl | omega | (split <;> omega) | (split <;> split <;> omega)))
local macro_rules | `(tactic| walk_at "call ref") => `(tactic| (k_here; (with_reducible show wpAny _ _ (call (Value.ref _) [Value.ref _, Value.ref _]) _ _ _); (k_dflt (show wpAny _ _ (call (Value.ref 156) _) _ _ _)); k_dflt ( refine' PureC.use (le_n _ _ _ _ _ _ _ _ _ _ _ _ _ _ _ _ _ _ _ _) ?hA ?hh ?hd ?hu ?k1 ?k2 ?k3 ?k4 ?hs ?k5 ?hk ?_; walk_at "MINE use"); walk_at "MINE num"))
theorem gt_i (prog : Program) (w : World) (x dx : Addr) (n b : Int) (t k1 k2 k3 v1 v2 v3 : Tok) :
    PureC prog w 420 2100 163 [.ref x, .int b t] [(x, instObj 357 dx), (dx, numD w.params n k1 k2 k3 v1 v2 v3)] (NumR w.params (if b < n then 1 else 0)) := by
  unfold PureC
  intro loose mean mg mb gd cn cs a ccd cl outer A₀ base h₀ L m' s Q E B F X N T hk hret
  refine wpAny_call ?_
  walk_at "MINE enter"
  k_steps
  all_goals (refine leaveP_ (by k_asm) (by k_asm) (by walk_at "MINE sub") ?_)
  all_goals (intro Fz Nz Sz)
  all_goals (refine' hret _ _ _ Fz Sz (numR_end Nz ?mm ?ee); (case mm => walk_at "MINE sub"); (case ee => first | rfl | omega | (split <;> omega) | (split <;> split <;> omega)))
local macro_rules | `(tactic| walk_at "call ref") => `(tactic| (k_here; (with_reducible show wpAny _ _ (call (Value.ref _) [Value.ref _, Value.int _ _]) _ _ _); (k_dflt (show wpAny _ _ (call (Value.ref 163) _) _ _ _)); k_dflt ( refine' PureC.use (gt_i _ _ _ _ _ _ _ _ _ _ _ _ _) ?hA ?hh ?hd ?hu ?k1 ?k2 ?k3 ?k4 ?hs ?k5 ?hk ?_; walk_at "MINE use"); walk_at "MINE num"))
theorem gt_n (prog : Program) (w : World) (x y dx dy : Addr) (n m : Int) (k1 k2 k3 v1 v2 v3 i1 i2 i3 j1 j2 j3 : Tok) :
    PureC prog w 420 2100 163 [.ref x, .ref y] [(x, instObj 357 dx), (dx, numD w.params n k1 k2 k3 v1 v2 v3), (y, instObj 357 dy), (dy, numD w.params m i1 i2 i3 j1 j2 j3)] (NumR w.params (if m < n then 1 else 0)) := by
  unfold PureC
  intro loose mean mg mb gd cn cs a ccd cl outer A₀ base h₀ L m' s Q E B F X N T hk hret
  refine wpAny_call ?_
  walk_at "MINE enter"
  k_steps
  all_goals (refine leaveP_ (by k_asm) (by k_asm) (by walk_at "MINE sub") ?_)
  all_goals (intro Fz Nz Sz)
  all_goals (refine' hret _ _ _ Fz Sz (numR_end Nz ?mm ?ee); (case mm => walk_at "MINE sub"); (case ee => first | rfl | omega | (split <;> omega) | (split <;> split <;> omega)))
local macro_rules | `(tactic| walk_at "call ref") => `(tactic| (k_here; (with_reducible show wpAny _ _ (call (Value.ref _) [Value.ref _, Value.ref _]) _ _ _); (k_dflt (show wpAny _ _ (call (Value.ref 163) _) _ _ _)); k_dflt ( refine' PureC.use (gt_n _ _ _ _ _ _ _ _ _ _ _ _ _ _ _ _ _ _ _ _) ?hA ?hh ?hd ?hu ?k1 ?k2 ?k3 ?k4 ?hs ?k5 ?hk ?_; walk_at "MINE use"); walk_at "MINE num"))
theorem ge_i (prog : Program) (w : World) (x dx : Addr) (n b : Int) (t k1 k2 k3 v1 v2 v3 : Tok) :
    PureC prog w 420 2100 170 [.ref x, .int b t] [(x, instObj 357 dx), (dx, numD w.params n k1 k2 k3 v1 v2 v3)] (NumR w.params (if b ≤ n then 1 else 0)) := by
  unfold PureC
  intro loose mean mg mb gd cn cs a ccd cl outer A₀ base h₀ L m' s Q E B F X N T hk hret
  refine wpAny_call ?_
  walk_at "MINE enter"
  k_steps
  all_goals (refine leaveP_ (by k_asm) (by k_asm) (by walk_at "MINE sub") ?_)
  all_goals (intro Fz Nz Sz)
  all_goals (refine' hret _ _ _ Fz Sz (numR_end Nz ?mm ?ee); (case mm => walk_at "MINE sub"); (case ee => first | rfl | omega | (split <;> omega) | (split <;> split <;> omega)))
local macro_rules | `(tactic| walk_at "call ref") => `(tactic| (k_here; (with_reducible show wpAny _ _ (call (Value.ref _) [Value.ref _, Value.int _ _]) _ _ _); (k_dflt (show wpAny _ _ (call (Value.ref 170) _) _ _ _)); k_dflt ( refine' PureC.use (ge_i _ _ _ _ _ _ _ _ _ _ _ _ _) ?hA ?hh ?hd ?hu ?k1 ?k2 ?k3 ?k4 ?hs ?k5 ?hk ?_; walk_at "MINE use"); walk_at "MINE num"))
theorem ge_n (prog : Program) (w : World) (x y dx dy : Addr) (n m : Int) (k1 k2 k3 v1 v2 v3 i1 i2 i3 j1 j2 j3 : Tok) :
    PureC prog w 420 2100 170 [.ref x, .ref y] [(x, instObj 357 dx), (dx, numD w.params n k1 k2 k3 v1 v2 v3), (y, instObj 357 dy), (dy, numD w.params m i1 i2 i3 j1 j2 j3)] (NumR w.params (if m ≤ n then 1 else 0)) := by
  unfold PureC
  intro loose mean mg mb gd cn cs a ccd cl outer A₀ base h₀ L m' s Q E B F X N T hk hret
  refine wpAny_call ?_
  walk_at "MINE enter"
  k_steps
  all_goals (refine leaveP_ (by k_asm) (by k_asm) (by walk_at "MINE sub") ?_)
  all_goals (intro Fz Nz Sz)
  all_goals (refine' hret _ _ _ Fz Sz (numR_end Nz ?mm ?ee); (case mm => walk_at "MINE sub"); (case ee => first | rfl | omega | (split <;> omega) | (split <;> split <;> omega)))
local macro_rules | `(tactic| walk_at "call ref") => `(tactic| (k_here; (with_reducible show wpAny _ _ (call (Value.ref _) [Value.ref _, Value.ref _]) _ _ _); (k_dflt (show wpAny _ _ (call (Value.ref 170) _) _ _ _)); k_dflt ( refine' PureC.use (ge_n _ _ _ _ _ _ _ _ _ _ _ _ _ _ _ _ _ _ _ _) ?hA ?hh ?hd ?hu ?k1 ?k2 ?k3 ?k4 ?hs ?k5 ?hk ?_; walk_at "MINE use"); walk_at "MINE num"))
theorem shl_3 (prog : Program) (w : World) (x dx : Addr) (n : Int) (t k1 k2 k3 v1 v2 v3 : Tok) :
    PureC prog w 420 2100 198 [.ref x, .int 3 t] [(x, instObj 357 dx), (dx, numD w.params n k1 k2 k3 v1 v2 v3)] (NumR w.params (n * 8)) := by
  unfold PureC
  intro loose mean mg mb gd cn cs a ccd cl outer A₀ base h₀ L m' s Q E B F X N T hk hret
  refine wpAny_call ?_
  walk_at "MINE enter"
  k_steps
  all_goals (refine leaveP_ (by k_asm) (by k_asm) (by walk_at "MINE sub") ?_)
  all_goals (intro Fz Nz Sz)
  all_goals (refine' hret _ _ _ Fz Sz (numR_end Nz ?mm ?ee); (case mm => walk_at "MINE sub"); (case ee => first | rfl | omega))
local macro_rules | `(tactic| walk_at "call ref") => `(tactic| (k_here; (with_reducible show wpAny _ _ (call (Value.ref _) [Value.ref _, Value.int _ _]) _ _ _); (k_dflt (show wpAny _ _ (call (Value.ref 198) _) _ _ _)); k_dflt ( refine' PureC.use (shl_3 _ _ _ _ _ _ _ _ _ _ _ _) ?hA ?hh ?hd ?hu ?k1 ?k2 ?k3 ?k4 ?hs ?k5 ?hk ?_; walk_at "MINE use"); walk_at "MINE num"))

local macro_rules | `(tactic| walk_at "call ref") => `(tactic| (k_here; (with_reducible show wpAny _ _ (call (Value.ref _) [Value.ref _, Value.int _ _]) _ _ _); (k_dflt (show wpAny _ _ (call (Value.ref 156) _) _ _ _)); k_dflt ( refine' PureC.use (le_i _ _ _ _ _ _ _ _ _ _ _ _ _) ?hA ?hh ?hd ?hu ?k1 ?k2 ?k3 ?k4 ?hs ?k5 ?hk ?_; walk_at "MINE use"); walk_at "MINE num"))
local macro_rules | `(tactic| walk_at "call ref") => `(tactic| (k_here; (with_reducible show wpAny _ _ (call (Value.ref _) [Value.ref _, Value.ref _]) _ _ _); (k_dflt (show wpAny _ _ (call (Value.ref 156) _) _ _ _)); k_dflt ( refine' PureC.use (le_n _ _ _ _ _ _ _ _ _ _ _ _ _ _ _ _ _ _ _ _) ?hA ?hh ?hd ?hu ?k1 ?k2 ?k3 ?k4 ?hs ?k5 ?hk ?_; walk_at "MINE use"); walk_at "MINE num"))
local macro_rules | `(tactic| walk_at "call ref") => `(tactic| (k_here; (with_reducible show wpAny _ _ (call (Value.ref _) [Value.ref _, Value.int _ _]) _ _ _); (k_dflt (show wpAny _ _ (call (Value.ref 163) _) _ _ _)); k_dflt ( refine' PureC.use (gt_i _ _ _ _ _ _ _ _ _ _ _ _ _) ?hA ?hh ?hd ?hu ?k1 ?k2 ?k3 ?k4 ?hs ?k5 ?hk ?_; walk_at "MINE use"); walk_at "MINE num"))
local macro_rules | `(tactic| walk_at "call ref") => `(tactic| (k_here; (with_reducible show wpAny _ _ (call (Value.ref _) [Value.ref _, Value.ref _]) _ _ _); (k_dflt (show wpAny _ _ (call (Value.ref 163) _) _ _ _)); k_dflt ( refine' PureC.use (gt_n _ _ _ _ _ _ _ _ _ _ _ _ _ _ _ _ _ _ _ _) ?hA ?hh ?hd ?hu ?k1 ?k2 ?k3 ?k4 ?hs ?k5 ?hk ?_; walk_at "MINE use"); walk_at "MINE num"))
local macro_rules | `(tactic| walk_at "call ref") => `(tactic| (k_here; (with_reducible show wpAny _ _ (call (Value.ref _) [Value.ref _, Value.int _ _]) _ _ _); (k_dflt (show wpAny _ _ (call (Value.ref 170) _) _ _ _)); k_dflt ( refine' PureC.use (ge_i _ _ _ _ _ _ _ _ _ _ _ _ _) ?hA ?hh ?hd ?hu ?k1 ?k2 ?k3 ?k4 ?hs ?k5 ?hk ?_; walk_at "MINE use"); walk_at "MINE num"))
local macro_rules | `(tactic| walk_at "call ref") => `(tactic| (k_here; (with_reducible show wpAny _ _ (call (Value.ref _) [Value.ref _, Value.ref _]) _ _ _); (k_dflt (show wpAny _ _ (call (Value.ref 170) _) _ _ _)); k_dflt ( refine' PureC.use (ge_n _ _ _ _ _ _ _ _ _ _ _ _ _ _ _ _ _ _ _ _) ?hA ?hh ?hd ?hu ?k1 ?k2 ?k3 ?k4 ?hs ?k5 ?hk ?_; walk_at "MINE use"); walk_at "MINE num"))
local macro_rules | `(tactic| walk_at "call ref") => `(tactic| (k_here; (with_reducible show wpAny _ _ (call (Value.ref _) [Value.ref _, Value.int _ _]) _ _ _); (k_dflt (show wpAny _ _ (call (Value.ref 198) _) _ _ _)); k_dflt ( refine' PureC.use (shl_3 _ _ _ _ _ _ _ _ _ _ _ _) ?hA ?hh ?hd ?hu ?k1 ?k2 ?k3 ?k4 ?hs ?k5 ?hk ?_; walk_at "MINE use"); walk_at "MINE num"))
set_option maxHeartbeats 1000000
theorem fd_pos {n b : Int} (hb : 1 ≤ b) : 0 ≤ n + -n.fdiv b * b ∧ n + -n.fdiv b * b < b ∧ (n + -n.fdiv b * b).fdiv b = 0 := by
  have h := fdiv_fmod_facts n b
  have e : n + -n.fdiv b * b = n.fmod b := by rw [Int.neg_mul]; omega
  have h1 := h.2.2.1 (by omega)
  rw [e]
  refine ⟨h1.1, h1.2, ?_⟩
  have h2 := fdiv_fmod_facts (n.fmod b) b
  have h3 := h2.2.2.1 (by omega)
  have h4 : (n.fmod b).fdiv b * b < 1 * b := by omega
  have h5 : -1 * b < (n.fmod b).fdiv b * b := by omega
  have h6 := Int.lt_of_mul_lt_mul_right h4 (by omega)
  have h7 := Int.lt_of_mul_lt_mul_right h5 (by omega)
  omega
theorem fd_neg {n b : Int} : (n * -1).fdiv (-b) = n.fdiv b := by
  have e : n * -1 = -n := by omega
  rw [e, Int.neg_fdiv_neg]
theorem fm_eq {n b : Int} : n - b * n.fdiv b = n.fmod b := by
  have h := fdiv_fmod_facts n b
  omega
theorem fd_one {n b : Int} (h : b = 1) : n = n.fdiv b := by subst h; simp
theorem fm_one {n b : Int} (h : b = 1) : 0 = n.fmod b := by subst h; simp
theorem PureC.deep {prog : Program} {w : World} {D U D' U' : Nat} {f : Addr} {vs : List Value} {args : Led} {R : Heap → Heap → Addr → Heap → Value → Prop} (C : PureC prog w D U f vs args R) (hd : D' ≤ D) (hu : U' ≤ U) : PureC prog w D' U' f vs args R := by
  intro loose mean mg mb gd cn cs a ccd cl outer A₀ base h₀ L m s Q E B F X N T hk ret
  have z := C loose mean mg mb gd cn cs a ccd cl outer A₀ base h₀ L m s Q E B F X N T hk ret
  intro Γ p hΓ
  exact z Γ p ⟨hΓ.1, Nat.le_trans hΓ.2.1 hd, hΓ.2.2.1, hΓ.2.2.2.1, Nat.le_trans hΓ.2.2.2.2 hu⟩
theorem fdivP (prog : Program) (w : World) (x dx : Addr) (n b : Int) (t k1 k2 k3 v1 v2 v3 : Tok) (cc : Bool) (hb : 1 ≤ b) (hb2 : b < 1000000000) :
    PureC prog w 400 2000 213 [.ref x, .int b t, .bool cc] [(x, instObj 357 dx), (dx, numD w.params n k1 k2 k3 v1 v2 v3)] (NumR w.params (n.fdiv b)) := by
  unfold PureC
  intro loose mean mg mb gd cn cs a ccd cl outer A₀ base h₀ L m' s Q E B F X N T hk hret
  refine wpAny_call ?_
  walk_at "MINE enter"
  have hq := fd_pos (n := n) (b := b) hb
  k_steps
  all_goals (refine leaveP_ (by k_asm) (by k_asm) (by walk_at "MINE sub") ?_)
  all_goals (intro Fz Nz Sz)
  all_goals (refine' hret _ _ _ Fz Sz (numR_end Nz ?mm ?ee); (case mm => walk_at "MINE sub"); (case ee => first | rfl | omega | exact fd_one (by omega) | exact fd_neg | (exact fd_neg.symm) | (simp_all; done)))
local macro_rules | `(tactic| walk_at "call ref") => `(tactic| (k_here; (with_reducible show wpAny _ _ (call (Value.ref _) [Value.ref _, Value.int _ _, Value.bool _]) _ _ _); (k_dflt (show wpAny _ _ (call (Value.ref 213) _) _ _ _)); k_dflt ( refine' PureC.use (fdivP _ _ _ _ _ _ _ _ _ _ _ _ _ _ ?hb ?hb2) ?hA ?hh ?hd ?hu ?k1 ?k2 ?k3 ?k4 ?hs ?k5 ?hk ?_; walk_at "MINE use"; (case hb => walk_at "MINE hyp"); (case hb2 => omega)); walk_at "MINE num"))
theorem fdivA (prog : Program) (w : World) (x dx : Addr) (n b : Int) (t k1 k2 k3 v1 v2 v3 : Tok) (cc : Bool) (hb1 : b ≠ 0) (hb0 : -1000000000 < b) (hb2 : b < 1000000000) :
    PureC prog w 390 1950 213 [.ref x, .int b t, .bool cc] [(x, instObj 357 dx), (dx, numD w.params n k1 k2 k3 v1 v2 v3)] (NumR w.params (n.fdiv b)) := by
  by_cases hb : 1 ≤ b
  · exact (fdivP prog w x dx n b t k1 k2 k3 v1 v2 v3 cc hb hb2).deep (by decide) (by decide)
  unfold PureC
  intro loose mean mg mb gd cn cs a ccd cl outer A₀ base h₀ L m' s Q E B F X N T hk hret
  refine wpAny_call ?_
  walk_at "MINE enter"
  have hb' : b < 0 := by omega
  k_steps
  all_goals (refine leaveP_ (by k_asm) (by k_asm) (by walk_at "MINE sub") ?_)
  all_goals (intro Fz Nz Sz)
  all_goals (refine' hret _ _ _ Fz Sz (numR_end Nz ?mm ?ee); (case mm => walk_at "MINE sub"); (case ee => first | rfl | omega | exact fd_one (by omega) | exact fd_neg | (exact fd_neg.symm) | (simp_all; done)))
local macro_rules | `(tactic| walk_at "call ref") => `(tactic| (k_here; (with_reducible show wpAny _ _ (call (Value.ref _) [Value.ref _, Value.int _ _, Value.bool _]) _ _ _); (k_dflt (show wpAny _ _ (call (Value.ref 213) _) _ _ _)); k_dflt ( refine' PureC.use (fdivA _ _ _ _ _ _ _ _ _ _ _ _ _ _ ?hb1 ?hb0 ?hb2) ?hA ?hh ?hd ?hu ?k1 ?k2 ?k3 ?k4 ?hs ?k5 ?hk ?_; walk_at "MINE use"; (case hb1 => walk_at "MINE hyp"); (case hb0 => omega); (case hb2 => omega)); walk_at "MINE num"))
theorem fdiv_i (prog : Program) (w : World) (x dx : Addr) (n b : Int) (t k1 k2 k3 v1 v2 v3 : Tok) (hb1 : b ≠ 0) (hb0 : -1000000000 < b) (hb2 : b < 1000000000) :
    PureC prog w 380 1900 213 [.ref x, .int b t] [(x, instObj 357 dx), (dx, numD w.params n k1 k2 k3 v1 v2 v3)] (NumR w.params (n.fdiv b)) := by
  unfold PureC
  intro loose mean mg mb gd cn cs a ccd cl outer A₀ base h₀ L m' s Q E B F X N T hk hret
  refine wpAny_call ?_
  walk_at "MINE enter"
  by_cases hb : 1 ≤ b
  · have hq := fd_pos (n := n) (b := b) hb
    k_steps
    all_goals (refine leaveP_ (by k_asm) (by k_asm) (by walk_at "MINE sub") ?_)
    all_goals (intro Fz Nz Sz)
    all_goals (refine' hret _ _ _ Fz Sz (numR_end Nz ?mm ?ee); (case mm => walk_at "MINE sub"); (case ee => first | rfl | omega | exact fd_one (by omega) | exact fd_neg | (exact fd_neg.symm) | (simp_all; done)))
  · have hb' : b < 0 := by omega
    k_steps
    all_goals (refine leaveP_ (by k_asm) (by k_asm) (by walk_at "MINE sub") ?_)
    all_goals (intro Fz Nz Sz)
    all_goals (refine' hret _ _ _ Fz Sz (numR_end Nz ?mm ?ee); (case mm => walk_at "MINE sub"); (case ee => first | rfl | omega | exact fd_one (by omega) | exact fd_neg | (exact fd_neg.symm) | (simp_all; done)))
local macro_rules | `(tactic| walk_at "call ref") => `(tactic| (k_here; (with_reducible show wpAny _ _ (call (Value.ref _) [Value.ref _, Value.int _ _]) _ _ _); (k_dflt (show wpAny _ _ (call (Value.ref 213) _) _ _ _)); k_dflt ( refine' PureC.use (fdiv_i _ _ _ _ _ _ _ _ _ _ _ _ _ ?hb1 ?hb0 ?hb2) ?hA ?hh ?hd ?hu ?k1 ?k2 ?k3 ?k4 ?hs ?k5 ?hk ?_; walk_at "MINE use"; (case hb1 => walk_at "MINE hyp"); (case hb0 => omega); (case hb2 => omega)); walk_at "MINE num"))
theorem fdiv_n (prog : Program) (w : World) (x y dx dy : Addr) (n m : Int) (k1 k2 k3 v1 v2 v3 i1 i2 i3 j1 j2 j3 : Tok) (hb1 : m ≠ 0) (hb0 : -1000000000 < m) (hb2 : m < 1000000000) :
    PureC prog w 370 1850 213 [.ref x, .ref y] [(x, instObj 357 dx), (dx, numD w.params n k1 k2 k3 v1 v2 v3), (y, instObj 357 dy), (dy, numD w.params m i1 i2 i3 j1 j2 j3)] (NumR w.params (n.fdiv m)) := by
  unfold PureC
  intro loose mean mg mb gd cn cs a ccd cl outer A₀ base h₀ L m' s Q E B F X N T hk hret
  refine wpAny_call ?_
  walk_at "MINE enter"
  k_steps
  all_goals (refine leaveP_ (by k_asm) (by k_asm) (by walk_at "MINE sub") ?_)
  all_goals (intro Fz Nz Sz)
  all_goals (refine' hret _ _ _ Fz Sz (numR_end Nz ?mm ?ee); (case mm => walk_at "MINE sub"); (case ee => first | rfl | omega | exact fd_one (by omega) | exact fd_neg | (exact fd_neg.symm) | (simp_all; done)))
local macro_rules | `(tactic| walk_at "call ref") => `(tactic| (k_here; (with_reducible show wpAny _ _ (call (Value.ref _) [Value.ref _, Value.ref _]) _ _ _); (k_dflt (show wpAny _ _ (call (Value.ref 213) _) _ _ _)); k_dflt ( refine' PureC.use (fdiv_n _ _ _ _ _ _ _ _ _ _ _ _ _ _ _ _ _ _ _ _ ?hb1 ?hb0 ?hb2) ?hA ?hh ?hd ?hu ?k1 ?k2 ?k3 ?k4 ?hs ?k5 ?hk ?_; walk_at "MINE use"; (case hb1 => walk_at "MINE hyp"); (case hb0 => omega); (case hb2 => omega)); walk_at "MINE num"))
theorem mod_i (prog : Program) (w : World) (x dx : Addr) (n b : Int) (t k1 k2 k3 v1 v2 v3 : Tok) (hb1 : 0 < b) (hb2 : b < 1000000000) :
    PureC prog w 400 2000 227 [.ref x, .int b t] [(x, instObj 357 dx), (dx, numD w.params n k1 k2 k3 v1 v2 v3)] (NumR w.params (n.fmod b)) := by
  unfold PureC
  intro loose mean mg mb gd cn cs a ccd cl outer A₀ base h₀ L m' s Q E B F X N T hk hret
  refine wpAny_call ?_
  walk_at "MINE enter"
  k_steps
  all_goals (refine leaveP_ (by k_asm) (by k_asm) (by walk_at "MINE sub") ?_)
  all_goals (intro Fz Nz Sz)
  all_goals (refine' hret _ _ _ Fz Sz (numR_end Nz ?mm ?ee); (case mm => walk_at "MINE sub"); (case ee => first | rfl | omega | exact fm_one (by omega) | exact fm_eq | (simp_all; done)))
local macro_rules | `(tactic| walk_at "call ref") => `(tactic| (k_here; (with_reducible show wpAny _ _ (call (Value.ref _) [Value.ref _, Value.int _ _]) _ _ _); (k_dflt (show wpAny _ _ (call (Value.ref 227) _) _ _ _)); k_dflt ( refine' PureC.use (mod_i _ _ _ _ _ _ _ _ _ _ _ _ _ ?hb1 ?hb2) ?hA ?hh ?hd ?hu ?k1 ?k2 ?k3 ?k4 ?hs ?k5 ?hk ?_; walk_at "MINE use"; (case hb1 => walk_at "MINE hyp"); (case hb2 => omega)); walk_at "MINE num"))
theorem mod_n (prog : Program) (w : World) (x y dx dy : Addr) (n m : Int) (k1 k2 k3 v1 v2 v3 i1 i2 i3 j1 j2 j3 : Tok) (hb1 : 0 < m) (hb2 : m < 1000000000) :
    PureC prog w 390 1950 227 [.ref x, .ref y] [(x, instObj 357 dx), (dx, numD w.params n k1 k2 k3 v1 v2 v3), (y, instObj 357 dy), (dy, numD w.params m i1 i2 i3 j1 j2 j3)] (NumR w.params (n.fmod m)) := by
  unfold PureC
  intro loose mean mg mb gd cn cs a ccd cl outer A₀ base h₀ L m' s Q E B F X N T hk hret
  refine wpAny_call ?_
  walk_at "MINE enter"
  k_steps
  all_goals (refine leaveP_ (by k_asm) (by k_asm) (by walk_at "MINE sub") ?_)
  all_goals (intro Fz Nz Sz)
  all_goals (refine' hret _ _ _ Fz Sz (numR_end Nz ?mm ?ee); (case mm => walk_at "MINE sub"); (case ee => first | rfl | omega | exact fm_one (by omega) | exact fm_eq | (simp_all; done)))
local macro_rules | `(tactic| walk_at "call ref") => `(tactic| (k_here; (with_reducible show wpAny _ _ (call (Value.ref _) [Value.ref _, Value.ref _]) _ _ _); (k_dflt (show wpAny _ _ (call (Value.ref 227) _) _ _ _)); k_dflt ( refine' PureC.use (mod_n _ _ _ _ _ _ _ _ _ _ _ _ _ _ _ _ _ _ _ _ ?hb1 ?hb2) ?hA ?hh ?hd ?hu ?k1 ?k2 ?k3 ?k4 ?hs ?k5 ?hk ?_; walk_at "MINE use"; (case hb1 => walk_at "MINE hyp"); (case hb2 => omega)); walk_at "MINE num"))

local macro_rules | `(tactic| walk_at "call ref") => `(tactic| (k_here; (with_reducible show wpAny _ _ (call (Value.ref _) [Value.ref _, Value.int _ _, Value.bool _]) _ _ _); (k_dflt (show wpAny _ _ (call (Value.ref 213) _) _ _ _)); k_dflt ( refine' PureC.use (fdivP _ _ _ _ _ _ _ _ _ _ _ _ _ _ ?hb ?hb2) ?hA ?hh ?hd ?hu ?k1 ?k2 ?k3 ?k4 ?hs ?k5 ?hk ?_; walk_at "MINE use"; (case hb => walk_at "MINE hyp"); (case hb2 => omega)); walk_at "MINE num"))
local macro_rules | `(tactic| walk_at "call ref") => `(tactic| (k_here; (with_reducible show wpAny _ _ (call (Value.ref _) [Value.ref _, Value.int _ _, Value.bool _]) _ _ _); (k_dflt (show wpAny _ _ (call (Value.ref 213) _) _ _ _)); k_dflt ( refine' PureC.use (fdivA _ _ _ _ _ _ _ _ _ _ _ _ _ _ ?hb1 ?hb0 ?hb2) ?hA ?hh ?hd ?hu ?k1 ?k2 ?k3 ?k4 ?hs ?k5 ?hk ?_; walk_at "MINE use"; (case hb1 => walk_at "MINE hyp"); (case hb0 => omega); (case hb2 => omega)); walk_at "MINE num"))
local macro_rules | `(tactic| walk_at "call ref") => `(tactic| (k_here; (with_reducible show wpAny _ _ (call (Value.ref _) [Value.ref _, Value.int _ _]) _ _ _); (k_dflt (show wpAny _ _ (call (Value.ref 213) _) _ _ _)); k_dflt ( refine' PureC.use (fdiv_i _ _ _ _ _ _ _ _ _ _ _ _ _ ?hb1 ?hb0 ?hb2) ?hA ?hh ?hd ?hu ?k1 ?k2 ?k3 ?k4 ?hs ?k5 ?hk ?_; walk_at "MINE use"; (case hb1 => walk_at "MINE hyp"); (case hb0 => omega); (case hb2 => omega)); walk_at "MINE num"))
local macro_rules | `(tactic| walk_at "call ref") => `(tactic| (k_here; (with_reducible show wpAny _ _ (call (Value.ref _) [Value.ref _, Value.ref _]) _ _ _); (k_dflt (show wpAny _ _ (call (Value.ref 213) _) _ _ _)); k_dflt ( refine' PureC.use (fdiv_n _ _ _ _ _ _ _ _ _ _ _ _ _ _ _ _ _ _ _ _ ?hb1 ?hb0 ?hb2) ?hA ?hh ?hd ?hu ?k1 ?k2 ?k3 ?k4 ?hs ?k5 ?hk ?_; walk_at "MINE use"; (case hb1 => walk_at "MINE hyp"); (case hb0 => omega); (case hb2 => omega)); walk_at "MINE num"))
local macro_rules | `(tactic| walk_at "call ref") => `(tactic| (k_here; (with_reducible show wpAny _ _ (call (Value.ref _) [Value.ref _, Value.int _ _]) _ _ _); (k_dflt (show wpAny _ _ (call (Value.ref 227) _) _ _ _)); k_dflt ( refine' PureC.use (mod_i _ _ _ _ _ _ _ _ _ _ _ _ _ ?hb1 ?hb2) ?hA ?hh ?hd ?hu ?k1 ?k2 ?k3 ?k4 ?hs ?k5 ?hk ?_; walk_at "MINE use"; (case hb1 => walk_at "MINE hyp"); (case hb2 => omega)); walk_at "MINE num"))
local macro_rules | `(tactic| walk_at "call ref") => `(tactic| (k_here; (with_reducible show wpAny _ _ (call (Value.ref _) [Value.ref _, Value.ref _]) _ _ _); (k_dflt (show wpAny _ _ (call (Value.ref 227) _) _ _ _)); k_dflt ( refine' PureC.use (mod_n _ _ _ _ _ _ _ _ _ _ _ _ _ _ _ _ _ _ _ _ ?hb1 ?hb2) ?hA ?hh ?hd ?hu ?k1 ?k2 ?k3 ?k4 ?hs ?k5 ?hk ?_; walk_at "MINE use"; (case hb1 => walk_at "MINE hyp"); (case hb2 => omega)); walk_at "MINE num"))
def plainV (k a b : Int) : Option Int :=
  if k = 0 then some (a + b) else if k = 1 then some (a - b) else if k = 2 then some (b - a) else if k = 3 then some (a * b)
  else if k = 4 then (if b ≠ 0 then some (a.fdiv b) else none)
  else if k = 5 then (if 0 < b then some (a.fmod b) else none)
  else if k = 6 then (if a ≠ 0 then some (b.fdiv a) else none)
  else if k = 7 then (if 0 < a then some (b.fmod a) else none)
  else if k = 8 then some (if a < b then 1 else 0) else if k = 9 then some (if a ≤ b then 1 else 0) else if k = 10 then some (if b < a then 1 else 0) else if k = 11 then some (if b ≤ a then 1 else 0)
  else if k = 12 then some (-a) else some (a * 8)
section
variable {k a b d : Int} (h : plainV k a b = some d)
include h
theorem pl0 (e : k = 0) : a + b = d := by subst e; simpa [plainV] using h
theorem pl1 (e : k = 1) : a - b = d := by subst e; simpa [plainV] using h
theorem pl2 (e : k = 2) : b - a = d := by subst e; simpa [plainV] using h
theorem pl3 (e : k = 3) : a * b = d := by subst e; simpa [plainV] using h
theorem pl4 (e : k = 4) : b ≠ 0 ∧ a.fdiv b = d := by
  subst e; by_cases hb : b = 0
  · simp [plainV, hb] at h
  · exact ⟨hb, by simpa [plainV, hb] using h⟩
theorem pl5 (e : k = 5) : 0 < b ∧ a.fmod b = d := by
  subst e; by_cases hb : 0 < b
  · exact ⟨hb, by simpa [plainV, hb] using h⟩
  · simp [plainV, hb] at h
theorem pl6 (e : k = 6) : a ≠ 0 ∧ b.fdiv a = d := by
  subst e; by_cases hb : a = 0
  · simp [plainV, hb] at h
  · exact ⟨hb, by simpa [plainV, hb] using h⟩
theorem pl7 (e : k = 7) : 0 < a ∧ b.fmod a = d := by
  subst e; by_cases hb : 0 < a
  · exact ⟨hb, by simpa [plainV, hb] using h⟩
  · simp [plainV, hb] at h
theorem pl8 (e : k = 8) : (if a < b then 1 else 0) = d := by subst e; simpa [plainV] using h
theorem pl9 (e : k = 9) : (if a ≤ b then 1 else 0) = d := by subst e; simpa [plainV] using h
theorem pl10 (e : k = 10) : (if b < a then 1 else 0) = d := by subst e; simpa [plainV] using h
theorem pl11 (e : k = 11) : (if b ≤ a then 1 else 0) = d := by subst e; simpa [plainV] using h
theorem pl12 (e : k = 12) : -a = d := by subst e; simpa [plainV] using h
theorem pl13 (e : k = 13) : a * 8 = d := by subst e; simpa [plainV] using h
end

local macro_rules | `(tactic| walk_at "MINE hyp") => `(tactic| first | (have z := (pl4 (by assumption) (by omega)).1; exact z) | (have z := (pl5 (by assumption) (by omega)).1; exact z) | (have z := (pl6 (by assumption) (by omega)).1; exact z) | (have z := (pl7 (by assumption) (by omega)).1; exact z))
set_option maxHeartbeats 4000000
theorem done_i (prog : Program) (w : World) (x dx : Addr) (to : Tok) (k n b d : Int) (tk tb : Tok) (k1 k2 k3 v1 v2 v3 : Tok) (hk0 : 0 ≤ k) (hk1 : k < 14) (hn0 : -100000 < n) (hn1 : n < 100000) (hb0 : -9 ≤ b) (hb1 : b ≤ 9) (hp : plainV k n b = some d) :
    PureC prog w 340 1700 746 [.int k tk, .ref x, .int b to, .int b tb] [(x, instObj 357 dx), (dx, numD w.params n k1 k2 k3 v1 v2 v3)] (NumR w.params d) := by
  unfold PureC
  intro loose mean mg mb gd cn cs a ccd cl outer A₀ base h₀ L m' s Q E B F X N T hk hret
  refine wpAny_call ?_
  walk_at "MINE enter"
  k_steps
  all_goals (refine leaveP_ (by k_asm) (by k_asm) (by walk_at "MINE sub") ?_)
  all_goals (intro Fz Nz Sz)
  all_goals (refine' hret _ _ _ Fz Sz (numR_end Nz ?mm ?ee); (case mm => walk_at "MINE sub"); (case ee => first | exact pl0 (by assumption) (by omega) | exact pl1 (by assumption) (by omega) | exact pl2 (by assumption) (by omega) | (have z := pl3 (by assumption) (by omega); first | exact z | (rw [Int.mul_comm]; exact z)) | exact (pl4 (by assumption) (by omega)).2 | exact (pl5 (by assumption) (by omega)).2 | exact (pl6 (by assumption) (by omega)).2 | exact (pl7 (by assumption) (by omega)).2 | exact pl8 (by assumption) (by omega) | exact pl9 (by assumption) (by omega) | exact pl10 (by assumption) (by omega) | exact pl11 (by assumption) (by omega) | exact pl12 (by assumption) (by omega) | exact pl13 (by assumption) (by omega)))
theorem done_n (prog : Program) (w : World) (x dx : Addr) (y dy : Addr) (i1 i2 i3 j1 j2 j3 : Tok) (k n b d : Int) (tk tb : Tok) (k1 k2 k3 v1 v2 v3 : Tok) (hk0 : 0 ≤ k) (hk1 : k < 14) (hn0 : -100000 < n) (hn1 : n < 100000) (hb0 : -9 ≤ b) (hb1 : b ≤ 9) (hp : plainV k n b = some d) :
    PureC prog w 340 1700 746 [.int k tk, .ref x, .ref y, .int b tb] [(x, instObj 357 dx), (dx, numD w.params n k1 k2 k3 v1 v2 v3), (y, instObj 357 dy), (dy, numD w.params b i1 i2 i3 j1 j2 j3)] (NumR w.params d) := by
  unfold PureC
  intro loose mean mg mb gd cn cs a ccd cl outer A₀ base h₀ L m' s Q E B F X N T hk hret
  refine wpAny_call ?_
  walk_at "MINE enter"
  k_steps
  all_goals (refine leaveP_ (by k_asm) (by k_asm) (by walk_at "MINE sub") ?_)
  all_goals (intro Fz Nz Sz)
  all_goals (refine' hret _ _ _ Fz Sz (numR_end Nz ?mm ?ee); (case mm => walk_at "MINE sub"); (case ee => first | exact pl0 (by assumption) (by omega) | exact pl1 (by assumption) (by omega) | exact pl2 (by assumption) (by omega) | (have z := pl3 (by assumption) (by omega); first | exact z | (rw [Int.mul_comm]; exact z)) | exact (pl4 (by assumption) (by omega)).2 | exact (pl5 (by assumption) (by omega)).2 | exact (pl6 (by assumption) (by omega)).2 | exact (pl7 (by assumption) (by omega)).2 | exact pl8 (by assumption) (by omega) | exact pl9 (by assumption) (by omega) | exact pl10 (by assumption) (by omega) | exact pl11 (by assumption) (by omega) | exact pl12 (by assumption) (by omega) | exact pl13 (by assumption) (by omega)))

theorem bool_new_tree (x : Value) : Builtin.«bool.__new__» ⟨[.type "bool", x], []⟩ = (isType (.type "bool") >>= fun b => if (!b) = true then (rule "bool.__new__.no-type" >>= fun _ => typeNameOf (.type "bool") >>= fun n => raiseError "TypeError" s!"bool.__new__(X): X is not a type object ({n})") else isSubtype (.type "bool") (.type "bool") >>= fun b => if (!b) = true then (rule "bool.__new__.no-subtype" >>= fun _ => typeName (.type "bool") >>= fun n => typeName (.type "bool") >>= fun n' => raiseError "TypeError" s!"bool.__new__({n}): {n'} is not a subtype of bool") else truthy x >>= fun b => ret (.bool b)) := by rfl
theorem bool_own {prog : Program} {w : World} {A : Around} {E : Value → Shared → Prop} {s : Shared} {x : Addr} {Q : Value → Shared → Prop}
    (h : wpAny (model prog w) A.in1.in1 (truthy (.ref x)) (fun b s' => Q (.bool b) s') E s) : wpAny (model prog w) A (call (.type "bool") [.ref x]) Q E s := by
  refine callType_codes (T := "bool") (Bi := Builtin.«object.__init__») (Q₁ := fun r s₁ => ∃ b, r = .bool b ∧ Q r s₁) PySem.F.called_bool (PySem.F.typeCall_bool_1 _) PySem.F.entry_object_init ?_ ?_
  · refine codeAny_of_tree ?_
    show wpAny _ A.in1.in1 (do checkBuiltinCall "bool.__new__" ⟨[.type "bool", .ref x], []⟩; again (.builtin "bool.__new__" ⟨[.type "bool", .ref x], []⟩)) _ _ s
    refine wpAny_bind (wpAny_of_eq (PySem.F.newCall_bool_1 _) (wpAny_pure ⟨plainId_quiet (by decide +kernel) _, codeAny_builtin PySem.F.entry_bool_new ?_⟩))
    rw [Around.under_plainId (by decide +kernel) _]
    rw [bool_new_tree]
    refine wpAny_bind (wpAny_pure ?_)
    refine wpAny_bind (wpAny_of_eq PySem.F.conv_sub_bool ?_)
    exact wpAny_bind (wpAny_mono h (fun b s₁ hr => wpAny_pure ⟨_, rfl, hr⟩) fun _ _ y => y)
  · rintro obj s₁ ⟨b, rfl, hq⟩
    exact ⟨PySem.typeIs_bool _ _, PySem.F.args_object_init_2 _ _, object_init_meets PySem.F.called_bool.init.lookup PySem.F.called_bool.made (by decide) prog w A.in1 _ s₁ ⟨PySem.typeIs_bool _ _, rfl, hq⟩⟩

/-- a dict comprehension over the items of an empty dict -/
theorem dcomp0 {prog : Program} {w : World} {A : Around} {E : Value → Shared → Prop} {s : Shared} {env : Env} {kx vx iter target : Expr} {scope : Scope} {cl : List (Str × Addr)} {pos : Pos} {Q : Value → Shared → Prop}
    (hh : A.handled = none) (hclos : closureFor scope env = pure cl) (hcell : ∀ z ∈ scope.names, z.2 ≠ .cell) (hkind : scope.kind = .function)
    (hnames : ∀ z ∈ scope.names, z.2 = .local → scope.names.lookup z.1 = some .local)
    (h : wpAny (model prog w) A (eval iter env) (fun xv s₁ => ∃ (v d : Addr) (ep : Nat), xv = .ref v ∧ s₁.heap.IsItemsView v d ∧ s₁.heap.DictAt (PySem.strKind prog w) d [] ep ∧
      (∀ (D : Addr) (h' : Heap) (tk : Nat), s₁.heap.get? D = none → h'.get? D = some { cls := .type "dict", data := .dict #[] } → Stays s₁.heap h' → Q (.ref D) { s₁ with heap := h', toks := tk })) E s)
    (hs : ∀ x, foldedSetIterable iter env x = pure x) :
    wpAny (model prog w) A (eval (.DictComp kx vx [⟨target, iter, [], 0⟩] scope pos) env) Q E s := by
  rw [arm_eval_DictComp]
  refine wpAny_comprehension_free (use := none) rfl hs hclos hkind hnames (wpAny_mono h (fun xv s₁ h₁ => ?_) fun _ _ e => e)
  obtain ⟨v, d, ep, rfl, hv, hd, hQ⟩ := h₁
  have hdl : d < s₁.heap.objs.size := by obtain ⟨_, _, e, _⟩ := id hd; exact Heap.lt_size e
  refine wpAny_pyIter_items hv hd ?_
  refine wpAny_newObj_type (wpAny_newFunctionEnv hcell (by intro y hy; simp at hy) (fun h₁ hns₁ hsb₁ => ?_) hkind)
  dsimp only at hns₁ hsb₁ ⊢
  generalize hH1 : s₁.heap.push { cls := .type "dict_itemiterator", data := .fields #[.none, .bool false, .ref d, .int 0 0, .int (([] : List (Str × Value)).length : Nat) 0, .int ep 0, .none, .none] } = H1 at hns₁ hsb₁ ⊢
  have hS1 : H1.objs.size = s₁.heap.objs.size + 1 := by rw [← hH1, Heap.size_push]
  generalize hH2 : H1.push { cls := .type "dict", dict := none, data := .dict #[] } = H2 at hns₁ hsb₁ ⊢
  have hS2 : H2.objs.size = s₁.heap.objs.size + 1 + 1 := by rw [← hH2, Heap.size_push, hS1]
  have up1 : ∀ b o, s₁.heap.get? b = some o → H1.get? b = some o := fun b o e => hH1 ▸ Heap.get?_push_of_some _ e
  have up2 : ∀ b o, H1.get? b = some o → H2.get? b = some o := fun b o e => hH2 ▸ Heap.get?_push_of_some _ e
  have nI : s₁.heap.objs.size ≠ H2.objs.size := by rw [hS2]; exact Nat.ne_of_lt (Nat.lt_succ_of_lt (Nat.lt_succ_self _))
  have nD : H1.objs.size ≠ H2.objs.size := by rw [hS2, hS1]; exact Nat.ne_of_lt (Nat.lt_succ_self _)
  have nID : s₁.heap.objs.size ≠ H1.objs.size := by rw [hS1]; exact Nat.ne_of_lt (Nat.lt_succ_self _)
  have below : ∀ b, b < s₁.heap.objs.size → b ≠ H2.objs.size ∧ b ≠ s₁.heap.objs.size := fun b hb =>
    ⟨by rw [hS2]; exact Nat.ne_of_lt (Nat.lt_succ_of_lt (Nat.lt_succ_of_lt hb)), Nat.ne_of_lt hb⟩
  have old : Stays s₁.heap h₁ := fun b o e => hsb₁.extBut b o (below b (Heap.lt_size e)).1 (Heap.get?_push_of_some _ (up2 _ _ (up1 _ _ e)))
  have hiter : IsItemIter h₁ s₁.heap.objs.size d 0 ([] : List (Str × Value)).length ep .none .none := hsb₁.extBut _ _ nI (Heap.get?_push_of_some _ (up2 _ _ (hH1 ▸ Heap.get?_push_size _ rfl)))
  have hacc : h₁.get? H1.objs.size = some { cls := .type "dict", data := .dict #[] } := hsb₁.extBut _ _ nD (Heap.get?_push_of_some _ (hH2 ▸ Heap.get?_push_size _ rfl))
  have hd₁ : h₁.DictAt (PySem.strKind prog w) d [] ep := by obtain ⟨o, es, e, r⟩ := hd; exact ⟨o, es, old _ _ e, r⟩
  have loop : codeAny (model prog w) A (.compLoop (.DictComp kx vx [⟨target, iter, [], 0⟩] scope pos) 0 (.ref s₁.heap.objs.size) (.ref H1.objs.size) (compEnvC scope cl H2.objs.size env))
      (compPost (model prog w) A E none Q (.ref H1.objs.size) H2.objs.size) { s₁ with heap := h₁, toks := s₁.toks + ([] : List (Str × Value)).length } := by
    refine codeAny_of_tree ?_
    show wpAny _ A ((compTurn (.DictComp kx vx [⟨target, iter, [], 0⟩] scope pos) 0 (.ref s₁.heap.objs.size) (.ref H1.objs.size) (compEnvC scope cl H2.objs.size env)).onRaise (fun x => do noteFrame x (compEnvC scope cl H2.objs.size env); theTreesLotGoes x)) _ _ _
    refine wpAny_noted ?_
    unfold compTurn
    refine wpAny_bind (wpAny_standAt (wpAny_bind ?_))
    refine wpAny_pyNext_items_end hh hiter hd₁ rfl fun h2 he2 => ?_
    refine wpAny_pure ⟨_, hns₁.at' fun o e => he2 _ o (Ne.symm nI) e, fun h'' hs'' => ?_⟩
    refine hQ _ h'' _ (Heap.get?_none_of_le (by rw [hS1]; exact Nat.le_succ _)) (hs''.extBut _ _ nD (he2 _ _ (Ne.symm nID) hacc)) fun b o e => ?_
    have hb := below b (Heap.lt_size e)
    exact hs''.extBut b o hb.1 (he2 b o hb.2 (old b o e))
  exact codeAny_compStart_dict loop (kcp_self hiter loop)

def D0Src (prog : Program) (w : World) (Q : Value → Shared → Prop) (xv : Value) (s₁ : Shared) : Prop :=
  ∃ (v d : Addr) (od : Obj), xv = .ref v ∧ (∃ ov, s₁.heap.get? v = some ov ∧ ov.cls = .type "dict_items" ∧ ov.data = .fields #[.ref d]) ∧ s₁.heap.get? d = some od ∧ od.IsDictOf (PySem.strKind prog w) [] ∧
    (∀ (D : Addr) (h' : Heap) (tk : Nat), s₁.heap.get? D = none → h'.get? D = some { cls := .type "dict", data := .dict #[] } → Stays s₁.heap h' → Q (.ref D) { s₁ with heap := h', toks := tk })
theorem D0Src.intro {prog : Program} {w : World} {h₀ : Heap} {L : Addr} {m : Str → Option Value} {news : Led} {v d : Addr} {od : Obj} {Q : Value → Shared → Prop} {s₁ : Shared} (F : Fr h₀ L s₁.heap m) (N : News h₀ L s₁.heap news)
    (hv : ∃ ov, s₁.heap.get? v = some ov ∧ ov.cls = .type "dict_items" ∧ ov.data = .fields #[.ref d]) (hm : (d, od) ∈ news) (hd : od.IsDictOf (PySem.strKind prog w) [])
    (k : ∀ (D : Addr) (h' : Heap) (tk : Nat), Fr h₀ L h' m → News h₀ L h' ((D, dictOf [] 0) :: news) → Q (.ref D) { s₁ with heap := h', toks := tk }) : D0Src prog w Q (.ref v) s₁ :=
  ⟨v, d, od, rfl, hv, (N _ hm).1, hd, fun D h' tk hD e st => k D h' tk (F.keeps st) (NewsCons F N hD st e)⟩
theorem dcomp1 {prog : Program} {w : World} {A : Around} {E : Value → Shared → Prop} {s : Shared} {env : Env} {kx vx iter target : Expr} {scope : Scope} {cl : List (Str × Addr)} {pos : Pos} {Q : Value → Shared → Prop}
    (hh : A.handled = none) (hclos : closureFor scope env = pure cl) (hcell : ∀ z ∈ scope.names, z.2 ≠ .cell) (hkind : scope.kind = .function)
    (hnames : ∀ z ∈ scope.names, z.2 = .local → scope.names.lookup z.1 = some .local) (hs : ∀ x, foldedSetIterable iter env x = pure x)
    (h : wpAny (model prog w) A (eval iter env) (D0Src prog w Q) E s) :
    wpAny (model prog w) A (eval (.DictComp kx vx [⟨target, iter, [], 0⟩] scope pos) env) Q E s := by
  refine dcomp0 hh hclos hcell hkind hnames (wpAny_mono h (fun xv s₁ h₁ => ?_) fun _ _ e => e) hs
  obtain ⟨v, d, od, rfl, hv, hm, hd, k⟩ := h₁
  obtain ⟨ep, hat⟩ := KdkAt.of hd
  exact ⟨v, d, ep, rfl, hv, hat.dictAt hm, k⟩

local macro_rules | `(tactic| walk_at "call type:bool") => `(tactic| (k_here; (with_reducible show wpAny _ _ (call _ [Value.ref _]) _ _ _); k_dflt (refine bool_own ?_)))
local macro_rules | `(tactic| walk_at "ite") => `(tactic| (k_here; (with_reducible show (if ((_ : Int) != _) = true then _ else _)); first | (refine W.ite_pos (by (simp only [bne_iff_ne, ne_eq]; omega)) ?_) | (refine W.ite_neg (by (simp only [bne_iff_ne, ne_eq]; omega)) ?_)))
local macro_rules | `(tactic| walk_at "ite") => `(tactic| (k_here; (with_reducible show (if ((_ : Int) == _) = true then _ else _)); first | (refine W.ite_pos (by (simp only [beq_iff_eq]; omega)) ?_) | (refine W.ite_neg (by (simp only [beq_iff_eq]; omega)) ?_)))
local macro_rules | `(tactic| walk_at "eval DictComp") => `(tactic| (k_here; (rename Fr _ _ _ _ => lF'); (rename News _ _ _ _ => lN'); k_dflt (refine' dcomp1 ?hh ?hclos ?hcell ?hkind ?hnames ?hs ?hgo; (case hh => rfl); (case hclos => with_unfolding_all rfl); (case hcell => decide); (case hkind => rfl); (case hnames => decide); (case hs => intro _; with_unfolding_all rfl)); with_unfolding_all ((refine MethodCall_ ?_); (refine ld lF' (by rfl) ?_); (refine kdl_method (knd := PySem.strKind _ _) PySem.F.slot_dict_items PySem.F.type_dict_items lN' (by k_mem) (by k_asm) ?_); (refine callWith_method0 ?_); (refine kta_callItems (knd := PySem.strKind _ _) lF' lN' (by k_mem) (by k_asm) (by k_asm) ?_)); intro h' hv' F' N'; (k_dflt (refine' D0Src.intro F' N' hv' ?hm ?hd ?_; (case hm => k_mem); (case hd => k_asm))); clear lF' lN'; intro D' h' tk' F' N'; (try k_sweep); (try dsimp only); (try k_unmd)))
def BoolR (b : Bool) (_H _h₀ : Heap) (_L : Addr) (_h : Heap) (r : Value) : Prop := r = .bool b
set_option maxHeartbeats 2000000
theorem is_c (prog : Program) (w : World) (x dx : Addr) (n : Int) (t k1 k2 k3 v1 v2 v3 : Tok) :
    PureC prog w 340 1700 753 [.ref x, .int n t] [(x, instObj 357 dx), (dx, numD w.params n k1 k2 k3 v1 v2 v3)] (BoolR true) := by
  unfold PureC
  intro loose mean mg mb gd cn cs a ccd cl outer A₀ base h₀ L m' s Q E B F X N T hk hret
  refine wpAny_call ?_
  walk_at "MINE enter"
  k_steps
  all_goals first
    | (exfalso; omega)
    | (refine leaveP_ (by k_asm) (by k_asm) (by walk_at "MINE sub") ?_
       intro Fz Nz Sz
       refine hret _ _ _ Fz Sz ?_
       show Value.bool _ = Value.bool true
       congr 1
       first | exact beq_self_eq_true _ | (by_cases hz : n = 0 <;> simp [hz, bne]) )

def LeaveN (g : Heap) (R : Result → Shared → Prop) (v : Value) (s' : Shared) : Prop := ∃ L' m', Fr g L' s'.heap m' ∧ (Stays g s'.heap → R (.ok (.ret v)) s')
theorem leaveN_ {g : Heap} {L' : Addr} {m' : Str → Option Value} {R : Result → Shared → Prop} {v : Value} {s' : Shared} (F' : Fr g L' s'.heap m') (k : Stays g s'.heap → R (.ok (.ret v)) s') : LeaveN g R v s' := ⟨L', m', F', k⟩
theorem code_defN {prog : Program} {w : World} {A : Around} {s : Shared} {h₀ : Heap} {L : Addr} {m : Str → Option Value}
    {K : Frag} {p : Program} {loose : List Str} {mean : ExcName → Option Value} {mg mb : Str → Option Value} {R : Result → Shared → Prop} {name qual : Str} {params : Arguments} {body : List Stmt} {scope : Scope} {dV kV doc pm cdv ct oc : Value} {an od : Option Addr} {osl : Array (Option Value)} {f : Addr} {vals : Args} {binds : List (Str × Value)}
    (F : Fr h₀ L s.heap m) (X₀ : K.In h₀) (T : Top p loose mean mg mb h₀)
    (ho : K.lookup f = some ⟨oc, od, .func (fnOf name qual params body scope dV kV doc pm an cdv ct), osl⟩) (hcd : codeIn K cdv qual = true) (hroom : A.depth < recursionLimit)
    (hbind : BindsTo s (fnOf name qual params body scope dV kV doc pm an cdv ct) vals binds) (hloc : ∀ y ∈ binds, scope.names.lookup y.1 = some .local)
    (h : ∀ L' h₁, Fr s.heap L' h₁ (fun y => binds.reverse.lookup y) → K.In s.heap → Top p loose mean mg mb s.heap →
      wpAny (model prog w) (A.deeper (envOf qual scope L' f cdv)) (execs body (envOf qual scope L' f cdv))
        (fun fl s' => LeaveN s.heap R (match fl with | .ret v => v | _ => .none) s')
        (fun e s' => wpAny (model prog w) (A.deeper (envOf qual scope L' f cdv)) (leaving (envOf qual scope L' f cdv) e) (fun _ s'' => R (.error e) s'') (fun e' s'' => R (.error e') s'') s')
        { s with heap := h₁, toks := s.toks + binds.length })
    (hco : scope.isCoroutine = false) (hgen : scope.isGenerator = false) (hk : scope.kind = .function)
    (hcell : ∀ x ∈ scope.names, x.2 ≠ .cell) : codeAny (model prog w) A (.call (.ref f) vals) R s := by
  have X := X₀.keeps F.keep
  refine codeAny_call_def (fd := fnX name qual params body scope [] dV kV doc pm an cdv ct) (body := body) (binds := binds) hroom (X _ _ ho) rfl (T.nolimit.keeps F.keep) (codeRec_of X hcd) rfl hbind hcell hloc (fun h₁ hns hk₁ => ?_) hco hgen hk
  refine wpAny_mono (h s.heap.objs.size h₁ ⟨hns, hk₁, Nat.le_refl _⟩ X (T.keeps F.keep)) (fun fl s' hl => ?_) fun _ _ y => y
  obtain ⟨L₂, m₂, F₂, k⟩ := hl
  exact k F₂.keep
set_option maxHeartbeats 2000000
theorem node_bool {prog : Program} {w : World} {A : Around} {E : Value → Shared → Prop} {s : Shared} {h₀ : Heap} {L : Addr} {m : Str → Option Value} {loose : List Str} {mean : ExcName → Option Value} {mg mb : Str → Option Value} {v : Value} {n : Int} {Q : Bool → Shared → Prop}
    (F : Fr h₀ L s.heap m) (X : (Mine.hd.heap_39 w.params).In h₀) (T : Top topProg loose mean mg mb h₀) (hroom : A.depth < recursionLimit) (hv : NumH w.params s.heap v n)
    (h : ∀ h' tk, Stays s.heap h' → Q (n != 0) { s with heap := h', toks := tk }) : wpAny (model prog w) A (truthy v) Q E s := by
  obtain ⟨a, b, k1, k2, k3, v1, v2, v3, rfl, m1, m2⟩ := hv
  have I : W.InstAt s.heap a (instObj 357 b) 357 (some (numD w.params n k1 k2 k3 v1 v2 v3)) := ⟨m1, rfl, rfl, m2⟩
  refine' truthy_K F X I ?j1 ?j2 ?_
  case j1 => k_dflt k_is
  case j2 => k_dflt k_is
  refine wpAny_call ?_
  refine' code_defN F X T ?k6 ?k7 hroom ?k9 ?kB ?_ ?c2 ?c3 ?c4 ?c5
  case k6 => k_dflt k_is
  case k7 => k_dflt k_is
  case k9 => exact BindsTo.of_eq rfl
  case c5 => decide
  case kB => exact locs rfl
  case c2 => exact rfl
  case c3 => exact rfl
  case c4 => exact rfl
  intro L' h₁ F' X' T'
  have N' : News s.heap L' h₁ [] := fun p hp => nomatch hp
  have I9 : W.InstAt h₁ a (instObj 357 b) 357 (some (numD w.params n k1 k2 k3 v1 v2 v3)) := ⟨F'.keep _ _ m1, rfl, rfl, F'.keep _ _ m2⟩
  clear F X T I
  (try dsimp only)
  (try k_fold)
  k_steps
  all_goals first
    | (refine leaveN_ (by k_asm) ?_
       intro st
       exact h _ _ st)
    | (exfalso; omega)

open Classical in
noncomputable def nodeKind (P : Params) (H : Heap) : ItemKind Int where
  is := fun n v => NumH P H v n
  un := fun v => if h : ∃ n, NumH P H v n then some (Classical.choose h) else none
  ok := fun a v h => by
    have e : ∃ n, NumH P H v n := ⟨a, h⟩
    show (if h : ∃ n, NumH P H v n then some (Classical.choose h) else none) = some a
    rw [dif_pos e]
    exact congrArg some (NumH.uniq (Classical.choose_spec e) h)
theorem areOf_nodes {P : Params} {H : Heap} : ∀ {vs : List Value} {ns : List Int}, Paired (NumH P H) vs ns → AreOf (nodeKind P H) vs ns
  | _, _, .nil => .nil
  | _, _, .cons h r => .cons h (areOf_nodes r)
theorem top_grow {h₁ g : Heap} {c P : Addr} {ps ps' : Array Value} {loose : List Str} {mean : ExcName → Option Value} {mg mb : Str → Option Value} (B : Based h₁ g c P ps) (T : Top topProg loose mean mg mb g) : Top topProg loose mean mg mb (regrown g P ps') where
  g := LGe.ns_regrown B T.g
  b := LGe.ns_regrown B T.b
  nolimit := let ⟨mc, a, r⟩ := T.nolimit; ⟨mc, LGe.ns_regrown B a, r⟩
  nodigits := let ⟨mc, a, r⟩ := T.nodigits; ⟨mc, LGe.ns_regrown B a, r⟩
  fn := fun d hd => absurd (show d ∈ ([] : List DefRec) from hd) List.not_mem_nil
  own := fun o ho => absurd (show o ∈ ([] : List OwnSpec) from ho) List.not_mem_nil
  const := fun x d e => by cases (show (none : Option PyData) = some d from e)
  free := T.free
  builtins := T.builtins
  tab := fun d hd => absurd (show d ∈ ([] : List DefRec) from hd) List.not_mem_nil
  bmain := by
    obtain ⟨bm, ob, M⟩ := bmod_of_top T
    have M' := M.regrown (ps' := ps') B
    exact ⟨bm, ob, M'.name, M'.ne, M'.obj, M'.cls, M'.dict, M'.data⟩
  seer := fun e => absurd (show false = true from e) Bool.false_ne_true
def But (g g' : Heap) : Prop := (∀ b o, b ≠ 237 → g.get? b = some o → g'.get? b = some o) ∧ ∃ ps', g'.get? 237 = some (tabObj ps')
theorem below_grow {A : Around} {base g g' : Heap} {outer : List Env} (B : Below A base outer g) (k : But g g') (hb : base.get? 237 = none) (h0 : g.get? 237 = some (tabObj #[])) : Below A base outer g' := by
  refine ⟨B.stack, fun b o e => k.1 b o (fun q => by rw [q, hb] at e; cases e) (B.stays b o e), Heap.FunFrames.of_keeps (fun b o e hd => ⟨o, k.1 b o (fun q => ?_) e, rfl⟩) B.frames⟩
  rw [q, h0] at e
  cases e
  exact hd _ rfl
theorem gen_nodes {prog : Program} {w : World} {A A₀ : Around} {E : Value → Shared → Prop} {s : Shared} {env : Env} {g base : Heap} {outer : List Env} {L : Addr} {m : Str → Option Value} {news led : Led} {loose : List Str} {mean : ExcName → Option Value} {mg mb : Str → Option Value}
    {iter : Expr} {x : Str} {px pe pn : Pos} {scope : Scope} {cl : List (Str × Addr)} {pos : Pos} {Q : Value → Shared → Prop} {ax : Addr} {vs : List Value} {ns : List Int} {nn : Nat}
    (F : Fr g L s.heap m) (X : (Mine.hd.heap_39 w.params).In g) (N : News g L s.heap news) (T : Top topProg loose mean mg mb g) (Bl : Below A₀ base outer g) (hP : g.get? 237 = some (tabObj #[])) (hb : base.get? 237 = none) (G : AllBare s.gens)
    (hl : (ax, listOf vs.toArray nn) ∈ news) (hp : Paired (NumL w.params led) vs ns) (hsub : ∀ p ∈ led, p ∈ news)
    (hgl : env.globals = mainGlobals) (hcode : env.code = .ref 239) (hhd : codeHdIn (Mine.hd.heap_39 w.params) 239 237 = true) (hkc : kb_classed (Mine.hd.heap_39 w.params) = true)
    (hh : A.handled = none) (hco : scope.isCoroutine = false) (hclos : closureFor scope env = pure cl) (hcell : ∀ y ∈ scope.names, y.2 ≠ .cell) (h0 : scope.names.lookup (".0" : Str) = some NameKind.local)
    (hx : scope.names.lookup x = some .local) (hd : (x == ("__debug__" : Str)) = false) (hkind : scope.kind = .function) (hroom : A.depth + 1 < recursionLimit)
    (heval : ∀ (Q' : Value → Shared → Prop), Q' (.ref ax) s → wpAny (model prog w) A (eval iter env) Q' E s)
    (hs : ∀ x, genFold iter env x = pure x)
    (k : ∀ g' a s₅ Kb, Fr g' L s₅.heap m → (Mine.hd.heap_39 w.params).In g' → News g' L s₅.heap news → Top topProg loose mean mg mb g' → Below A₀ base outer g' → But g g' → AllBare s₅.gens → s₅.os = s.os →
      GenOnD prog w A Kb a ns (fun _ => true) (fun n => PyData.bool (!(n != 0))) s₅ → L ≤ Kb → (∀ p ∈ news, p.1 ≤ Kb) → Q (.ref a) s₅) :
    wpAny (model prog w) A (eval (.GeneratorExp (.UnaryOp .Not (.Name x pe) pn) [⟨.Name x px, iter, [], 0⟩] scope pos) env) Q E s := by
  have C : CodeHd g 239 237 := codeHd_of_K X hhd
  have B : Based g g 239 237 #[] := .start (C.code hP trivial) (C.tab hP) (by decide)
  obtain ⟨bm, ob, M⟩ := bmod_of_top T
  rw [← hgl] at M
  have hv : Paired (NumH w.params s.heap) vs ns := Paired.imp (fun _ _ x => NumL.heap x (News.sub N hsub)) hp
  refine GeneratorExp_DF (L := L) (m := m) (K := nodeKind w.params s.heap) (pz := fun _ => true) (d := fun n => PyData.bool (!(n != 0))) B M hcode rfl hh hco hclos hcell h0 hx hkind (Nat.lt_of_succ_lt hroom) (heval _ ?_) hs
  refine ⟨ax, vs, ns, s.heap.objs.size - 1, rfl, ⟨_, (N _ hl).1, rfl, _, rfl⟩, areOf_nodes hv, F, G, T.nolimit.keeps F.keep, Fr.kb1 F, Fr.kb2 F, ?_, ?_, ?_⟩
  · intro c' C' A' E' a v u m₂ hA hD hU hm hK F₂ hmx hLC hk
    rw [List.forIn_nil]
    exact wpAny_pure ⟨rfl, _, _, rfl, fun _ _ e => e⟩
  · intro c' C' A' E' a v u m₂ hA hD hU hm hK _ F₂ hmx hLC hk
    have hvu : NumH w.params u.heap v a := by
      obtain ⟨xa, dx, k1, k2, k3, v1, v2, v3, rfl, m1, m2⟩ := hK
      exact ⟨xa, dx, k1, k2, k3, v1, v2, v3, rfl, hk _ _ (fun q => by have := F.keep _ _ hP; rw [q, this] at m1; cases m1) m1, hk _ _ (fun q => by have := F.keep _ _ hP; rw [q, this] at m2; cases m2) m2⟩
    refine wpAny_UnaryOp (wpAny_Name (wpAny_loadName_local (env := genEnv scope cl C' (.ref c') builtinsNs env) (by show scope.kind = _; exact hkind) hx F₂.ns hmx ?_) hd)
    refine not_of (node_bool F₂ (kb_in_regrown B X T.g hkc) (top_grow B T) (Nat.lt_of_le_of_lt hD hroom) hvu fun h' tk st => ⟨.bool _, h', tk, rfl, st⟩)
  · intro c' a s₅ B₅ F₅ G₅ hos hk hg
    have hself : (regrown g 237 (#[] ++ #[rawInt pos.line, rawInt pos.col, .ref c'])).get? 237 = some (tabObj (#[] ++ #[rawInt pos.line, rawInt pos.col, .ref c'])) := Heap.get?_update_self _ hP rfl
    have hoth : ∀ b, b ≠ 237 → (regrown g 237 (#[] ++ #[rawInt pos.line, rawInt pos.col, .ref c'])).get? b = g.get? b := fun b hb => Heap.get?_update_other _ _ (Ne.symm hb)
    have hbut : But g (regrown g 237 (#[] ++ #[rawInt pos.line, rawInt pos.col, .ref c'])) := ⟨fun b o hb e => (hoth b hb).trans e, _, hself⟩
    refine k _ a s₅ (s.heap.objs.size - 1) F₅ (kb_in_regrown B X T.g hkc) (fun p hp => ?_) (top_grow B T) (below_grow Bl hbut hb hP) hbut G₅ hos hg (Fr.kb1 F) fun p hp => Nat.le_sub_one_of_lt (Heap.lt_size (N p hp).1)
    have hne : p.1 ≠ 237 := fun q => by have := (N p hp).2.2; rw [q, hP] at this; cases this
    exact ⟨hk _ _ hne (N p hp).1, (N p hp).2.1, (hoth _ hne).trans (N p hp).2.2⟩

theorem newsUpTo {g h h' : Heap} {L Kb : Addr} {news : Led} (N : News g L h news) (le : ∀ p ∈ news, p.1 ≤ Kb) (k : ∀ b o, b ≤ Kb → h.get? b = some o → h'.get? b = some o) : News g L h' news := fun p hp => ⟨k _ _ (le p hp) (N p hp).1, (N p hp).2⟩
theorem node_test2 {prog : Program} {w : World} {A : Around} {E : Value → Shared → Prop} {s : Shared} {env : Env} {scope : Scope} {cl : List (Str × Addr)} {C : Addr} {m : Str → Option Value} {x : Str} {p1 p2 p3 p4 p5 : Pos} {v : Value} {n : Int}
    (hk : scope.kind = .function) (hx : scope.names.lookup x = some .local) (hn : s.heap.Ns C m) (hm : m x = some v) (hd : (x == ("__debug__" : Str)) = false) (X : (Mine.hd.heap_39 w.params).In s.heap) (hv : NumH w.params s.heap v n) :
    wpAny (model prog w) A (forIn [Expr.Compare (.Attribute (.Name x p1) (Str.ofString "min") p2) [.NotEq] [.Attribute (.Name x p3) (Str.ofString "max") p4] p5] true fun c r => if r = true then do let ok ← isTrue c (compEnvC scope cl C env) (eval c (compEnvC scope cl C env)); pure (ForInStep.yield ok) else pure (ForInStep.yield r))
      (fun ok s₃ => ok = false ∧ Keeps s s₃) E s := by
  rw [List.forIn_cons]
  refine wpAny_bind ?_
  simp only [if_true]
  refine wpAny_bind (wpAny_isTrue_Compare1 (Attribute_Name_ (comp_name hk hx hn hm hd (node_min X hv fun t => Attribute_Name_ (comp_name hk hx (s := { s with toks := s.toks + 1 }) hn hm hd (node_max (s := { s with toks := s.toks + 1 }) X hv fun t' => ne_int (wpAny_truthy_bool ?_)))))))
  rw [bne_self_eq_false]
  refine wpAny_pure ?_
  dsimp only
  rw [List.forIn_nil]
  exact wpAny_pure ⟨rfl, _, _, rfl, fun _ _ e => e⟩
/-- [x for x in nodes if x.min != x.max]: none is left -/
theorem assign_none {prog : Program} {w : World} {A : Around} {E : Value → Shared → Prop} {s : Shared} {env : Env} {iter : Expr} {x y : Str} {px py pe p1 p2 p3 p4 p5 : Pos} {scope : Scope} {cl : List (Str × Addr)} {pos spos : Pos} {Q : Flow → Shared → Prop} {ax : Addr} {vs : List Value} {ns : List Int} {nn : Nat} {h₀ : Heap} {L : Addr} {m : Str → Option Value} {news led : Led}
    (hL : env.locals = L) (F : Fr h₀ L s.heap m) (X : (Mine.hd.heap_39 w.params).In h₀) (N : News h₀ L s.heap news) (hl : (ax, listOf vs.toArray nn) ∈ news) (hp : Paired (NumL w.params led) vs ns) (hsub : ∀ p ∈ led, p ∈ news) (hlen : vs.length ≤ 1000)
    (hsw : swapsWith (.ListComp (.Name x pe) [⟨.Name x px, iter, [Expr.Compare (.Attribute (.Name x p1) (Str.ofString "min") p2) [.NotEq] [.Attribute (.Name x p3) (Str.ofString "max") p4] p5], 0⟩] scope pos) (some (.Name y py)) spos.line env = pure true)
    (hh : A.handled = none) (hclos : closureFor scope env = pure cl) (hcell : ∀ z ∈ scope.names, z.2 ≠ .cell) (hkind : scope.kind = .function)
    (hnames : ∀ z ∈ scope.names, z.2 = .local → scope.names.lookup z.1 = some .local) (hx : scope.names.lookup x = some .local) (hd : (x == ("__debug__" : Str)) = false)
    (hy : env.kindOf y = some .local) (hpp : (env.scope.kind == .class || (env.scope.kind == .module && env.locals != env.globals)) = false)
    (hs : ∀ x, foldedSetIterable iter env x = pure x)
    (heval : ∀ (Q' : Value → Shared → Prop), Q' (.ref ax) s → wpAny (model prog w) A (eval iter env) Q' E s)
    (k : ∀ D nn' h' tk, Fr h₀ L h' (fun z => if z = y then some (.ref D) else m z) → News h₀ L h' ((D, listOf #[] nn') :: news) → NeAll D news → Q .next { s with heap := h', toks := tk }) :
    wpAny (model prog w) A (exec (.Assign [.Name y py] (.ListComp (.Name x pe) [⟨.Name x px, iter, [Expr.Compare (.Attribute (.Name x p1) (Str.ofString "min") p2) [.NotEq] [.Attribute (.Name x p3) (Str.ofString "max") p4] p5], 0⟩] scope pos) spos) env) Q E s := by
  subst hL
  have hv : Paired (NumH w.params s.heap) vs ns := Paired.imp (fun _ _ x => NumL.heap x (News.sub N hsub)) hp
  have XS := X.keeps F.keep
  refine assign_comp (fun _ => false) (fun v y => y = v) hsw hh hclos hcell hkind hnames hx hy hpp (heval _ ?_) hs
  refine ⟨ax, vs, m, rfl, ⟨_, (N _ hl).1, rfl, _, rfl⟩, Nat.le_trans hlen (by decide), F.ns, ?_, ?_, fun D ys nn h' tk hD e hF hn' st => ?_⟩
  · intro C v s₂ m₂ E' hm hn hmx st
    obtain ⟨n, _, hvn⟩ := Paired.memL hv v hm
    exact node_test2 hkind hx hn hmx hd (XS.keeps st) (hvn.up st)
  · intro C v s₂ m₂ E' hm hp' hn hmx st
    cases hp'
  · have e0 : vs.filter (fun _ => false) = [] := by simp
    rw [e0] at hF
    cases hF
    have nL : D ≠ env.locals := by
      rintro rfl
      obtain ⟨oL, _, _, hL, _⟩ := F.ns
      rw [hL] at hD
      cases hD
    refine k D nn h' tk ⟨hn', fun b o q => st b o (Nat.ne_of_lt (Nat.lt_of_lt_of_le (Heap.lt_size q) F.above)) (F.keep b o q), F.above⟩ (fun p hp => ?_) (neAll_of (neNew N hD))
    rcases List.mem_cons.mp hp with rfl | hp
    · refine ⟨e, nL, ?_⟩
      cases q : h₀.get? D with
      | none => rfl
      | some o' => rw [F.keep _ _ q] at hD; cases hD
    · exact ⟨st _ _ (N p hp).2.1 (N p hp).1, (N p hp).2⟩

abbrev StaysBut (h h' : Heap) : Prop := ∀ b o, b ≠ 237 → h.get? b = some o → h'.get? b = some o
def LeaveA (H h₀ : Heap) (L : Addr) (m : Str → Option Value) (g : Heap) (args : Led) (R : Result → Shared → Prop) (v : Value) (s' : Shared) : Prop :=
  ∃ g' L' m' news', Fr g' L' s'.heap m' ∧ News g' L' s'.heap news' ∧ (∀ p ∈ args, p ∈ news') ∧ But g g' ∧
    (Fr h₀ L s'.heap m → News h₀ L s'.heap news' → StaysBut H s'.heap → (∃ ps', s'.heap.get? 237 = some (tabObj ps')) → R (.ok (.ret v)) s')
theorem leaveA_ {H h₀ g g' : Heap} {L L' : Addr} {m m' : Str → Option Value} {args news' : Led} {R : Result → Shared → Prop} {v : Value} {s' : Shared} (F' : Fr g' L' s'.heap m') (N' : News g' L' s'.heap news') (hs : ∀ p ∈ args, p ∈ news') (hb : But g g')
    (k : Fr h₀ L s'.heap m → News h₀ L s'.heap news' → StaysBut H s'.heap → (∃ ps', s'.heap.get? 237 = some (tabObj ps')) → R (.ok (.ret v)) s') : LeaveA H h₀ L m g args R v s' := ⟨g', L', m', news', F', N', hs, hb, k⟩

theorem code_defA {prog : Program} {w : World} {A₀ A : Around} {s : Shared} {base h₀ : Heap} {outer : List Env} {L : Addr} {m : Str → Option Value} {env : Env} {args : Led}
    {K : Frag} {p : Program} {loose : List Str} {mean : ExcName → Option Value} {mg mb : Str → Option Value} {R : Result → Shared → Prop} {name qual : Str} {params : Arguments} {body : List Stmt} {scope : Scope} {dV kV doc pm cdv ct oc : Value} {an od : Option Addr} {osl : Array (Option Value)} {f : Addr} {vals : Args} {binds : List (Str × Value)}
    (B : Below A₀ base outer h₀) (F : Fr h₀ L s.heap m) (X₀ : K.In h₀) (N : News h₀ L s.heap args) (NP : News h₀ L s.heap [(237, tabObj #[])]) (hne : ∀ p ∈ args, p.1 ≠ 237) (T : Top p loose mean mg mb h₀) (hA : A.frames = some (env :: outer)) (hf : env.frame = some L) (hke : env.scope.kind = .function)
    (ho : K.lookup f = some ⟨oc, od, .func (fnOf name qual params body scope dV kV doc pm an cdv ct), osl⟩) (hcd : codeIn K cdv qual = true) (hroom : A.depth < recursionLimit)
    (hbind : BindsTo s (fnOf name qual params body scope dV kV doc pm an cdv ct) vals binds) (hloc : ∀ y ∈ binds, scope.names.lookup y.1 = some .local)
    (h : ∀ g L' h₁, Fr h₀ L g m → Fr g L' h₁ (fun y => binds.reverse.lookup y) → News g L' h₁ args → Below A base (env :: outer) g → K.In g → Top p loose mean mg mb g → g.get? 237 = some (tabObj #[]) → base.get? 237 = none → But g g →
      wpAny (model prog w) (A.deeper (envOf qual scope L' f cdv)) (execs body (envOf qual scope L' f cdv))
        (fun fl s' => LeaveA s.heap h₀ L m g args R (match fl with | .ret v => v | _ => .none) s')
        (fun e s' => wpAny (model prog w) (A.deeper (envOf qual scope L' f cdv)) (leaving (envOf qual scope L' f cdv) e) (fun _ s'' => R (.error e) s'') (fun e' s'' => R (.error e') s'') s')
        { s with heap := h₁, toks := s.toks + binds.length })
    (hco : scope.isCoroutine = false) (hgen : scope.isGenerator = false) (hk : scope.kind = .function)
    (hcell : ∀ x ∈ scope.names, x.2 ≠ .cell) : codeAny (model prog w) A (.call (.ref f) vals) R s := by
  obtain ⟨FG, BG, st, _⟩ := groundX (R := R) B F N hA hf hke
  have hP := NP _ (.head _)
  have ha : (237 : Addr) ∉ args.map (·.1) := fun q => by
    obtain ⟨p, hp, e⟩ := List.mem_map.mp q
    exact hne p hp e
  have hPg : (hideAll s.heap (args.map (·.1))).get? 237 = some (tabObj #[]) := hideAll_get _ hP.1 ha
  have hbase : base.get? 237 = none := by
    cases q : base.get? 237 with
    | none => rfl
    | some o => have := B.stays _ _ q; rw [hP.2.2] at this; cases this
  refine codeAny_call_def (fd := fnX name qual params body scope [] dV kV doc pm an cdv ct) (body := body) (binds := binds) hroom ((X₀.keeps F.keep) _ _ ho) rfl (T.nolimit.keeps F.keep) (codeRec_of (X₀.keeps F.keep) hcd) rfl hbind hcell hloc (fun h₁ hns hk₁ => ?_) hco hgen hk
  refine wpAny_mono (h _ s.heap.objs.size h₁ FG ⟨hns, fun b o e => hk₁ b o (of_hideAll _ e), Nat.le_of_eq (hideAll_size _ _)⟩
    (fun p hp => ⟨hk₁ _ _ (N p hp).1, Nat.ne_of_lt (Heap.lt_size (N p hp).1), hideAll_none _ (List.mem_map_of_mem hp)⟩) BG (X₀.keeps st) (T.keeps st) hPg hbase ⟨fun _ _ _ e => e, _, hPg⟩) (fun fl s' hl => ?_) fun _ _ y => y
  obtain ⟨g', L', m', news', F', N', hs, but, k⟩ := hl
  have hLP : L ≠ 237 := fun q => hP.2.1 q.symm
  have up : StaysBut s.heap s'.heap := fun b o hb e => by
    by_cases hm : b ∈ args.map (·.1)
    · obtain ⟨p, hp, rfl⟩ := List.mem_map.mp hm
      have h1 := (N p hp).1
      rw [e] at h1
      cases h1
      exact (N' p (hs p hp)).1
    · exact F'.keep _ _ (but.1 b o hb (hideAll_get _ e hm))
  obtain ⟨oL, es, ep, hL, hLd, hLk, hLf⟩ := F.ns
  have h0P : ∀ b o, h₀.get? b = some o → b ≠ 237 := fun b o e q => by rw [q, hP.2.2] at e; cases e
  have hLg' : g'.get? L = some oL := by
    obtain ⟨oL', _, _, hL', _⟩ := FG.ns
    have e1 := of_hideAll _ hL'
    rw [hL] at e1
    cases e1
    exact but.1 _ _ hLP hL'
  refine k ⟨⟨oL, es, ep, up L oL hLP hL, hLd, hLk, hLf⟩, fun b o e => up b o (h0P b o e) (F.keep b o e), F.above⟩ (fun p hp => ⟨(N' p hp).1, fun q => ?_, ?_⟩) up ?_
  · have := (N' p hp).2.2
    rw [q, hLg'] at this
    cases this
  · cases q : h₀.get? p.1 with
    | none => rfl
    | some o =>
      have := but.1 _ _ (h0P _ _ q) (st _ _ q)
      rw [(N' p hp).2.2] at this
      cases this
  · obtain ⟨ps', hp'⟩ := but.2
    exact ⟨ps', F'.keep _ _ hp'⟩

local macro_rules | `(tactic| walk_at "eval GeneratorExp") => `(tactic| (k_here; (rename Fr _ _ _ _ => F8); (rename News _ _ _ _ => N8); (rename Top _ _ _ _ _ _ => T8); k_dflt (refine' gen_nodes F8 ?X N8 T8 ?B ?hP ?hb ?G ?hl ?hp ?hsub ?hgl ?hcode ?hhd ?hkc ?hh ?hco ?hclos ?hcell ?h0 ?hx ?hd ?hkind ?hroom ?heval ?hs ?_; (case hp => assumption); (case hl => k_mem); (case X => k_asm); (case B => assumption); (case hP => assumption); (case hb => assumption); (case G => assumption); (case hsub => walk_at "MINE subled"); (case hgl => rfl); (case hcode => rfl); (case hhd => kernel_rfl); (case hkc => kernel_rfl); (case hh => rfl); (case hco => rfl); (case hclos => with_unfolding_all rfl); (case hcell => decide); (case h0 => with_unfolding_all rfl); (case hx => with_unfolding_all rfl); (case hd => decide); (case hkind => rfl); (case hroom => k_room); (case heval => intro Q9 h9; with_unfolding_all refine ld F8 (by rfl) ?_; exact h9); (case hs => intro _; with_unfolding_all rfl)); clear F8 N8 T8; intro g9 a9 s9 Kb9 F9 X9 N9 T9 B9 but9 G9 os9 gen9 hLK9 hle9; (try k_sweep); (try dsimp only); (try k_unmd)))
local macro_rules | `(tactic| walk_at "call builtin:any") => `(tactic| (k_here; (rename GenOnD _ _ _ _ _ _ _ _ _ => X8); (rename Fr _ _ _ _ => F8); (rename News _ _ _ _ => N8); (rename AllBare _ => G8); k_dflt (refine' any_genD F8 G8 X8 (by assumption) ?_); intro s9 F9 G9 os9 hk9; (have N9 := newsUpTo N8 (by assumption) hk9); clear F8 N8 X8 G8 hk9; (try dsimp only); (try k_unmd)))
local macro_rules | `(tactic| walk_at "exec Assign cons ListComp") => `(tactic| (k_here; (with_reducible show wpAny _ _ (exec (Stmt.Assign _ (Expr.ListComp (Expr.Name _ _) [Comprehension.mk _ _ [Expr.Compare _ _ _ _] _] _ _) _) _) _ _ _); (rename Fr _ _ _ _ => F8); (rename News _ _ _ _ => N8); k_dflt (refine' assign_none ?hL F8 ?X N8 ?hl ?hp ?hsub ?hlen ?hsw ?hh ?hclos ?hcell ?hkind ?hnames ?hx ?hd ?hy ?hpp ?hs ?heval ?_; (case hp => assumption); (case hl => k_mem); (case X => k_asm); (case hL => exact rfl); (case hsub => walk_at "MINE subled"); (case hlen => assumption); (case hsw => with_unfolding_all rfl); (case hh => rfl); (case hclos => with_unfolding_all rfl); (case hcell => decide); (case hkind => rfl); (case hnames => decide); (case hx => rfl); (case hd => decide); (case hy => rfl); (case hpp => rfl); (case hs => intro _; with_unfolding_all rfl); (case heval => intro Q9 h9; with_unfolding_all refine ld F8 (by rfl) ?_; exact h9)); clear F8 N8; intro D9 nn9 h9 tk9 F9 N9 l9; (try simp only [NeAll, and_true] at l9); (try k_sweep); (try dsimp only); (try k_unmd)))
def andsV (ns : List Int) : Int := if ns.any (fun n => !(n != 0)) then 0 else 1
theorem andsV1 {P : Params} {led : Led} {vs : List Value} {ns : List Int} (hw : Paired (NumL P led) vs ns) (he : vs.isEmpty = true) : 1 = andsV ns := by
  have e : vs = [] := by simpa using he
  subst e
  cases hw
  rfl
theorem andsV2 {ns : List Int} {n : Int} (h01 : ∀ n ∈ ns, n = 0 ∨ n = 1) (e : ns = [n]) : n = andsV ns := by
  subst e
  rcases h01 n (.head _) with rfl | rfl <;> rfl
theorem andsV3 {ns : List Int} (h : (ns.filter fun _ => true).any (fun n => !(n != 0)) = true) : 0 = andsV ns := by
  rw [List.filter_eq_self.mpr fun _ _ => rfl] at h
  unfold andsV
  rw [h]; rfl
theorem andsV4 {ns : List Int} (h : (ns.filter fun _ => true).any (fun n => !(n != 0)) = false) : 1 = andsV ns := by
  rw [List.filter_eq_self.mpr fun _ _ => rfl] at h
  unfold andsV
  rw [h]; rfl
set_option maxHeartbeats 4000000
theorem ands_c0 {prog : Program} {w : World} (l : Addr) (vs : List Value) (ns : List Int) (nn : Nat) (led : Led) (hN : Paired (NumL w.params led) vs ns) (hlen : vs.length ≤ 1000) (h01 : ∀ n ∈ ns, n = 0 ∨ n = 1)
    {loose : List Str} {mean : ExcName → Option Value} {mg mb : Str → Option Value} {gd : Option (List Code)} {cn : Str} {cs : Scope} {a : Addr} {ccd : Value} {cl : List (Str × Addr)} {outer : List Env} {A₀ : Around} {base h₀ : Heap} {L : Addr} {m : Str → Option Value} {s : Shared}
    {Q E : Value → Shared → Prop}
    (B : Below A₀ base outer h₀) (F : Fr h₀ L s.heap m) (X : (Mine.hd.heap_39 w.params).In h₀) (N : News h₀ L s.heap ((l, listOf vs.toArray nn) :: led)) (NP : News h₀ L s.heap [(237, tabObj #[])]) (hne : ∀ p ∈ (l, listOf vs.toArray nn) :: led, p.1 ≠ 237) (T : Top topProg loose mean mg mb h₀) (hk : cs.kind = .function) (G : AllBare s.gens)
    (hret : ∀ r s', Fr h₀ L s'.heap m → StaysBut s.heap s'.heap → (∃ ps', s'.heap.get? 237 = some (tabObj ps')) → AllBare s'.gens → s'.os = s.os → NumR w.params (andsV ns) s.heap h₀ L s'.heap r → Q r s') :
    wpAny (model prog w) (ktrTop 500 2500 gd cn cs L a ccd cl outer) (call (.ref 240) [.ref l]) Q E s := by
  refine wpAny_call ?_
  k_dflt (refine' code_defA B F X N NP hne T ?kA ?kF ?kK ?k6 ?k7 ?k8 ?k9 ?kB ?_ ?c2 ?c3 ?c4 ?c5)
  case kA => exact rfl
  case kF => exact rfl
  case kK => assumption
  case k6 => k_dflt k_is
  case k7 => k_dflt k_is
  case k8 => k_dflt k_room
  case k9 => exact BindsTo.of_eq rfl
  case kB => exact locs rfl
  case c5 => decide
  case c2 => exact rfl
  case c3 => exact rfl
  case c4 => exact rfl
  k_whole
  intro g' L' h' FG' F' N' B' X' T' hP' hb' but'
  clear B F X N NP T FG' hk
  (try dsimp only)
  (try k_fold)
  k_steps
  all_goals (refine leaveA_ (by k_asm) (by k_asm) (by walk_at "MINE subled") (by assumption) ?_)
  all_goals (intro Fz Nz Sz Pz)
  all_goals (refine' hret _ _ Fz Sz Pz ?GG ?os (numR_end Nz ?mm ?ee); (case mm => walk_at "MINE sub"); (case GG => assumption); (case os => first | exact rfl | assumption | exact Eq.trans (by assumption) (by assumption)); (case ee => first | exact andsV1 (by assumption) (by assumption) | exact andsV2 (by assumption) (by assumption) | exact andsV3 (by assumption) | exact andsV4 (by assumption)))

theorem use_A {M : Model} {A : Around} {D U : Nat} {α : Type} {t : Sem α} {cn : Str} {cs : Scope} {L a : Addr} {ccd : Value} {cl : List (Str × Addr)} {outer : List Env} {Q : α → Shared → Prop} {E : Value → Shared → Prop} {s : Shared}
    (z : wpAny M (ktrTop D U A.guards cn cs L a ccd cl outer) t Q E s) (hA : A.frames = some (envX cn cs L a ccd cl :: outer)) (hh : A.handled = none) (hd : A.depth ≤ D) (hu : A.units ≤ U) : wpAny M A t Q E s := by
  intro Γ p hΓ
  exact z Γ p ⟨by rw [hΓ.1, hh], Nat.le_trans hΓ.2.1 hd, fun l hl => hΓ.2.2.1 l (hA.trans hl), fun g hg => hΓ.2.2.2.1 g hg, Nat.le_trans hΓ.2.2.2.2 hu⟩

theorem ands_nil (prog : Program) (w : World) (l : Addr) (nn : Nat) : PureC prog w 500 2500 240 [.ref l] [(l, listOf #[] nn)] (NumR w.params 1) := by
  unfold PureC
  intro loose mean mg mb gd cn cs a ccd cl outer A₀ base h₀ L m s Q E B F X N T hk hret
  refine wpAny_call ?_
  walk_at "MINE enter"
  k_steps
  all_goals (refine leaveP_ (by k_asm) (by k_asm) (by walk_at "MINE sub") ?_)
  all_goals (intro Fz Nz Sz)
  all_goals (refine' hret _ _ _ Fz Sz (numR_end Nz ?m ?e); (case m => walk_at "MINE sub"); (case e => rfl))
theorem sum_nil (prog : Program) (w : World) (l : Addr) (nn : Nat) : PureC prog w 500 2500 232 [.ref l] [(l, listOf #[] nn)] (NumR w.params 0) :=
  sum_c prog w l [] [] nn [] .nil (Nat.zero_le _)

local macro_rules | `(tactic| walk_at "truthy ref") => `(tactic| (k_here; (with_reducible show wpAny _ _ (truthy (Value.ref _)) _ _ _); k_dflt (refine' kgr_truthy ?N ?hm ?hc ?hd ?hfit ?_; (case N => k_asm); (case hm => k_mem); (case hc => rfl); (case hd => rfl); (case hfit => first | omega | exact Nat.lt_of_le_of_lt (by assumption : List.length _ ≤ 1000) (by decide)))))
def LeaveT (H h₀ : Heap) (L : Addr) (m : Str → Option Value) (g : Heap) (args : Led) (R : Result → Shared → Prop) (v : Value) (s' : Shared) : Prop :=
  ∃ L' m' news', Fr g L' s'.heap m' ∧ News g L' s'.heap news' ∧ (Fr h₀ L s'.heap m → News h₀ L s'.heap news' → (∀ b o, b ∉ args.map (·.1) → H.get? b = some o → s'.heap.get? b = some o) → R (.ok (.ret v)) s')
theorem leaveT_ {H h₀ g : Heap} {L L' : Addr} {m m' : Str → Option Value} {args news' : Led} {R : Result → Shared → Prop} {v : Value} {s' : Shared} (F' : Fr g L' s'.heap m') (N' : News g L' s'.heap news')
    (k : Fr h₀ L s'.heap m → News h₀ L s'.heap news' → (∀ b o, b ∉ args.map (·.1) → H.get? b = some o → s'.heap.get? b = some o) → R (.ok (.ret v)) s') : LeaveT H h₀ L m g args R v s' := ⟨L', m', news', F', N', k⟩
theorem code_defT {prog : Program} {w : World} {A₀ A : Around} {s : Shared} {base h₀ : Heap} {outer : List Env} {L : Addr} {m : Str → Option Value} {env : Env} {args : Led} {K : Frag} {p : Program} {loose : List Str} {mean : ExcName → Option Value} {mg mb : Str → Option Value} {R : Result → Shared → Prop} {name qual : Str} {params : Arguments} {body : List Stmt} {scope : Scope} {dV kV doc pm cdv ct oc : Value} {an od : Option Addr} {osl : Array (Option Value)} {f : Addr} {vals : Args} {binds : List (Str × Value)}
    (B : Below A₀ base outer h₀) (F : Fr h₀ L s.heap m) (X₀ : K.In h₀) (N : News h₀ L s.heap args) (T : Top p loose mean mg mb h₀) (hA : A.frames = some (env :: outer)) (hf : env.frame = some L) (hke : env.scope.kind = .function)
    (ho : K.lookup f = some ⟨oc, od, .func (fnOf name qual params body scope dV kV doc pm an cdv ct), osl⟩) (hcd : codeIn K cdv qual = true) (hroom : A.depth < recursionLimit)
    (hbind : BindsTo s (fnOf name qual params body scope dV kV doc pm an cdv ct) vals binds) (hloc : ∀ y ∈ binds, scope.names.lookup y.1 = some .local)
    (h : ∀ g L' h₁, Fr h₀ L g m → Fr g L' h₁ (fun y => binds.reverse.lookup y) → News g L' h₁ args → Below A base (env :: outer) g → K.In g → Top p loose mean mg mb g →
      wpAny (model prog w) (A.deeper (envOf qual scope L' f cdv)) (execs body (envOf qual scope L' f cdv))
        (fun fl s' => LeaveT s.heap h₀ L m g args R (match fl with | .ret v => v | _ => .none) s')
        (fun e s' => wpAny (model prog w) (A.deeper (envOf qual scope L' f cdv)) (leaving (envOf qual scope L' f cdv) e) (fun _ s'' => R (.error e) s'') (fun e' s'' => R (.error e') s'') s')
        { s with heap := h₁, toks := s.toks + binds.length })
    (hco : scope.isCoroutine = false) (hgen : scope.isGenerator = false) (hk : scope.kind = .function)
    (hcell : ∀ x ∈ scope.names, x.2 ≠ .cell) : codeAny (model prog w) A (.call (.ref f) vals) R s := by
  refine code_defG B F X₀ N T hA hf hke ho hcd hroom hbind hloc (fun g L' h₁ FG F' N' B' X' T' GS => ?_) hco hgen hk hcell
  refine wpAny_mono (h g L' h₁ FG F' N' B' X' T') (fun fl s' hl => ?_) fun _ _ x => x
  obtain ⟨L₂, m₂, news₂, F₂, N₂, k⟩ := hl
  exact ⟨L₂, m₂, news₂, F₂, N₂, fun Fc Nc => k Fc Nc fun b o hb e => F₂.keep b o (GS b o e hb)⟩
theorem ints_head {vs : List Value} {ks : List Int} (h : IntsAre vs ks) (he : vs.isEmpty = false) : ∃ k t vs' ks', vs = .int k t :: vs' ∧ ks = k :: ks' ∧ IntsAre vs' ks' := by
  cases h with
  | nil => cases he
  | cons k t r => exact ⟨_, _, _, _, rfl, rfl, r⟩
theorem seq0 (y : Value) (q : List Value) : seqIndex? 0 (y :: q).toArray.size = some 0 := by
  have e : (y :: q).toArray.size = q.length + 1 := by simp
  rw [e]
  simp [seqIndex?]
theorem pop_fit {y : Value} {q : List Value} (h : (y :: q).length ≤ 24) : (y :: q).toArray.toList.length ≤ sizeLine := Nat.le_trans h (Nat.le_of_ble_eq_true rfl)

local macro_rules | `(tactic| walk_at "call builtin:list.pop") => `(tactic| (k_here; (with_reducible show wpAny _ _ (call (Value.builtin _) [Value.ref _, Value.int _ _]) _ _ _); (with_reducible rename IntsAre _ _ => hI9); (with_reducible rename List.isEmpty _ = false => hE9); (obtain ⟨k9, t9, vs9, ks9, e1, e2, hI9'⟩ := ints_head hI9 hE9); subst e1; subst e2; k_dflt (refine' kl_popAt (k := 0) (p := []) (q := vs9) (y := .int k9 t9) ?F ?N ?f ?k ?e ?U ?z ?_; (case F => k_asm); (case N => k_asm); (case U => k_upd); (case f => rfl); (case k => exact seq0 _ _); (case e => rfl); (case z => exact pop_fit (by assumption))); intro h9 F9 N9; (try dsimp only [List.nil_append] at N9)))
def Bnd (a c : Int) (vs : List Value) : Prop := ∃ ks : List Int, IntsAre vs ks ∧ vs.length ≤ 24 ∧ (∀ k ∈ ks, 0 ≤ k ∧ k < 1000000007) ∧ (0 ≤ a ∧ a < 2147483648) ∧ (0 ≤ c ∧ c < 2147483648)
theorem fm (x m : Int) (h : 1 ≤ m) : 0 ≤ x.fmod m ∧ x.fmod m < m := ⟨Int.fmod_nonneg_of_pos x (by omega), Int.fmod_lt_of_pos x (by omega)⟩
theorem fd (x m : Int) (hx : 0 ≤ x) (h : 1 ≤ m) : 0 ≤ x.fdiv m ∧ x.fdiv m ≤ x := by
  rw [Int.fdiv_eq_ediv_of_nonneg x (by omega)]
  exact ⟨Int.ediv_nonneg hx (by omega), Int.ediv_le_self _ hx⟩
theorem bnd_one {x c many : Int} {vs : List Value} {ks : List Int} (hI : IntsAre vs ks) (hlen : vs.length ≤ 24) (hkk : ∀ k ∈ ks, 0 ≤ k ∧ k < 1000000007) (hx0 : 0 ≤ x) (hx1 : x < 2147483648) (hc0 : 0 ≤ c) (hc1 : c < 2147483648) (hm : 1 ≤ many) :
    Bnd (x.fdiv many) c vs := ⟨ks, hI, hlen, hkk, ⟨(fd x many hx0 hm).1, Int.lt_of_le_of_lt (fd x many hx0 hm).2 hx1⟩, hc0, hc1⟩
set_option maxHeartbeats 4000000
theorem take_c0 {prog : Program} {w : World} (st q : Addr) (vs : List Value) (ks : List Int) (a c many : Int) (ta tc tm : Tok) (n1 n2 : Nat) (hI : IntsAre vs ks) (hlen : vs.length ≤ 24) (hkk : ∀ k ∈ ks, 0 ≤ k ∧ k < 1000000007) (ha0 : 0 ≤ a) (ha1 : a < 2147483648) (hc0 : 0 ≤ c) (hc1 : c < 2147483648) (hm0 : 1 ≤ many) (hm1 : many ≤ 41) (hsq : @Ne Nat st q)
    {loose : List Str} {mean : ExcName → Option Value} {mg mb : Str → Option Value} {gd : Option (List Code)} {cn : Str} {cs : Scope} {fa : Addr} {ccd : Value} {cl : List (Str × Addr)} {outer : List Env} {A₀ : Around} {base h₀ : Heap} {L : Addr} {m : Str → Option Value} {s : Shared}
    {Q E : Value → Shared → Prop}
    (B : Below A₀ base outer h₀) (F : Fr h₀ L s.heap m) (X : (Mine.hd.heap_39 w.params).In h₀) (N : News h₀ L s.heap [(st, listOf #[.ref q, .int a ta, .int c tc] n1), (q, listOf vs.toArray n2)]) (T : Top topProg loose mean mg mb h₀) (hk : cs.kind = .function)
    (hret : ∀ found tf a' ta' c' tc' vs' n1' n2' h' tk', Fr h₀ L h' m → News h₀ L h' [(st, listOf #[.ref q, .int a' ta', .int c' tc'] n1'), (q, listOf vs'.toArray n2')] → (∀ b o, b ≠ st → b ≠ q → s.heap.get? b = some o → h'.get? b = some o) → Bnd a' c' vs' → 0 ≤ found → found < many → Q (.int found tf) { s with heap := h', toks := tk' }) :
    wpAny (model prog w) (ktrTop 500 2500 gd cn cs L fa ccd cl outer) (call (.ref 732) [.ref st, .int many tm]) Q E s := by
  refine wpAny_call ?_
  k_dflt (refine' code_defT B F X N T ?kA ?kF ?kK ?k6 ?k7 ?k8 ?k9 ?kB ?_ ?c2 ?c3 ?c4 ?c5)
  case kA => exact rfl
  case kF => exact rfl
  case kK => assumption
  case k6 => k_dflt k_is
  case k7 => k_dflt k_is
  case k8 => k_dflt k_room
  case k9 => exact BindsTo.of_eq rfl
  case kB => exact locs rfl
  case c5 => decide
  case c2 => exact rfl
  case c3 => exact rfl
  case c4 => exact rfl
  k_whole
  intro g' L' h' FG' F' N' B' X' T'
  clear B F X N T FG' hk
  have hlen' : vs.length ≤ 1000 := by omega
  (try dsimp only)
  (try k_fold)
  k_steps
  all_goals (refine leaveT_ (by k_asm) (by k_asm) ?_)
  all_goals (intro Fz Nz Sz)
  · refine hret _ _ _ _ _ _ _ _ _ _ _ Fz Nz (fun b o h1 h2 e => Sz b o (by simp [h1, h2]) e) ?_ (fm _ _ hm0).1 (fm _ _ hm0).2
    have z := fm (c * 48271 + 11) 2147483647 (by omega)
    exact bnd_one hI hlen hkk z.1 (by omega) z.1 (by omega) hm0
  · refine hret _ _ _ _ _ _ _ _ _ _ _ Fz Nz (fun b o h1 h2 e => Sz b o (by simp [h1, h2]) e) ?_ (fm _ _ hm0).1 (fm _ _ hm0).2
    rename IntsAre (_ :: _) _ => hI9
    cases hI9 with
    | cons _ _ r =>
      have z := hkk _ (.head _)
      exact bnd_one r (Nat.le_of_succ_le hlen) (fun k hk => hkk k (.tail _ hk)) z.1 (by omega) hc0 hc1 hm0
  · refine hret _ _ _ _ _ _ _ _ _ _ _ Fz Nz (fun b o h1 h2 e => Sz b o (by simp [h1, h2]) e) ?_ (fm _ _ hm0).1 (fm _ _ hm0).2
    exact bnd_one hI hlen hkk ha0 ha1 hc0 hc1 hm0

theorem take_use {prog : Program} {w : World} {A : Around} {st q : Addr} {vs : List Value} {a c many : Int} {ta tc tm : Tok} {n1 n2 : Nat} {news : Led} {g1 : Obj → Led} {g2 : Obj → Obj → Led} {loose : List Str} {mean : ExcName → Option Value} {mg mb : Str → Option Value} {cn : Str} {cs : Scope} {fa : Addr} {ccd : Value} {cl : List (Str × Addr)} {outer : List Env} {A₀ : Around} {base h₀ : Heap} {L : Addr} {m : Str → Option Value} {s : Shared}
    {Q E : Value → Shared → Prop} (hA : A.frames = some (envX cn cs L fa ccd cl :: outer)) (hh : A.handled = none) (hd : A.depth ≤ 500) (hu : A.units ≤ 2500)
    (B : Below A₀ base outer h₀) (F : Fr h₀ L s.heap m) (X : (Mine.hd.heap_39 w.params).In h₀) (N : News h₀ L s.heap news) (T : Top topProg loose mean mg mb h₀) (hk : cs.kind = .function)
    (U1 : UpdF st (listOf #[.ref q, .int a ta, .int c tc] n1) news g1) (U2 : ∀ o, UpdF q (listOf vs.toArray n2) (g1 o) (g2 o)) (hb : Bnd a c vs) (hsq : @Ne Nat st q) (hm0 : 1 ≤ many) (hm1 : many ≤ 41)
    (ret : ∀ found tf a' ta' c' tc' vs' n1' n2' h' tk', Fr h₀ L h' m → News h₀ L h' (g2 (listOf #[.ref q, .int a' ta', .int c' tc'] n1') (listOf vs'.toArray n2')) → Bnd a' c' vs' → 0 ≤ found → found < many → Q (.int found tf) { s with heap := h', toks := tk' }) :
    wpAny (model prog w) A (call (.ref 732) [.ref st, .int many tm]) Q E s := by
  obtain ⟨pre, post, e1, e2, n3, n4⟩ := U1.split
  have mem1 : (st, listOf #[.ref q, .int a ta, .int c tc] n1) ∈ news := by rw [e1]; simp
  have mem2 : (q, listOf vs.toArray n2) ∈ news := by
    obtain ⟨pre2, post2, f1, _, _, _⟩ := (U2 (listOf #[.ref q, .int a ta, .int c tc] n1)).split
    rw [e2, ← e1] at f1
    rw [f1]; simp
  obtain ⟨ks, hI, hlen, hkk, ⟨ha0, ha1⟩, hc0, hc1⟩ := hb
  refine use_A (D := 500) (U := 2500) (take_c0 st q vs ks a c many ta tc tm n1 n2 hI hlen hkk ha0 ha1 hc0 hc1 hm0 hm1 hsq B F X (News.sub N ?_) T hk fun found tf a' ta' c' tc' vs' n1' n2' h' tk' F' N' S' hB h0 h1 => ret found tf a' ta' c' tc' vs' n1' n2' h' tk' F' ?_ hB h0 h1) hA hh hd hu
  · intro p hp
    rcases List.mem_cons.mp hp with rfl | hp
    · exact mem1
    · rcases List.mem_cons.mp hp with rfl | hp
      · exact mem2
      · cases hp
  · obtain ⟨pre2, post2, f1, f2, f3, f4⟩ := (U2 (listOf #[.ref q, .int a' ta', .int c' tc'] n1')).split
    rw [f2]
    rw [e2] at f1
    have old : ∀ p : Addr × Obj, p.1 ≠ q → p ∈ pre ++ (st, listOf #[.ref q, .int a' ta', .int c' tc'] n1') :: post → h'.get? p.1 = some p.2 ∧ p.1 ≠ L ∧ h₀.get? p.1 = none := by
      intro p hq hp
      rcases List.mem_append.mp hp with hp | hp
      · have hm : p ∈ news := by rw [e1]; exact List.mem_append_left _ hp
        exact ⟨S' _ _ (n3 p hp) hq (N p hm).1, (N p hm).2⟩
      · rcases List.mem_cons.mp hp with rfl | hp
        · exact N' _ (.head _)
        · have hm : p ∈ news := by rw [e1]; exact List.mem_append_right _ (.tail _ hp)
          exact ⟨S' _ _ (n4 p hp) hq (N p hm).1, (N p hm).2⟩
    intro p hp
    rcases List.mem_append.mp hp with hp | hp
    · exact old p (f3 p hp) (by rw [f1]; exact List.mem_append_left _ hp)
    · rcases List.mem_cons.mp hp with rfl | hp
      · exact N' _ (.tail _ (.head _))
      · exact old p (f4 p hp) (by rw [f1]; exact List.mem_append_right _ (.tail _ hp))
def PlainR (k n b : Int) (_H _h₀ : Heap) (_L : Addr) (_h : Heap) (r : Value) : Prop := match plainV k n b with | some d => ∃ t, r = .int d t | none => r = .none
section
variable {k n b : Int} {H h₀ h : Heap} {L : Addr} {t : Tok}
theorem plR_some {d : Int} (e : plainV k n b = some d) : PlainR k n b H h₀ L h (.int d t) := by
  unfold PlainR
  rw [e]
  exact ⟨t, rfl⟩
theorem plR_none (e : plainV k n b = none) : PlainR k n b H h₀ L h .none := by
  unfold PlainR
  rw [e]
theorem plRlt (h0 : 0 ≤ k) (h1 : k < 4) : PlainR k n b H h₀ L h (.int ([n + b, n - b, b - n, n * b].getD k.toNat 0) t) := by
  have e : k = 0 ∨ k = 1 ∨ k = 2 ∨ k = 3 := by omega
  rcases e with rfl | rfl | rfl | rfl <;> exact plR_some (by simp [plainV])
theorem plRcm (h0 : 8 ≤ k) (h1 : k < 12) : PlainR k n b H h₀ L h (.int ([if decide (n < b) = true then 1 else 0, if decide (n ≤ b) = true then 1 else 0, if decide (b < n) = true then 1 else 0, if decide (b ≤ n) = true then 1 else 0].getD (k - 8).toNat 0) t) := by
  have e : k = 8 ∨ k = 9 ∨ k = 10 ∨ k = 11 := by omega
  rcases e with rfl | rfl | rfl | rfl <;> exact plR_some (by simp [plainV])
theorem plR4 (e : k = 4) (h : b ≠ 0) : PlainR k n b H h₀ L h₀ (.int (n.fdiv b) t) := by subst e; exact plR_some (by simp [plainV, h])
theorem plR4n (e : k = 4) (h : b = 0) : PlainR k n b H h₀ L h₀ .none := by subst e; exact plR_none (by simp [plainV, h])
theorem plR5 (e : k = 5) (h : 0 < b) : PlainR k n b H h₀ L h₀ (.int (n.fmod b) t) := by subst e; exact plR_some (by simp [plainV, h])
theorem plR5n (e : k = 5) (h : ¬ 0 < b) : PlainR k n b H h₀ L h₀ .none := by subst e; exact plR_none (by simp [plainV, h])
theorem plR6 (e : k = 6) (h : n ≠ 0) : PlainR k n b H h₀ L h₀ (.int (b.fdiv n) t) := by subst e; exact plR_some (by simp [plainV, h])
theorem plR6n (e : k = 6) (h : n = 0) : PlainR k n b H h₀ L h₀ .none := by subst e; exact plR_none (by simp [plainV, h])
theorem plR7 (e : k = 7) (h : 0 < n) : PlainR k n b H h₀ L h₀ (.int (b.fmod n) t) := by subst e; exact plR_some (by simp [plainV, h])
theorem plR7n (e : k = 7) (h : ¬ 0 < n) : PlainR k n b H h₀ L h₀ .none := by subst e; exact plR_none (by simp [plainV, h])
theorem plR12 (e : k = 12) : PlainR k n b H h₀ L h₀ (.int (-n) t) := by subst e; exact plR_some (by simp [plainV])
theorem plR13 (e : k = 13) : PlainR k n b H h₀ L h₀ (.int (n * 8) t) := by subst e; exact plR_some (by simp [plainV])
theorem plR_any {h' : Heap} {r : Value} (z : PlainR k n b H h₀ L h₀ r) : PlainR k n b H h₀ L h' r := z
end
set_option maxHeartbeats 4000000
theorem plain_c (prog : Program) (w : World) (k n b : Int) (tk tn tb : Tok) (hk0 : 0 ≤ k) (hk1 : k < 14) (hn0 : -100000 < n) (hn1 : n < 100000) (hb0 : -9 ≤ b) (hb1 : b ≤ 9) :
    PureC prog w 500 2500 739 [.int k tk, .int n tn, .int b tb] [] (PlainR k n b) := by
  unfold PureC
  intro loose mean mg mb gd cn cs a ccd cl outer A₀ base h₀ L m s Q E B F X N T hk hret
  refine wpAny_call ?_
  walk_at "MINE enter"
  k_steps
  all_goals (refine leaveP_ (by k_asm) (by k_asm) (by walk_at "MINE sub") ?_)
  all_goals (intro Fz Nz Sz)
  all_goals (refine hret _ _ _ Fz Sz ?_)
  all_goals first | exact plRlt hk0 (by omega) | exact plRcm (by omega) (by omega) | exact plR_any (plR4 (by omega) (by omega)) | exact plR_any (plR4n (by omega) (by omega)) | exact plR_any (plR5 (by omega) (by omega)) | exact plR_any (plR5n (by omega) (by omega)) | exact plR_any (plR6 (by omega) (by omega)) | exact plR_any (plR6n (by omega) (by omega)) | exact plR_any (plR7 (by omega) (by omega)) | exact plR_any (plR7n (by omega) (by omega)) | exact plR_any (plR12 (by omega)) | exact plR_any (plR13 (by omega))

def StartR (_H h₀ : Heap) (L : Addr) (h : Heap) (r : Value) : Prop := ∃ st q vs c ta tc n1 n2, r = .ref st ∧ @Ne Nat st q ∧ News h₀ L h [(st, listOf #[.ref q, .int 0 ta, .int c tc] n1), (q, listOf vs.toArray n2)] ∧ Bnd 0 c vs
theorem start_bnd {ys : List Value} {ks : List Int} (hI : IntsAre ys (List.map (fun k' => (if k' < 0 then -k' else k').fmod 1000000007) (List.take 24 ks))) (hlen : ¬ (63 : Int) < ks.length) : Bnd 0 (7 + (ks.length : Int)) ys := by
  refine ⟨_, hI, ?_, ?_, by omega, by omega, by omega⟩
  · rw [hI.length, List.length_map, List.length_take]
    omega
  · intro k hk
    obtain ⟨k', _, rfl⟩ := List.mem_map.mp hk
    exact fm _ _ (by omega)
set_option maxHeartbeats 4000000
theorem start_c0 {prog : Program} {w : World} (l : Addr) (ws : List Value) (ks : List Int) (hI : IntsAre ws ks) (hlen : ¬ (63 : Int) < ks.length)
    {loose : List Str} {mean : ExcName → Option Value} {mg mb : Str → Option Value} {gd : Option (List Code)} {cn : Str} {cs : Scope} {fa : Addr} {ccd : Value} {cl : List (Str × Addr)} {outer : List Env} {A₀ : Around} {base h₀ : Heap} {L : Addr} {m : Str → Option Value} {s : Shared}
    {Q E : Value → Shared → Prop}
    (B : Below A₀ base outer h₀) (F : Fr h₀ L s.heap m) (X : (Mine.hd.heap_39 w.params).In h₀) (hl : h₀.IsList l ws.toArray) (T : Top topProg loose mean mg mb h₀) (hk : cs.kind = .function)
    (hret : ∀ r h' tk', Fr h₀ L h' m → Stays s.heap h' → StartR s.heap h₀ L h' r → Q r { s with heap := h', toks := tk' }) :
    wpAny (model prog w) (ktrTop 500 2500 gd cn cs L fa ccd cl outer) (call (.ref 725) [.ref l]) Q E s := by
  have N : News h₀ L s.heap [] := fun p hp => nomatch hp
  refine wpAny_call ?_
  k_dflt (refine' code_defP B F X N T ?kA ?kF ?kK ?k6 ?k7 ?k8 ?k9 ?kB ?_ ?c2 ?c3 ?c4 ?c5)
  case kA => exact rfl
  case kF => exact rfl
  case kK => assumption
  case k6 => k_dflt k_is
  case k7 => k_dflt k_is
  case k8 => k_dflt k_room
  case k9 => exact BindsTo.of_eq rfl
  case kB => exact locs rfl
  case c5 => decide
  case c2 => exact rfl
  case c3 => exact rfl
  case c4 => exact rfl
  k_whole
  intro g' L' h' FG' F' N' B' X' T'
  have hl' : g'.IsList l ws.toArray := hl.at fun o e => FG'.keep _ _ e
  clear B F X N T FG' hk hl
  (try dsimp only)
  (try k_fold)
  k_steps
  all_goals (refine leaveP_ (by k_asm) (by k_asm) (by walk_at "MINE sub") ?_)
  all_goals (intro Fz Nz Sz)
  all_goals (refine hret _ _ _ Fz Sz ⟨_, _, ys, _, _, _, _, _, rfl, ?_, News.sub Nz (List.forall_mem_cons.mpr ⟨.head _, List.forall_mem_cons.mpr ⟨.tail _ (.head _), List.forall_mem_nil _⟩⟩), start_bnd (by assumption) hlen⟩)
  exact Nat.ne_of_gt (by omega)

abbrev L8 (st q nl vl tl hl : Addr) (a c : Int) (ta tc : Tok) (n1 : Nat) (vs : List Value) (n2 : Nat) (nv vv tv hv : Array Value) (k1 k2 k3 k4 : Nat) (T : Led) : Led :=
  (st, listOf #[.ref q, .int a ta, .int c tc] n1) :: (q, listOf vs.toArray n2) :: (237, tabObj #[]) :: (368, tabObj #[]) :: (nl, listOf nv k1) :: (vl, listOf vv k2) :: (tl, listOf tv k3) :: (hl, listOf hv k4) :: T
def Off8 (st q nl vl tl hl : Addr) (b : Addr) : Prop := @Ne Nat b st ∧ @Ne Nat b q ∧ @Ne Nat b 237 ∧ @Ne Nat b 368 ∧ @Ne Nat b nl ∧ @Ne Nat b vl ∧ @Ne Nat b tl ∧ @Ne Nat b hl
/-- what one turn of the law's loop leaves -/
def LTurn (P : Params) (h₀ : Heap) (L : Addr) (m₀ : Str → Option Value) (st q nl vl tl hl : Addr) (T : Led) (value : Int) (x : Addr) (nvs vvs tvs hvs : List Value) (s₁ : Shared) (f : Flow) (s₂ : Shared) : Prop :=
  f = .next ∧ ∃ h' tk m' a' c' ta' tc' n1' vs' n2' k1' k2' k3' k4', s₂ = { s₁ with heap := h', toks := tk } ∧ Fr h₀ L h' m' ∧ Bnd a' c' vs' ∧
    (∀ z : Str, z ≠ "turn" → z ≠ "value" → z ≠ "node" → z ≠ "kind" → z ≠ "b" → z ≠ "other" → z ≠ "due" → m' z = m₀ z) ∧
    ((∃ tv', m' "value" = some (.int value tv') ∧ m' "node" = some (.ref x) ∧ News h₀ L h' (L8 st q nl vl tl hl a' c' ta' tc' n1' vs' n2' nvs.toArray vvs.toArray tvs.toArray hvs.toArray k1' k2' k3' k4' T)) ∨
     (∃ d td td2 td3 x9 dx9 j1 j2 j3 j4 j5 j6, -100000 < d ∧ d < 100000 ∧ m' "value" = some (.int d td) ∧ m' "node" = some (.ref x9) ∧
       ∃ tv hv, (tv = tvs.toArray ∧ hv = hvs.toArray ∨ tv = tvs.toArray.push (.ref x9) ∧ hv = hvs.toArray.push (.int d td3) ∧ (d = 0 ∨ d = 1)) ∧
       News h₀ L h' (L8 st q nl vl tl hl a' c' ta' tc' n1' vs' n2' (nvs.toArray.push (.ref x9)) (vvs.toArray.push (.int d td2)) tv hv k1' k2' k3' k4' ((x9, instObj 357 dx9) :: (dx9, numD P d j1 j2 j3 j4 j5 j6) :: T))))
theorem neAll_mem {b : Addr} : ∀ {l : Led}, NeAll b l → ∀ p ∈ l, @Ne Nat p.1 b
  | [], _, _, hp => nomatch hp
  | q :: r, h, p, hp => by
    rcases List.mem_cons.mp hp with rfl | hp
    · exact h.1
    · exact neAll_mem h.2 p hp
theorem IntsAre.snoc1 {vs : List Value} {ks : List Int} (h : IntsAre vs ks) (k : Int) (t : Tok) : IntsAre (vs ++ [.int k t]) (ks ++ [k]) := by
  induction h with
  | nil => exact .cons k t .nil
  | cons a b r ih => exact .cons a b ih
/-- what stands before turn i -/
def LInv (P : Params) (m₀ : Str → Option Value) (st q nl vl tl hl : Addr) (i : Nat) (m : Str → Option Value) (nx : Led) : Prop :=
  ∃ a c ta tc n1 vs n2 k1 k2 k3 k4 led value tv x ns nvs vvs bs tvs hvs, nx = L8 st q nl vl tl hl a c ta tc n1 vs n2 (List.toArray nvs) (List.toArray vvs) (List.toArray tvs) (List.toArray hvs) k1 k2 k3 k4 led ∧ Bnd a c vs ∧
    (∀ z : Str, z ≠ "turn" → z ≠ "value" → z ≠ "node" → z ≠ "kind" → z ≠ "b" → z ≠ "other" → z ≠ "due" → m z = m₀ z) ∧ m "value" = some (.int value tv) ∧ m "node" = some (.ref x) ∧
    -100000 < value ∧ value < 100000 ∧ NumL P led (.ref x) value ∧ Paired (NumL P led) nvs ns ∧ IntsAre vvs ns ∧ Paired (NumL P led) tvs bs ∧ IntsAre hvs bs ∧
    (∀ n ∈ ns, -100000 < n ∧ n < 100000) ∧ (∀ b ∈ bs, b = 0 ∨ b = 1) ∧ nvs.length ≤ i + 1 ∧ tvs.length ≤ i ∧ nvs ≠ [] ∧ (∀ p ∈ led, Off8 st q nl vl tl hl p.1)
section
variable {st q nl vl tl hl : Addr} {a c : Int} {ta tc : Tok} {n1 : Nat} {vs : List Value} {n2 : Nat} {nv vv tv hv : Array Value} {k1 k2 k3 k4 : Nat} {T U : Led}
theorem l8_mono (h : ∀ p ∈ T, p ∈ U) : ∀ p ∈ L8 st q nl vl tl hl a c ta tc n1 vs n2 nv vv tv hv k1 k2 k3 k4 T, p ∈ L8 st q nl vl tl hl a c ta tc n1 vs n2 nv vv tv hv k1 k2 k3 k4 U := by
  intro p hp
  rcases List.mem_append.mp (show p ∈ L8 st q nl vl tl hl a c ta tc n1 vs n2 nv vv tv hv k1 k2 k3 k4 [] ++ T from hp) with hp | hp
  · exact (show p ∈ L8 st q nl vl tl hl a c ta tc n1 vs n2 nv vv tv hv k1 k2 k3 k4 [] ++ U from List.mem_append_left _ hp)
  · exact (show p ∈ L8 st q nl vl tl hl a c ta tc n1 vs n2 nv vv tv hv k1 k2 k3 k4 [] ++ U from List.mem_append_right _ (h p hp))
theorem l8_tail : ∀ p ∈ T, p ∈ L8 st q nl vl tl hl a c ta tc n1 vs n2 nv vv tv hv k1 k2 k3 k4 T := fun p hp => (show p ∈ L8 st q nl vl tl hl a c ta tc n1 vs n2 nv vv tv hv k1 k2 k3 k4 [] ++ T from List.mem_append_right _ hp)
theorem l8_off {own : Led} (h8 : ∀ p ∈ own, Off8 st q nl vl tl hl p.1) (hT : ∀ p ∈ own, ∀ r ∈ T, p.1 ≠ r.1) : TbOff own (L8 st q nl vl tl hl a c ta tc n1 vs n2 nv vv tv hv k1 k2 k3 k4 T) := by
  intro p hp r hr
  obtain ⟨z1, z2, z3, z4, z5, z6, z7, z8⟩ := h8 p hp
  rcases List.mem_cons.mp hr with rfl | hr
  · exact z1
  rcases List.mem_cons.mp hr with rfl | hr
  · exact z2
  rcases List.mem_cons.mp hr with rfl | hr
  · exact z3
  rcases List.mem_cons.mp hr with rfl | hr
  · exact z4
  rcases List.mem_cons.mp hr with rfl | hr
  · exact z5
  rcases List.mem_cons.mp hr with rfl | hr
  · exact z6
  rcases List.mem_cons.mp hr with rfl | hr
  · exact z7
  rcases List.mem_cons.mp hr with rfl | hr
  · exact z8
  exact hT p hp r hr
end
theorem linv_step {P : Params} {h₀ : Heap} {L : Addr} {m₀ : Str → Option Value} {st q nl vl tl hl : Addr} {led own : Led} {value : Int} {x : Addr} {ns bs : List Int} {nvs vvs tvs hvs : List Value} {s₁ s₂ : Shared} {f : Flow} {i : Nat} {Q : Flow → Shared → Prop}
    (hv0 : -100000 < value) (hv1 : value < 100000) (hx : NumL P led (.ref x) value) (hn : Paired (NumL P led) nvs ns) (hvv : IntsAre vvs ns) (ht : Paired (NumL P led) tvs bs) (hh : IntsAre hvs bs)
    (hns : ∀ n ∈ ns, -100000 < n ∧ n < 100000) (hbs : ∀ b ∈ bs, b = 0 ∨ b = 1) (l1 : nvs.length ≤ i + 1) (l2 : tvs.length ≤ i) (hne : nvs ≠ []) (off : ∀ p ∈ led, Off8 st q nl vl tl hl p.1)
    (hok : ∀ p ∈ own, p.2.cls = .type "range_iterator") (ho8 : ∀ p ∈ own, Off8 st q nl vl tl hl p.1) (hol : ∀ p ∈ own, ∀ r ∈ led, p.1 ≠ r.1)
    (h : LTurn P h₀ L m₀ st q nl vl tl hl (led ++ own) value x nvs vvs tvs hvs s₁ f s₂) : TbPost h₀ L (LInv P m₀ st q nl vl tl hl (i + 1)) own s₁ Q f s₂ := by
  obtain ⟨rfl, h', tk, m', a', c', ta', tc', n1', vs', n2', k1', k2', k3', k4', e, F', hB, hm, hc⟩ := h
  show TbEnd h₀ L _ own s₁ s₂
  have inl : ∀ p ∈ led, p ∈ led ++ own := fun p hp => List.mem_append_left _ hp
  have inr : ∀ p ∈ own, p ∈ led ++ own := fun p hp => List.mem_append_right _ hp
  rcases hc with ⟨tv', hmv, hmn, N'⟩ | ⟨d, td, td2, td3, x9, dx9, j1, j2, j3, j4, j5, j6, d0, d1, hmv, hmn, tv, hv, hcase, N'⟩
  · exact ⟨h', tk, m', _, L8 st q nl vl tl hl a' c' ta' tc' n1' vs' n2' nvs.toArray vvs.toArray tvs.toArray hvs.toArray k1' k2' k3' k4' led, e, F', N', l8_mono inl, fun p hp => l8_tail p (inr p hp), l8_off ho8 hol,
      a', c', ta', tc', n1', vs', n2', k1', k2', k3', k4', led, value, tv', x, ns, nvs, vvs, bs, tvs, hvs, rfl, hB, hm, hmv, hmn, hv0, hv1, hx, hn, hvv, ht, hh, hns, hbs, by omega, by omega, hne, off⟩
  · have inl2 : ∀ p ∈ led, p ∈ (x9, instObj 357 dx9) :: (dx9, numD P d j1 j2 j3 j4 j5 j6) :: led := fun p hp => .tail _ (.tail _ hp)
    have inl3 : ∀ p ∈ (x9, instObj 357 dx9) :: (dx9, numD P d j1 j2 j3 j4 j5 j6) :: led, p ∈ (x9, instObj 357 dx9) :: (dx9, numD P d j1 j2 j3 j4 j5 j6) :: (led ++ own) := fun p hp => by
      rcases List.mem_cons.mp hp with rfl | hp
      · exact .head _
      · rcases List.mem_cons.mp hp with rfl | hp
        · exact .tail _ (.head _)
        · exact .tail _ (.tail _ (inl p hp))
    have hx9 : NumL P ((x9, instObj 357 dx9) :: (dx9, numD P d j1 j2 j3 j4 j5 j6) :: led) (.ref x9) d := ⟨x9, dx9, _, _, _, _, _, _, rfl, .head _, .tail _ (.head _)⟩
    have up : ∀ {vs ns}, Paired (NumL P led) vs ns → Paired (NumL P ((x9, instObj 357 dx9) :: (dx9, numD P d j1 j2 j3 j4 j5 j6) :: led)) vs ns := fun h => Paired.imp (fun _ _ z => z.sub inl2) h
    have d2 : ∀ {a b : Addr} {o o' : Obj}, h'.get? a = some o → h'.get? b = some o' → o.cls ≠ o'.cls → @Ne Nat a b := fun h1 h2 hc e => hc (by rw [e, h2] at h1; cases h1; rfl)
    have gx : h'.get? x9 = some (instObj 357 dx9) := (N' _ (l8_tail _ (.head _))).1
    have gd : h'.get? dx9 = some (numD P d j1 j2 j3 j4 j5 j6) := (N' _ (l8_tail _ (.tail _ (.head _)))).1
    have o1 : Off8 st q nl vl tl hl x9 := ⟨d2 gx (N' _ (.head _)).1 (by simp [instObj]), d2 gx (N' _ (.tail _ (.head _))).1 (by simp [instObj]), d2 gx (N' _ (.tail _ (.tail _ (.head _)))).1 (by simp [instObj]), d2 gx (N' _ (.tail _ (.tail _ (.tail _ (.head _))))).1 (by simp [instObj]), d2 gx (N' _ (.tail _ (.tail _ (.tail _ (.tail _ (.head _)))))).1 (by simp [instObj]), d2 gx (N' _ (.tail _ (.tail _ (.tail _ (.tail _ (.tail _ (.head _))))))).1 (by simp [instObj]), d2 gx (N' _ (.tail _ (.tail _ (.tail _ (.tail _ (.tail _ (.tail _ (.head _)))))))).1 (by simp [instObj]), d2 gx (N' _ (.tail _ (.tail _ (.tail _ (.tail _ (.tail _ (.tail _ (.tail _ (.head _))))))))).1 (by simp [instObj])⟩
    have hnd : (numD P d j1 j2 j3 j4 j5 j6).cls = .type "dict" := rfl
    have o2 : Off8 st q nl vl tl hl dx9 := ⟨d2 gd (N' _ (.head _)).1 (by rw [hnd]; simp), d2 gd (N' _ (.tail _ (.head _))).1 (by rw [hnd]; simp), d2 gd (N' _ (.tail _ (.tail _ (.head _)))).1 (by rw [hnd]; simp), d2 gd (N' _ (.tail _ (.tail _ (.tail _ (.head _))))).1 (by rw [hnd]; simp), d2 gd (N' _ (.tail _ (.tail _ (.tail _ (.tail _ (.head _)))))).1 (by rw [hnd]; simp), d2 gd (N' _ (.tail _ (.tail _ (.tail _ (.tail _ (.tail _ (.head _))))))).1 (by rw [hnd]; simp), d2 gd (N' _ (.tail _ (.tail _ (.tail _ (.tail _ (.tail _ (.tail _ (.head _)))))))).1 (by rw [hnd]; simp), d2 gd (N' _ (.tail _ (.tail _ (.tail _ (.tail _ (.tail _ (.tail _ (.tail _ (.head _))))))))).1 (by rw [hnd]; simp)⟩
    have gown : ∀ p ∈ own, h'.get? p.1 = some p.2 := fun p hp => (N' _ (l8_tail _ (.tail _ (.tail _ (inr p hp))))).1
    have off' : ∀ p ∈ (x9, instObj 357 dx9) :: (dx9, numD P d j1 j2 j3 j4 j5 j6) :: led, Off8 st q nl vl tl hl p.1 := fun p hp => by
      rcases List.mem_cons.mp hp with rfl | hp
      · exact o1
      · rcases List.mem_cons.mp hp with rfl | hp
        · exact o2
        · exact off p hp
    have hol' : ∀ p ∈ own, ∀ r ∈ (x9, instObj 357 dx9) :: (dx9, numD P d j1 j2 j3 j4 j5 j6) :: led, p.1 ≠ r.1 := fun p hp r hr => by
      rcases List.mem_cons.mp hr with rfl | hr
      · exact d2 (gown p hp) gx (by rw [hok p hp]; simp [instObj])
      · rcases List.mem_cons.mp hr with rfl | hr
        · exact d2 (gown p hp) gd (by rw [hok p hp, hnd]; simp)
        · exact hol p hp r hr
    have hns' : ∀ n ∈ ns ++ [d], -100000 < n ∧ n < 100000 := fun n hn => by
      rcases List.mem_append.mp hn with hn | hn
      · exact hns n hn
      · rw [List.mem_singleton.mp hn]; exact ⟨d0, d1⟩
    have ea : nvs.toArray.push (Value.ref x9) = (nvs ++ [Value.ref x9]).toArray := by simp
    have eb : vvs.toArray.push (Value.int d td2) = (vvs ++ [Value.int d td2]).toArray := by simp
    rw [ea, eb] at N'
    have own' : ∀ p ∈ own, p ∈ (x9, instObj 357 dx9) :: (dx9, numD P d j1 j2 j3 j4 j5 j6) :: (led ++ own) := fun p hp => .tail _ (.tail _ (inr p hp))
    rcases hcase with ⟨rfl, rfl⟩ | ⟨rfl, rfl, hd⟩
    · exact ⟨h', tk, m', _, _, e, F', N', l8_mono inl3, fun p hp => l8_tail p (own' p hp), l8_off ho8 hol',
        a', c', ta', tc', n1', vs', n2', k1', k2', k3', k4', _, d, td, x9, ns ++ [d], _, _, bs, tvs, hvs, rfl, hB, hm, hmv, hmn, d0, d1, hx9, Paired.snoc (up hn) hx9, IntsAre.snoc1 hvv d td2, up ht, hh, hns', hbs, by simp; omega, by omega, by simp, off'⟩
    · have ec : tvs.toArray.push (Value.ref x9) = (tvs ++ [Value.ref x9]).toArray := by simp
      have ed : hvs.toArray.push (Value.int d td3) = (hvs ++ [Value.int d td3]).toArray := by simp
      rw [ec, ed] at N'
      have hbs' : ∀ b ∈ bs ++ [d], b = 0 ∨ b = 1 := fun b hb => by
        rcases List.mem_append.mp hb with hb | hb
        · exact hbs b hb
        · rw [List.mem_singleton.mp hb]; exact hd
      exact ⟨h', tk, m', _, _, e, F', N', l8_mono inl3, fun p hp => l8_tail p (own' p hp), l8_off ho8 hol',
        a', c', ta', tc', n1', vs', n2', k1', k2', k3', k4', _, d, td, x9, ns ++ [d], _, _, bs ++ [d], _, _, rfl, hB, hm, hmv, hmn, d0, d1, hx9, Paired.snoc (up hn) hx9, IntsAre.snoc1 hvv d td2, Paired.snoc (up ht) hx9, IntsAre.snoc1 hh d td3, hns', hbs', by simp; omega, by simp; omega, by simp, off'⟩
theorem rng_loop {prog : Program} {w : World} {A : Around} {E : Value → Shared → Prop} {s : Shared} {env : Env} {h₀ : Heap} {x : Str} {body : List Stmt} {Q : Flow → Shared → Prop} {r : Addr} {a₀ b₀ : Int} {t₀ u₀ v₀ : Tok} {n : Nat} {m₀ : Str → Option Value} {news : Led} (J : Nat → (Str → Option Value) → Led → Prop)
    (hh : A.handled = none) (hr : IsRange s.heap r a₀ b₀ 1 t₀ u₀ v₀) (hsmall : Builtin.Range.small a₀ b₀ 1 = true) (hn : Builtin.Range.rangeSize a₀ b₀ 1 = (n : Int)) (F : Fr h₀ env.locals s.heap m₀) (N : News h₀ env.locals s.heap news) (hj : J 0 m₀ news)
    (turn : ∀ i k t m₁ nx h tk own, i < n → (∀ p ∈ own, p.2.cls = .type "range_iterator") → TbOff own nx → J i m₁ nx → Fr h₀ env.locals h (fun y => if y = x then some (.int k t) else m₁ y) → News h₀ env.locals h (nx ++ own) →
      wpAny (model prog w) A (execs body env) (TbPost h₀ env.locals (J (i + 1)) own { s with heap := h, toks := tk } Q) E { s with heap := h, toks := tk })
    (done : ∀ m₁ nx h tk, J n m₁ nx → Fr h₀ env.locals h m₁ → News h₀ env.locals h nx → Q .next { s with heap := h, toks := tk }) :
    wpAny (model prog w) A (pyIter (.ref r)) (fun it s₂ => LoopAtV prog w A h₀ env x body Q E it s₂) E s := by
  refine wpAny_pyIter_range hr hsmall ?_
  have W : Walks prog w A s.heap.objs.size [s.heap.objs.size] [s.heap.objs.size] n (fun i v => i < n ∧ ∃ t, v = .int (a₀ + i * 1) t)
      (fun i h => IsRangeIter h s.heap.objs.size (a₀ + (i : Nat) * 1) ((n : Int) - (i : Nat)) 1) := (Walks.range hh _ a₀ 1 n).bound
  refine ⟨_, _, _, n, _, _, m₀, news, J, rfl, W, ?_, ?_, ?_, (by show IsRangeIter _ _ _ _ _; rw [hn]; simpa using Heap.get?_push_size _ rfl), F.push _, (fun p hp => ⟨Heap.get?_push_of_some _ (N p hp).1, (N p hp).2⟩), hj, ?_, ?_⟩
  · intro hm
    exact absurd F.ns.lt ((List.mem_singleton.mp hm) ▸ Nat.lt_irrefl _)
  · intro b hb
    rw [List.mem_singleton.mp hb]
    exact next_is_new F
  · intro p hp hI
    exact absurd (Heap.lt_size (N p hp).1) ((List.mem_singleton.mp hI) ▸ Nat.lt_irrefl _)
  · rintro i v m₁ news₁ s₁ own ⟨hh', tk', rfl⟩ hin ⟨_, t, rfl⟩ hJ hoff hown hat hmem hst' F₁ N₁
    have hst'' : IsRangeIter hh' s.heap.objs.size (a₀ + ((i + 1 : Nat) : Int) * 1) ((n : Int) - ((i + 1 : Nat) : Int)) 1 := hst'
    have hk : ∀ p ∈ own, p.2.cls = .type "range_iterator" := by
      intro p hp
      have e1 := List.mem_singleton.mp (hown p hp)
      have e2 := hat p hp
      rw [e1] at e2
      have e3 : hh'.get? s.heap.objs.size = some p.2 := e2
      rw [hst''] at e3
      rw [← Option.some.inj e3]
    have hsep : TbOff own news₁ := fun p hp q hq e => hoff q hq (e ▸ hown p hp)
    have N₂ : News h₀ env.locals hh' (news₁ ++ own) := fun p hp => N₁ p ((List.mem_append.mp hp).elim (fun h => List.mem_append.mpr (.inr h)) fun h => List.mem_append.mpr (.inl h))
    refine wpAny_mono (turn i _ t m₁ news₁ hh' tk' own hin hk hsep hJ F₁ N₂) (fun f s₂ p => ?_) fun _ _ e => e
    have fin : TbEnd h₀ env.locals (J (i + 1)) own { s with heap := hh', toks := tk' } s₂ → LoopStepU h₀ env.locals [s.heap.objs.size] own (J (i + 1)) { s with heap := hh', toks := tk' } .next s₂ := by
      rintro ⟨h', tk, m', news', nx, e, F', N', hn, ho, ha, hm⟩
      refine ⟨rfl, h', tk, m', nx, e, F', fun p hp => N' p ((List.mem_append.mp hp).elim (ho p) (hn p)), fun p hp hq => ?_, hm⟩
      rw [List.mem_singleton] at hq
      exact ha _ (hmem _ (List.mem_singleton.mpr rfl) (next_is_new F) _ hst'') p hp hq.symm
    cases f with
    | ret v => exact .ret p
    | brk => exact .brk p
    | next => exact .next (fin p)
    | cont => exact .cont (fin p)
  · rintro h' tk m' news' F' N' _ hJ
    exact done m' news' h' tk hJ F' N'

theorem law_loop {prog : Program} {w : World} {A : Around} {E : Value → Shared → Prop} {s : Shared} {env : Env} {body : List Stmt} {Q : Flow → Shared → Prop} {h₀ : Heap} {m₀ : Str → Option Value} {news : Led} {st q nl vl tl hl x0 dx0 r : Addr} {hi a0 c0 v0 : Int} {t₀ u₀ w₀ ta0 tc0 tv0 tvn i1 i2 i3 i4 i5 i6 : Tok} {n n10 n20 k10 k20 k30 k40 : Nat} {vs0 : List Value}
    (hh : A.handled = none) (hr : IsRange s.heap r 0 hi 1 t₀ u₀ w₀) (hsmall : Builtin.Range.small 0 hi 1 = true) (hn : Builtin.Range.rangeSize 0 hi 1 = (n : Int)) (F : Fr h₀ env.locals s.heap m₀) (N : News h₀ env.locals s.heap news)
    (hsub : ∀ p ∈ L8 st q nl vl tl hl a0 c0 ta0 tc0 n10 vs0 n20 #[.ref x0] #[.int v0 tv0] #[] #[] k10 k20 k30 k40 [(x0, instObj 357 dx0), (dx0, numD w.params v0 i1 i2 i3 i4 i5 i6)], p ∈ news)
    (hB : Bnd a0 c0 vs0) (hv : -100000 < v0) (hv' : v0 < 100000) (ho : Off8 st q nl vl tl hl x0) (ho2 : Off8 st q nl vl tl hl dx0) (hmv : m₀ "value" = some (.int v0 tvn)) (hmn : m₀ "node" = some (.ref x0))
    (turn : ∀ (u : Str → Option Value) (k : Int) (tk' : Tok) a c ta tc n1 vs n2 value tv x dx j1 j2 j3 j4 j5 j6 nvs vvs tvs hvs k1 k2 k3 k4 T h tk, Bnd a c vs → -100000 < value → value < 100000 → Off8 st q nl vl tl hl x → Off8 st q nl vl tl hl dx →
      (∀ p ∈ T, @Ne Nat p.1 st) → (∀ p ∈ T, @Ne Nat p.1 q) → (∀ p ∈ T, @Ne Nat p.1 nl) → (∀ p ∈ T, @Ne Nat p.1 vl) → (∀ p ∈ T, @Ne Nat p.1 tl) → (∀ p ∈ T, @Ne Nat p.1 hl) → (∀ p ∈ T, p.1 ≠ 237) → (∀ p ∈ T, p.1 ≠ 368) →
      Fr h₀ env.locals h (fun z => if z = "turn" then some (.int k tk') else if z = "value" then some (.int value tv) else if z = "node" then some (.ref x) else if z = "kind" then u z else if z = "b" then u z else if z = "other" then u z else if z = "due" then u z else m₀ z) →
      News h₀ env.locals h ((x, instObj 357 dx) :: (dx, numD w.params value j1 j2 j3 j4 j5 j6) :: L8 st q nl vl tl hl a c ta tc n1 vs n2 (List.toArray nvs) (List.toArray vvs) (List.toArray tvs) (List.toArray hvs) k1 k2 k3 k4 T) →
      nvs.length ≤ n → vvs.length ≤ n → tvs.length ≤ n → hvs.length ≤ n →
      wpAny (model prog w) A (execs body env) (LTurn w.params h₀ env.locals m₀ st q nl vl tl hl T value x nvs vvs tvs hvs { s with heap := h, toks := tk }) E { s with heap := h, toks := tk })
    (done : ∀ m₁ nx h tk, LInv w.params m₀ st q nl vl tl hl n m₁ nx → Fr h₀ env.locals h m₁ → News h₀ env.locals h nx → Q .next { s with heap := h, toks := tk }) :
    wpAny (model prog w) A (pyIter (.ref r)) (fun it s₂ => LoopAtV prog w A h₀ env "turn" body Q E it s₂) E s := by
  have hx0 : NumL w.params [(x0, instObj 357 dx0), (dx0, numD w.params v0 i1 i2 i3 i4 i5 i6)] (.ref x0) v0 := ⟨x0, dx0, _, _, _, _, _, _, rfl, .head _, .tail _ (.head _)⟩
  refine rng_loop (LInv w.params m₀ st q nl vl tl hl) hh hr hsmall hn F (News.sub N hsub) ?_ ?_ done
  · refine ⟨a0, c0, ta0, tc0, n10, vs0, n20, k10, k20, k30, k40, _, v0, tvn, x0, [v0], [.ref x0], [.int v0 tv0], [], [], [], rfl, hB, fun _ _ _ _ _ _ _ _ => rfl, hmv, hmn, hv, hv', hx0, .cons hx0 .nil, .cons _ _ .nil, .nil, .nil, ?_, ?_, Nat.le_refl _, Nat.le_refl _, by simp, ?_⟩
    · intro n hn
      rw [List.mem_singleton.mp hn]
      exact ⟨hv, hv'⟩
    · intro b hb
      cases hb
    · intro p hp
      rcases List.mem_cons.mp hp with rfl | hp
      · exact ho
      · rcases List.mem_cons.mp hp with rfl | hp
        · exact ho2
        · cases hp
  · rintro i k t m₁ nx h tk own hin hok hoff ⟨a, c, ta, tc, n1, vs, n2, k1, k2, k3, k4, led, value, tv, x, ns, nvs, vvs, bs, tvs, hvs, rfl, hB', hm, hmv', hmn', z0, z1, hx, hnv, hvv, htv, hhv, hns, hbs, l1, l2, hne, off⟩ F₁ N₁
    obtain ⟨x', dx, j1, j2, j3, j4, j5, j6, e, m1, m2⟩ := id hx
    cases e
    have e : (fun y : Str => if y = "turn" then some (Value.int k t) else m₁ y) = fun z : Str => if z = "turn" then some (.int k t) else if z = "value" then some (.int value tv) else if z = "node" then some (.ref x) else if z = "kind" then m₁ z else if z = "b" then m₁ z else if z = "other" then m₁ z else if z = "due" then m₁ z else m₀ z := by
      funext z
      by_cases q1 : z = "turn"
      · simp only [q1, if_true]
      · simp only [if_neg q1]
        by_cases q2 : z = "value"
        · subst q2; simp only [if_true]; exact hmv'
        · simp only [if_neg q2]
          by_cases q3 : z = "node"
          · subst q3; simp only [if_true]; exact hmn'
          · simp only [if_neg q3]
            by_cases q4 : z = "kind"
            · simp only [if_pos q4]
            · simp only [if_neg q4]
              by_cases q5 : z = "b"
              · simp only [if_pos q5]
              · simp only [if_neg q5]
                by_cases q6 : z = "other"
                · simp only [if_pos q6]
                · simp only [if_neg q6]
                  by_cases q7 : z = "due"
                  · simp only [if_pos q7]
                  · simp only [if_neg q7]
                    exact hm z q1 q2 q3 q4 q5 q6 q7
    rw [e] at F₁
    have own8 : ∀ p ∈ own, Off8 st q nl vl tl hl p.1 := fun p hp => ⟨hoff p hp _ (.head _), hoff p hp _ (.tail _ (.head _)), hoff p hp _ (.tail _ (.tail _ (.head _))), hoff p hp _ (.tail _ (.tail _ (.tail _ (.head _)))), hoff p hp _ (.tail _ (.tail _ (.tail _ (.tail _ (.head _))))), hoff p hp _ (.tail _ (.tail _ (.tail _ (.tail _ (.tail _ (.head _)))))), hoff p hp _ (.tail _ (.tail _ (.tail _ (.tail _ (.tail _ (.tail _ (.head _))))))), hoff p hp _ (.tail _ (.tail _ (.tail _ (.tail _ (.tail _ (.tail _ (.tail _ (.head _)))))))) ⟩
    have own1 : ∀ p ∈ own, ∀ r ∈ led, p.1 ≠ r.1 := fun p hp r hr => hoff p hp r (l8_tail r hr)
    have T8 : ∀ p ∈ led ++ own, Off8 st q nl vl tl hl p.1 := fun p hp => (List.mem_append.mp hp).elim (off p) (own8 p)
    have N₂ : News h₀ env.locals h ((x, instObj 357 dx) :: (dx, numD w.params value j1 j2 j3 j4 j5 j6) :: L8 st q nl vl tl hl a c ta tc n1 vs n2 nvs.toArray vvs.toArray tvs.toArray hvs.toArray k1 k2 k3 k4 (led ++ own)) := by
      have N₃ : News h₀ env.locals h (L8 st q nl vl tl hl a c ta tc n1 vs n2 nvs.toArray vvs.toArray tvs.toArray hvs.toArray k1 k2 k3 k4 (led ++ own)) := N₁
      intro p hp
      rcases List.mem_cons.mp hp with rfl | hp
      · exact N₃ _ (l8_tail _ (List.mem_append_left _ m1))
      · rcases List.mem_cons.mp hp with rfl | hp
        · exact N₃ _ (l8_tail _ (List.mem_append_left _ m2))
        · exact N₃ _ hp
    have ln : vvs.length = nvs.length := by rw [hvv.length, hnv.length]
    have lt : hvs.length = tvs.length := by rw [hhv.length, htv.length]
    refine wpAny_mono (turn m₁ k t a c ta tc n1 vs n2 value tv x dx j1 j2 j3 j4 j5 j6 nvs vvs tvs hvs k1 k2 k3 k4 (led ++ own) h tk hB' z0 z1 (off _ m1) (off _ m2) (fun p hp => (T8 p hp).1) (fun p hp => (T8 p hp).2.1) (fun p hp => (T8 p hp).2.2.2.2.1) (fun p hp => (T8 p hp).2.2.2.2.2.1) (fun p hp => (T8 p hp).2.2.2.2.2.2.1) (fun p hp => (T8 p hp).2.2.2.2.2.2.2) (fun p hp => (T8 p hp).2.2.1) (fun p hp => (T8 p hp).2.2.2.1) F₁ N₂ (by omega) (by omega) (by omega) (by omega)) (fun f s₂ hl => ?_) fun _ _ z => z
    exact linv_step z0 z1 hx hnv hvv htv hhv hns hbs l1 l2 hne off hok own8 own1 hl
theorem kind_ne {h₀ h : Heap} {L a b : Addr} {news : Led} {o o' : Obj} (N : News h₀ L h news) (h1 : (a, o) ∈ news) (h2 : (b, o') ∈ news) (hc : o.cls ≠ o'.cls) : @Ne Nat a b := fun e => hc (by
  have g1 : h.get? a = some o := (N _ h1).1
  have g2 : h.get? b = some o' := (N _ h2).1
  rw [show a = b from e, g2] at g1
  cases g1
  rfl)
theorem plain_cases {k n b : Int} {H h₀ h : Heap} {L : Addr} {r : Value} (x : PlainR k n b H h₀ L h r) : (plainV k n b = none ∧ r = .none) ∨ ∃ d t, plainV k n b = some d ∧ r = .int d t := by
  unfold PlainR at x
  cases e : plainV k n b with
  | none => rw [e] at x; exact .inl ⟨rfl, x⟩
  | some d => rw [e] at x; obtain ⟨t, ht⟩ := x; exact .inr ⟨d, t, rfl, ht⟩
theorem boolR_eq {b : Bool} {H h₀ h : Heap} {L : Addr} {r : Value} (x : BoolR b H h₀ L h r) : r = .bool b := x

section
variable {prog : Program} {w : World} {A : Around} {E : Value → Shared → Prop} {s : Shared} {h₀ : Heap} {L : Addr} {m : Str → Option Value} {news : Led}
theorem sum_led {l : Addr} {vs : List Value} {ns : List Int} {nn : Nat} {Q : Value → Shared → Prop} (hh : A.handled = none) (F : Fr h₀ L s.heap m) (N : News h₀ L s.heap news) (hl : (l, listOf vs.toArray nn) ∈ news) (hi : IntsAre vs ns)
    (h : ∀ h' tk t', Fr h₀ L h' m → News h₀ L h' news → Q (.int ns.sum t') { s with heap := h', toks := tk }) : wpAny (model prog w) A (call (.builtin "sum") [.ref l]) Q E s :=
  sumK hh F N ⟨_, (N _ hl).1, rfl, _, rfl⟩ hi h
theorem notin_led {l : Addr} {vs : List Value} {ns : List Int} {nn : Nat} {k : Int} {t : Tok} {Q : Value → Shared → Prop} (N : News h₀ L s.heap news) (hl : (l, listOf vs.toArray nn) ∈ news) (hi : IntsAre vs ns)
    (h : Q (.bool (!(ns.any (· == k)))) s) : wpAny (model prog w) A (compareOp .NotIn (.int k t) (.ref l)) Q E s :=
  notin_list_ints ⟨_, (N _ hl).1, rfl, _, rfl⟩ hi h
end
theorem ands_int (ns : List Int) : (if (!(ns.any (· == 0))) = true then (1 : Int) else 0) = andsV ns := by
  unfold andsV
  have e : (fun n : Int => !(n != 0)) = (fun n : Int => n == 0) := by
    funext n
    by_cases h : n = 0 <;> simp [h, bne]
  rw [e]
  cases ns.any (· == 0) <;> rfl
theorem l8_get {st q nl vl tl hl : Addr} {a c : Int} {ta tc : Tok} {n1 : Nat} {vs : List Value} {n2 : Nat} {nv vv tv hv : Array Value} {k1 k2 k3 k4 : Nat} {T news : Led}
    (m1 : (st, listOf #[.ref q, .int a ta, .int c tc] n1) ∈ news) (m2 : (q, listOf vs.toArray n2) ∈ news) (m3 : (237, tabObj #[]) ∈ news) (m4 : (368, tabObj #[]) ∈ news) (m5 : (nl, listOf nv k1) ∈ news) (m6 : (vl, listOf vv k2) ∈ news) (m7 : (tl, listOf tv k3) ∈ news) (m8 : (hl, listOf hv k4) ∈ news) (mT : ∀ p ∈ T, p ∈ news) :
    ∀ p ∈ L8 st q nl vl tl hl a c ta tc n1 vs n2 nv vv tv hv k1 k2 k3 k4 T, p ∈ news := by
  intro p hp
  rcases List.mem_cons.mp hp with rfl | hp
  · exact m1
  rcases List.mem_cons.mp hp with rfl | hp
  · exact m2
  rcases List.mem_cons.mp hp with rfl | hp
  · exact m3
  rcases List.mem_cons.mp hp with rfl | hp
  · exact m4
  rcases List.mem_cons.mp hp with rfl | hp
  · exact m5
  rcases List.mem_cons.mp hp with rfl | hp
  · exact m6
  rcases List.mem_cons.mp hp with rfl | hp
  · exact m7
  rcases List.mem_cons.mp hp with rfl | hp
  · exact m8
  exact mT p hp
section
variable {P : Params} {h₀ h' : Heap} {L : Addr} {m₀ m' : Str → Option Value} {st q nl vl tl hl : Addr} {T : Led} {value : Int} {x x9 dx9 : Addr} {nvs vvs tvs hvs : List Value} {s₁ : Shared} {tk : Nat} {a' c' d : Int} {ta' tc' td td2 td3 tv' : Tok} {j1 j2 j3 j4 j5 j6 : Tok} {n1' n2' k1' k2' k3' k4' : Nat} {vs' : List Value} {news : Led}
theorem lturn0 (F : Fr h₀ L h' m') (N : News h₀ L h' news) (hs : ∀ p ∈ L8 st q nl vl tl hl a' c' ta' tc' n1' vs' n2' nvs.toArray vvs.toArray tvs.toArray hvs.toArray k1' k2' k3' k4' T, p ∈ news) (hB : Bnd a' c' vs')
    (hm : ∀ z : Str, z ≠ "turn" → z ≠ "value" → z ≠ "node" → z ≠ "kind" → z ≠ "b" → z ≠ "other" → z ≠ "due" → m' z = m₀ z) (hmv : m' "value" = some (.int value tv')) (hmn : m' "node" = some (.ref x)) :
    LTurn P h₀ L m₀ st q nl vl tl hl T value x nvs vvs tvs hvs s₁ .next { s₁ with heap := h', toks := tk } :=
  ⟨rfl, h', tk, m', a', c', ta', tc', n1', vs', n2', k1', k2', k3', k4', rfl, F, hB, hm, .inl ⟨tv', hmv, hmn, News.sub N hs⟩⟩
theorem lturn1 (F : Fr h₀ L h' m') (N : News h₀ L h' news) (hs : ∀ p ∈ L8 st q nl vl tl hl a' c' ta' tc' n1' vs' n2' (nvs.toArray.push (.ref x9)) (vvs.toArray.push (.int d td2)) tvs.toArray hvs.toArray k1' k2' k3' k4' ((x9, instObj 357 dx9) :: (dx9, numD P d j1 j2 j3 j4 j5 j6) :: T), p ∈ news) (hB : Bnd a' c' vs')
    (hm : ∀ z : Str, z ≠ "turn" → z ≠ "value" → z ≠ "node" → z ≠ "kind" → z ≠ "b" → z ≠ "other" → z ≠ "due" → m' z = m₀ z) (hmv : m' "value" = some (.int d td)) (hmn : m' "node" = some (.ref x9)) (d0 : -100000 < d) (d1 : d < 100000) :
    LTurn P h₀ L m₀ st q nl vl tl hl T value x nvs vvs tvs hvs s₁ .next { s₁ with heap := h', toks := tk } :=
  ⟨rfl, h', tk, m', a', c', ta', tc', n1', vs', n2', k1', k2', k3', k4', rfl, F, hB, hm, .inr ⟨d, td, td2, 0, x9, dx9, j1, j2, j3, j4, j5, j6, d0, d1, hmv, hmn, _, _, .inl ⟨rfl, rfl⟩, News.sub N hs⟩⟩
theorem lturn2 (F : Fr h₀ L h' m') (N : News h₀ L h' news) (hs : ∀ p ∈ L8 st q nl vl tl hl a' c' ta' tc' n1' vs' n2' (nvs.toArray.push (.ref x9)) (vvs.toArray.push (.int d td2)) (tvs.toArray.push (.ref x9)) (hvs.toArray.push (.int d td3)) k1' k2' k3' k4' ((x9, instObj 357 dx9) :: (dx9, numD P d j1 j2 j3 j4 j5 j6) :: T), p ∈ news) (hB : Bnd a' c' vs')
    (hm : ∀ z : Str, z ≠ "turn" → z ≠ "value" → z ≠ "node" → z ≠ "kind" → z ≠ "b" → z ≠ "other" → z ≠ "due" → m' z = m₀ z) (hmv : m' "value" = some (.int d td)) (hmn : m' "node" = some (.ref x9)) (d0 : -100000 < d) (d1 : d < 100000) (d01 : d = 0 ∨ d = 1) :
    LTurn P h₀ L m₀ st q nl vl tl hl T value x nvs vvs tvs hvs s₁ .next { s₁ with heap := h', toks := tk } :=
  ⟨rfl, h', tk, m', a', c', ta', tc', n1', vs', n2', k1', k2', k3', k4', rfl, F, hB, hm, .inr ⟨d, td, td2, td3, x9, dx9, j1, j2, j3, j4, j5, j6, d0, d1, hmv, hmn, _, _, .inr ⟨rfl, rfl, d01⟩, News.sub N hs⟩⟩
end
theorem plain01 {k n b d : Int} (hp : plainV k n b = some d) (h0 : 8 ≤ k) (h1 : k < 12) : d = 0 ∨ d = 1 := by
  have e : k = 8 ∨ k = 9 ∨ k = 10 ∨ k = 11 := by omega
  rcases e with rfl | rfl | rfl | rfl <;> simp [plainV] at hp <;> (subst hp; split <;> simp)
/-- what stands behind the loop -/
def LEnd (P : Params) (m₀ : Str → Option Value) (st q nl vl tl hl : Addr) (m : Str → Option Value) (nx : Led) : Prop :=
  ∃ (u : Str → Option Value) (a c : Int) (ta tc : Tok) (n1 : Nat) (vs : List Value) (n2 k1 k2 k3 k4 : Nat) (led : Led) (x dx : Addr) (n : Int) (i1 i2 i3 i4 i5 i6 t : Tok) (ns : List Int) (nvs vvs : List Value) (bs : List Int) (tvs hvs : List Value),
    m = (fun z : Str => if z = "turn" then u z else if z = "value" then u z else if z = "node" then u z else if z = "kind" then u z else if z = "b" then u z else if z = "other" then u z else if z = "due" then u z else m₀ z) ∧
    (∀ p ∈ (x, instObj 357 dx) :: (dx, numD P n i1 i2 i3 i4 i5 i6) :: L8 st q nl vl tl hl a c ta tc n1 vs n2 (List.toArray nvs) (List.toArray vvs) (List.toArray tvs) (List.toArray hvs) k1 k2 k3 k4 led, p ∈ nx) ∧
    nvs[0]? = some (.ref x) ∧ vvs[0]? = some (.int n t) ∧ Paired (NumL P led) nvs ns ∧ IntsAre vvs ns ∧ Paired (NumL P led) tvs bs ∧ IntsAre hvs bs ∧ (∀ b ∈ bs, b = 0 ∨ b = 1) ∧ nvs.length ≤ 1000 ∧ tvs.length ≤ 1000 ∧
    (∀ p ∈ led, @Ne Nat p.1 st) ∧ (∀ p ∈ led, @Ne Nat p.1 q) ∧ (∀ p ∈ led, @Ne Nat p.1 nl) ∧ (∀ p ∈ led, @Ne Nat p.1 vl) ∧ (∀ p ∈ led, @Ne Nat p.1 tl) ∧ (∀ p ∈ led, @Ne Nat p.1 hl) ∧ (∀ p ∈ led, p.1 ≠ 237) ∧ (∀ p ∈ led, p.1 ≠ 368) ∧ Off8 st q nl vl tl hl x ∧ Off8 st q nl vl tl hl dx
theorem linv_end {P : Params} {m₀ m : Str → Option Value} {st q nl vl tl hl : Addr} {i : Nat} {nx : Led} (h : LInv P m₀ st q nl vl tl hl i m nx) (hi : i ≤ 900) : LEnd P m₀ st q nl vl tl hl m nx := by
  obtain ⟨a, c, ta, tc, n1, vs, n2, k1, k2, k3, k4, led, value, tv, x, ns, nvs, vvs, bs, tvs, hvs, rfl, hB, hm, hmv, hmn, z0, z1, hx, hn, hv, ht, hh, hns, hbs, l1, l2, hne, off⟩ := h
  have hn' := hn
  have hv' := hv
  cases hn with
  | nil => exact absurd rfl hne
  | cons h1 r =>
    obtain ⟨x1, dx1, i1, i2, i3, i4, i5, i6, rfl, m1, m2⟩ := id h1
    cases hv with
    | cons n' t' r' =>
      refine ⟨m, a, c, ta, tc, n1, vs, n2, k1, k2, k3, k4, led, x1, dx1, _, i1, i2, i3, i4, i5, i6, t', _, _, _, bs, tvs, hvs, ?_, ?_, rfl, rfl, hn', hv', ht, hh, hbs, by omega, by omega, fun p hp => (off p hp).1, fun p hp => (off p hp).2.1, fun p hp => (off p hp).2.2.2.2.1, fun p hp => (off p hp).2.2.2.2.2.1, fun p hp => (off p hp).2.2.2.2.2.2.1, fun p hp => (off p hp).2.2.2.2.2.2.2, fun p hp => (off p hp).2.2.1, fun p hp => (off p hp).2.2.2.1, off _ m1, off _ m2⟩
      · funext z
        by_cases q1 : z = "turn"
        · simp only [if_pos q1]
        · by_cases q2 : z = "value"
          · simp only [if_neg q1, if_pos q2]
          · by_cases q3 : z = "node"
            · simp only [if_neg q1, if_neg q2, if_pos q3]
            · by_cases q4 : z = "kind"
              · simp only [if_neg q1, if_neg q2, if_neg q3, if_pos q4]
              · by_cases q5 : z = "b"
                · simp only [if_neg q1, if_neg q2, if_neg q3, if_neg q4, if_pos q5]
                · by_cases q6 : z = "other"
                  · simp only [if_neg q1, if_neg q2, if_neg q3, if_neg q4, if_neg q5, if_pos q6]
                  · by_cases q7 : z = "due"
                    · simp only [if_neg q1, if_neg q2, if_neg q3, if_neg q4, if_neg q5, if_neg q6, if_pos q7]
                    · simp only [if_neg q1, if_neg q2, if_neg q3, if_neg q4, if_neg q5, if_neg q6, if_neg q7]
                      exact hm z q1 q2 q3 q4 q5 q6 q7
      · intro p hp
        rcases List.mem_cons.mp hp with rfl | hp
        · exact l8_tail _ m1
        · rcases List.mem_cons.mp hp with rfl | hp
          · exact l8_tail _ m2
          · exact hp
/-- k_steps halts here -/
def Hold (p : Prop) : Prop := p
theorem law_loop2 {prog : Program} {w : World} {A : Around} {E : Value → Shared → Prop} {s : Shared} {env : Env} {body : List Stmt} {Q : Flow → Shared → Prop} {h₀ : Heap} {L : Addr} {m₀ : Str → Option Value} {news : Led} {st q nl vl tl hl x0 dx0 r : Addr} {hi a0 c0 v0 : Int} {t₀ u₀ w₀ ta0 tc0 tv0 tvn i1 i2 i3 i4 i5 i6 : Tok} {n n10 n20 k10 k20 k30 k40 : Nat} {vs0 : List Value}
    (hL : env.locals = L) (hh : A.handled = none) (hr : IsRange s.heap r 0 hi 1 t₀ u₀ w₀) (hsmall : Builtin.Range.small 0 hi 1 = true) (hn : Builtin.Range.rangeSize 0 hi 1 = (n : Int)) (F : Fr h₀ L s.heap m₀) (N : News h₀ L s.heap news)
    (e1 : m₀ "state" = some (.ref st)) (e2 : m₀ "nodes" = some (.ref nl)) (e3 : m₀ "values" = some (.ref vl)) (e4 : m₀ "truths" = some (.ref tl)) (e5 : m₀ "holds" = some (.ref hl)) (hmv : m₀ "value" = some (.int v0 tvn)) (hmn : m₀ "node" = some (.ref x0))
    (g1 : (st, listOf #[.ref q, .int a0 ta0, .int c0 tc0] n10) ∈ news) (g2 : (q, listOf vs0.toArray n20) ∈ news) (g3 : (237, tabObj #[]) ∈ news) (g4 : (368, tabObj #[]) ∈ news) (g5 : (nl, listOf #[.ref x0] k10) ∈ news) (g6 : (vl, listOf #[.int v0 tv0] k20) ∈ news) (g7 : (tl, listOf #[] k30) ∈ news) (g8 : (hl, listOf #[] k40) ∈ news) (g9 : (x0, instObj 357 dx0) ∈ news) (g10 : (dx0, numD w.params v0 i1 i2 i3 i4 i5 i6) ∈ news)
    (hB : Bnd a0 c0 vs0) (hv : -100000 < v0) (hv' : v0 < 100000) (hn9 : n ≤ 900)
    (turn : Hold (∀ (u : Str → Option Value) (k : Int) (tk' : Tok) a c ta tc n1 vs n2 value tv x dx j1 j2 j3 j4 j5 j6 nvs vvs tvs hvs k1 k2 k3 k4 T h tk, Bnd a c vs → -100000 < value → value < 100000 → Off8 st q nl vl tl hl x → Off8 st q nl vl tl hl dx →
      (∀ p ∈ T, @Ne Nat p.1 st) → (∀ p ∈ T, @Ne Nat p.1 q) → (∀ p ∈ T, @Ne Nat p.1 nl) → (∀ p ∈ T, @Ne Nat p.1 vl) → (∀ p ∈ T, @Ne Nat p.1 tl) → (∀ p ∈ T, @Ne Nat p.1 hl) → (∀ p ∈ T, p.1 ≠ 237) → (∀ p ∈ T, p.1 ≠ 368) →
      Fr h₀ L h (fun z => if z = "turn" then some (.int k tk') else if z = "value" then some (.int value tv) else if z = "node" then some (.ref x) else if z = "kind" then u z else if z = "b" then u z else if z = "other" then u z else if z = "due" then u z else m₀ z) →
      News h₀ L h ((x, instObj 357 dx) :: (dx, numD w.params value j1 j2 j3 j4 j5 j6) :: (st, listOf #[.ref q, .int a ta, .int c tc] n1) :: (q, listOf vs.toArray n2) :: (237, tabObj #[]) :: (368, tabObj #[]) :: (nl, listOf (List.toArray nvs) k1) :: (vl, listOf (List.toArray vvs) k2) :: (tl, listOf (List.toArray tvs) k3) :: (hl, listOf (List.toArray hvs) k4) :: T) →
      nvs.length ≤ 1000 → vvs.length ≤ 1000 → tvs.length ≤ 1000 → hvs.length ≤ 1000 →
      wpAny (model prog w) A (execs body env) (LTurn w.params h₀ L m₀ st q nl vl tl hl T value x nvs vvs tvs hvs { s with heap := h, toks := tk }) E { s with heap := h, toks := tk }))
    (done : Hold (∀ (u : Str → Option Value) (a c : Int) (ta tc : Tok) (n1 : Nat) (vs : List Value) (n2 k1 k2 k3 k4 : Nat) (led : Led) (x dx : Addr) (n : Int) (i1 i2 i3 i4 i5 i6 t : Tok) (ns : List Int) (nvs vvs : List Value) (bs : List Int) (tvs hvs : List Value) (h : Heap) (tk : Nat),
      Fr h₀ L h (fun z => if z = "turn" then u z else if z = "value" then u z else if z = "node" then u z else if z = "kind" then u z else if z = "b" then u z else if z = "other" then u z else if z = "due" then u z else m₀ z) →
      News h₀ L h ((x, instObj 357 dx) :: (dx, numD w.params n i1 i2 i3 i4 i5 i6) :: (st, listOf #[.ref q, .int a ta, .int c tc] n1) :: (q, listOf vs.toArray n2) :: (237, tabObj #[]) :: (368, tabObj #[]) :: (nl, listOf (List.toArray nvs) k1) :: (vl, listOf (List.toArray vvs) k2) :: (tl, listOf (List.toArray tvs) k3) :: (hl, listOf (List.toArray hvs) k4) :: led) →
      nvs[0]? = some (.ref x) → vvs[0]? = some (.int n t) → Paired (NumL w.params led) nvs ns → IntsAre vvs ns → Paired (NumL w.params led) tvs bs → IntsAre hvs bs → (∀ b ∈ bs, b = 0 ∨ b = 1) → nvs.length ≤ 1000 → tvs.length ≤ 1000 →
      (∀ p ∈ led, @Ne Nat p.1 st) → (∀ p ∈ led, @Ne Nat p.1 q) → (∀ p ∈ led, @Ne Nat p.1 nl) → (∀ p ∈ led, @Ne Nat p.1 vl) → (∀ p ∈ led, @Ne Nat p.1 tl) → (∀ p ∈ led, @Ne Nat p.1 hl) → (∀ p ∈ led, p.1 ≠ 237) → (∀ p ∈ led, p.1 ≠ 368) → Off8 st q nl vl tl hl x → Off8 st q nl vl tl hl dx → Q .next { s with heap := h, toks := tk })) :
    wpAny (model prog w) A (pyIter (.ref r)) (fun it s₂ => LoopAtV prog w A h₀ env "turn" body Q E it s₂) E s := by
  subst hL
  have c1 : ∀ {a : Addr} {d : Addr} {b : Addr} {xs : Array Value} {n : Nat}, (a, instObj 357 d) ∈ news → (b, listOf xs n) ∈ news → @Ne Nat a b := fun h1 h2 => kind_ne N h1 h2 (by simp [instObj])
  have c2 : ∀ {a : Addr} {d : Addr} {b : Addr}, (a, instObj 357 d) ∈ news → (b, tabObj #[]) ∈ news → @Ne Nat a b := fun h1 h2 => kind_ne N h1 h2 (by simp [instObj])
  have hnd : (numD w.params v0 i1 i2 i3 i4 i5 i6).cls = .type "dict" := rfl
  have c3 : ∀ {b : Addr} {xs : Array Value} {n : Nat}, (b, listOf xs n) ∈ news → @Ne Nat dx0 b := fun h2 => kind_ne N g10 h2 (by rw [hnd]; simp)
  have c4 : ∀ {b : Addr}, (b, tabObj #[]) ∈ news → @Ne Nat dx0 b := fun h2 => kind_ne N g10 h2 (by rw [hnd]; simp)
  refine law_loop (i1 := i1) (i2 := i2) (i3 := i3) (i4 := i4) (i5 := i5) (i6 := i6) hh hr hsmall hn F N (l8_get g1 g2 g3 g4 g5 g6 g7 g8 ?_) hB hv hv' ⟨c1 g9 g1, c1 g9 g2, c2 g9 g3, c2 g9 g4, c1 g9 g5, c1 g9 g6, c1 g9 g7, c1 g9 g8⟩ ⟨c3 g1, c3 g2, c4 g3, c4 g4, c3 g5, c3 g6, c3 g7, c3 g8⟩ hmv hmn (fun u k tk' a c ta tc n1 vs n2 value tv x dx j1 j2 j3 j4 j5 j6 nvs vvs tvs hvs k1 k2 k3 k4 T h tk b1 b2 b3 b4 b5 b6 b7 b8 b9 p1 p2 p3 p4 F N q1 q2 q3 q4 => turn u k tk' a c ta tc n1 vs n2 value tv x dx j1 j2 j3 j4 j5 j6 nvs vvs tvs hvs k1 k2 k3 k4 T h tk b1 b2 b3 b4 b5 b6 b7 b8 b9 p1 p2 p3 p4 F N (by omega) (by omega) (by omega) (by omega)) ?_
  · exact List.forall_mem_cons.mpr ⟨g9, List.forall_mem_cons.mpr ⟨g10, List.forall_mem_nil _⟩⟩
  · intro m₁ nx h tk I F' N'
    obtain ⟨u, a, c, ta, tc, n1, vs, n2, k1, k2, k3, k4, led, x, dx, n, i1, i2, i3, i4, i5, i6, t, ns, nvs, vvs, bs, tvs, hvs, rfl, hs, z1, z2, z3, z4, z5, z6, z7, z8, z9, y1, y2, y3, y4, y5, y6, y7, y8, y9, y10⟩ := linv_end I hn9
    exact done u a c ta tc n1 vs n2 k1 k2 k3 k4 led x dx n i1 i2 i3 i4 i5 i6 t ns nvs vvs bs tvs hvs h tk F' (News.sub N' hs) z1 z2 z3 z4 z5 z6 z7 z8 z9 y1 y2 y3 y4 y5 y6 y7 y8 y9 y10
theorem ands_use {prog : Program} {w : World} {A : Around} {l : Addr} {vs : List Value} {ns : List Int} {nn : Nat} {led news : Led} {g : Obj → Led} {loose : List Str} {mean : ExcName → Option Value} {mg mb : Str → Option Value} {cn : Str} {cs : Scope} {a : Addr} {ccd : Value} {cl : List (Str × Addr)} {outer : List Env} {A₀ : Around} {base h₀ : Heap} {L : Addr} {m : Str → Option Value} {s : Shared}
    {Q E : Value → Shared → Prop} (hA : A.frames = some (envX cn cs L a ccd cl :: outer)) (hh : A.handled = none) (hd : A.depth ≤ 500) (hu : A.units ≤ 2500)
    (B : Below A₀ base outer h₀) (F : Fr h₀ L s.heap m) (X : (Mine.hd.heap_39 w.params).In h₀) (N : News h₀ L s.heap news) (T : Top topProg loose mean mg mb h₀) (hk : cs.kind = .function) (G : AllBare s.gens)
    (U : UpdF 237 (tabObj #[]) news g) (hl : (l, listOf vs.toArray nn) ∈ news) (hN : Paired (NumL w.params led) vs ns) (hsub : ∀ p ∈ led, p ∈ news) (hlen : vs.length ≤ 1000) (h01 : ∀ n ∈ ns, n = 0 ∨ n = 1) (hne : ∀ p ∈ led, p.1 ≠ 237)
    (ret : ∀ x dx k1 k2 k3 v1 v2 v3 ps' s', Fr h₀ L s'.heap m → News h₀ L s'.heap ((x, instObj 357 dx) :: (dx, numD w.params (andsV ns) k1 k2 k3 v1 v2 v3) :: g (tabObj ps')) → AllBare s'.gens → s'.os = s.os → Q (.ref x) s') :
    wpAny (model prog w) A (call (.ref 240) [.ref l]) Q E s := by
  obtain ⟨pre, post, e1, e2, n3, n4⟩ := U.split
  have m237 : (237, tabObj #[]) ∈ news := by rw [e1]; simp
  have hl' : l ≠ 237 := by
    intro e
    have h1 := (N _ hl).1
    have h2 := (N _ m237).1
    have h1' : s.heap.get? 237 = some (listOf vs.toArray nn) := e ▸ h1
    rw [h1'] at h2
    cases h2
  refine use_A (D := 500) (U := 2500) (ands_c0 l vs ns nn led hN hlen h01 B F X (fun p hp => ?_) (fun p hp => ?_) (fun p hp => ?_) T hk G fun r s' F' st ps G' os hR => ?_) hA hh hd hu
  · rcases List.mem_cons.mp hp with rfl | hp
    · exact N _ hl
    · exact N _ (hsub _ hp)
  · rw [List.mem_singleton.mp hp]; exact N _ m237
  · rcases List.mem_cons.mp hp with rfl | hp
    · exact hl'
    · exact hne p hp
  · obtain ⟨x, dx, k1, k2, k3, v1, v2, v3, rfl, M⟩ := hR
    obtain ⟨ps', hps⟩ := ps
    refine ret x dx k1 k2 k3 v1 v2 v3 ps' s' F' (fun p hp => ?_) G' os
    rcases List.mem_cons.mp hp with rfl | hp
    · exact M _ (.head _)
    · rcases List.mem_cons.mp hp with rfl | hp
      · exact M _ (.tail _ (.head _))
      · rw [e2] at hp
        rcases List.mem_append.mp hp with hp | hp
        · have hm : p ∈ news := by rw [e1]; exact List.mem_append_left _ hp
          exact ⟨st _ _ (n3 p hp) (N p hm).1, (N p hm).2⟩
        · rcases List.mem_cons.mp hp with rfl | hp
          · exact ⟨hps, (N _ m237).2⟩
          · have hm : p ∈ news := by rw [e1]; exact List.mem_append_right _ (.tail _ hp)
            exact ⟨st _ _ (n4 p hp) (N p hm).1, (N p hm).2⟩
theorem kind_ty {h₀ h : Heap} {L a b : Addr} {news : Led} {o o' : Obj} {t t' : String} (N : News h₀ L h news) (h1 : (a, o) ∈ news) (h2 : (b, o') ∈ news) (c1 : o.cls = .type t) (c2 : o'.cls = .type t') (hc : (t == t') = false) : @Ne Nat a b :=
  kind_ne N h1 h2 (by rw [c1, c2]; intro e; cases e; simp at hc)
theorem sum_use {prog : Program} {w : World} {A : Around} {l : Addr} {vs : List Value} {ns : List Int} {nn : Nat} {led news : Led} {loose : List Str} {mean : ExcName → Option Value} {mg mb : Str → Option Value} {cn : Str} {cs : Scope} {a : Addr} {ccd : Value} {cl : List (Str × Addr)} {outer : List Env} {A₀ : Around} {base h₀ : Heap} {L : Addr} {m : Str → Option Value} {s : Shared}
    {Q E : Value → Shared → Prop} (hA : A.frames = some (envX cn cs L a ccd cl :: outer)) (hh : A.handled = none) (hd : A.depth ≤ 500) (hu : A.units ≤ 2500)
    (B : Below A₀ base outer h₀) (F : Fr h₀ L s.heap m) (X : (Mine.hd.heap_39 w.params).In h₀) (N : News h₀ L s.heap news) (T : Top topProg loose mean mg mb h₀) (hk : cs.kind = .function)
    (hl : (l, listOf vs.toArray nn) ∈ news) (hN : Paired (NumL w.params led) vs ns) (hsub : ∀ p ∈ led, p ∈ news) (hlen : vs.length ≤ 1000)
    (ret : ∀ x dx k1 k2 k3 v1 v2 v3 h' tk', Fr h₀ L h' m → News h₀ L h' ((x, instObj 357 dx) :: (dx, numD w.params ns.sum k1 k2 k3 v1 v2 v3) :: news) → Q (.ref x) { s with heap := h', toks := tk' }) :
    wpAny (model prog w) A (call (.ref 232) [.ref l]) Q E s :=
  PureC.use (sum_c prog w l vs ns nn led hN hlen) hA hh hd hu B F X N (List.forall_mem_cons.mpr ⟨hl, hsub⟩) T hk fun r h' tk' F' N' _ st hR => by
    obtain ⟨x, dx, k1, k2, k3, v1, v2, v3, rfl, M⟩ := hR
    exact ret x dx k1 k2 k3 v1 v2 v3 h' tk' F' (NewsTwo M N')
theorem int_ands {prog : Program} {w : World} {A : Around} {E : Value → Shared → Prop} {s : Shared} {ns : List Int} {Q : Value → Shared → Prop} (h : ∀ t, Q (.int (andsV ns) t) { s with toks := s.toks + 1 }) :
    wpAny (model prog w) A (call (.type "int") [.bool (!(ns.any (· == 0)))]) Q E s := call_int_bool (by rw [ands_int]; exact h _)

local macro_rules | `(tactic| walk_at "MINE A") => `(tactic| ((case hA => exact rfl); (case hh => exact rfl); (case hd => exact Nat.le_of_ble_eq_true rfl); (case hu => exact Nat.le_of_ble_eq_true rfl)))
local macro_rules | `(tactic| walk_at "call ref") => `(tactic| (k_here; (with_reducible show wpAny _ _ (call (Value.ref _) [Value.ref _]) _ _ _); (k_dflt (show wpAny _ _ (call (Value.ref 725) _) _ _ _)); (rename News _ _ _ _ => N8); k_dflt (refine' use_A (D := 500) (U := 2500) (start_c0 _ _ _ ?hI ?hlen ?B ?F ?X ?hl ?T ?hk ?_) ?hA ?hh ?hd ?hu; (walk_at "MINE A"); (case B => k_asm); (case F => k_asm); (case X => k_asm); (case hl => assumption); (case T => k_asm); (case hk => first | exact rfl | assumption); (case hI => assumption); (case hlen => assumption)); intro r9 h9 tk9 F9 st9 hR9; (k_dflt (obtain ⟨sta, qa, vs9, c9, ta9, tc9, n1, n2, e9, hsq, M9, hB9⟩ := hR9)); subst e9; (have N9 := News.stay N8 st9); (have N9' := NewsTwo M9 N9); clear M9 N9 N8; (try k_sweep); (try dsimp only); (try k_unmd)))
local macro_rules | `(tactic| walk_at "call ref") => `(tactic| (k_here; (with_reducible show wpAny _ _ (call (Value.ref _) [Value.ref _, Value.int _ _]) _ _ _); (k_dflt (show wpAny _ _ (call (Value.ref 732) _) _ _ _)); k_dflt (refine' take_use ?hA ?hh ?hd ?hu ?B ?F ?X ?N ?T ?hk ?U1 ?U2 ?hb ?hsq ?hm0 ?hm1 ?_; (walk_at "MINE A"); (case F => k_asm); (case N => k_asm); (case B => k_asm); (case X => k_asm); (case T => k_asm); (case hk => first | exact rfl | assumption); (case U1 => k_updF); (case U2 => intro _; k_updF); (case hb => assumption); (case hsq => k_ne); (case hm0 => omega); (case hm1 => omega)); intro fo9 tf9 a9 ta9 c9 tc9 vs9 n19 n29 h9 tk9 F9 N9 hB9 f0 f1; (try dsimp only at N9); (try k_sweep); (try dsimp only); (try k_unmd)))
local macro_rules | `(tactic| walk_at "call ref") => `(tactic| (k_here; (with_reducible show wpAny _ _ (call (Value.ref _) [Value.int _ _, Value.int _ _, Value.int _ _]) _ _ _); (k_dflt (show wpAny _ _ (call (Value.ref 739) _) _ _ _)); k_dflt (refine' PureC.use (plain_c _ _ _ _ _ _ _ _ ?p0 ?p1 ?p2 ?p3 ?p4 ?p5) ?hA ?hh ?hd ?hu ?k1 ?k2 ?k3 ?k4 ?hs ?k5 ?hk ?_; walk_at "MINE use"; (case p0 => omega); (case p1 => omega); (case p2 => omega); (case p3 => omega); (case p4 => omega); (case p5 => omega)); intro r9 h9 tk9 F9 N9 N8 st9 hR9; clear N8 st9; (rcases plain_cases hR9 with ⟨hp9, e9⟩ | ⟨d9, t9, hp9, e9⟩) <;> (subst e9; clear hR9; (try k_sweep); (try dsimp only); (try k_unmd))))
local macro_rules | `(tactic| walk_at "call ref") => `(tactic| (k_here; (with_reducible show wpAny _ _ (call (Value.ref _) [Value.int _ _, Value.ref _, Value.int _ _, Value.int _ _]) _ _ _); (k_dflt (show wpAny _ _ (call (Value.ref 746) _) _ _ _)); k_dflt (refine' PureC.use (done_i _ _ _ _ _ _ _ _ _ _ _ _ _ _ _ _ _ ?p0 ?p1 ?p2 ?p3 ?p4 ?p5 ?hp) ?hA ?hh ?hd ?hu ?k1 ?k2 ?k3 ?k4 ?hs ?k5 ?hk ?_; (case hp => assumption); walk_at "MINE use"; (case p0 => omega); (case p1 => omega); (case p2 => omega); (case p3 => omega); (case p4 => omega); (case p5 => omega)); walk_at "MINE num"))
local macro_rules | `(tactic| walk_at "call ref") => `(tactic| (k_here; (with_reducible show wpAny _ _ (call (Value.ref _) [Value.int _ _, Value.ref _, Value.ref _, Value.int _ _]) _ _ _); (k_dflt (show wpAny _ _ (call (Value.ref 746) _) _ _ _)); k_dflt (refine' PureC.use (done_n _ _ _ _ _ _ _ _ _ _ _ _ _ _ _ _ _ _ _ _ _ _ _ _ ?p0 ?p1 ?p2 ?p3 ?p4 ?p5 ?hp) ?hA ?hh ?hd ?hu ?k1 ?k2 ?k3 ?k4 ?hs ?k5 ?hk ?_; (case hp => assumption); walk_at "MINE use"; (case p0 => omega); (case p1 => omega); (case p2 => omega); (case p3 => omega); (case p4 => omega); (case p5 => omega)); walk_at "MINE num"))
local macro_rules | `(tactic| walk_at "call ref") => `(tactic| (k_here; (with_reducible show wpAny _ _ (call (Value.ref _) [Value.ref _, Value.int _ _]) _ _ _); (k_dflt (show wpAny _ _ (call (Value.ref 753) _) _ _ _)); k_dflt (refine' PureC.use (is_c _ _ _ _ _ _ _ _ _ _ _ _) ?hA ?hh ?hd ?hu ?k1 ?k2 ?k3 ?k4 ?hs ?k5 ?hk ?_; walk_at "MINE use"); intro r9 h9 tk9 F9 N9 N8 st9 hR9; clear N8 st9; (k_dflt (have e9 := boolR_eq hR9)); subst e9; (try k_sweep); (try dsimp only); (try k_unmd)))
local macro_rules | `(tactic| k_ne) => `(tactic| k_dflt (first | (refine kind_ty (by k_asm) (by k_mem) (by k_mem) (by rfl) (by rfl) (by decide)) | (refine kind_ne (by k_asm) (by k_mem) (by k_mem) ?_; (intro hc9; cases hc9; done))))
local macro_rules | `(tactic| walk_at "call ref") => `(tactic| (k_here; (with_reducible show wpAny _ _ (call (Value.ref _) [Value.int _ _, Value.int _ _]) _ _ _); (k_dflt (show wpAny _ _ (call (Value.ref 35) _) _ _ _)); k_dflt (refine' PureC.use (gcd_c _ _ _ _ _ _) ?hA ?hh ?hd ?hu ?k1 ?k2 ?k3 ?k4 ?hs ?k5 ?hk ?_; walk_at "MINE use"); intro r9 h9 tk9 F9 N9 N8 st9 hR9; clear N8 st9; (k_dflt (obtain ⟨t9, e9⟩ := hR9)); subst e9; (try k_sweep); (try dsimp only); (try k_unmd)))
local macro_rules | `(tactic| walk_at "call ref") => `(tactic| (k_here; (with_reducible show wpAny _ _ (call (Value.ref _) [Value.int _ _, Value.int _ _]) _ _ _); (k_dflt (show wpAny _ _ (call (Value.ref 760) _) _ _ _)); k_dflt (refine' PureC.use (divisor_c _ _ _ _ _ _) ?hA ?hh ?hd ?hu ?k1 ?k2 ?k3 ?k4 ?hs ?k5 ?hk ?_; walk_at "MINE use"); intro r9 h9 tk9 F9 N9 N8 st9 hR9; clear N8 st9; (k_dflt (obtain ⟨t9, e9⟩ := hR9)); subst e9; (try k_sweep); (try dsimp only); (try k_unmd)))
local macro_rules | `(tactic| walk_at "pyIter ref") => `(tactic| ((with_reducible show wpAny _ _ (pyIter (Value.ref _)) (fun it s₂ => LoopAtV _ _ _ _ _ _ _ _ _ it s₂) _ _); k_here; (rename IsRange _ _ _ _ _ _ _ _ => rg9); (rename Fr _ _ _ _ => lF9); (rename News _ _ _ _ => lN9); k_dflt (refine' law_loop2 ?hL ?hh rg9 ?hsmall ?hn lF9 lN9 ?e1 ?e2 ?e3 ?e4 ?e5 ?hmv ?hmn ?g1 ?g2 ?g3 ?g4 ?g5 ?g6 ?g7 ?g8 ?g9 ?g10 ?hB ?hv ?hv2 ?hn9 ?turn ?done; (case hL => rfl); (case hh => rfl); (case hn => exact rangeSize_nat _ _); (case hsmall => exact small_one (by omega) (by omega) (by omega) (by omega)); (case e1 => with_unfolding_all rfl); (case e2 => with_unfolding_all rfl); (case e3 => with_unfolding_all rfl); (case e4 => with_unfolding_all rfl); (case e5 => with_unfolding_all rfl); (case hmv => with_unfolding_all rfl); (case hmn => with_unfolding_all rfl); (case g1 => k_mem); (case g2 => k_mem); (case g3 => k_mem); (case g4 => k_mem); (case g5 => k_mem); (case g6 => k_mem); (case g7 => k_mem); (case g8 => k_mem); (case g9 => k_mem); (case g10 => k_mem); (case hB => assumption); (case hv => omega); (case hv2 => omega); (case hn9 => omega)); clear lF9 lN9 rg9))
local macro_rules | `(tactic| walk_at "LTurn") => `(tactic| (first | (k_dflt (refine' lturn0 ?F ?N (l8_get ?m1 ?m2 ?m3 ?m4 ?m5 ?m6 ?m7 ?m8 ?mT) ?hB ?hm ?hmv ?hmn; (case F => k_asm); (case hmn => with_unfolding_all rfl); (case hmv => with_unfolding_all rfl); (case N => k_asm); (case m1 => k_mem); (case m2 => k_mem); (case m3 => k_mem); (case m4 => k_mem); (case m5 => k_mem); (case m6 => k_mem); (case m7 => k_mem); (case m8 => k_mem); (case mT => walk_at "MINE sub2"); (case hB => assumption); (case hm => (intro z q1 q2 q3 q4 q5 q6 q7; first | rfl | (simp [q1, q2, q3, q4, q5, q6, q7]; done))))) | (k_dflt (refine' lturn2 ?F ?N (l8_get ?m1 ?m2 ?m3 ?m4 ?m5 ?m6 ?m7 ?m8 ?mT) ?hB ?hm ?hmv ?hmn ?d0 ?d1 ?d01; (case F => k_asm); (case hmn => with_unfolding_all rfl); (case hmv => with_unfolding_all rfl); (case N => k_asm); (case m1 => k_mem); (case m2 => k_mem); (case m3 => k_mem); (case m4 => k_mem); (case m5 => k_mem); (case m6 => k_mem); (case m7 => k_mem); (case m8 => k_mem); (case mT => walk_at "MINE sub2"); (case hB => assumption); (case hm => (intro z q1 q2 q3 q4 q5 q6 q7; first | rfl | (simp [q1, q2, q3, q4, q5, q6, q7]; done))); (case d0 => omega); (case d1 => omega); (case d01 => exact plain01 (by assumption) (by omega) (by omega)))) | (k_dflt (refine' lturn1 ?F ?N (l8_get ?m1 ?m2 ?m3 ?m4 ?m5 ?m6 ?m7 ?m8 ?mT) ?hB ?hm ?hmv ?hmn ?d0 ?d1; (case F => k_asm); (case hmn => with_unfolding_all rfl); (case hmv => with_unfolding_all rfl); (case N => k_asm); (case m1 => k_mem); (case m2 => k_mem); (case m3 => k_mem); (case m4 => k_mem); (case m5 => k_mem); (case m6 => k_mem); (case m7 => k_mem); (case m8 => k_mem); (case mT => walk_at "MINE sub2"); (case hB => assumption); (case hm => (intro z q1 q2 q3 q4 q5 q6 q7; first | rfl | (simp [q1, q2, q3, q4, q5, q6, q7]; done))); (case d0 => omega); (case d1 => omega)))))
local macro_rules | `(tactic| walk_at "call builtin:sum") => `(tactic| (k_here; (with_reducible show wpAny _ _ (call (Value.builtin "sum") [Value.ref _]) _ _ _); k_dflt (refine' sum_led ?hh ?F ?N ?hl ?hi ?_; (case hh => rfl); (case F => k_asm); (case N => k_asm); (case hl => k_mem); (case hi => assumption)); intro h9 tk9 t9 F9 N9; (try k_sweep); (try dsimp only); (try k_unmd)))
local macro_rules | `(tactic| walk_at "compareOp NotIn int ref") => `(tactic| (k_here; (with_reducible show wpAny _ _ (compareOp _ (Value.int _ _) (Value.ref _)) _ _ _); k_dflt (refine' notin_led ?N ?hl ?hi ?_; (case N => k_asm); (case hl => k_mem); (case hi => assumption))))
local macro_rules | `(tactic| walk_at "subscriptTail") => `(tactic| (k_here; (with_reducible show wpAny _ _ (subscriptTail _ _ (Value.ref _) (Value.int 0 _)) _ _ _); k_dflt (refine' sub0_led ?N ?hl ?hv ?hs ?_; (case N => k_asm); (case hl => k_mem); (case hv => assumption); (case hs => with_unfolding_all rfl)); (try dsimp only); (try k_unmd)))
local macro_rules | `(tactic| walk_at "call type:int") => `(tactic| (k_here; (with_reducible show wpAny _ _ (call (Value.type "int") [Value.bool _]) _ _ _); k_dflt (refine int_ands ?_); intro t9; (try dsimp only); (try k_unmd)))
local macro_rules | `(tactic| walk_at "call ref") => `(tactic| (k_here; (with_reducible show wpAny _ _ (call (Value.ref _) [Value.ref _]) _ _ _); (k_dflt (show wpAny _ _ (call (Value.ref 232) _) _ _ _)); k_dflt (refine' sum_use ?hA ?hh ?hd ?hu ?B ?F ?X ?N ?T ?hk ?hl ?hN ?hsub ?hlen ?_; (walk_at "MINE A"); (case F => k_asm); (case N => k_asm); (case B => k_asm); (case X => k_asm); (case T => k_asm); (case hk => first | exact rfl | assumption); (case hl => k_mem); (case hN => assumption); (case hsub => walk_at "MINE subled"); (case hlen => assumption)); intro x9 dx9 k1 k2 k3 v1 v2 v3 h9 tk9 F9 N9; (try k_sweep); (try dsimp only); (try k_unmd)))
local macro_rules | `(tactic| walk_at "call ref") => `(tactic| (k_here; (with_reducible show wpAny _ _ (call (Value.ref _) [Value.ref _]) _ _ _); (k_dflt (show wpAny _ _ (call (Value.ref 232) _) _ _ _)); k_dflt (refine' PureC.use (sum_nil _ _ _ _) ?hA ?hh ?hd ?hu ?k1 ?k2 ?k3 ?k4 ?hs ?k5 ?hk ?_; walk_at "MINE use"); walk_at "MINE num"))
local macro_rules | `(tactic| walk_at "call ref") => `(tactic| (k_here; (with_reducible show wpAny _ _ (call (Value.ref _) [Value.ref _]) _ _ _); (k_dflt (show wpAny _ _ (call (Value.ref 240) _) _ _ _)); k_dflt (refine' PureC.use (ands_nil _ _ _ _) ?hA ?hh ?hd ?hu ?k1 ?k2 ?k3 ?k4 ?hs ?k5 ?hk ?_; walk_at "MINE use"); walk_at "MINE num"))
local macro_rules | `(tactic| walk_at "call ref") => `(tactic| (k_here; (with_reducible show wpAny _ _ (call (Value.ref _) [Value.ref _]) _ _ _); (k_dflt (show wpAny _ _ (call (Value.ref 240) _) _ _ _)); k_dflt (refine' ands_use ?hA ?hh ?hd ?hu ?B ?F ?X ?N ?T ?hk ?G ?U ?hl ?hN ?hsub ?hlen ?h01 ?hne ?_; (walk_at "MINE A"); (case F => k_asm); (case N => k_asm); (case B => k_asm); (case X => k_asm); (case T => k_asm); (case hk => first | exact rfl | assumption); (case G => assumption); (case U => k_updF); (case hl => k_mem); (case hN => assumption); (case hsub => walk_at "MINE subled"); (case hlen => assumption); (case h01 => assumption); (case hne => assumption)); intro x9 dx9 k1 k2 k3 v1 v2 v3 ps9 s9 F9 N9 G9 os9; (try dsimp only at N9); (try k_sweep); (try dsimp only); (try k_unmd)))
local macro_rules | `(tactic| walk_at "call type:range") => `(tactic| ((rename Fr _ _ _ _ => lF9); (rename News _ _ _ _ => lN9); (with_unfolding_all refine range1_rows lF9 lN9 ?_); clear lF9 lN9; intro h9 tk9 t9 u9 v9 rg9 F9 N9 st9))
local macro_rules | `(tactic| walk_at "ite") => `(tactic| (k_here; (with_reducible show (if ((_ : Int) != _) = true then _ else _)); (refine W.ite_neg (by rw [bne_self_eq_false]; exact Bool.false_ne_true) ?_)))
local macro_rules | `(tactic| size_fits) => `(tactic| first | (simp only [List.size_toArray, PySem.sizeLine_eq]; exact Nat.le_trans (by assumption : _ ≤ 1000) (Nat.le_of_ble_eq_true rfl)) | fail "size_fits: mine")
local macro_rules | `(tactic| walk_at "call ref") => `(tactic| (k_here; (with_reducible show wpAny _ _ (call (Value.ref _) [Value.int _ _]) _ _ _); (k_dflt (show wpAny _ _ (call (Value.ref 357) _) _ _ _)); k_dflt (refine' PureC.use (new_num _ _ _ _) ?hA ?hh ?hd ?hu ?k1 ?k2 ?k3 ?k4 ?hs ?k5 ?hk ?_; walk_at "MINE use"); intro r9 h9 tk9 F9 N9 N8 st9 hR9; (k_dflt (obtain ⟨x9, dx9, j1, j2, j3, u1, u2, u3, e9, M9, q1, q2⟩ := hR9)); subst e9; (have N9' := NewsTwo M9 N9); clear M9 N9 N8 q1 q2 st9; (try k_sweep); (try dsimp only); (try k_unmd)))
local macro_rules | `(tactic| walk_at "call builtin:list.append") => `(tactic| (k_here; k_dflt (refine' append_K ?k1 ?k2 ?k3 ?_ ?z; (case k1 => k_asm); (case k2 => k_asm); (case k3 => k_upd); (case z => size_fits)); intro h9 F9 N9; (try k_sweep); (try dsimp only); (try k_unmd)))
def GoodWB (c : ClaimW) (cl : Str → Option Addr) (mean : ExcName → Option Value) (args : List WData) (s₁ : Shared) (res : Result) (s' : Shared) : Prop :=
  (∃ v d as, res = .ok (.ret v) ∧ (∀ cls, c.raises args cls = false) ∧ ReadsW c.records cl s'.heap v d as ∧ c.post args d args = true ∧
      (c.unshared = true → as.Nodup ∧ ∀ a ∈ as, s₁.heap.get? a = none)) ∧
  (∀ b o, s₁.heap.get? b = some o → s'.heap.get? b = some o) ∧ s'.os = s₁.os ∧ AllBare s'.gens
theorem post_B {M : Model} {A : Around} {cd : Code} {s s₁ : Shared} {cw : ClaimW} {cl : Str → Option Addr} {mean : ExcName → Option Value} {args : List WData} {tabs : List (Addr × Addr)} (hT : TabsAt tabs s₁.heap)
    (h : codeAny M A cd (fun r s' => GoodWB cw cl mean args { s₁ with heap := ghostOf s₁.heap tabs } r s' ∧ GrownAll tabs s'.heap) s) : codeAny M A cd (GoodWG cw cl mean args s₁) s :=
  codeAny_mono h fun r s' ⟨⟨hc, hk, hos, hg⟩, hgr⟩ => by
    have keep : ∀ b o, b ∉ tabs.map (·.2) → s₁.heap.get? b = some o → s'.heap.get? b = some o := fun b o hb e => hk b o (ghost_ne e hb)
    have grown : ∀ b o, b ∈ tabs.map (·.2) → s₁.heap.get? b = some o → isCodeTable s₁.heap b ∧ o = tabObj #[] ∧ ∃ ps, s'.heap.get? b = some (tabObj ps) := fun b o hb e => by
      obtain ⟨q, hq, rfl⟩ := List.mem_map.mp hb
      have e2 := (hT q hq).2
      rw [e] at e2
      exact ⟨((hT q hq).1.tab (hT q hq).2).isCodeTable, Option.some.inj e2, hgr.get q hq⟩
    refine ⟨?_, ⟨fun b o e => ?_, fun b o e => ?_⟩, hos, hg⟩
    · obtain ⟨v, d, as, r1, r2, r3, r4, r5⟩ := hc
      refine .inl ⟨v, d, as, r1, r2, r3, r4, fun q => ⟨(r5 q).1, fun a ha => ?_⟩⟩
      cases q1 : s₁.heap.get? a with
      | none => rfl
      | some o =>
        by_cases hb : a ∈ tabs.map (·.2)
        · obtain ⟨_, _, ps, hP⟩ := grown a o hb q1
          exact absurd ha (readsW_apart hP rfl r3)
        · have e3 := (r5 q).2 a ha
          rw [show (ghostOf s₁.heap tabs).get? a = some o from ghost_ne q1 hb] at e3
          cases e3
    · by_cases hb : b ∈ tabs.map (·.2)
      · obtain ⟨ht, rfl, ps, hP⟩ := grown b o hb e
        exact .inr (.inl ⟨ht, rfl, #[], ps, rfl, by rw [Array.empty_append]; exact hP⟩)
      · exact .inl (keep b o hb e)
    · by_cases hb : b ∈ tabs.map (·.2)
      · obtain ⟨_, _, ps, hP⟩ := grown b o hb e
        exact ⟨_, hP⟩
      · exact ⟨o, keep b o hb e⟩
theorem goodWB_true {c : ClaimW} {cl : Str → Option Addr} {mean : ExcName → Option Value} {args : List WData} {s₁ s' : Shared} {L : Addr} {m : Str → Option Value} (F : Fr s₁.heap L s'.heap m) (hg : AllBare s'.gens) (hn : ∀ cls, c.raises args cls = false) (hp : c.post args (.bool true) args = true) (hos : s'.os = s₁.os) :
    GoodWB c cl mean args s₁ (.ok (.ret (.bool true))) s' :=
  ⟨⟨.bool true, .bool true, [], rfl, hn, .bool true, hp, unshared_nil⟩, F.keep, hos, hg⟩
set_option maxHeartbeats 4000000
theorem main_holds : PySem.Challenge.rw_fk5024_01.Holds := by
  exact Mine.hd (by
    k_fill
    intro w s₀ s₁ mg mb G Y fa o pm cd doc dV kV ho hd hcd hD hmg hg args vals as hpre hlay hrd hwl hlo
    have KX := km_in_of Y
    have hT8 := km_tabs_of Y
    have X := (Ground.X G).1
    have V := (Ground.X G).2
    refine Ground.open G ?_
    intro T B D TE TW
    try (refine guard_noD D (by decide +kernel) ?_; clear D)
    have hT9 : TabsAt ([(239, 237), (370, 368)] : List (Addr × Addr)) s₁.heap := List.forall_mem_cons.mpr ⟨⟨codeHd_of_K (c := 239) (P := 237) KX (by kernel_rfl), hT8 237 (.head _)⟩, List.forall_mem_cons.mpr ⟨⟨codeHd_of_K (c := 370) (P := 368) KX (by kernel_rfl), hT8 368 (.tail _ (.head _))⟩, List.forall_mem_nil _⟩⟩
    have hG : AllBare s₁.gens := AllBare.of_eq hg
    clear hmg hT8
    wrow_args hpre hlay hrd hwl hlo
    all_goals (
      first | refine callC_kw (enter_call ?_) | refine enter_call ?_
      w_top on
      refine Mine.post_B hT9 ?_
      w_call any ho hd hcd hD T F
      clear hd
      kn_ghosts F T
      k_drop
      skip)
    k_steps
    · clear G Y ho hcd
      unfold Mine.Hold
      intro u9 kk9 tkk9 a9 c9 ta9 tc9 n91 vs9 n92 value9 tv9 x9 dx9 j91 j92 j93 j94 j95 j96 nvs9 vvs9 tvs9 hvs9 k91 k92 k93 k94 T9 h9 tk9 hB9 hv91 hv92 ox9 odx9 t91 t92 t93 t94 t95 t96 t97 t98 F9 N9 l91 l92 l93 l94
      clear ox9 odx9
      (try k_fold)
      k_steps
    · unfold Mine.Hold
      intro u9 a9 c9 ta9 tc9 n91 vs9 n92 k91 k92 k93 k94 led9 x9 dx9 n9 i91 i92 i93 i94 i95 i96 t9 ns9 nvs9 vvs9 bs9 tvs9 hvs9 h9 tk9 F9 N9 z91 z92 z93 z94 z95 z96 z97 z98 z99 y91 y92 y93 y94 y95 y96 y97 y98 y99 y90
      clear y99 y90
      (try k_fold)
      k_steps
      k_dflt (refine' goodWB_true ?F ?hg ?hn ?hp ?hos)
      case F => k_dflt assumption
      case hg => k_dflt assumption
      case hos => k_dflt assumption
      case hn =>
        refine raisesW_false ?_
        wrow_none_raised
      case hp => kc_post)

end Mine
theorem PySem.Challenge.cw_fk5024_01_holds : PySem.Challenge.rw_fk5024_01.Holds := by
  exact Mine.main_holds
