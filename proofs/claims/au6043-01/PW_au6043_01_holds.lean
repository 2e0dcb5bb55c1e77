import PyProof.Rows.All
import Wide.All
import OpenK.AllK
import Wide.FinOn
import PySem.Challenge.RW_au6043_01
open PySem PySem.W PySem.Calls PyProof.Rows
set_option Elab.async false
set_option rowWalk.seconds 0
namespace Mine
set_option maxRecDepth 100000
set_option maxHeartbeats 8000000
open_top hd for PySem.Challenge.rw_au6043_01

section PartMBase
/-- all objects of h but those at `as` stand in h' as they stood -/
def KeepBut (as : List Addr) (h h' : Heap) : Prop := ∀ b o, h.get? b = some o → b ∉ as → h'.get? b = some o
theorem KeepBut.refl (as : List Addr) (h : Heap) : KeepBut as h h := fun _ _ e _ => e
theorem KeepBut.trans {as : List Addr} {h h' h'' : Heap} (k : KeepBut as h h') (k' : KeepBut as h' h'') : KeepBut as h h'' :=
  fun b o e n => k' b o (k b o e n) n
theorem KeepBut.weaken {as bs : List Addr} {h h' : Heap} (k : KeepBut as h h') (hs : ∀ a ∈ as, a ∈ bs) : KeepBut bs h h' :=
  fun b o e n => k b o e fun q => n (hs b q)

def KeepR (as : List Addr) (h : Heap) (R : Result → Shared → Prop) (r : Result) (s' : Shared) : Prop := match r with
  | .ok f => KeepBut as h s'.heap → R (.ok f) s'
  | .error e => R (.error e) s'

section
variable {prog : Program} {w : World} {A A₀ : Around} {E : Value → Shared → Prop} {s : Shared} {K : Frag} {C L : Addr} {h₀ base : Heap} {m mg mb : Str → Option Value} {news : List (Addr × Obj)} {p : Program} {loose : List Str} {mean : ExcName → Option Value} {Q : Value → Shared → Prop}
theorem code_defS {env : Env} {outer : List Env} {R : Result → Shared → Prop} {name qual : Str} {params : Arguments} {body : List Stmt} {scope : Scope} {dV kV doc pm cdv ct oc : Value} {an od : Option Addr} {osl : Array (Option Value)} {f : Addr} {args : Args} {binds : List (Str × Value)}
    (B : Below A₀ base outer h₀) (F : Fr h₀ L s.heap m) (X₀ : K.In h₀) (N : News h₀ L s.heap news) (T : Top p loose mean mg mb h₀) (hA : A.frames = some (env :: outer)) (hf : env.frame = some L) (hke : env.scope.kind = .function)
    (ho : K.lookup f = some ⟨oc, od, .func (fnOf name qual params body scope dV kV doc pm an cdv ct), osl⟩) (hcd : codeIn K cdv qual = true) (hroom : A.depth < recursionLimit)
    (hbind : BindsTo s (fnOf name qual params body scope dV kV doc pm an cdv ct) args binds) (hloc : ∀ y ∈ binds, scope.names.lookup y.1 = some .local)
    (h : ∀ g L' h₁, Fr h₀ L g m → Fr g L' h₁ (fun y => binds.reverse.lookup y) → News g L' h₁ news → Below A base (env :: outer) g → K.In g → Top p loose mean mg mb g →
      wpAny (model prog w) (A.deeper (envOf qual scope L' f cdv)) (execs body (envOf qual scope L' f cdv))
        (fun fl s' => LeaveK h₀ L m g (KeepR (news.map (·.1)) s.heap R) (match fl with | .ret v => v | _ => .none) s')
        (fun e s' => wpAny (model prog w) (A.deeper (envOf qual scope L' f cdv)) (leaving (envOf qual scope L' f cdv) e) (fun _ s'' => R (.error e) s'') (fun e' s'' => R (.error e') s'') s')
        { s with heap := h₁, toks := s.toks + binds.length })
    (hco : scope.isCoroutine = false) (hgen : scope.isGenerator = false) (hk : scope.kind = .function)
    (hcell : ∀ x ∈ scope.names, x.2 ≠ .cell) : codeAny (model prog w) A (.call (.ref f) args) R s := by
  obtain ⟨FG, BG, st, lv⟩ := groundX (R := KeepR (news.map (·.1)) s.heap R) B F N hA hf hke
  refine codeAny_call_def (fd := fnX name qual params body scope [] dV kV doc pm an cdv ct) (body := body) (binds := binds) hroom ((X₀.keeps F.keep) _ _ ho) rfl (T.nolimit.keeps F.keep) (codeRec_of (X₀.keeps F.keep) hcd) rfl hbind hcell hloc (fun h₁ hns hk₁ => ?_) hco hgen hk
  refine wpAny_mono (h _ s.heap.objs.size h₁ FG ⟨hns, fun b o e => hk₁ b o (of_hideAll _ e), Nat.le_of_eq (hideAll_size _ _)⟩
    (fun p hp => ⟨hk₁ _ _ (N p hp).1, Nat.ne_of_lt (Heap.lt_size (N p hp).1), hideAll_none _ (List.mem_map_of_mem hp)⟩) BG (X₀.keeps st) (T.keeps st)) (fun fl s' hl => ?_) fun _ _ y => y
  have q := lv _ _ hl
  obtain ⟨L', m', news', F', N', k⟩ := hl
  exact q fun b o e hb => F'.keep b o (hideAll_get _ e hb)
end

theorem news_after1 {h₀ h h' : Heap} {L a : Addr} {news news' : List (Addr × Obj)} {oa oa' : Obj} (N : News h₀ L h news) (k : KeepBut [a] h h')
    (U : Upd a oa oa' news news') (ha : h'.get? a = some oa') : News h₀ L h' news' := by
  obtain ⟨pre, post, rfl, rfl, h1, h2⟩ := U.split
  intro p hp
  rcases List.mem_append.mp hp with q | q
  · have P := N p (List.mem_append_left _ q)
    exact ⟨k _ _ P.1 (by simpa using h1 p q), P.2⟩
  · rcases List.mem_cons.mp q with rfl | q
    · have P := N (a, oa) (List.mem_append_right _ (.head _))
      exact ⟨ha, P.2⟩
    · have P := N p (List.mem_append_right _ (.tail _ q))
      exact ⟨k _ _ P.1 (by simpa using h2 p q), P.2⟩
theorem news_after2 {h₀ h h' : Heap} {L a b : Addr} {news mid news' : List (Addr × Obj)} {oa oa' ob ob' : Obj} (N : News h₀ L h news) (k : KeepBut [a, b] h h')
    (U : Upd a oa oa' news mid) (V : Upd b ob ob' mid news') (ha : h'.get? a = some oa') (hb : h'.get? b = some ob') : News h₀ L h' news' := by
  obtain ⟨pre, post, rfl, rfl, h1, h2⟩ := V.split
  obtain ⟨pre', post', e1, e2, h3, h4⟩ := U.split
  subst e1
  have inn : ∀ p ∈ pre' ++ (a, oa') :: post', p.1 ≠ b → h'.get? p.1 = some p.2 ∧ p.1 ≠ L ∧ h₀.get? p.1 = none := by
    intro p hp hpb
    rcases List.mem_append.mp hp with q | q
    · have P := N p (List.mem_append_left _ q)
      exact ⟨k _ _ P.1 (by simpa using ⟨h3 p q, hpb⟩), P.2⟩
    · rcases List.mem_cons.mp q with rfl | q
      · have P := N (a, oa) (List.mem_append_right _ (.head _))
        exact ⟨ha, P.2⟩
      · have P := N p (List.mem_append_right _ (.tail _ q))
        exact ⟨k _ _ P.1 (by simpa using ⟨h4 p q, hpb⟩), P.2⟩
  intro p hp
  rcases List.mem_append.mp hp with q | q
  · exact inn p (e2 ▸ List.mem_append_left _ q) (h1 p q)
  · rcases List.mem_cons.mp q with rfl | q
    · refine ⟨hb, ?_⟩
      have hm : (b, ob) ∈ pre' ++ (a, oa') :: post' := e2 ▸ List.mem_append_right _ (.head _)
      rcases List.mem_append.mp hm with q | q
      · exact (N _ (List.mem_append_left _ q)).2
      · rcases List.mem_cons.mp q with q | q
        · have : b = a := congrArg Prod.fst q
          subst this
          exact (N (b, oa) (List.mem_append_right _ (.head _))).2
        · exact (N _ (List.mem_append_right _ (.tail _ q))).2
    · exact inn p (e2 ▸ List.mem_append_right _ (.tail _ q)) (h2 p q)

/-- the draw: its ints are 0 or more, at most 60; its seed below the modulus -/
structure DrawOk (xs : List Int) (seed : Int) : Prop where
  pos : ∀ x ∈ xs, 0 ≤ x
  len : xs.length ≤ 60
  s0 : 0 ≤ seed
  s1 : seed < 2147483647
section
variable {prog : Program} {w : World} {A A₀ : Around} {E : Value → Shared → Prop} {s : Shared} {K : Frag} {C L : Addr} {h₀ base : Heap} {m mg mb : Str → Option Value} {news : List (Addr × Obj)} {p : Program} {loose : List Str} {mean : ExcName → Option Value} {Q : Value → Shared → Prop}
theorem code_defCS {env : Env} {outer : List Env} {R : Result → Shared → Prop} {name qual : Str} {params : Arguments} {body : List Stmt} {scope : Scope} {dV kV doc pm cdv ct oc : Value} {an od : Option Addr} {osl : Array (Option Value)} {f : Addr} {args : Args} {binds : List (Str × Value)}
    (B : Below A₀ base outer h₀) (F : Fr h₀ L s.heap m) (X₀ : K.In h₀) (N : News h₀ L s.heap news) (T : Top p loose mean mg mb h₀) (hA : A.frames = some (env :: outer)) (hf : env.frame = some L) (hke : env.scope.kind = .function)
    (ho : K.lookup f = some ⟨oc, od, .func (fnOf name qual params body scope dV kV doc pm an cdv ct), osl⟩) (hcd : codeIn K cdv qual = true) (hroom : A.depth < recursionLimit)
    (hbind : BindsTo s (fnOf name qual params body scope dV kV doc pm an cdv ct) args binds) (hkind' : (binds.all fun y => scope.names.lookup y.1 == some .local || scope.names.lookup y.1 == some .cell) = true)
    (hnd : ((cellsFrom 0 scope.names []).map (·.1)).Nodup)
    (h : ∀ g L' h₁ tk cells, Fr h₀ L g m → Fr g L' h₁ (bindL (envOfC qual scope L' f cdv).kindOf binds fun _ => none) → News g L' h₁ (cells ++ news) →
      CellsAre (bindC (envOfC qual scope L' f cdv).kindOf binds fun _ => none) (cellsFrom (L' + 1) scope.names []) cells → Below A base (env :: outer) g → K.In g → Top p loose mean mg mb g → (∀ p ∈ news, p.1 < L') →
      wpAny (model prog w) (A.deeper (envOfC qual scope L' f cdv)) (execs body (envOfC qual scope L' f cdv))
        (fun fl s' => LeaveK h₀ L m g (KeepR (news.map (·.1)) s.heap R) (match fl with | .ret v => v | _ => .none) s')
        (fun e s' => wpAny (model prog w) (A.deeper (envOfC qual scope L' f cdv)) (leaving (envOfC qual scope L' f cdv) e) (fun _ s'' => R (.error e) s'') (fun e' s'' => R (.error e') s'') s')
        { s with heap := h₁, toks := tk })
    (hco : scope.isCoroutine = false) (hgen : scope.isGenerator = false) (hk : scope.kind = .function) : codeAny (model prog w) A (.call (.ref f) args) R s := by
  have hkind := kindsX hkind'
  obtain ⟨FG, BG, st, lv⟩ := groundX (R := KeepR (news.map (·.1)) s.heap R) B F N hA hf hke
  refine codeAny_call_function hroom ((X₀.keeps F.keep) _ _ ho) rfl hco hgen rfl (codeRec_of (X₀.keeps F.keep) hcd) (hbind _ _ _ _ ?_)
  refine wpAny_newFunctionEnv_cells hk (hkind _) fun env' he s' x => ?_
  subst he
  refine ⟨(T.nolimit.keeps F.keep).keeps x.toInCall.keep, codeAny_func ?_⟩
  obtain ⟨h₁, tk, rfl, _⟩ := x.done
  have hk₁ := x.toInCall.keep
  obtain ⟨cells, NC, Y⟩ := Cl.news (h₀ := s.heap) (Nat.le_refl _) fun n c hm => ⟨x.cell n c (lookup_of_mem_nodup (cellsFrom_names scope.names 0 (s.heap.objs.size + 1) [] [] rfl ▸ hnd) hm), x.above n c hm⟩
  refine wpAny_mono (h _ s.heap.objs.size h₁ tk cells FG ⟨x.toInCall.ns, fun b o e => hk₁ b o (of_hideAll _ e), Nat.le_of_eq (hideAll_size _ _)⟩ (fun p hp => ?_) Y BG (X₀.keeps st) (T.keeps st) (fun p hp => Heap.lt_size (N p hp).1)) (fun fl s' hl => ?_) fun _ _ y => y
  · rcases List.mem_append.mp hp with hp | hp
    · refine ⟨(NC p hp).1, (NC p hp).2.1, ?_⟩
      cases q : (hideAll s.heap (news.map (·.1))).get? p.1 with
      | none => rfl
      | some o => have := of_hideAll _ q; rw [(NC p hp).2.2] at this; cases this
    · exact ⟨hk₁ _ _ (N p hp).1, Nat.ne_of_lt (Heap.lt_size (N p hp).1), hideAll_none _ (List.mem_map_of_mem hp)⟩
  · have q := lv _ _ hl
    obtain ⟨L', m', news', F', N', k⟩ := hl
    exact q fun b o e hb => F'.keep b o (hideAll_get _ e hb)
end
theorem rangeSize_up (n : Nat) : Builtin.Range.rangeSize 0 (n : Int) 1 = (n : Int) := by rw [rangeSize_nat]; simp

end PartMBase

section PartComp
local macro_rules | `(tactic| walk_at "m enter") => `(tactic| (refine' code_defS ?k1 ?k2 ?k3 ?k4 ?k5 ?kA ?kF ?kK ?k6 ?k7 ?k8 ?k9 ?kB ?_ ?c2 ?c3 ?c4 ?c5; (case kA => exact rfl); (case kF => exact rfl); (case kK => assumption); (case k1 => k_asm); (case k2 => k_asm); (case k3 => k_asm); (case k4 => k_asm); (case k5 => k_asm); (case k6 => k_is); (case k7 => k_is); (case k8 => ktr_room); (case k9 => exact BindsTo.of_eq rfl); (case c5 => decide); (case kB => exact locs rfl); (case c2 => exact rfl); (case c3 => exact rfl); (case c4 => exact rfl); k_whole; intro g' L' h' FG' F' N' B' X' T'; (try dsimp only); (try k_lift B'); (try k_fold)))
local macro_rules | `(tactic| units_room) => `(tactic| (have hcL' := cLine_is; simp only [units_in1, units_deeper, Around.mark_units]; (try dsimp only [ktrTop]); omega))
local macro_rules | `(tactic| ktr_room) => `(tactic| ((try simp only [depth_in1, depth_deeper]); (try dsimp only [ktrTop]); (try simp only [recursionLimit]); omega))
local macro_rules | `(tactic| k_room) => `(tactic| ktr_room)
local macro_rules | `(tactic| walk_at "eval ListComp") => `(tactic| (k_here; k_dflt (refine LCg.ListComp_U (F₀ := by k_asm) (by rfl) (by decide) (by rfl) (by decide) (by rfl) ?_)))
local macro_rules | `(tactic| walk_at "CompSrc") => `(tactic| (k_here; k_dflt (first
  | (refine LCg.CompSrc.base (by rfl) (by k_asm) (by k_asm) (by assumption) ?hz ?_; (case hz => ((have hL9 := IntsAre.length (by assumption)); simp only [List.size_toArray, sizeLine_eq]; omega)); intro g')
  | (refine LCg.CompSrc.range (by rfl) (by k_asm) (by k_asm) (by assumption) ?sm (rangeSize_up _) ?hz ?_; (case sm => exact small_one (by omega) (by omega) (by omega) (by omega)); (case hz => (simp only [sizeLine_eq]; omega)); intro g'))))
local macro_rules | `(tactic| walk_at "call type:range") => `(tactic| (k_here; k_dflt (refine' range1_rows ?kF ?kN ?_; (case kF => k_asm); (case kN => k_asm); intro h' tk' t1' u1' v1' hR' F' N' hk')))
local macro_rules | `(tactic| walk_at "execs nil") => `(tactic| (with_reducible refine wpAny_execs_nil ?_))
local macro_rules | `(tactic| walk_at "m enterC") => `(tactic| (refine' code_defCS ?k1 ?k2 ?k3 ?k4 ?k5 ?kA ?kF ?kK ?k6 ?k7 ?k8 ?k9 ?kB ?kD ?_ ?c2 ?c3 ?c4; (case kA => exact rfl); (case kF => exact rfl); (case kK => assumption); (case k1 => k_asm); (case k2 => k_asm); (case k3 => k_asm); (case k4 => k_asm); (case k5 => k_asm); (case k6 => k_is); (case k7 => k_is); (case k8 => ktr_room); (case k9 => exact BindsTo.of_eq rfl); (case kB => exact rfl); (case kD => decide +kernel); (case c2 => exact rfl); (case c3 => exact rfl); (case c4 => exact rfl); k_whole; intro g' L' h' tk' cells' FG' F' N' Y' B' X' T' l1; (try k_lt l1); k_cells Y'; (try simp only [List.cons_append, List.nil_append] at N'); (try dsimp only); (try k_lift B'); (try k_fold)))
local macro_rules | `(tactic| walk_at "m step") => `(tactic| ((fail_if_success (with_reducible show wpAny _ _ (exec (Stmt.While _ _ _ _) _) _ _ _)); (fail_if_success (with_reducible show LCg.CompRest _ _ _ _ _ _ _ _ _ _ _ _ _ _ _ _ _ _ _)); (first | (k_unfold; (try dsimp only)) | (k_end; kc_close) | walk1 | (dsimp only; walk1) | (leave1; walk_say "STEP leave1"; (try dsimp only)) | fail "no step")))
local macro_rules | `(tactic| walk_at "m steps") => `(tactic| repeat' ((fail_if_success (with_reducible show wpAny _ _ (exec (Stmt.While _ _ _ _) _) _ _ _)); (fail_if_success (with_reducible show LCg.CompRest _ _ _ _ _ _ _ _ _ _ _ _ _ _ _ _ _ _ _)); (first | (k_unfold; (try dsimp only)) | (k_end; kc_close) | walk1 | (dsimp only; walk1) | (leave1; walk_say "STEP leave1"; (try dsimp only)) | fail "no step")))
local macro_rules | `(tactic| walk_at "m room") => `(tactic| ((try simp only [depth_in1, depth_deeper, units_in1, units_deeper, depth_caller, units_caller]); (try dsimp only [ktrTop]); omega))
local macro_rules | `(tactic| walk_at "binaryOp LShift int int") => `(tactic| (k_here; k_dflt ((refine' lshift_K ?ka ?kb ?kc ?ke ?_); (case ka => first | decide | omega); (case kb => first | decide | omega); (case kc => first | decide | omega); (case ke => ((try simp only [Int.reduceSub, Int.reduceAdd, Int.reduceToNat, Int.reducePow, Int.reduceMul, Int.one_mul]); exact rfl)); k_whole)))
local macro_rules | `(tactic| walk_at "callWith ref") => `(tactic| (k_here; k_dflt (refine' callWith_K ?k1 ?k2 ?_; (case k1 => k_asm); (case k2 => k_is); k_whole)))
local macro_rules | `(tactic| walk_at "m enterT") => `(tactic| (refine' code_defX0 ?k1 ?k2 ?k3 ?k4 ?k5 ?kA ?kF ?kK ?k6 ?k7 ?k8 ?k9 ?kB ?_ ?c2 ?c3 ?c4 ?c5; (case kA => exact rfl); (case kF => exact rfl); (case kK => assumption); (case k1 => k_asm); (case k2 => k_asm); (case k3 => k_asm); (case k4 => k_asm); (case k5 => k_asm); (case k6 => k_is); (case k7 => k_is); (case k8 => ktr_room); (case k9 => exact BindsTo.of_eq rfl); (case c5 => decide); (case kB => exact locs rfl); (case c2 => exact rfl); (case c3 => exact rfl); (case c4 => exact rfl); k_whole; intro g' L' h' FG' F' N' B' X' T' D'; (try dsimp only); (try k_lift B'); (try k_fold)))
section
variable {prog : Program} {w : World} {A : Around} {E : Value → Shared → Prop} {s : Shared} {h₀ : Heap} {L : Addr} {m : Str → Option Value} {env : Env}
/-- the turns of a comprehension by an invariant over what is told and the ledger -/
theorem rest_inv {elt : Expr} {x : Str} {scope : Scope} {cl : List (Str × Addr)} {S : List (Addr × Obj) → Prop} {P : Nat → Value → Prop} {Fin : List Value → List (Addr × Obj) → Prop} {n : Nat}
    (Inv : Nat → List Value → List (Addr × Obj) → Prop)
    (step : ∀ i ys news, i < n → Inv i ys news → ∀ v I oI C oC D m₂ h tk (E' : Value → Shared → Prop), P i v → LCg.NsObj oC m₂ → m₂ x = some v → Fr h₀ L h m → News h₀ L h ((I, oI) :: (C, oC) :: (D, LCg.lst ys) :: news) → LCg.Off3 I C D news → ((@Ne Nat I C) ∧ (@Ne Nat I D) ∧ (@Ne Nat C D)) →
      wpAny (model prog w) A (eval elt (compEnvC scope cl C env)) (LCg.CompEnd h₀ L m { s with heap := h, toks := tk } I oI C oC D (LCg.lst ys) S (fun y news' => Inv (i + 1) (ys ++ [y]) news')) E' { s with heap := h, toks := tk })
    (fin : ∀ ys news, Inv n ys news → Fin ys news) :
    ∀ (k i : Nat) (ys : List Value) (news : List (Addr × Obj)), i + k = n → Inv i ys news → LCg.CompRest prog w A h₀ L m env elt x scope cl s S P Fin k i ys news := by
  intro k
  induction k with
  | zero =>
    intro i ys news hn hi
    have : i = n := by omega
    subst this
    exact LCg.CompRest.zero (fin _ _ hi)
  | succ k ih =>
    intro i ys news hn hi
    refine LCg.CompRest.succ fun v I oI C oC D m₂ h tk E' hv hC hx F N off ne => ?_
    refine wpAny_mono (step i ys news (by omega) hi v I oI C oC D m₂ h tk E' hv hC hx F N off ne) (fun y s' hy => ?_) fun _ _ e => e
    obtain ⟨h', tk', news', e, F', N', off', hS, hr⟩ := hy
    exact ⟨h', tk', news', e, F', N', off', hS, ih (i + 1) _ _ (by omega) hr⟩
end
theorem ints_get {vs : List Value} {ns : List Int} (hi : IntsAre vs ns) : ∀ (i : Nat) (v : Value), vs.toArray[i]? = some v → ∃ (k : Int) (t : Tok), v = .int k t ∧ ns[i]? = some k := by
  induction hi with
  | nil => intro i v e; simp at e
  | cons k t r ih =>
    intro i v e
    cases i with
    | zero => simp at e; exact ⟨k, t, e.symm, rfl⟩
    | succ i => exact (by simpa using ih i v (by simpa using e))
theorem ints_snoc {vs : List Value} {ns : List Int} (hi : IntsAre vs ns) (k : Int) (t : Tok) : IntsAre (vs ++ [.int k t]) (ns ++ [k]) := by
  induction hi with
  | nil => exact .cons k t .nil
  | cons k' t' r ih => exact .cons k' t' ih
/-- what a comprehension of ints has told so far: the ledger stands, so many ints, each with its word -/
structure CInv (led : List (Addr × Obj)) (P : List Int → Prop) (i : Nat) (ys : List Value) (news : List (Addr × Obj)) : Prop where
  stands : news = led
  told : ∃ ms : List Int, IntsAre ys ms ∧ ms.length = i ∧ P ms
section
variable {prog : Program} {w : World} {A : Around} {E : Value → Shared → Prop} {s : Shared} {Q : Value → Shared → Prop} {h₀ : Heap} {L : Addr} {m : Str → Option Value} {news : List (Addr × Obj)}
theorem lshift_K {a n v : Int} {t u : Tok} (hn : 0 ≤ n) (hn2 : n ≤ 1000000) (ha : a.natAbs < 2 ^ 64) (e : a * 2 ^ n.toNat = v) (h : Q (.int v s.toks) { s with toks := s.toks + 1 }) :
    wpAny (model prog w) A (binaryOp .LShift (.int a t) (.int n u)) Q E s := lshift_int_small hn hn2 ha (e ▸ h)
/-- a list of the ledger at a place that lies in it: what all its items have, the item has -/
theorem item_K {value slice : PySem.Expr} {l : Addr} {vs : List Value} {n : Nat} {k : Int} {u : Tok} (P : Value → Prop) (N : News h₀ L s.heap news) (hm : (l, listOf vs.toArray n) ∈ news)
    (h0 : 0 ≤ k) (h1 : k < (vs.length : Int)) (h2 : k < 2 ^ 63) (hP : ∀ v ∈ vs, P v) (h : ∀ v, vs[k.toNat]? = some v → P v → Q v s)
    (hs : subscripted slice false (.ref l) (.int k u) = operate [.ref l, .int k u] (getItem (.ref l) (.int k u))) :
    wpAny (model prog w) A (subscriptTail value slice (.ref l) (.int k u)) Q E s := by
  have hl : s.heap.IsList l vs.toArray := ⟨_, (N _ hm).1, rfl, _, rfl⟩
  have hlt : k.toNat < vs.length := by omega
  have hx : vs[k.toNat]? = some vs[k.toNat] := by simp [hlt]
  exact tail_any hl.typeIs slot_list_getitem.lookup (wpAny_getItem_list hl h0 h2 (by simpa using hx) (h _ hx (hP _ (List.getElem_mem hlt)))) hs
theorem ld_cell {M : Model} {C c : Addr} {o : Obj} {scope : Scope} {cl : List (Str × Addr)} {env : Env} {x : Str} {pos : Pos} {v : Value} (N : News h₀ L s.heap news) (hc : cl.lookup x = some c) (hm : (c, o) ∈ news) (hd : o.data = .cell (some v)) (h : Q v s)
    (hk : (compEnvC scope cl C env).scope.kind = .function := by rfl) (hl : (compEnvC scope cl C env).kindOf x = some .cell := by rfl) (hb : (x == ("__debug__" : Str)) = false := by decide) :
    wpAny M A (eval (.Name x pos) (compEnvC scope cl C env)) Q E s := wpAny_Name (wpAny_loadName_cell hk hl hc ⟨o, N.get hm, hd⟩ h) hb
end
/-- a while's end: the state stands so and so -/
def WExit (h₀ : Heap) (L : Addr) (s : Shared) (Ex : (Str → Option Value) → List (Addr × Obj) → Prop) (s₂ : Shared) : Prop :=
  ∃ h' tk m' news', s₂ = { s with heap := h', toks := tk } ∧ Fr h₀ L h' m' ∧ News h₀ L h' news' ∧ Ex m' news'
theorem WExit.intro {h₀ h' : Heap} {L : Addr} {s : Shared} {Ex : (Str → Option Value) → List (Addr × Obj) → Prop} {m' : Str → Option Value} {news' : List (Addr × Obj)} {tk : Nat} (F : Fr h₀ L h' m') (N : News h₀ L h' news') (e : Ex m' news') :
    WExit h₀ L s Ex { s with heap := h', toks := tk } := ⟨h', tk, m', news', rfl, F, N, e⟩
def JoinQ (h₀ : Heap) (L : Addr) (s : Shared) (Ex : (Str → Option Value) → List (Addr × Obj) → Prop) (Q : Flow → Shared → Prop) (f : Flow) (s₂ : Shared) : Prop := match f with
  | .next => WExit h₀ L s Ex s₂
  | f => Q f s₂
section
variable {prog : Program} {w : World} {A : Around} {E : Value → Shared → Prop} {Q : Flow → Shared → Prop} {s : Shared} {env : Env} {h₀ : Heap} {L : Addr}
/-- a while by an invariant and a measure, its ends met in one -/
theorem While_join {test : Expr} {body : List Stmt} {pos : Pos} {m : Str → Option Value} {news : List (Addr × Obj)} (J : Nat → (Str → Option Value) → List (Addr × Obj) → Prop) (Ex : (Str → Option Value) → List (Addr × Obj) → Prop) {n₀ : Nat}
    (F : Fr h₀ L s.heap m) (N : News h₀ L s.heap news) (hJ : J n₀ m news)
    (turn : ∀ n m₁ news₁ h₁ tk₁, Fr h₀ L h₁ m₁ → News h₀ L h₁ news₁ → J n m₁ news₁ →
      wpAny (model prog w) A (isTrue test env (eval test env)) (fun b s₂ =>
        if b = true then wpAny (model prog w) A (execs body env) (WhileStep2 h₀ L s J (JoinQ h₀ L s Ex Q) n) E s₂ else WExit h₀ L s Ex s₂) E { s with heap := h₁, toks := tk₁ })
    (done : ∀ m₁ news₁ h₁ tk₁, Fr h₀ L h₁ m₁ → News h₀ L h₁ news₁ → Ex m₁ news₁ → Q .next { s with heap := h₁, toks := tk₁ })
    (hE : PassesOwn (model prog w) A env E) :
    wpAny (model prog w) A (exec (.While test body [] pos) env) Q E s := by
  refine wpAny_mono (While_inv2 (Q := JoinQ h₀ L s Ex Q) J F N hJ turn hE) (fun f s' hf => ?_) fun _ _ e => e
  cases f with
  | next => obtain ⟨h', tk, m', news', rfl, F', N', e⟩ := hf; exact done _ _ _ _ F' N' e
  | _ => exact hf
theorem While_joinJ {test : Expr} {body : List Stmt} {pos : Pos} {m : Str → Option Value} {news : List (Addr × Obj)} (J : Nat → (Str → Option Value) → List (Addr × Obj) → Prop) {n₀ : Nat}
    (F : Fr h₀ L s.heap m) (N : News h₀ L s.heap news) (hJ : J n₀ m news)
    (turn : ∀ n m₁ news₁ h₁ tk₁, Fr h₀ L h₁ m₁ → News h₀ L h₁ news₁ → J n m₁ news₁ →
      wpAny (model prog w) A (isTrue test env (eval test env)) (fun b s₂ =>
        if b = true then wpAny (model prog w) A (execs body env) (WhileStep2 h₀ L s J (JoinQ h₀ L s (fun m news => ∃ n, J n m news) Q) n) E s₂ else WExit h₀ L s (fun m news => ∃ n, J n m news) s₂) E { s with heap := h₁, toks := tk₁ })
    (done : ∀ n m₁ news₁ h₁ tk₁, Fr h₀ L h₁ m₁ → News h₀ L h₁ news₁ → J n m₁ news₁ → Q .next { s with heap := h₁, toks := tk₁ })
    (hE : PassesOwn (model prog w) A env E) :
    wpAny (model prog w) A (exec (.While test body [] pos) env) Q E s := While_join J _ F N hJ turn (fun m₁ news₁ h₁ tk₁ F N ⟨n, j⟩ => done n m₁ news₁ h₁ tk₁ F N j) hE
/-- the length of a list of the ledger -/
theorem len_K {l : Addr} {vs : List Value} {gs : List Int} {n : Nat} {Q : Value → Shared → Prop} {m : Str → Option Value} {news : List (Addr × Obj)} (N : News h₀ L s.heap news) (hm : (l, listOf vs.toArray n) ∈ news) (hi : IntsAre vs gs) (hz : gs.length ≤ 60)
    (h : ∀ t tk, Q (.int (gs.length : Nat) t) { s with toks := tk }) : wpAny (model prog w) A (call (.builtin "len") [.ref l]) Q E s :=
  kun_lenL (k := (gs.length : Nat)) ⟨_, (N _ hm).1, rfl, _, rfl⟩ (by rw [List.size_toArray, hi.length]) (by omega) (h _ _)
end
section
variable {prog : Program} {w : World} {A : Around} {E : Value → Shared → Prop} {s : Shared} {Q : Value → Shared → Prop} {h₀ : Heap} {L : Addr} {news : List (Addr × Obj)}
theorem ints_at {vs : List Value} {gs : List Int} (hi : IntsAre vs gs) : ∀ i : Nat, i < gs.length → ∃ t, vs[i]? = some (.int (gs.getD i 0) t) := by
  induction hi with
  | nil => intro i h; simp at h
  | cons k t r ih =>
    intro i h
    cases i with
    | zero => exact ⟨t, rfl⟩
    | succ i =>
      obtain ⟨t', e⟩ := ih i (by simpa using h)
      exact ⟨t', by simpa using e⟩
theorem itemI_K {value slice : PySem.Expr} {l : Addr} {vs : List Value} {gs : List Int} {n : Nat} {k : Int} {u : Tok} (N : News h₀ L s.heap news) (hm : (l, listOf vs.toArray n) ∈ news) (hi : IntsAre vs gs)
    (h0 : 0 ≤ k) (h1 : k < (gs.length : Int)) (h2 : gs.length ≤ 60) (h : ∀ t, Q (.int (gs.getD k.toNat 0) t) s)
    (hs : subscripted slice false (.ref l) (.int k u) = operate [.ref l, .int k u] (getItem (.ref l) (.int k u))) :
    wpAny (model prog w) A (subscriptTail value slice (.ref l) (.int k u)) Q E s := by
  have hl : s.heap.IsList l vs.toArray := ⟨_, (N _ hm).1, rfl, _, rfl⟩
  obtain ⟨t, hx⟩ := ints_at hi k.toNat (by omega)
  exact tail_any hl.typeIs slot_list_getitem.lookup (wpAny_getItem_list hl h0 (by omega) (by simpa using hx) (h t)) hs
end

end PartComp

section PartTryX
local macro_rules | `(tactic| walk_at "m enter") => `(tactic| (refine' code_defS ?k1 ?k2 ?k3 ?k4 ?k5 ?kA ?kF ?kK ?k6 ?k7 ?k8 ?k9 ?kB ?_ ?c2 ?c3 ?c4 ?c5; (case kA => exact rfl); (case kF => exact rfl); (case kK => assumption); (case k1 => k_asm); (case k2 => k_asm); (case k3 => k_asm); (case k4 => k_asm); (case k5 => k_asm); (case k6 => k_is); (case k7 => k_is); (case k8 => ktr_room); (case k9 => exact BindsTo.of_eq rfl); (case c5 => decide); (case kB => exact locs rfl); (case c2 => exact rfl); (case c3 => exact rfl); (case c4 => exact rfl); k_whole; intro g' L' h' FG' F' N' B' X' T'; (try dsimp only); (try k_lift B'); (try k_fold)))
local macro_rules | `(tactic| units_room) => `(tactic| (have hcL' := cLine_is; simp only [units_in1, units_deeper, Around.mark_units]; (try dsimp only [ktrTop]); omega))
local macro_rules | `(tactic| ktr_room) => `(tactic| ((try simp only [depth_in1, depth_deeper]); (try dsimp only [ktrTop]); (try simp only [recursionLimit]); omega))
local macro_rules | `(tactic| k_room) => `(tactic| ktr_room)
local macro_rules | `(tactic| walk_at "eval ListComp") => `(tactic| (k_here; k_dflt (refine LCg.ListComp_U (F₀ := by k_asm) (by rfl) (by decide) (by rfl) (by decide) (by rfl) ?_)))
local macro_rules | `(tactic| walk_at "CompSrc") => `(tactic| (k_here; k_dflt (first
  | (refine LCg.CompSrc.base (by rfl) (by k_asm) (by k_asm) (by assumption) ?hz ?_; (case hz => ((have hL9 := IntsAre.length (by assumption)); simp only [List.size_toArray, sizeLine_eq]; omega)); intro g')
  | (refine LCg.CompSrc.range (by rfl) (by k_asm) (by k_asm) (by assumption) ?sm (rangeSize_up _) ?hz ?_; (case sm => exact small_one (by omega) (by omega) (by omega) (by omega)); (case hz => (simp only [sizeLine_eq]; omega)); intro g'))))
local macro_rules | `(tactic| walk_at "call type:range") => `(tactic| (k_here; k_dflt (refine' range1_rows ?kF ?kN ?_; (case kF => k_asm); (case kN => k_asm); intro h' tk' t1' u1' v1' hR' F' N' hk')))
local macro_rules | `(tactic| walk_at "execs nil") => `(tactic| (with_reducible refine wpAny_execs_nil ?_))
local macro_rules | `(tactic| walk_at "m enterC") => `(tactic| (refine' code_defCS ?k1 ?k2 ?k3 ?k4 ?k5 ?kA ?kF ?kK ?k6 ?k7 ?k8 ?k9 ?kB ?kD ?_ ?c2 ?c3 ?c4; (case kA => exact rfl); (case kF => exact rfl); (case kK => assumption); (case k1 => k_asm); (case k2 => k_asm); (case k3 => k_asm); (case k4 => k_asm); (case k5 => k_asm); (case k6 => k_is); (case k7 => k_is); (case k8 => ktr_room); (case k9 => exact BindsTo.of_eq rfl); (case kB => exact rfl); (case kD => decide +kernel); (case c2 => exact rfl); (case c3 => exact rfl); (case c4 => exact rfl); k_whole; intro g' L' h' tk' cells' FG' F' N' Y' B' X' T' l1; (try k_lt l1); k_cells Y'; (try simp only [List.cons_append, List.nil_append] at N'); (try dsimp only); (try k_lift B'); (try k_fold)))
local macro_rules | `(tactic| walk_at "m step") => `(tactic| ((fail_if_success (with_reducible show wpAny _ _ (exec (Stmt.While _ _ _ _) _) _ _ _)); (fail_if_success (with_reducible show LCg.CompRest _ _ _ _ _ _ _ _ _ _ _ _ _ _ _ _ _ _ _)); (first | (k_unfold; (try dsimp only)) | (k_end; kc_close) | walk1 | (dsimp only; walk1) | (leave1; walk_say "STEP leave1"; (try dsimp only)) | fail "no step")))
local macro_rules | `(tactic| walk_at "m steps") => `(tactic| repeat' ((fail_if_success (with_reducible show wpAny _ _ (exec (Stmt.While _ _ _ _) _) _ _ _)); (fail_if_success (with_reducible show LCg.CompRest _ _ _ _ _ _ _ _ _ _ _ _ _ _ _ _ _ _ _)); (first | (k_unfold; (try dsimp only)) | (k_end; kc_close) | walk1 | (dsimp only; walk1) | (leave1; walk_say "STEP leave1"; (try dsimp only)) | fail "no step")))
local macro_rules | `(tactic| walk_at "m room") => `(tactic| ((try simp only [depth_in1, depth_deeper, units_in1, units_deeper, depth_caller, units_caller]); (try dsimp only [ktrTop]); omega))
local macro_rules | `(tactic| walk_at "binaryOp LShift int int") => `(tactic| (k_here; k_dflt ((refine' lshift_K ?ka ?kb ?kc ?ke ?_); (case ka => first | decide | omega); (case kb => first | decide | omega); (case kc => first | decide | omega); (case ke => ((try simp only [Int.reduceSub, Int.reduceAdd, Int.reduceToNat, Int.reducePow, Int.reduceMul, Int.one_mul]); exact rfl)); k_whole)))
local macro_rules | `(tactic| walk_at "callWith ref") => `(tactic| (k_here; k_dflt (refine' callWith_K ?k1 ?k2 ?_; (case k1 => k_asm); (case k2 => k_is); k_whole)))
local macro_rules | `(tactic| walk_at "m enterT") => `(tactic| (refine' code_defX0 ?k1 ?k2 ?k3 ?k4 ?k5 ?kA ?kF ?kK ?k6 ?k7 ?k8 ?k9 ?kB ?_ ?c2 ?c3 ?c4 ?c5; (case kA => exact rfl); (case kF => exact rfl); (case kK => assumption); (case k1 => k_asm); (case k2 => k_asm); (case k3 => k_asm); (case k4 => k_asm); (case k5 => k_asm); (case k6 => k_is); (case k7 => k_is); (case k8 => ktr_room); (case k9 => exact BindsTo.of_eq rfl); (case c5 => decide); (case kB => exact locs rfl); (case c2 => exact rfl); (case c3 => exact rfl); (case c4 => exact rfl); k_whole; intro g' L' h' FG' F' N' B' X' T' D'; (try dsimp only); (try k_lift B'); (try k_fold)))
theorem frames_mem {env : Env} {L b : Addr} {outer : List Env} (hf : env.frame = some L) (hm : b ∈ (env :: outer).filterMap (·.frame)) : b = L ∨ b ∈ outer.filterMap (·.frame) := by
  obtain ⟨env', he, hf'⟩ := List.mem_filterMap.mp hm
  rcases List.mem_cons.mp he with rfl | he
  · exact .inl (Option.some.inj (hf.symm.trans hf')).symm
  · exact .inr (List.mem_filterMap.mpr ⟨env', he, hf'⟩)
section
variable {M : Model} {A : Around} {E : Value → Shared → Prop} {s' : Shared} {base g h : Heap} {outer : List Env} {L e : Addr} {m : Str → Option Value} {env : Env} {Q : Unit → Shared → Prop} {news : List (Addr × Obj)}
/-- an own exception leaves a frame of any make -/
theorem leave_raiseX {cls : Value} {vs : List Value} (K : Below A base outer g) (hx : Heap.MadeExcOf h s'.heap e cls vs) (F : Fr g L h m) (N : News g L h news) (hf : env.frame = some L) (hk : env.scope.kind = .function)
    (hQ : ∀ h' t, RaisedS base g outer e cls t vs news h' → RaisedK base outer e cls t vs news h' → g.UpToSlots h' → Q () { s' with heap := h' }) :
    wpAny M (A.deeper env) (leaving env (.ref e)) Q E s' := by
  have K' := pushX K F hf hk
  have hin : ∀ env' ∈ (env :: outer), ∀ b, env'.frame = some b → b ∈ (env :: outer).filterMap (·.frame) := fun env' he b hb => List.mem_filterMap.mpr ⟨env', he, hb⟩
  have st : base.StaysIn (hideAll h ((env :: outer).filterMap (·.frame))) := fun b o q => hideAll_get _ (K'.stays b o q) fun hm => by
    rw [(K'.frames.mem hm).1] at q; cases q
  have sg : ∀ b o, g.get? b = some o → b ∉ outer.filterMap (·.frame) → (hideAll h ((env :: outer).filterMap (·.frame))).get? b = some o := fun b o q nm => hideAll_get _ (F.keep b o q) fun hm => by
    rcases frames_mem hf hm with z | z
    · rw [z, kts_self F] at q
      cases q
    · exact nm z
  have hl : ∀ q ∈ news, (hideAll h ((env :: outer).filterMap (·.frame))).get? q.1 = some q.2 ∧ g.get? q.1 = none ∧ base.get? q.1 = none := fun q hq => by
    refine ⟨hideAll_get _ (N q hq).1 fun hm => ?_, (N q hq).2.2, fresh_of_stays K.stays (N q hq).2.2⟩
    rcases frames_mem hf hm with z | z
    · exact (N q hq).2.1 z
    · obtain ⟨o, ho, _⟩ := (K.frames.mem z).2
      rw [(N q hq).2.2] at ho; cases ho
  exact wpAny_leaves_madeW K'.stack hf (fun b o q => of_hideAll _ q) (funFrames_hide K'.frames hin) hx fun h' t x1 x2 x3 x4 =>
    have R : RaisedS base g outer e cls t vs news h' := ⟨⟨_, st, sg, hl, x1, x3⟩, x2⟩
    hQ h' t R R.toK (((Heap.UpToSlots.of_keeps F.keep).trans (Heap.UpToSlots.of_keeps hx.keeps)).trans x4)
/-- a built-in exception leaves a frame of any make -/
theorem leave_newX {cls : String} (K : Below A base outer g) (hx : Heap.NewExc h s'.heap e cls) (F : Fr g L h m) (N : News g L h news) (hf : env.frame = some L) (hk : env.scope.kind = .function)
    (hQ : ∀ h', RaisedSN base g outer e (.type cls) news h' → RaisedN base outer e (.type cls) news h' → g.UpToSlots h' → Q () { s' with heap := h' }) :
    wpAny M (A.deeper env) (leaving env (.ref e)) Q E s' := by
  have K' := pushX K F hf hk
  have hin : ∀ env' ∈ (env :: outer), ∀ b, env'.frame = some b → b ∈ (env :: outer).filterMap (·.frame) := fun env' he b hb => List.mem_filterMap.mpr ⟨env', he, hb⟩
  have st : base.StaysIn (hideAll h ((env :: outer).filterMap (·.frame))) := fun b o q => hideAll_get _ (K'.stays b o q) fun hm => by
    rw [(K'.frames.mem hm).1] at q; cases q
  have sg : ∀ b o, g.get? b = some o → b ∉ outer.filterMap (·.frame) → (hideAll h ((env :: outer).filterMap (·.frame))).get? b = some o := fun b o q nm => hideAll_get _ (F.keep b o q) fun hm => by
    rcases frames_mem hf hm with z | z
    · rw [z, kts_self F] at q
      cases q
    · exact nm z
  have hl : ∀ q ∈ news, (hideAll h ((env :: outer).filterMap (·.frame))).get? q.1 = some q.2 ∧ g.get? q.1 = none ∧ base.get? q.1 = none := fun q hq => by
    refine ⟨hideAll_get _ (N q hq).1 fun hm => ?_, (N q hq).2.2, fresh_of_stays K.stays (N q hq).2.2⟩
    rcases frames_mem hf hm with z | z
    · exact (N q hq).2.1 z
    · obtain ⟨o, ho, _⟩ := (K.frames.mem z).2
      rw [(N q hq).2.2] at ho; cases ho
  obtain ⟨ob, tp, he, hcls, hd⟩ := hx.there
  have hen : (hideAll h ((env :: outer).filterMap (·.frame))).get? e = none := by
    cases q : (hideAll h ((env :: outer).filterMap (·.frame))).get? e with
    | none => rfl
    | some o => have := of_hideAll _ q; rw [hx.new] at this; cases this
  refine wpAny_leaving_firstW (a0 := tp) K'.stack ((funFrames_hide K'.frames hin).of_keeps fun b o hb _ => ⟨o, hx.keeps b o hb, rfl⟩) hf he (fun b o hb => hx.keeps b o (of_hideAll _ hb)) hen hd rfl rfl fun h' hL => ?_
  obtain ⟨k1, ⟨_, _, k2⟩, k3, k4⟩ := hL
  have R : RaisedSN base g outer e (.type cls) news h' := ⟨_, tp, st, sg, hl, k1, hen, k2, by rw [← hcls]; exact k3⟩
  exact hQ h' R R.toN (((Heap.UpToSlots.of_keeps F.keep).trans (Heap.UpToSlots.of_keeps hx.keeps)).trans k4)
end
section
variable {prog : Program} {w : World} {A₀ A : Around} {s : Shared} {base h₀ : Heap} {L : Addr} {m : Str → Option Value} {env : Env} {news : List (Addr × Obj)} {K : Frag} {p : Program} {loose : List Str} {mean : ExcName → Option Value} {mg mb : Str → Option Value}
    {R : Result → Shared → Prop} {name qual : Str} {params : Arguments} {body : List Stmt} {scope : Scope} {dV kV doc pm cdv ct oc : Value} {an od : Option Addr} {osl : Array (Option Value)} {f : Addr} {args : Args} {binds : List (Str × Value)}
/-- a def that catches, called from the outermost frame, of any make -/
theorem code_defX0 (B : Below A₀ base [] h₀) (F : Fr h₀ L s.heap m) (X₀ : K.In h₀) (N : News h₀ L s.heap news) (T : Top p loose mean mg mb h₀) (hA : A.frames = some [env]) (hf : env.frame = some L) (hke : env.scope.kind = .function)
    (ho : K.lookup f = some ⟨oc, od, .func (fnOf name qual params body scope dV kV doc pm an cdv ct), osl⟩) (hcd : codeIn K cdv qual = true) (hroom : A.depth < recursionLimit)
    (hbind : BindsTo s (fnOf name qual params body scope dV kV doc pm an cdv ct) args binds) (hloc : ∀ y ∈ binds, scope.names.lookup y.1 = some .local)
    (h : ∀ g L' h₁, Fr h₀ L g m → Fr g L' h₁ (fun y => binds.reverse.lookup y) → News g L' h₁ news → Below A base [env] g → K.In g → Top p loose mean mg mb g → KtsDicts ([env].filterMap (·.frame)) g →
      wpAny (model prog w) (A.deeper (envOf qual scope L' f cdv)) (execs body (envOf qual scope L' f cdv))
        (fun fl s' => LeaveS0 ([env].filterMap (·.frame)) h₀ L m g R (match fl with | .ret v => v | _ => .none) s')
        (fun e s' => wpAny (model prog w) (A.deeper (envOf qual scope L' f cdv)) (leaving (envOf qual scope L' f cdv) e) (fun _ s'' => R (.error e) s'') (fun e' s'' => R (.error e') s'') s')
        { s with heap := h₁, toks := s.toks + binds.length })
    (hco : scope.isCoroutine = false) (hgen : scope.isGenerator = false) (hk : scope.kind = .function)
    (hcell : ∀ x ∈ scope.names, x.2 ≠ .cell) : codeAny (model prog w) A (.call (.ref f) args) R s := by
  have X := X₀.keeps F.keep
  obtain ⟨FG, B₂, st, _⟩ := groundX (R := R) B F N hA hf hke
  have F0 := F
  obtain ⟨oL, es, ep, hL, hLd, hLk, hLf⟩ := F0.ns
  have nL : L ∉ news.map (·.1) := fun q => by
    obtain ⟨p, hp, e⟩ := List.mem_map.mp q
    exact (N p hp).2.1 e
  have hLg := hideAll_get (news.map (·.1)) hL nL
  refine codeAny_call_def (fd := fnOf name qual params body scope dV kV doc pm an cdv ct) (body := body) (binds := binds) hroom (X _ _ ho) rfl (T.nolimit.keeps F.keep) (codeRec_of X hcd) rfl hbind hcell hloc (fun h₁ hns hk₁ => ?_) hco hgen hk
  refine wpAny_mono (h _ s.heap.objs.size h₁ FG ⟨hns, fun b o e => hk₁ b o (of_hideAll _ e), Nat.le_of_eq (hideAll_size _ _)⟩
    (fun p hp => ⟨hk₁ _ _ (N p hp).1, Nat.ne_of_lt (Heap.lt_size (N p hp).1), hideAll_none _ (List.mem_map_of_mem hp)⟩) B₂ (X₀.keeps st) (T.keeps st) (fun b hb => by
      rcases frames_mem hf hb with rfl | z
      · exact ⟨oL, es, ep, hLg, hLd⟩
      · simp at z)) (fun fl s' hl => ?_) fun _ _ y => y
  obtain ⟨g', L', m', news', T', F', N', k⟩ := hl
  have nL₀ : h₀.get? L = none := kts_self F
  obtain ⟨sl, hs⟩ := T'.up hLg
  refine k ⟨⟨_, es, ep, F'.keep _ _ hs, hLd, hLk, hLf⟩, fun b o e => F'.keep b o (T'.other b o (st b o e) (fun q => by
    rcases frames_mem hf q with z | z
    · rw [z, nL₀] at e
      cases e
    · simp at z)), F.above⟩ fun p hp => ⟨(N' p hp).1, fun q => ?_, ?_⟩
  · have := (N' p hp).2.2; rw [q, hs] at this; cases this
  · cases q : h₀.get? p.1 with
    | none => rfl
    | some o =>
      obtain ⟨sl', hs'⟩ := T'.up (st _ _ q)
      have := (N' p hp).2.2
      rw [hs'] at this
      cases this
end
theorem loadX_L {M : Model} {A : Around} {E : Value → Shared → Prop} {s : Shared} {h₀ : Heap} {L a : Addr} {m : Str → Option Value} {cn : Str} {cs : Scope} {ccd : Value} {cl : List (Str × Addr)} {x : Str} {v : Value} {Q : Value → Shared → Prop}
    (F : Fr h₀ L s.heap m) (hv : m x = some v) (h : Q v s) (hk : cs.kind = .function := by rfl) (hx : (envX cn cs L a ccd cl).kindOf x = some .local := by rfl) : wpAny M A (loadName (envX cn cs L a ccd cl) x) Q E s :=
  wpAny_loadName_local hk hx F.ns hv h
section
variable {prog : Program} {w : World} {A : Around} {E : Value → Shared → Prop} {s : Shared} {K : Frag} {C L a : Addr} {h₀ : Heap} {m mg mb : Str → Option Value} {cn : Str} {cs : Scope} {ccd : Value} {cl : List (Str × Addr)} {p : Program} {loose : List Str} {x : Str} {np cpos pos : Pos} {bmB : List Value} {B newId initId : String} {Q : Flow → Shared → Prop}
/-- raise of an own class with a text, in a frame of any make -/
theorem Raise_ownX {e₀ : PySem.Expr} {rest : List PySem.Expr} (F : Fr h₀ L s.heap m) (X : K.In h₀) (T : TopRead p loose mg mb h₀) (ex : nsIn K mainGlobals x = some (some (.ref C))) (q : excIn K C bmB newId = true) (FB : ExcBaseFacts B newId initId bmB) (hh : A.handled = none)
    (h : wpAny (model prog w) A (spliced (backTo cpos (starEach (e₀ :: rest) (envX cn cs L a ccd cl)))) (fun vs s₂ => vs.length ≤ sizeLine ∧ (∀ b o, h₀.get? b = some o → s₂.heap.get? b = some o) ∧
      ∀ h' e, Heap.MadeExcOf s₂.heap h' e (.ref C) vs → E (.ref e) { s₂ with heap := h' }) E s)
    (he : starEach (e₀ :: rest) (envX cn cs L a ccd cl) = (false, eval e₀ (envX cn cs L a ccd cl)) :: starEach rest (envX cn cs L a ccd cl) := by rfl)
    (hplain : (backTo cpos (starEach rest (envX cn cs L a ccd cl))).any (·.1) = false := by rfl)
    (hk : cs.kind = .function := by rfl) (hx : (envX cn cs L a ccd cl).kindOf x = some .globalImplicit := by rfl) (hd : (x == ("__debug__" : Str)) = false := by decide) :
    wpAny (model prog w) A (exec (.Raise (some (.Call (.Name x np) (e₀ :: rest) [] cpos)) none pos) (envX cn cs L a ccd cl)) Q E s := by
  have O : OwnCls x C bmB newId mg h₀ := own_of_in X T ex q
  obtain ⟨tl, N, nm, q, bs, hdct, sn, sub, ab, col, dd, k0, k1, k2, k3, k5, mN, hC, hN, hni, T'⟩ := O.obj
  refine wpAny_Raise_call_subT (C := C) (nm := nm) (q := q) (N := N) (bs := bs) (bm := tl) (hdct := hdct) (sn := sn) (sub := sub) (ab := ab) (col := col) (dd := dd) (k0 := k0) (k1 := k1) (k2 := k2) (k3 := k3) (k5 := k5)
    FB (mN := mN) (T'.hasType FB.hasBase) hh (by rw [he]; show (false || (backTo cpos (starEach rest (envX cn cs L a ccd cl))).any (·.1)) = false; rw [hplain]; rfl) hni (nameX_K F X T ex ⟨rfl, ?_⟩ hk hx hd)
  rw [he] at h ⊢
  exact Calls.evalArgs_plain (wpAny_mono h (fun vs s₂ h₂ => ⟨rfl, h₂.1, h₂.2.1 _ _ hC, hN.keeps h₂.2.1, T'.keeps h₂.2.1, h₂.2.2⟩) fun _ _ y => y)
end

end PartTryX

section PartBytesX
local macro_rules | `(tactic| walk_at "m enter") => `(tactic| (refine' code_defS ?k1 ?k2 ?k3 ?k4 ?k5 ?kA ?kF ?kK ?k6 ?k7 ?k8 ?k9 ?kB ?_ ?c2 ?c3 ?c4 ?c5; (case kA => exact rfl); (case kF => exact rfl); (case kK => assumption); (case k1 => k_asm); (case k2 => k_asm); (case k3 => k_asm); (case k4 => k_asm); (case k5 => k_asm); (case k6 => k_is); (case k7 => k_is); (case k8 => ktr_room); (case k9 => exact BindsTo.of_eq rfl); (case c5 => decide); (case kB => exact locs rfl); (case c2 => exact rfl); (case c3 => exact rfl); (case c4 => exact rfl); k_whole; intro g' L' h' FG' F' N' B' X' T'; (try dsimp only); (try k_lift B'); (try k_fold)))
local macro_rules | `(tactic| units_room) => `(tactic| (have hcL' := cLine_is; simp only [units_in1, units_deeper, Around.mark_units]; (try dsimp only [ktrTop]); omega))
local macro_rules | `(tactic| ktr_room) => `(tactic| ((try simp only [depth_in1, depth_deeper]); (try dsimp only [ktrTop]); (try simp only [recursionLimit]); omega))
local macro_rules | `(tactic| k_room) => `(tactic| ktr_room)
local macro_rules | `(tactic| walk_at "eval ListComp") => `(tactic| (k_here; k_dflt (refine LCg.ListComp_U (F₀ := by k_asm) (by rfl) (by decide) (by rfl) (by decide) (by rfl) ?_)))
local macro_rules | `(tactic| walk_at "CompSrc") => `(tactic| (k_here; k_dflt (first
  | (refine LCg.CompSrc.base (by rfl) (by k_asm) (by k_asm) (by assumption) ?hz ?_; (case hz => ((have hL9 := IntsAre.length (by assumption)); simp only [List.size_toArray, sizeLine_eq]; omega)); intro g')
  | (refine LCg.CompSrc.range (by rfl) (by k_asm) (by k_asm) (by assumption) ?sm (rangeSize_up _) ?hz ?_; (case sm => exact small_one (by omega) (by omega) (by omega) (by omega)); (case hz => (simp only [sizeLine_eq]; omega)); intro g'))))
local macro_rules | `(tactic| walk_at "call type:range") => `(tactic| (k_here; k_dflt (refine' range1_rows ?kF ?kN ?_; (case kF => k_asm); (case kN => k_asm); intro h' tk' t1' u1' v1' hR' F' N' hk')))
local macro_rules | `(tactic| walk_at "execs nil") => `(tactic| (with_reducible refine wpAny_execs_nil ?_))
local macro_rules | `(tactic| walk_at "m enterC") => `(tactic| (refine' code_defCS ?k1 ?k2 ?k3 ?k4 ?k5 ?kA ?kF ?kK ?k6 ?k7 ?k8 ?k9 ?kB ?kD ?_ ?c2 ?c3 ?c4; (case kA => exact rfl); (case kF => exact rfl); (case kK => assumption); (case k1 => k_asm); (case k2 => k_asm); (case k3 => k_asm); (case k4 => k_asm); (case k5 => k_asm); (case k6 => k_is); (case k7 => k_is); (case k8 => ktr_room); (case k9 => exact BindsTo.of_eq rfl); (case kB => exact rfl); (case kD => decide +kernel); (case c2 => exact rfl); (case c3 => exact rfl); (case c4 => exact rfl); k_whole; intro g' L' h' tk' cells' FG' F' N' Y' B' X' T' l1; (try k_lt l1); k_cells Y'; (try simp only [List.cons_append, List.nil_append] at N'); (try dsimp only); (try k_lift B'); (try k_fold)))
local macro_rules | `(tactic| walk_at "m step") => `(tactic| ((fail_if_success (with_reducible show wpAny _ _ (exec (Stmt.While _ _ _ _) _) _ _ _)); (fail_if_success (with_reducible show LCg.CompRest _ _ _ _ _ _ _ _ _ _ _ _ _ _ _ _ _ _ _)); (first | (k_unfold; (try dsimp only)) | (k_end; kc_close) | walk1 | (dsimp only; walk1) | (leave1; walk_say "STEP leave1"; (try dsimp only)) | fail "no step")))
local macro_rules | `(tactic| walk_at "m steps") => `(tactic| repeat' ((fail_if_success (with_reducible show wpAny _ _ (exec (Stmt.While _ _ _ _) _) _ _ _)); (fail_if_success (with_reducible show LCg.CompRest _ _ _ _ _ _ _ _ _ _ _ _ _ _ _ _ _ _ _)); (first | (k_unfold; (try dsimp only)) | (k_end; kc_close) | walk1 | (dsimp only; walk1) | (leave1; walk_say "STEP leave1"; (try dsimp only)) | fail "no step")))
local macro_rules | `(tactic| walk_at "m room") => `(tactic| ((try simp only [depth_in1, depth_deeper, units_in1, units_deeper, depth_caller, units_caller]); (try dsimp only [ktrTop]); omega))
local macro_rules | `(tactic| walk_at "binaryOp LShift int int") => `(tactic| (k_here; k_dflt ((refine' lshift_K ?ka ?kb ?kc ?ke ?_); (case ka => first | decide | omega); (case kb => first | decide | omega); (case kc => first | decide | omega); (case ke => ((try simp only [Int.reduceSub, Int.reduceAdd, Int.reduceToNat, Int.reducePow, Int.reduceMul, Int.one_mul]); exact rfl)); k_whole)))
local macro_rules | `(tactic| walk_at "callWith ref") => `(tactic| (k_here; k_dflt (refine' callWith_K ?k1 ?k2 ?_; (case k1 => k_asm); (case k2 => k_is); k_whole)))
local macro_rules | `(tactic| walk_at "m enterT") => `(tactic| (refine' code_defX0 ?k1 ?k2 ?k3 ?k4 ?k5 ?kA ?kF ?kK ?k6 ?k7 ?k8 ?k9 ?kB ?_ ?c2 ?c3 ?c4 ?c5; (case kA => exact rfl); (case kF => exact rfl); (case kK => assumption); (case k1 => k_asm); (case k2 => k_asm); (case k3 => k_asm); (case k4 => k_asm); (case k5 => k_asm); (case k6 => k_is); (case k7 => k_is); (case k8 => ktr_room); (case k9 => exact BindsTo.of_eq rfl); (case c5 => decide); (case kB => exact locs rfl); (case c2 => exact rfl); (case c3 => exact rfl); (case c4 => exact rfl); k_whole; intro g' L' h' FG' F' N' B' X' T' D'; (try dsimp only); (try k_lift B'); (try k_fold)))
section
variable {prog : Program} {w : World} {A : Around} {E : Value → Shared → Prop} {s : Shared} {h₀ : Heap} {L : Addr} {m : Str → Option Value} {news : List (Addr × Obj)} {value slice : PySem.Expr} {b : Array UInt8} {ks : List Int} {t u v : Tok} {Q : Value → Shared → Prop}
theorem drop_min {α : Type} (l : List α) (a : Nat) : l.drop (min a l.length) = l.drop a := kmk_drop_min l a
theorem cut_list (ks : List Int) (i j : Nat) : (ks.drop (min i ks.length)).take (min j ks.length - min i ks.length) = (ks.drop i).take (j - i) := by
  rw [drop_min]
  by_cases h : j ≤ ks.length
  · by_cases h2 : i ≤ ks.length
    · rw [Nat.min_eq_left h, Nat.min_eq_left h2]
    · rw [List.drop_of_length_le (by omega)]; simp
  · by_cases h2 : i ≤ ks.length
    · rw [Nat.min_eq_right (by omega), Nat.min_eq_left h2, List.take_of_length_le (by rw [List.length_drop]; omega), List.take_of_length_le (by rw [List.length_drop]; omega)]
    · rw [List.drop_of_length_le (by omega)]; simp
theorem bslice_K {x y : Int} {i j : Nat} (F : Fr h₀ L s.heap m) (N : News h₀ L s.heap news) (hk : KBw.bInts b = ks) (hx : x = (i : Int)) (hy : y = (j : Int)) (hz : ks.length ≤ 60)
    (h : ∀ b' h' t' k, Fr h₀ L h' m → News h₀ L h' news → KBw.bInts b' = (ks.drop i).take (j - i) → Q (.bytes b' t') { s with heap := h', toks := k })
    (hs : subscripted slice false (.bytes b t) (.ref s.heap.objs.size) = operate [.ref s.heap.objs.size, .bytes b t] (getItem (.bytes b t) (.ref s.heap.objs.size)))
    (ht : ∀ r, letTemporaryGo value (.bytes b t) r = pure ()) :
    wpAny (model prog w) A (subscriptTail value slice (.bytes b t) (.ref s.heap.objs.size)) Q E { s with heap := s.heap.push { cls := .type "slice", data := .fields #[.int x u, .int y v, .none] } } := by
  subst hx
  subst hy
  refine KBc.slice_K F N hk (.int _ _) (.int _ _) (by omega) (fun h' t' k F' N' e => h _ h' t' k F' N' ?_) hs ht
  rw [e]
  show (ks.drop (clipAt ks.length i)).take (clipAt ks.length j - clipAt ks.length i) = _
  rw [clipAt_nat, clipAt_nat, cut_list]
theorem bsliceTo_K {y : Int} {j : Nat} (F : Fr h₀ L s.heap m) (N : News h₀ L s.heap news) (hk : KBw.bInts b = ks) (hy : y = (j : Int)) (hz : ks.length ≤ 60)
    (h : ∀ b' h' t' k, Fr h₀ L h' m → News h₀ L h' news → KBw.bInts b' = ks.take j → Q (.bytes b' t') { s with heap := h', toks := k })
    (hs : subscripted slice false (.bytes b t) (.ref s.heap.objs.size) = operate [.ref s.heap.objs.size, .bytes b t] (getItem (.bytes b t) (.ref s.heap.objs.size)))
    (ht : ∀ r, letTemporaryGo value (.bytes b t) r = pure ()) :
    wpAny (model prog w) A (subscriptTail value slice (.bytes b t) (.ref s.heap.objs.size)) Q E { s with heap := s.heap.push { cls := .type "slice", data := .fields #[.none, .int y v, .none] } } := by
  subst hy
  refine KBc.slice_K F N hk .none (.int _ _) (by omega) (fun h' t' k F' N' e => h _ h' t' k F' N' ?_) hs ht
  rw [e]
  show (ks.drop 0).take (clipAt ks.length j - 0) = _
  rw [clipAt_nat, List.drop_zero, Nat.sub_zero]
  exact kmk_take_min ks j
end

end PartBytesX

section PartForTup
local macro_rules | `(tactic| walk_at "m enter") => `(tactic| (refine' code_defS ?k1 ?k2 ?k3 ?k4 ?k5 ?kA ?kF ?kK ?k6 ?k7 ?k8 ?k9 ?kB ?_ ?c2 ?c3 ?c4 ?c5; (case kA => exact rfl); (case kF => exact rfl); (case kK => assumption); (case k1 => k_asm); (case k2 => k_asm); (case k3 => k_asm); (case k4 => k_asm); (case k5 => k_asm); (case k6 => k_is); (case k7 => k_is); (case k8 => ktr_room); (case k9 => exact BindsTo.of_eq rfl); (case c5 => decide); (case kB => exact locs rfl); (case c2 => exact rfl); (case c3 => exact rfl); (case c4 => exact rfl); k_whole; intro g' L' h' FG' F' N' B' X' T'; (try dsimp only); (try k_lift B'); (try k_fold)))
local macro_rules | `(tactic| units_room) => `(tactic| (have hcL' := cLine_is; simp only [units_in1, units_deeper, Around.mark_units]; (try dsimp only [ktrTop]); omega))
local macro_rules | `(tactic| ktr_room) => `(tactic| ((try simp only [depth_in1, depth_deeper]); (try dsimp only [ktrTop]); (try simp only [recursionLimit]); omega))
local macro_rules | `(tactic| k_room) => `(tactic| ktr_room)
local macro_rules | `(tactic| walk_at "eval ListComp") => `(tactic| (k_here; k_dflt (refine LCg.ListComp_U (F₀ := by k_asm) (by rfl) (by decide) (by rfl) (by decide) (by rfl) ?_)))
local macro_rules | `(tactic| walk_at "CompSrc") => `(tactic| (k_here; k_dflt (first
  | (refine LCg.CompSrc.base (by rfl) (by k_asm) (by k_asm) (by assumption) ?hz ?_; (case hz => ((have hL9 := IntsAre.length (by assumption)); simp only [List.size_toArray, sizeLine_eq]; omega)); intro g')
  | (refine LCg.CompSrc.range (by rfl) (by k_asm) (by k_asm) (by assumption) ?sm (rangeSize_up _) ?hz ?_; (case sm => exact small_one (by omega) (by omega) (by omega) (by omega)); (case hz => (simp only [sizeLine_eq]; omega)); intro g'))))
local macro_rules | `(tactic| walk_at "call type:range") => `(tactic| (k_here; k_dflt (refine' range1_rows ?kF ?kN ?_; (case kF => k_asm); (case kN => k_asm); intro h' tk' t1' u1' v1' hR' F' N' hk')))
local macro_rules | `(tactic| walk_at "execs nil") => `(tactic| (with_reducible refine wpAny_execs_nil ?_))
local macro_rules | `(tactic| walk_at "m enterC") => `(tactic| (refine' code_defCS ?k1 ?k2 ?k3 ?k4 ?k5 ?kA ?kF ?kK ?k6 ?k7 ?k8 ?k9 ?kB ?kD ?_ ?c2 ?c3 ?c4; (case kA => exact rfl); (case kF => exact rfl); (case kK => assumption); (case k1 => k_asm); (case k2 => k_asm); (case k3 => k_asm); (case k4 => k_asm); (case k5 => k_asm); (case k6 => k_is); (case k7 => k_is); (case k8 => ktr_room); (case k9 => exact BindsTo.of_eq rfl); (case kB => exact rfl); (case kD => decide +kernel); (case c2 => exact rfl); (case c3 => exact rfl); (case c4 => exact rfl); k_whole; intro g' L' h' tk' cells' FG' F' N' Y' B' X' T' l1; (try k_lt l1); k_cells Y'; (try simp only [List.cons_append, List.nil_append] at N'); (try dsimp only); (try k_lift B'); (try k_fold)))
local macro_rules | `(tactic| walk_at "m step") => `(tactic| ((fail_if_success (with_reducible show wpAny _ _ (exec (Stmt.While _ _ _ _) _) _ _ _)); (fail_if_success (with_reducible show LCg.CompRest _ _ _ _ _ _ _ _ _ _ _ _ _ _ _ _ _ _ _)); (first | (k_unfold; (try dsimp only)) | (k_end; kc_close) | walk1 | (dsimp only; walk1) | (leave1; walk_say "STEP leave1"; (try dsimp only)) | fail "no step")))
local macro_rules | `(tactic| walk_at "m steps") => `(tactic| repeat' ((fail_if_success (with_reducible show wpAny _ _ (exec (Stmt.While _ _ _ _) _) _ _ _)); (fail_if_success (with_reducible show LCg.CompRest _ _ _ _ _ _ _ _ _ _ _ _ _ _ _ _ _ _ _)); (first | (k_unfold; (try dsimp only)) | (k_end; kc_close) | walk1 | (dsimp only; walk1) | (leave1; walk_say "STEP leave1"; (try dsimp only)) | fail "no step")))
local macro_rules | `(tactic| walk_at "m room") => `(tactic| ((try simp only [depth_in1, depth_deeper, units_in1, units_deeper, depth_caller, units_caller]); (try dsimp only [ktrTop]); omega))
local macro_rules | `(tactic| walk_at "binaryOp LShift int int") => `(tactic| (k_here; k_dflt ((refine' lshift_K ?ka ?kb ?kc ?ke ?_); (case ka => first | decide | omega); (case kb => first | decide | omega); (case kc => first | decide | omega); (case ke => ((try simp only [Int.reduceSub, Int.reduceAdd, Int.reduceToNat, Int.reducePow, Int.reduceMul, Int.one_mul]); exact rfl)); k_whole)))
local macro_rules | `(tactic| walk_at "callWith ref") => `(tactic| (k_here; k_dflt (refine' callWith_K ?k1 ?k2 ?_; (case k1 => k_asm); (case k2 => k_is); k_whole)))
local macro_rules | `(tactic| walk_at "m enterT") => `(tactic| (refine' code_defX0 ?k1 ?k2 ?k3 ?k4 ?k5 ?kA ?kF ?kK ?k6 ?k7 ?k8 ?k9 ?kB ?_ ?c2 ?c3 ?c4 ?c5; (case kA => exact rfl); (case kF => exact rfl); (case kK => assumption); (case k1 => k_asm); (case k2 => k_asm); (case k3 => k_asm); (case k4 => k_asm); (case k5 => k_asm); (case k6 => k_is); (case k7 => k_is); (case k8 => ktr_room); (case k9 => exact BindsTo.of_eq rfl); (case c5 => decide); (case kB => exact locs rfl); (case c2 => exact rfl); (case c3 => exact rfl); (case c4 => exact rfl); k_whole; intro g' L' h' FG' F' N' B' X' T' D'; (try dsimp only); (try k_lift B'); (try k_fold)))
section ForTupPart
variable {prog : Program} {w : World} {A : Around} {E : Value → Shared → Prop} {Q : Flow → Shared → Prop} {s : Shared} {h₀ : Heap} {env : Env} {target : Expr} {body : List Stmt}
theorem unrPost_mono {L : Addr} {s₁ : Shared} {its : List (Addr × Obj)} {r r' : (Str → Option Value) → List (Addr × Obj) → Prop} {f : Flow} {s₂ : Shared} (hr : ∀ m n, r m n → r' m n) (h : UnrPostW h₀ L s₁ its r Q f s₂) : UnrPostW h₀ L s₁ its r' Q f s₂ := by
  cases f with
  | ret v => exact h
  | brk => exact h
  | next => obtain ⟨h', tk, m', n', e, F, N, o, x⟩ := h; exact ⟨h', tk, m', n', e, F, N, o, hr _ _ x⟩
  | cont => obtain ⟨h', tk, m', n', e, F, N, o, x⟩ := h; exact ⟨h', tk, m', n', e, F, N, o, hr _ _ x⟩
theorem items_inv {I : Addr} {keep : List (Addr × Obj)} {vs : List Value} (J : Nat → (Str → Option Value) → List (Addr × Obj) → Prop)
    (step : ∀ i v m news h tk o, vs[i]? = some v → J i m news → Fr h₀ env.locals h m → o.cls = .type "tuple_iterator" → News h₀ env.locals h ((I, o) :: news) →
      wpAny (model prog w) A (assign target env v) (fun _ s₂ => wpAny (model prog w) A (execs body env) (UnrPostW h₀ env.locals { s with heap := h, toks := tk } [(I, o)] (fun m' n' => SubL keep n' ∧ J (i + 1) m' n') Q) E s₂) E { s with heap := h, toks := tk })
    (fin : ∀ m news h tk, J vs.length m news → Fr h₀ env.locals h m → News h₀ env.locals h news → Q .next { s with heap := h, toks := tk }) :
    ∀ (k i : Nat) m news, i + k = vs.length → J i m news → ItemsRest prog w A E h₀ env target body Q s [(I, "tuple_iterator")] keep ((vs.drop i).map .val) m news := by
  intro k
  induction k with
  | zero =>
    intro i m news hk hJ
    obtain rfl : i = vs.length := by omega
    rw [List.drop_length]
    exact ItemsRest.zero fun h tk F N => fin _ _ _ _ hJ F N
  | succ k ih =>
    intro i m news hk hJ
    have hi : i < vs.length := by omega
    rw [List.drop_eq_getElem_cons hi, List.map_cons]
    refine ItemsRest.val fun h tk F => AllObj.cons fun o hc => AllObj.nil fun N => ?_
    refine wpAny_mono (step i _ m news h tk o (List.getElem?_eq_getElem hi) hJ F hc N) (fun _ s₂ h₂ => wpAny_mono h₂ (fun f s₃ h₃ => ?_) fun _ _ e => e) fun _ _ e => e
    exact unrPost_mono (fun m' n' x => ⟨x.1, ih (i + 1) m' n' (by omega) x.2⟩) h₃
theorem tup_turns {ax : Addr} {lo : Obj} {vs : List Value} {n : Nat} {m₀ : Str → Option Value} {news : List (Addr × Obj)} (J : Nat → (Str → Option Value) → List (Addr × Obj) → Prop)
    (hh : A.handled = none) (F : Fr h₀ env.locals s.heap m₀) (N : News h₀ env.locals s.heap news) (hm : (ax, lo) ∈ news) (hc : lo.cls = .type "tuple") (hd : lo.data = .seq vs.toArray n) (hJ : J 0 m₀ news)
    (step : ∀ I : Addr, (∀ p ∈ news, p.1 < I) → ∀ i v m news h tk o, vs[i]? = some v → J i m news → Fr h₀ env.locals h m → o.cls = .type "tuple_iterator" → News h₀ env.locals h ((I, o) :: news) →
      wpAny (model prog w) A (assign target env v) (fun _ s₂ => wpAny (model prog w) A (execs body env) (UnrPostW h₀ env.locals { s with heap := h, toks := tk } [(I, o)] (fun m' n' => SubL [(ax, lo)] n' ∧ J (i + 1) m' n') Q) E s₂) E { s with heap := h, toks := tk })
    (fin : ∀ m news h tk, J vs.length m news → Fr h₀ env.locals h m → News h₀ env.locals h news → Q .next { s with heap := h, toks := tk }) :
    wpAny (model prog w) A (pyIter (.ref ax)) (fun it s₂ => TurnsAt prog w A h₀ env target body Q E it s₂) E s :=
  iter_tupTurns hh F N hm hc hd fun I hI => items_inv J (step I hI) fin _ 0 _ _ (Nat.zero_add _) hJ
theorem tup_turnsL {L : Addr} (hL : env.locals = L) {ax : Addr} {lo : Obj} {vs : List Value} {n : Nat} {m₀ : Str → Option Value} {news : List (Addr × Obj)} (J : Nat → (Str → Option Value) → List (Addr × Obj) → Prop)
    (hh : A.handled = none) (F : Fr h₀ L s.heap m₀) (N : News h₀ L s.heap news) (hm : (ax, lo) ∈ news) (hc : lo.cls = .type "tuple") (hd : lo.data = .seq vs.toArray n) (hJ : J 0 m₀ news)
    (step : ∀ I : Addr, (∀ p ∈ news, p.1 < I) → ∀ i v m news h tk o, vs[i]? = some v → J i m news → Fr h₀ L h m → o.cls = .type "tuple_iterator" → News h₀ L h ((I, o) :: news) →
      wpAny (model prog w) A (assign target env v) (fun _ s₂ => wpAny (model prog w) A (execs body env) (UnrPostW h₀ L { s with heap := h, toks := tk } [(I, o)] (fun m' n' => SubL [(ax, lo)] n' ∧ J (i + 1) m' n') Q) E s₂) E { s with heap := h, toks := tk })
    (fin : ∀ m news h tk, J vs.length m news → Fr h₀ L h m → News h₀ L h news → Q .next { s with heap := h, toks := tk }) :
    wpAny (model prog w) A (pyIter (.ref ax)) (fun it s₂ => TurnsAt prog w A h₀ env target body Q E it s₂) E s := by
  subst hL
  exact tup_turns J hh F N hm hc hd hJ step fin
theorem for_tuple {L : Addr} (hL : env.locals = L) {elts : List Expr} {k : Nat} {p' pos : Pos} {m : Str → Option Value} (F : Fr h₀ L s.heap m)
    (h : wpAny (model prog w) A (eval (.Tuple elts k p') env) (fun xv s₁ => wpAny (model prog w) A (pyIter xv) (fun it s₂ => TurnsAt prog w A h₀ env target body Q (fun _ _ => False) it s₂) (fun _ _ => False) s₁) (fun _ _ => False) s) :
    wpAny (model prog w) A (exec (.For target (.Tuple elts k p') body [] pos) env) Q (fun _ _ => False) s := by
  subst hL
  exact For_turns F h (by intro _; rfl) PassesOwn.never
end ForTupPart

end PartForTup

section PartTupComp
local macro_rules | `(tactic| walk_at "m enter") => `(tactic| (refine' code_defS ?k1 ?k2 ?k3 ?k4 ?k5 ?kA ?kF ?kK ?k6 ?k7 ?k8 ?k9 ?kB ?_ ?c2 ?c3 ?c4 ?c5; (case kA => exact rfl); (case kF => exact rfl); (case kK => assumption); (case k1 => k_asm); (case k2 => k_asm); (case k3 => k_asm); (case k4 => k_asm); (case k5 => k_asm); (case k6 => k_is); (case k7 => k_is); (case k8 => ktr_room); (case k9 => exact BindsTo.of_eq rfl); (case c5 => decide); (case kB => exact locs rfl); (case c2 => exact rfl); (case c3 => exact rfl); (case c4 => exact rfl); k_whole; intro g' L' h' FG' F' N' B' X' T'; (try dsimp only); (try k_lift B'); (try k_fold)))
local macro_rules | `(tactic| units_room) => `(tactic| (have hcL' := cLine_is; simp only [units_in1, units_deeper, Around.mark_units]; (try dsimp only [ktrTop]); omega))
local macro_rules | `(tactic| ktr_room) => `(tactic| ((try simp only [depth_in1, depth_deeper]); (try dsimp only [ktrTop]); (try simp only [recursionLimit]); omega))
local macro_rules | `(tactic| k_room) => `(tactic| ktr_room)
local macro_rules | `(tactic| walk_at "eval ListComp") => `(tactic| (k_here; k_dflt (refine LCg.ListComp_U (F₀ := by k_asm) (by rfl) (by decide) (by rfl) (by decide) (by rfl) ?_)))
local macro_rules | `(tactic| walk_at "CompSrc") => `(tactic| (k_here; k_dflt (first
  | (refine LCg.CompSrc.base (by rfl) (by k_asm) (by k_asm) (by assumption) ?hz ?_; (case hz => ((have hL9 := IntsAre.length (by assumption)); simp only [List.size_toArray, sizeLine_eq]; omega)); intro g')
  | (refine LCg.CompSrc.range (by rfl) (by k_asm) (by k_asm) (by assumption) ?sm (rangeSize_up _) ?hz ?_; (case sm => exact small_one (by omega) (by omega) (by omega) (by omega)); (case hz => (simp only [sizeLine_eq]; omega)); intro g'))))
local macro_rules | `(tactic| walk_at "call type:range") => `(tactic| (k_here; k_dflt (refine' range1_rows ?kF ?kN ?_; (case kF => k_asm); (case kN => k_asm); intro h' tk' t1' u1' v1' hR' F' N' hk')))
local macro_rules | `(tactic| walk_at "execs nil") => `(tactic| (with_reducible refine wpAny_execs_nil ?_))
local macro_rules | `(tactic| walk_at "m enterC") => `(tactic| (refine' code_defCS ?k1 ?k2 ?k3 ?k4 ?k5 ?kA ?kF ?kK ?k6 ?k7 ?k8 ?k9 ?kB ?kD ?_ ?c2 ?c3 ?c4; (case kA => exact rfl); (case kF => exact rfl); (case kK => assumption); (case k1 => k_asm); (case k2 => k_asm); (case k3 => k_asm); (case k4 => k_asm); (case k5 => k_asm); (case k6 => k_is); (case k7 => k_is); (case k8 => ktr_room); (case k9 => exact BindsTo.of_eq rfl); (case kB => exact rfl); (case kD => decide +kernel); (case c2 => exact rfl); (case c3 => exact rfl); (case c4 => exact rfl); k_whole; intro g' L' h' tk' cells' FG' F' N' Y' B' X' T' l1; (try k_lt l1); k_cells Y'; (try simp only [List.cons_append, List.nil_append] at N'); (try dsimp only); (try k_lift B'); (try k_fold)))
local macro_rules | `(tactic| walk_at "m step") => `(tactic| ((fail_if_success (with_reducible show wpAny _ _ (exec (Stmt.While _ _ _ _) _) _ _ _)); (fail_if_success (with_reducible show LCg.CompRest _ _ _ _ _ _ _ _ _ _ _ _ _ _ _ _ _ _ _)); (first | (k_unfold; (try dsimp only)) | (k_end; kc_close) | walk1 | (dsimp only; walk1) | (leave1; walk_say "STEP leave1"; (try dsimp only)) | fail "no step")))
local macro_rules | `(tactic| walk_at "m steps") => `(tactic| repeat' ((fail_if_success (with_reducible show wpAny _ _ (exec (Stmt.While _ _ _ _) _) _ _ _)); (fail_if_success (with_reducible show LCg.CompRest _ _ _ _ _ _ _ _ _ _ _ _ _ _ _ _ _ _ _)); (first | (k_unfold; (try dsimp only)) | (k_end; kc_close) | walk1 | (dsimp only; walk1) | (leave1; walk_say "STEP leave1"; (try dsimp only)) | fail "no step")))
local macro_rules | `(tactic| walk_at "m room") => `(tactic| ((try simp only [depth_in1, depth_deeper, units_in1, units_deeper, depth_caller, units_caller]); (try dsimp only [ktrTop]); omega))
local macro_rules | `(tactic| walk_at "binaryOp LShift int int") => `(tactic| (k_here; k_dflt ((refine' lshift_K ?ka ?kb ?kc ?ke ?_); (case ka => first | decide | omega); (case kb => first | decide | omega); (case kc => first | decide | omega); (case ke => ((try simp only [Int.reduceSub, Int.reduceAdd, Int.reduceToNat, Int.reducePow, Int.reduceMul, Int.one_mul]); exact rfl)); k_whole)))
local macro_rules | `(tactic| walk_at "callWith ref") => `(tactic| (k_here; k_dflt (refine' callWith_K ?k1 ?k2 ?_; (case k1 => k_asm); (case k2 => k_is); k_whole)))
local macro_rules | `(tactic| walk_at "m enterT") => `(tactic| (refine' code_defX0 ?k1 ?k2 ?k3 ?k4 ?k5 ?kA ?kF ?kK ?k6 ?k7 ?k8 ?k9 ?kB ?_ ?c2 ?c3 ?c4 ?c5; (case kA => exact rfl); (case kF => exact rfl); (case kK => assumption); (case k1 => k_asm); (case k2 => k_asm); (case k3 => k_asm); (case k4 => k_asm); (case k5 => k_asm); (case k6 => k_is); (case k7 => k_is); (case k8 => ktr_room); (case k9 => exact BindsTo.of_eq rfl); (case c5 => decide); (case kB => exact locs rfl); (case c2 => exact rfl); (case c3 => exact rfl); (case c4 => exact rfl); k_whole; intro g' L' h' FG' F' N' B' X' T' D'; (try dsimp only); (try k_lift B'); (try k_fold)))
section TupCompPart
variable {prog : Program} {w : World} {A : Around} {E : Value → Shared → Prop} {s : Shared} {h₀ : Heap} {L : Addr} {m : Str → Option Value} {env : Env}
/-- the turns of a comprehension that asks, by an invariant -/
theorem restT_inv {ct elt : Expr} {x : Str} {scope : Scope} {cl : List (Str × Addr)} {S : List (Addr × Obj) → Prop} {P : Nat → Value → Prop} {Fin : List Value → List (Addr × Obj) → Prop} {n : Nat}
    (Inv : Nat → List Value → List (Addr × Obj) → Prop)
    (step : ∀ i ys news, i < n → Inv i ys news → ∀ v I oI C oC D m₂ h tk (E' : Value → Shared → Prop), P i v → LCg.NsObj oC m₂ → m₂ x = some v → Fr h₀ L h m → News h₀ L h ((I, oI) :: (C, oC) :: (D, LCg.lst ys) :: news) → LCg.Off3 I C D news → ((@Ne Nat I C) ∧ (@Ne Nat I D) ∧ (@Ne Nat C D)) →
      wpAny (model prog w) A (isTrue ct (compEnvC scope cl C env) (eval ct (compEnvC scope cl C env))) (fun ok s' => if ok = true then
        wpAny (model prog w) A (eval elt (compEnvC scope cl C env)) (LCg.CompEnd h₀ L m { s with heap := h, toks := tk } I oI C oC D (LCg.lst ys) S (fun y news' => Inv (i + 1) (ys ++ [y]) news')) E' s'
        else LCg.CompEnd h₀ L m { s with heap := h, toks := tk } I oI C oC D (LCg.lst ys) S (fun _ news' => Inv (i + 1) ys news') Value.none s') E' { s with heap := h, toks := tk })
    (fin : ∀ ys news, Inv n ys news → Fin ys news) :
    ∀ (k i : Nat) (ys : List Value) (news : List (Addr × Obj)), i + k = n → Inv i ys news → LCt.CompRestT prog w A h₀ L m env ct elt x scope cl s S P Fin k i ys news := by
  intro k
  induction k with
  | zero =>
    intro i ys news hn hi
    obtain rfl : i = n := by omega
    exact LCt.CompRestT.zero (fin _ _ hi)
  | succ k ih =>
    intro i ys news hn hi
    refine LCt.CompRestT.succ fun v I oI C oC D m₂ h tk E' hv hC hx F N off ne => ?_
    refine wpAny_mono (step i ys news (by omega) hi v I oI C oC D m₂ h tk E' hv hC hx F N off ne) (fun ok s' hy => ?_) fun _ _ e => e
    cases ok with
    | true =>
      simp only [if_true] at hy ⊢
      refine wpAny_mono hy (fun y s'' hz => ?_) fun _ _ e => e
      obtain ⟨h', tk', news', e, F', N', off', hS, hr⟩ := hz
      exact ⟨h', tk', news', e, F', N', off', hS, ih (i + 1) _ _ (by omega) hr⟩
    | false =>
      simp only [Bool.false_eq_true, if_false] at hy ⊢
      obtain ⟨h', tk', news', e, F', N', off', hS, hr⟩ := hy
      exact ⟨h', tk', news', e, F', N', off', hS, ih (i + 1) _ _ (by omega) hr⟩
def TupHere (ax : Addr) (its : Array Value) (k : Nat) (news : List (Addr × Obj)) : Prop := (ax, ({ cls := .type "tuple", data := .seq its k } : Obj)) ∈ news
theorem TupHere.tup {ax : Addr} {its : Array Value} {k : Nat} {news : List (Addr × Obj)} {h : Heap} (x : TupHere ax its k news) (N : News h₀ L h news) : h.IsTuple ax its := ⟨_, (N _ x).1, rfl, _, rfl⟩
/-- a comprehension's source that is a tuple of the ledger -/
def TupSrc (prog : Program) (w : World) (A : Around) (h₀ : Heap) (L : Addr) (m : Str → Option Value) (env : Env) (ct elt : Expr) (x : Str) (scope : Scope) (cl : List (Str × Addr)) (Fin : Shared → List Value → List (Addr × Obj) → Prop) (xv : Value) (s₁ : Shared) : Prop :=
  ∃ ax its k news, xv = .ref ax ∧ A.handled = none ∧ Fr h₀ L s₁.heap m ∧ News h₀ L s₁.heap news ∧ TupHere ax its k news ∧ its.size ≤ sizeLine ∧
    ∀ g, LCt.CompRestT prog w A h₀ L m env ct elt x scope cl { s₁ with heap := g } (TupHere ax its k) (fun i v => its[i]? = some v) (Fin { s₁ with heap := g }) its.size 0 [] news
theorem tup_st {ax I : Addr} {its : Array Value} {k : Nat} : ∀ i (h h' : Heap) (o : Obj) (nw : List (Addr × Obj)), (h.IsTupleIter I ax i ∧ h.IsTuple ax its) → h.get? I = some o → h'.get? I = some o → (∀ b o, h₀.get? b = some o → h'.get? b = some o) → News h₀ L h' nw → TupHere ax its k nw → (h'.IsTupleIter I ax i ∧ h'.IsTuple ax its) :=
  fun i h h' o nw st e e' _ N S => ⟨by obtain ⟨o', q, r⟩ := st.1; rw [e] at q; cases q; exact ⟨o, e', r⟩, S.tup N⟩
theorem ListComp_tup {ct elt iter : Expr} {x : Str} {px : Pos} {scope : Scope} {cl : List (Str × Addr)} {pos : Pos} {Q : Value → Shared → Prop} (F₀ : Fr h₀ L s.heap m)
    (hclos : closureFor scope env = pure cl) (hcell : ∀ y ∈ scope.names, y.2 ≠ .cell) (hkind : scope.kind = .function)
    (hnames : ∀ y ∈ scope.names, y.2 = .local → scope.names.lookup y.1 = some .local) (hx : scope.names.lookup x = some .local)
    (h : wpAny (model prog w) A (eval iter env) (TupSrc prog w A h₀ L m env ct elt x scope cl (fun s₂ => LCg.FinE h₀ L m s₂ Q)) E s)
    (hs : ∀ x, foldedSetIterable iter env x = pure x := by intro _; rfl) :
    wpAny (model prog w) A (eval (.ListComp elt [⟨.Name x px, iter, [ct], 0⟩] scope pos) env) Q E s := by
  rw [eval_ListComp]
  refine wpAny_comprehension_free (use := none) rfl hs hclos hkind hnames (wpAny_mono h (fun xv s₁ h₁ => ?_) fun _ _ e => e)
  obtain ⟨ax, its, k, news, rfl, hh, F, N, S, hsz, R⟩ := h₁
  have hl := S.tup N
  have hlt : ax < s₁.heap.objs.size := by obtain ⟨_, e, _⟩ := hl; exact Heap.lt_size e
  refine wpAny_pyIter_tuple hl ?_
  have up : ∀ b o, s₁.heap.get? b = some o → (s₁.heap.push { cls := .type "tuple_iterator", data := .fields #[.ref ax, .int 0 0] }).get? b = some o := fun b o e => Heap.get?_push_of_some _ e
  refine LCt.block_T (Walks.tuple hh s₁.heap.objs.size ax (Nat.ne_of_lt hlt) its) hsz (fun i h st => by obtain ⟨o, e, _⟩ := st.1; exact ⟨o, e⟩) tup_st hcell hkind hx ⟨⟨_, Heap.get?_push_size _ rfl, rfl, rfl⟩, hl.push _⟩ (fun b hb => ?_)
    (F.keeps up) (N.grown up) (Nat.ne_of_lt F.ns.lt) (next_is_new F) (fun p hp => Nat.ne_of_lt (Heap.lt_size (N p hp).1)) S (R _) ?_
  · show b < (s₁.heap.push _).objs.size
    rw [Heap.size_push]
    rcases List.mem_cons.mp hb with rfl | hb
    · exact Nat.lt_succ_self _
    · rw [List.mem_singleton.mp hb]; exact Nat.lt_succ_of_lt hlt
  · intro D C h tk m' ys news' F' N' o1 hn hC₀ hD₀ hCL hDL hCD offC fin
    refine ⟨m', hn, fun h'' hs'' => fin D h'' tk (F'.change hs'' hCL hC₀) (fun p hp => ?_) o1⟩
    refine ⟨hs''.extBut _ _ ?_ (N' p hp).1, (N' p hp).2⟩
    rcases List.mem_cons.mp hp with rfl | hp
    · exact Ne.symm hCD
    · exact offC p hp
end TupCompPart

end PartTupComp

section PartTake
local macro_rules | `(tactic| walk_at "m enter") => `(tactic| (refine' code_defS ?k1 ?k2 ?k3 ?k4 ?k5 ?kA ?kF ?kK ?k6 ?k7 ?k8 ?k9 ?kB ?_ ?c2 ?c3 ?c4 ?c5; (case kA => exact rfl); (case kF => exact rfl); (case kK => assumption); (case k1 => k_asm); (case k2 => k_asm); (case k3 => k_asm); (case k4 => k_asm); (case k5 => k_asm); (case k6 => k_is); (case k7 => k_is); (case k8 => ktr_room); (case k9 => exact BindsTo.of_eq rfl); (case c5 => decide); (case kB => exact locs rfl); (case c2 => exact rfl); (case c3 => exact rfl); (case c4 => exact rfl); k_whole; intro g' L' h' FG' F' N' B' X' T'; (try dsimp only); (try k_lift B'); (try k_fold)))
local macro_rules | `(tactic| units_room) => `(tactic| (have hcL' := cLine_is; simp only [units_in1, units_deeper, Around.mark_units]; (try dsimp only [ktrTop]); omega))
local macro_rules | `(tactic| ktr_room) => `(tactic| ((try simp only [depth_in1, depth_deeper]); (try dsimp only [ktrTop]); (try simp only [recursionLimit]); omega))
local macro_rules | `(tactic| k_room) => `(tactic| ktr_room)
local macro_rules | `(tactic| walk_at "eval ListComp") => `(tactic| (k_here; k_dflt (refine LCg.ListComp_U (F₀ := by k_asm) (by rfl) (by decide) (by rfl) (by decide) (by rfl) ?_)))
local macro_rules | `(tactic| walk_at "CompSrc") => `(tactic| (k_here; k_dflt (first
  | (refine LCg.CompSrc.base (by rfl) (by k_asm) (by k_asm) (by assumption) ?hz ?_; (case hz => ((have hL9 := IntsAre.length (by assumption)); simp only [List.size_toArray, sizeLine_eq]; omega)); intro g')
  | (refine LCg.CompSrc.range (by rfl) (by k_asm) (by k_asm) (by assumption) ?sm (rangeSize_up _) ?hz ?_; (case sm => exact small_one (by omega) (by omega) (by omega) (by omega)); (case hz => (simp only [sizeLine_eq]; omega)); intro g'))))
local macro_rules | `(tactic| walk_at "call type:range") => `(tactic| (k_here; k_dflt (refine' range1_rows ?kF ?kN ?_; (case kF => k_asm); (case kN => k_asm); intro h' tk' t1' u1' v1' hR' F' N' hk')))
local macro_rules | `(tactic| walk_at "execs nil") => `(tactic| (with_reducible refine wpAny_execs_nil ?_))
local macro_rules | `(tactic| walk_at "m enterC") => `(tactic| (refine' code_defCS ?k1 ?k2 ?k3 ?k4 ?k5 ?kA ?kF ?kK ?k6 ?k7 ?k8 ?k9 ?kB ?kD ?_ ?c2 ?c3 ?c4; (case kA => exact rfl); (case kF => exact rfl); (case kK => assumption); (case k1 => k_asm); (case k2 => k_asm); (case k3 => k_asm); (case k4 => k_asm); (case k5 => k_asm); (case k6 => k_is); (case k7 => k_is); (case k8 => ktr_room); (case k9 => exact BindsTo.of_eq rfl); (case kB => exact rfl); (case kD => decide +kernel); (case c2 => exact rfl); (case c3 => exact rfl); (case c4 => exact rfl); k_whole; intro g' L' h' tk' cells' FG' F' N' Y' B' X' T' l1; (try k_lt l1); k_cells Y'; (try simp only [List.cons_append, List.nil_append] at N'); (try dsimp only); (try k_lift B'); (try k_fold)))
local macro_rules | `(tactic| walk_at "m step") => `(tactic| ((fail_if_success (with_reducible show wpAny _ _ (exec (Stmt.While _ _ _ _) _) _ _ _)); (fail_if_success (with_reducible show LCg.CompRest _ _ _ _ _ _ _ _ _ _ _ _ _ _ _ _ _ _ _)); (first | (k_unfold; (try dsimp only)) | (k_end; kc_close) | walk1 | (dsimp only; walk1) | (leave1; walk_say "STEP leave1"; (try dsimp only)) | fail "no step")))
local macro_rules | `(tactic| walk_at "m steps") => `(tactic| repeat' ((fail_if_success (with_reducible show wpAny _ _ (exec (Stmt.While _ _ _ _) _) _ _ _)); (fail_if_success (with_reducible show LCg.CompRest _ _ _ _ _ _ _ _ _ _ _ _ _ _ _ _ _ _ _)); (first | (k_unfold; (try dsimp only)) | (k_end; kc_close) | walk1 | (dsimp only; walk1) | (leave1; walk_say "STEP leave1"; (try dsimp only)) | fail "no step")))
local macro_rules | `(tactic| walk_at "m room") => `(tactic| ((try simp only [depth_in1, depth_deeper, units_in1, units_deeper, depth_caller, units_caller]); (try dsimp only [ktrTop]); omega))
local macro_rules | `(tactic| walk_at "binaryOp LShift int int") => `(tactic| (k_here; k_dflt ((refine' lshift_K ?ka ?kb ?kc ?ke ?_); (case ka => first | decide | omega); (case kb => first | decide | omega); (case kc => first | decide | omega); (case ke => ((try simp only [Int.reduceSub, Int.reduceAdd, Int.reduceToNat, Int.reducePow, Int.reduceMul, Int.one_mul]); exact rfl)); k_whole)))
local macro_rules | `(tactic| walk_at "callWith ref") => `(tactic| (k_here; k_dflt (refine' callWith_K ?k1 ?k2 ?_; (case k1 => k_asm); (case k2 => k_is); k_whole)))
local macro_rules | `(tactic| walk_at "m enterT") => `(tactic| (refine' code_defX0 ?k1 ?k2 ?k3 ?k4 ?k5 ?kA ?kF ?kK ?k6 ?k7 ?k8 ?k9 ?kB ?_ ?c2 ?c3 ?c4 ?c5; (case kA => exact rfl); (case kF => exact rfl); (case kK => assumption); (case k1 => k_asm); (case k2 => k_asm); (case k3 => k_asm); (case k4 => k_asm); (case k5 => k_asm); (case k6 => k_is); (case k7 => k_is); (case k8 => ktr_room); (case k9 => exact BindsTo.of_eq rfl); (case c5 => decide); (case kB => exact locs rfl); (case c2 => exact rfl); (case c3 => exact rfl); (case c4 => exact rfl); k_whole; intro g' L' h' FG' F' N' B' X' T' D'; (try dsimp only); (try k_lift B'); (try k_fold)))
section
variable {prog : Program} {w : World} {A : Around} {E : Value → Shared → Prop} {s : Shared} {h₀ : Heap} {L D : Addr} {m : Str → Option Value} {news news' : List (Addr × Obj)} {n : Nat}
theorem pop0_K {y : Value} {vs : List Value} {u : Tok} {Q : Value → Shared → Prop} (F : Fr h₀ L s.heap m) (N : News h₀ L s.heap news) (U : Upd D (listOf (y :: vs).toArray n) (listOf vs.toArray (n + 1)) news news')
    (hz : vs.length ≤ 60) (h : ∀ h', Fr h₀ L h' m → News h₀ L h' news' → Q y { s with heap := h' }) : wpAny (model prog w) A (call (.builtin "list.pop") [.ref D, .int 0 u]) Q E s := by
  refine kl_popAt F N (k := 0) (p := []) (q := vs) (y := y) rfl ?_ rfl U ?_ h
  · simp [seqIndex?]
  · have := sizeLine_eq; simp; omega
theorem ne_nilC {l b : Addr} {y : Value} {us : List Value} {x : Int} {xs : List Int} {nb : Nat} {Q : Value → Shared → Prop} (N : News h₀ L s.heap news) (h1 : (l, listOf (y :: us).toArray n) ∈ news) (h2 : (b, listOf #[] nb) ∈ news) (hI : IntsAre (y :: us) (x :: xs)) (hu : A.units + 64 < cLine)
    (h : Q (.bool true) s) : wpAny (model prog w) A (compareOp .NotEq (.ref l) (.ref b)) Q E s :=
  ne_intsK (vs := y :: us) (us := []) ⟨_, (N _ h1).1, rfl, _, rfl⟩ hI ⟨_, (N _ h2).1, rfl, _, rfl⟩ .nil hu (by simpa using h)
theorem ne_nilN {l b : Addr} {nb : Nat} {Q : Value → Shared → Prop} (N : News h₀ L s.heap news) (h1 : (l, listOf ([] : List Value).toArray n) ∈ news) (h2 : (b, listOf #[] nb) ∈ news) (hu : A.units + 64 < cLine)
    (h : Q (.bool false) s) : wpAny (model prog w) A (compareOp .NotEq (.ref l) (.ref b)) Q E s :=
  ne_intsK (vs := []) (us := []) ⟨_, (N _ h1).1, rfl, _, rfl⟩ .nil ⟨_, (N _ h2).1, rfl, _, rfl⟩ .nil hu (by simpa using h)
theorem eq_nilC {l b : Addr} {y : Value} {us : List Value} {x : Int} {xs : List Int} {nb : Nat} {Q : Value → Shared → Prop} (N : News h₀ L s.heap news) (h1 : (l, listOf (y :: us).toArray n) ∈ news) (h2 : (b, listOf #[] nb) ∈ news) (hI : IntsAre (y :: us) (x :: xs)) (hu : A.units + 64 < cLine)
    (h : Q (.bool false) s) : wpAny (model prog w) A (compareOp .Eq (.ref l) (.ref b)) Q E s :=
  eq_intsK (vs := y :: us) (us := []) ⟨_, (N _ h1).1, rfl, _, rfl⟩ hI ⟨_, (N _ h2).1, rfl, _, rfl⟩ .nil hu (by simpa using h)
theorem eq_nilN {l b : Addr} {nb : Nat} {Q : Value → Shared → Prop} (N : News h₀ L s.heap news) (h1 : (l, listOf ([] : List Value).toArray n) ∈ news) (h2 : (b, listOf #[] nb) ∈ news) (hu : A.units + 64 < cLine)
    (h : Q (.bool true) s) : wpAny (model prog w) A (compareOp .Eq (.ref l) (.ref b)) Q E s :=
  eq_intsK (vs := []) (us := []) ⟨_, (N _ h1).1, rfl, _, rfl⟩ .nil ⟨_, (N _ h2).1, rfl, _, rfl⟩ .nil hu (by simpa using h)
end
local macro_rules | `(tactic| walk_at "compareOp NotEq ref ref") => `(tactic| (k_here; k_dflt (first
  | ((refine' ne_nilC ?N ?h1 ?h2 ?hI ?hu ?_); (case N => k_asm); (case h1 => k_mem); (case h2 => k_mem); (case hI => assumption); (case hu => units_room); k_whole)
  | ((refine' ne_nilN ?N ?h1 ?h2 ?hu ?_); (case N => k_asm); (case h1 => k_mem); (case h2 => k_mem); (case hu => units_room); k_whole))))
local macro_rules | `(tactic| walk_at "call builtin:list.pop") => `(tactic| (k_here; k_dflt ((refine' pop0_K ?F ?N ?U ?hz ?_); (case F => k_asm); (case N => k_asm); (case U => k_upd); (case hz => assumption); k_whole; (intro h' F' N'))))
theorem take_c {w : World} {p : Program} {loose : List Str} {mean : ExcName → Option Value} {mg mb : Str → Option Value} {dp un : Nat} {gd : Option (List Code)} {cn : Str} {cs : Scope} {a : Addr} {ccd : Value} {cl : List (Str × Addr)} {outer : List Env} {A₀ : Around} {base h₀ : Heap} {L : Addr} {m : Str → Option Value} {s : Shared} {Q E : Value → Shared → Prop}
    {d l : Addr} {nd nl : Nat} {us : List Value} {xs : List Int} {seed many : Int} {t1 t2 : Tok}
    (B : Below A₀ base outer h₀) (F : Fr h₀ L s.heap m) (X : (Mine.hd.heap_39 w.params).In h₀)
    (N : News h₀ L s.heap [(d, listOf #[.ref l, .int seed t1] nd), (l, listOf us.toArray nl)]) (hlt : @LT.lt Nat _ l d)
    (T : Top p loose mean mg mb h₀) (hk : cs.kind = .function) (hI : IntsAre us xs) (D : DrawOk xs seed) (hm : 0 < many)
    (hdp : dp < 900) (hun : un < 9000)
    (hret : ∀ r t us' xs' seed' t1' nd' nl' h' tk', Fr h₀ L h' m → KeepBut [d, l] s.heap h' → News h₀ L h' [(d, listOf #[.ref l, .int seed' t1'] nd'), (l, listOf (List.toArray us') nl')] →
      IntsAre us' xs' → DrawOk xs' seed' → 0 ≤ r → r < many → Q (.int r t) { s with heap := h', toks := tk' }) :
    wpAny (model PySem.Challenge.rw_au6043_01.row.toRowW.prog w) (ktrTop dp un gd cn cs L a ccd cl outer) (call (.ref 132) [.ref d, .int many t2]) Q E s := by
  w_top off
  revert X; k_fill; intro X
  obtain ⟨hpos, hlen, hs0, hs1⟩ := D
  cases hI with
  | nil =>
    refine wpAny_call ?_
    k_dflt walk_at "m enter"
    k_steps
    all_goals (
      intro hkeep; show Q _ _
      refine hret _ _ [] [] _ _ _ _ _ _ (by assumption) hkeep (cb_drop (by assumption) fun p hp => List.Mem.tail _ hp) .nil ⟨nofun, by simp, ?_, ?_⟩ ?_ ?_
      · exact Int.fmod_nonneg_of_pos _ (by decide)
      · exact Int.fmod_lt_of_pos _ (by decide)
      · exact Int.fmod_nonneg_of_pos _ hm
      · exact Int.fmod_lt_of_pos _ hm)
  | cons x tx hI' =>
    rename_i us' xs'
    have hI9 : IntsAre (.int x tx :: us') (x :: xs') := .cons x tx hI'
    have hx : 0 ≤ x := hpos x (.head _)
    have hz : us'.length ≤ 60 := by have := hI'.length; simp at hlen; omega
    refine wpAny_call ?_
    k_dflt walk_at "m enter"
    k_steps
    all_goals (
      intro hkeep; show Q _ _
      refine hret _ _ us' xs' _ _ _ _ _ _ (by assumption) hkeep (cb_drop (by assumption) fun p hp => List.Mem.tail _ hp) hI' ⟨fun y hy => hpos y (.tail _ hy), ?_, hs0, hs1⟩ ?_ ?_
      · simp at hlen; omega
      · exact Int.fmod_nonneg_of_pos _ hm
      · exact Int.fmod_lt_of_pos _ hm)

end PartTake

section PartDraw
local macro_rules | `(tactic| walk_at "pad") => `(tactic| skip)
local macro_rules | `(tactic| walk_at "m enter") => `(tactic| (refine' code_defS ?k1 ?k2 ?k3 ?k4 ?k5 ?kA ?kF ?kK ?k6 ?k7 ?k8 ?k9 ?kB ?_ ?c2 ?c3 ?c4 ?c5; (case kA => exact rfl); (case kF => exact rfl); (case kK => assumption); (case k1 => k_asm); (case k2 => k_asm); (case k3 => k_asm); (case k4 => k_asm); (case k5 => k_asm); (case k6 => k_is); (case k7 => k_is); (case k8 => ktr_room); (case k9 => exact BindsTo.of_eq rfl); (case c5 => decide); (case kB => exact locs rfl); (case c2 => exact rfl); (case c3 => exact rfl); (case c4 => exact rfl); k_whole; intro g' L' h' FG' F' N' B' X' T'; (try dsimp only); (try k_lift B'); (try k_fold)))
local macro_rules | `(tactic| units_room) => `(tactic| (have hcL' := cLine_is; simp only [units_in1, units_deeper, Around.mark_units]; (try dsimp only [ktrTop]); omega))
local macro_rules | `(tactic| ktr_room) => `(tactic| ((try simp only [depth_in1, depth_deeper]); (try dsimp only [ktrTop]); (try simp only [recursionLimit]); omega))
local macro_rules | `(tactic| k_room) => `(tactic| ktr_room)
local macro_rules | `(tactic| walk_at "eval ListComp") => `(tactic| (k_here; k_dflt (refine LCg.ListComp_U (F₀ := by k_asm) (by rfl) (by decide) (by rfl) (by decide) (by rfl) ?_)))
local macro_rules | `(tactic| walk_at "CompSrc") => `(tactic| (k_here; k_dflt (first
  | (refine LCg.CompSrc.base (by rfl) (by k_asm) (by k_asm) (by assumption) ?hz ?_; (case hz => ((have hL9 := IntsAre.length (by assumption)); simp only [List.size_toArray, sizeLine_eq]; omega)); intro g')
  | (refine LCg.CompSrc.range (by rfl) (by k_asm) (by k_asm) (by assumption) ?sm (rangeSize_up _) ?hz ?_; (case sm => exact small_one (by omega) (by omega) (by omega) (by omega)); (case hz => (simp only [sizeLine_eq]; omega)); intro g'))))
local macro_rules | `(tactic| walk_at "call type:range") => `(tactic| (k_here; k_dflt (refine' range1_rows ?kF ?kN ?_; (case kF => k_asm); (case kN => k_asm); intro h' tk' t1' u1' v1' hR' F' N' hk')))
local macro_rules | `(tactic| walk_at "execs nil") => `(tactic| (with_reducible refine wpAny_execs_nil ?_))
local macro_rules | `(tactic| walk_at "m enterC") => `(tactic| (refine' code_defCS ?k1 ?k2 ?k3 ?k4 ?k5 ?kA ?kF ?kK ?k6 ?k7 ?k8 ?k9 ?kB ?kD ?_ ?c2 ?c3 ?c4; (case kA => exact rfl); (case kF => exact rfl); (case kK => assumption); (case k1 => k_asm); (case k2 => k_asm); (case k3 => k_asm); (case k4 => k_asm); (case k5 => k_asm); (case k6 => k_is); (case k7 => k_is); (case k8 => ktr_room); (case k9 => exact BindsTo.of_eq rfl); (case kB => exact rfl); (case kD => decide +kernel); (case c2 => exact rfl); (case c3 => exact rfl); (case c4 => exact rfl); k_whole; intro g' L' h' tk' cells' FG' F' N' Y' B' X' T' l1; (try k_lt l1); k_cells Y'; (try simp only [List.cons_append, List.nil_append] at N'); (try dsimp only); (try k_lift B'); (try k_fold)))
local macro_rules | `(tactic| walk_at "m step") => `(tactic| ((fail_if_success (with_reducible show wpAny _ _ (exec (Stmt.While _ _ _ _) _) _ _ _)); (fail_if_success (with_reducible show LCg.CompRest _ _ _ _ _ _ _ _ _ _ _ _ _ _ _ _ _ _ _)); (first | (k_unfold; (try dsimp only)) | (k_end; kc_close) | walk1 | (dsimp only; walk1) | (leave1; walk_say "STEP leave1"; (try dsimp only)) | fail "no step")))
local macro_rules | `(tactic| walk_at "m steps") => `(tactic| repeat' ((fail_if_success (with_reducible show wpAny _ _ (exec (Stmt.While _ _ _ _) _) _ _ _)); (fail_if_success (with_reducible show LCg.CompRest _ _ _ _ _ _ _ _ _ _ _ _ _ _ _ _ _ _ _)); (first | (k_unfold; (try dsimp only)) | (k_end; kc_close) | walk1 | (dsimp only; walk1) | (leave1; walk_say "STEP leave1"; (try dsimp only)) | fail "no step")))
local macro_rules | `(tactic| walk_at "m room") => `(tactic| ((try simp only [depth_in1, depth_deeper, units_in1, units_deeper, depth_caller, units_caller]); (try dsimp only [ktrTop]); omega))
local macro_rules | `(tactic| walk_at "binaryOp LShift int int") => `(tactic| (k_here; k_dflt ((refine' lshift_K ?ka ?kb ?kc ?ke ?_); (case ka => first | decide | omega); (case kb => first | decide | omega); (case kc => first | decide | omega); (case ke => ((try simp only [Int.reduceSub, Int.reduceAdd, Int.reduceToNat, Int.reducePow, Int.reduceMul, Int.one_mul]); exact rfl)); k_whole)))
local macro_rules | `(tactic| walk_at "callWith ref") => `(tactic| (k_here; k_dflt (refine' callWith_K ?k1 ?k2 ?_; (case k1 => k_asm); (case k2 => k_is); k_whole)))
local macro_rules | `(tactic| walk_at "m enterT") => `(tactic| (refine' code_defX0 ?k1 ?k2 ?k3 ?k4 ?k5 ?kA ?kF ?kK ?k6 ?k7 ?k8 ?k9 ?kB ?_ ?c2 ?c3 ?c4 ?c5; (case kA => exact rfl); (case kF => exact rfl); (case kK => assumption); (case k1 => k_asm); (case k2 => k_asm); (case k3 => k_asm); (case k4 => k_asm); (case k5 => k_asm); (case k6 => k_is); (case k7 => k_is); (case k8 => ktr_room); (case k9 => exact BindsTo.of_eq rfl); (case c5 => decide); (case kB => exact locs rfl); (case c2 => exact rfl); (case c3 => exact rfl); (case c4 => exact rfl); k_whole; intro g' L' h' FG' F' N' B' X' T' D'; (try dsimp only); (try k_lift B'); (try k_fold)))
section DrawPart
theorem drop3 {h₀ h : Heap} {L : Addr} {a b c x : Addr × Obj} (N : News h₀ L h [a, b, c, x]) : News h₀ L h [a, b, x] := fun p hp => N p (by
  rcases hp with _ | ⟨_, hp⟩
  · exact .head _
  · rcases hp with _ | ⟨_, hp⟩
    · exact .tail _ (.head _)
    · exact .tail _ (.tail _ (.tail _ hp)))
local macro_rules | `(tactic| walk_at "InvEndN") => `(tactic| (k_dflt (refine InvEndN.intro (by assumption) (by assumption) ⟨rfl, ⟨_, _, by with_unfolding_all rfl, ⟨Int.fmod_nonneg_of_pos _ (by decide), Int.fmod_lt_of_pos _ (by decide)⟩⟩, by k_same2⟩ (by rfl) (by (with_unfolding_all ((try simp only [List.nil_append, List.cons_append]); k_allIn))) (by (intro p hp; k_ownIn)))))
local macro_rules | `(tactic| walk_at "subscriptTail Name Slice ref ref") => `(tactic| (k_here; k_dflt (refine' kmk_slice_ints ?F ?N ?l .none (.int _ _) ?i (kmk_upto ?i (by decide)) rfl ?_ ?s ?t ?z; (case F => k_asm); (case N => k_asm); (case l => kmk_list); (case i => assumption); (case s => with_unfolding_all rfl); (case t => kmk_pure); (case z => ((have hL9 := IntsAre.length (by assumption)); simp only [List.size_toArray, sizeLine_eq]; omega))); intro D' ws' h' F' N' l1 hI' hC' hL'; (try k_lt l1)))
theorem draw_c {w : World} {p : Program} {loose : List Str} {mean : ExcName → Option Value} {mg mb : Str → Option Value} {dp un : Nat} {gd : Option (List Code)} {cn : Str} {cs : Scope} {a : Addr} {ccd : Value} {cl : List (Str × Addr)} {outer : List Env} {A₀ : Around} {base h₀ : Heap} {L : Addr} {m : Str → Option Value} {s : Shared} {Q E : Value → Shared → Prop}
    {ls x : Addr} {ox : Obj} {vs : List Value} {ns : List Int}
    (B : Below A₀ base outer h₀) (F : Fr h₀ L s.heap m) (X : (Mine.hd.heap_39 w.params).In h₀)
    (T : Top p loose mean mg mb h₀) (hk : cs.kind = .function) (hl : base.IsList ls vs.toArray) (iL : IntsAre vs ns) (hn : ns.length ≤ 63)
    (N : News h₀ L s.heap [(x, ox)]) (hdp : dp < 900) (hun : un < 9000)
    (hret : ∀ d l us xs seed t1 nd nl h' tk', Fr h₀ L h' m → KeepBut [x] s.heap h' → News h₀ L h' [(d, listOf #[.ref l, .int seed t1] nd), (l, listOf (List.toArray us) nl), (x, ox)] → @LT.lt Nat _ l d → @LT.lt Nat _ x l →
      IntsAre us xs → DrawOk xs seed → Q (.ref d) { s with heap := h', toks := tk' }) :
    wpAny (model PySem.Challenge.rw_au6043_01.row.toRowW.prog w) (ktrTop dp un gd cn cs L a ccd cl outer) (call (.ref 125) [.ref ls]) Q E s := by
  w_top off
  revert X; k_fill; intro X
  refine wpAny_call ?_
  k_dflt walk_at "m enter"
  k_with "pyIter ref" => k_invariant "seed" (fun a => 0 ≤ a ∧ a < 2147483647)
  k_steps
  rename IntsAre vs ns => iL
  have hlen := iL.length
  refine rest_inv (CInv [(x, ox)] fun ms => ∀ x ∈ ms, 0 ≤ x) ?_ ?_ _ 0 [] [(x, ox)] (Nat.zero_add _) ⟨rfl, [], .nil, rfl, nofun⟩
  · rintro i ys news hi ⟨rfl, ms, hms, hml, hpos⟩ v I oI C oC D m₂ h9 tk9 E9 hv hC hx F9 N9 off9 ne9
    obtain ⟨k, t, rfl, hk9⟩ := ints_get iL i v hv
    simp only [LCg.Off3, and_true] at off9
    k_steps
    refine ⟨rfl, _, ints_snoc hms _ _, by simp [hml], fun x hx => ?_⟩
    rcases List.mem_append.mp hx with hx | hx
    · exact hpos x hx
    · rw [List.mem_singleton.mp hx]; split <;> omega
  · rintro ys news ⟨rfl, ms, hms, hml, hpos⟩
    have hml2 : ms.length ≤ 63 := by rw [hml, List.size_toArray, hlen]; exact hn
    k_steps
    intro hkeep
    show Q _ _
    rename (0 ≤ _ ∧ _ < (2147483647 : Int)) => hInv
    refine hret _ _ _ _ _ _ _ _ _ _ (by assumption) hkeep (drop3 (by assumption)) ?_ ?_ (by assumption) ⟨fun y hy => hpos y (List.mem_of_mem_take hy), ?_, hInv.1, hInv.2⟩
    · omega
    · omega
    · rw [List.length_take]; exact Nat.min_le_left _ _
end DrawPart

end PartDraw

section PartTakeUse
local macro_rules | `(tactic| walk_at "m enter") => `(tactic| (refine' code_defS ?k1 ?k2 ?k3 ?k4 ?k5 ?kA ?kF ?kK ?k6 ?k7 ?k8 ?k9 ?kB ?_ ?c2 ?c3 ?c4 ?c5; (case kA => exact rfl); (case kF => exact rfl); (case kK => assumption); (case k1 => k_asm); (case k2 => k_asm); (case k3 => k_asm); (case k4 => k_asm); (case k5 => k_asm); (case k6 => k_is); (case k7 => k_is); (case k8 => ktr_room); (case k9 => exact BindsTo.of_eq rfl); (case c5 => decide); (case kB => exact locs rfl); (case c2 => exact rfl); (case c3 => exact rfl); (case c4 => exact rfl); k_whole; intro g' L' h' FG' F' N' B' X' T'; (try dsimp only); (try k_lift B'); (try k_fold)))
local macro_rules | `(tactic| units_room) => `(tactic| (have hcL' := cLine_is; simp only [units_in1, units_deeper, Around.mark_units]; (try dsimp only [ktrTop]); omega))
local macro_rules | `(tactic| ktr_room) => `(tactic| ((try simp only [depth_in1, depth_deeper]); (try dsimp only [ktrTop]); (try simp only [recursionLimit]); omega))
local macro_rules | `(tactic| k_room) => `(tactic| ktr_room)
local macro_rules | `(tactic| walk_at "eval ListComp") => `(tactic| (k_here; k_dflt (refine LCg.ListComp_U (F₀ := by k_asm) (by rfl) (by decide) (by rfl) (by decide) (by rfl) ?_)))
local macro_rules | `(tactic| walk_at "CompSrc") => `(tactic| (k_here; k_dflt (first
  | (refine LCg.CompSrc.base (by rfl) (by k_asm) (by k_asm) (by assumption) ?hz ?_; (case hz => ((have hL9 := IntsAre.length (by assumption)); simp only [List.size_toArray, sizeLine_eq]; omega)); intro g')
  | (refine LCg.CompSrc.range (by rfl) (by k_asm) (by k_asm) (by assumption) ?sm (rangeSize_up _) ?hz ?_; (case sm => exact small_one (by omega) (by omega) (by omega) (by omega)); (case hz => (simp only [sizeLine_eq]; omega)); intro g'))))
local macro_rules | `(tactic| walk_at "call type:range") => `(tactic| (k_here; k_dflt (refine' range1_rows ?kF ?kN ?_; (case kF => k_asm); (case kN => k_asm); intro h' tk' t1' u1' v1' hR' F' N' hk')))
local macro_rules | `(tactic| walk_at "execs nil") => `(tactic| (with_reducible refine wpAny_execs_nil ?_))
local macro_rules | `(tactic| walk_at "m enterC") => `(tactic| (refine' code_defCS ?k1 ?k2 ?k3 ?k4 ?k5 ?kA ?kF ?kK ?k6 ?k7 ?k8 ?k9 ?kB ?kD ?_ ?c2 ?c3 ?c4; (case kA => exact rfl); (case kF => exact rfl); (case kK => assumption); (case k1 => k_asm); (case k2 => k_asm); (case k3 => k_asm); (case k4 => k_asm); (case k5 => k_asm); (case k6 => k_is); (case k7 => k_is); (case k8 => ktr_room); (case k9 => exact BindsTo.of_eq rfl); (case kB => exact rfl); (case kD => decide +kernel); (case c2 => exact rfl); (case c3 => exact rfl); (case c4 => exact rfl); k_whole; intro g' L' h' tk' cells' FG' F' N' Y' B' X' T' l1; (try k_lt l1); k_cells Y'; (try simp only [List.cons_append, List.nil_append] at N'); (try dsimp only); (try k_lift B'); (try k_fold)))
local macro_rules | `(tactic| walk_at "m step") => `(tactic| ((fail_if_success (with_reducible show wpAny _ _ (exec (Stmt.While _ _ _ _) _) _ _ _)); (fail_if_success (with_reducible show LCg.CompRest _ _ _ _ _ _ _ _ _ _ _ _ _ _ _ _ _ _ _)); (first | (k_unfold; (try dsimp only)) | (k_end; kc_close) | walk1 | (dsimp only; walk1) | (leave1; walk_say "STEP leave1"; (try dsimp only)) | fail "no step")))
local macro_rules | `(tactic| walk_at "m steps") => `(tactic| repeat' ((fail_if_success (with_reducible show wpAny _ _ (exec (Stmt.While _ _ _ _) _) _ _ _)); (fail_if_success (with_reducible show LCg.CompRest _ _ _ _ _ _ _ _ _ _ _ _ _ _ _ _ _ _ _)); (first | (k_unfold; (try dsimp only)) | (k_end; kc_close) | walk1 | (dsimp only; walk1) | (leave1; walk_say "STEP leave1"; (try dsimp only)) | fail "no step")))
local macro_rules | `(tactic| walk_at "m room") => `(tactic| ((try simp only [depth_in1, depth_deeper, units_in1, units_deeper, depth_caller, units_caller]); (try dsimp only [ktrTop]); omega))
local macro_rules | `(tactic| walk_at "binaryOp LShift int int") => `(tactic| (k_here; k_dflt ((refine' lshift_K ?ka ?kb ?kc ?ke ?_); (case ka => first | decide | omega); (case kb => first | decide | omega); (case kc => first | decide | omega); (case ke => ((try simp only [Int.reduceSub, Int.reduceAdd, Int.reduceToNat, Int.reducePow, Int.reduceMul, Int.one_mul]); exact rfl)); k_whole)))
local macro_rules | `(tactic| walk_at "callWith ref") => `(tactic| (k_here; k_dflt (refine' callWith_K ?k1 ?k2 ?_; (case k1 => k_asm); (case k2 => k_is); k_whole)))
local macro_rules | `(tactic| walk_at "m enterT") => `(tactic| (refine' code_defX0 ?k1 ?k2 ?k3 ?k4 ?k5 ?kA ?kF ?kK ?k6 ?k7 ?k8 ?k9 ?kB ?_ ?c2 ?c3 ?c4 ?c5; (case kA => exact rfl); (case kF => exact rfl); (case kK => assumption); (case k1 => k_asm); (case k2 => k_asm); (case k3 => k_asm); (case k4 => k_asm); (case k5 => k_asm); (case k6 => k_is); (case k7 => k_is); (case k8 => ktr_room); (case k9 => exact BindsTo.of_eq rfl); (case c5 => decide); (case kB => exact locs rfl); (case c2 => exact rfl); (case c3 => exact rfl); (case c4 => exact rfl); k_whole; intro g' L' h' FG' F' N' B' X' T' D'; (try dsimp only); (try k_lift B'); (try k_fold)))
theorem take_use {w : World} {p : Program} {loose : List Str} {mean : ExcName → Option Value} {mg mb : Str → Option Value} {dp un : Nat} {gd : Option (List Code)} {cn : Str} {cs : Scope} {a : Addr} {ccd : Value} {cl : List (Str × Addr)} {outer : List Env} {A₀ : Around} {base h₀ : Heap} {L : Addr} {m : Str → Option Value} {s : Shared} {Q E : Value → Shared → Prop}
    {d l : Addr} {nd nl : Nat} {us : List Value} {xs : List Int} {seed many : Int} {t1 t2 : Tok} {news : List (Addr × Obj)} {mid : Int → Tok → Nat → List (Addr × Obj)} {fin : Int → Tok → Nat → List Value → Nat → List (Addr × Obj)}
    (B : Below A₀ base outer h₀) (F : Fr h₀ L s.heap m) (X : (Mine.hd.heap_39 w.params).In h₀) (T : Top p loose mean mg mb h₀) (hk : cs.kind = .function)
    (N : News h₀ L s.heap news) (hd : (d, listOf #[.ref l, .int seed t1] nd) ∈ news) (hl : (l, listOf us.toArray nl) ∈ news) (hlt : @LT.lt Nat _ l d)
    (hI : IntsAre us xs) (D : DrawOk xs seed) (hm : 0 < many) (hdp : dp < 900) (hun : un < 9000)
    (U : ∀ seed' t1' nd', Upd d (listOf #[.ref l, .int seed t1] nd) (listOf #[.ref l, .int seed' t1'] nd') news (mid seed' t1' nd'))
    (V : ∀ seed' t1' nd' us' nl', Upd l (listOf us.toArray nl) (listOf (List.toArray us') nl') (mid seed' t1' nd') (fin seed' t1' nd' us' nl'))
    (hret : ∀ r t us' xs' seed' t1' nd' nl' h' tk', Fr h₀ L h' m → News h₀ L h' (fin seed' t1' nd' us' nl') →
      IntsAre us' xs' → DrawOk xs' seed' → 0 ≤ r → r < many → Q (.int r t) { s with heap := h', toks := tk' }) :
    wpAny (model PySem.Challenge.rw_au6043_01.row.toRowW.prog w) (ktrTop dp un gd cn cs L a ccd cl outer) (call (.ref 132) [.ref d, .int many t2]) Q E s := by
  refine take_c B F X (nd := nd) (nl := nl) (us := us) (xs := xs) (l := l) (t1 := t1) (fun p hp => N p ?_) hlt T hk hI D hm hdp hun fun r t us' xs' seed' t1' nd' nl' h' tk' F' K' N' hI' D' h0 h1 =>
    hret r t us' xs' seed' t1' nd' nl' h' tk' F' (news_after2 N K' (U seed' t1' nd') (V seed' t1' nd' us' nl') (N'.get (.head _)) (N'.get (.tail _ (.head _)))) hI' D' h0 h1
  rcases hp with _ | ⟨_, hp⟩
  · exact hd
  · rcases hp with _ | ⟨_, hp⟩
    · exact hl
    · cases hp

end PartTakeUse

section PartGroups
local macro_rules | `(tactic| walk_at "m enter") => `(tactic| (refine' code_defS ?k1 ?k2 ?k3 ?k4 ?k5 ?kA ?kF ?kK ?k6 ?k7 ?k8 ?k9 ?kB ?_ ?c2 ?c3 ?c4 ?c5; (case kA => exact rfl); (case kF => exact rfl); (case kK => assumption); (case k1 => k_asm); (case k2 => k_asm); (case k3 => k_asm); (case k4 => k_asm); (case k5 => k_asm); (case k6 => k_is); (case k7 => k_is); (case k8 => ktr_room); (case k9 => exact BindsTo.of_eq rfl); (case c5 => decide); (case kB => exact locs rfl); (case c2 => exact rfl); (case c3 => exact rfl); (case c4 => exact rfl); k_whole; intro g' L' h' FG' F' N' B' X' T'; (try dsimp only); (try k_lift B'); (try k_fold)))
local macro_rules | `(tactic| units_room) => `(tactic| (have hcL' := cLine_is; simp only [units_in1, units_deeper, Around.mark_units]; (try dsimp only [ktrTop]); omega))
local macro_rules | `(tactic| ktr_room) => `(tactic| ((try simp only [depth_in1, depth_deeper]); (try dsimp only [ktrTop]); (try simp only [recursionLimit]); omega))
local macro_rules | `(tactic| k_room) => `(tactic| ktr_room)
local macro_rules | `(tactic| walk_at "eval ListComp") => `(tactic| (k_here; k_dflt (refine LCg.ListComp_U (F₀ := by k_asm) (by rfl) (by decide) (by rfl) (by decide) (by rfl) ?_)))
local macro_rules | `(tactic| walk_at "CompSrc") => `(tactic| (k_here; k_dflt (first
  | (refine LCg.CompSrc.base (by rfl) (by k_asm) (by k_asm) (by assumption) ?hz ?_; (case hz => ((have hL9 := IntsAre.length (by assumption)); simp only [List.size_toArray, sizeLine_eq]; omega)); intro g')
  | (refine LCg.CompSrc.range (by rfl) (by k_asm) (by k_asm) (by assumption) ?sm (rangeSize_up _) ?hz ?_; (case sm => exact small_one (by omega) (by omega) (by omega) (by omega)); (case hz => (simp only [sizeLine_eq]; omega)); intro g'))))
local macro_rules | `(tactic| walk_at "call type:range") => `(tactic| (k_here; k_dflt (refine' range1_rows ?kF ?kN ?_; (case kF => k_asm); (case kN => k_asm); intro h' tk' t1' u1' v1' hR' F' N' hk')))
local macro_rules | `(tactic| walk_at "execs nil") => `(tactic| (with_reducible refine wpAny_execs_nil ?_))
local macro_rules | `(tactic| walk_at "m enterC") => `(tactic| (refine' code_defCS ?k1 ?k2 ?k3 ?k4 ?k5 ?kA ?kF ?kK ?k6 ?k7 ?k8 ?k9 ?kB ?kD ?_ ?c2 ?c3 ?c4; (case kA => exact rfl); (case kF => exact rfl); (case kK => assumption); (case k1 => k_asm); (case k2 => k_asm); (case k3 => k_asm); (case k4 => k_asm); (case k5 => k_asm); (case k6 => k_is); (case k7 => k_is); (case k8 => ktr_room); (case k9 => exact BindsTo.of_eq rfl); (case kB => exact rfl); (case kD => decide +kernel); (case c2 => exact rfl); (case c3 => exact rfl); (case c4 => exact rfl); k_whole; intro g' L' h' tk' cells' FG' F' N' Y' B' X' T' l1; (try k_lt l1); k_cells Y'; (try simp only [List.cons_append, List.nil_append] at N'); (try dsimp only); (try k_lift B'); (try k_fold)))
local macro_rules | `(tactic| walk_at "m step") => `(tactic| ((fail_if_success (with_reducible show wpAny _ _ (exec (Stmt.While _ _ _ _) _) _ _ _)); (fail_if_success (with_reducible show LCg.CompRest _ _ _ _ _ _ _ _ _ _ _ _ _ _ _ _ _ _ _)); (first | (k_unfold; (try dsimp only)) | (k_end; kc_close) | walk1 | (dsimp only; walk1) | (leave1; walk_say "STEP leave1"; (try dsimp only)) | fail "no step")))
local macro_rules | `(tactic| walk_at "m steps") => `(tactic| repeat' ((fail_if_success (with_reducible show wpAny _ _ (exec (Stmt.While _ _ _ _) _) _ _ _)); (fail_if_success (with_reducible show LCg.CompRest _ _ _ _ _ _ _ _ _ _ _ _ _ _ _ _ _ _ _)); (first | (k_unfold; (try dsimp only)) | (k_end; kc_close) | walk1 | (dsimp only; walk1) | (leave1; walk_say "STEP leave1"; (try dsimp only)) | fail "no step")))
local macro_rules | `(tactic| walk_at "m room") => `(tactic| ((try simp only [depth_in1, depth_deeper, units_in1, units_deeper, depth_caller, units_caller]); (try dsimp only [ktrTop]); omega))
local macro_rules | `(tactic| walk_at "binaryOp LShift int int") => `(tactic| (k_here; k_dflt ((refine' lshift_K ?ka ?kb ?kc ?ke ?_); (case ka => first | decide | omega); (case kb => first | decide | omega); (case kc => first | decide | omega); (case ke => ((try simp only [Int.reduceSub, Int.reduceAdd, Int.reduceToNat, Int.reducePow, Int.reduceMul, Int.one_mul]); exact rfl)); k_whole)))
local macro_rules | `(tactic| walk_at "callWith ref") => `(tactic| (k_here; k_dflt (refine' callWith_K ?k1 ?k2 ?_; (case k1 => k_asm); (case k2 => k_is); k_whole)))
local macro_rules | `(tactic| walk_at "m enterT") => `(tactic| (refine' code_defX0 ?k1 ?k2 ?k3 ?k4 ?k5 ?kA ?kF ?kK ?k6 ?k7 ?k8 ?k9 ?kB ?_ ?c2 ?c3 ?c4 ?c5; (case kA => exact rfl); (case kF => exact rfl); (case kK => assumption); (case k1 => k_asm); (case k2 => k_asm); (case k3 => k_asm); (case k4 => k_asm); (case k5 => k_asm); (case k6 => k_is); (case k7 => k_is); (case k8 => ktr_room); (case k9 => exact BindsTo.of_eq rfl); (case c5 => decide); (case kB => exact locs rfl); (case c2 => exact rfl); (case c3 => exact rfl); (case c4 => exact rfl); k_whole; intro g' L' h' FG' F' N' B' X' T' D'; (try dsimp only); (try k_lift B'); (try k_fold)))
local macro_rules | `(tactic| walk_at "call ref") => `(tactic| (k_here; k_dflt ((show wpAny _ _ (call (Value.ref 132) [Value.ref _, Value.int _ _]) _ _ _); refine' take_use ?kB ?kF ?kX ?kT ?kk ?kN ?kd ?kl ?lt ?kI ?kD ?km ?kdp ?kun ?kU ?kV ?_; (case kB => k_asm); (case kF => k_asm); (case kX => k_asm); (case kT => k_asm); (case kk => first | exact rfl | assumption); (case kN => k_asm); (case kd => k_mem); (case kl => k_mem); (case lt => omega); (case kI => assumption); (case kD => assumption); (case km => first | decide | assumption | omega | exact Int.pow_pos (by decide)); (case kdp => walk_at "m room"); (case kun => walk_at "m room"); (case kU => (intro _ _ _; k_upd)); (case kV => (intro _ _ _ _ _; k_upd)); k_whole; intro r' tr' us' xs' sd' td' nd' nl' h' tk' F' N' hI' D' hr0' hr1'; (try dsimp only at N'); (try k_fold))))
local macro_rules | `(tactic| walk_at "eval Name") => `(tactic| (k_here; (with_reducible show wpAny _ _ (eval (Expr.Name _ _) (compEnvC _ _ _ _)) _ _ _); k_dflt (refine ld_cell (by k_asm) (by rfl) (by k_mem) (by assumption) ?_)))
section GroupsPart
def gval : List Int → Int
  | [] => 0
  | g :: r => g + 128 * gval r
def enc : List Int → List Int
  | [] => []
  | [g] => [g]
  | g :: r => (g + 128) :: enc r
local macro_rules | `(tactic| walk_at "subscriptTail") => `(tactic| (k_here; k_dflt ((show wpAny _ _ (subscriptTail (PySem.Expr.List _ _) _ (Value.ref _) (Value.int _ _)) _ _ _); refine' item_K (fun v => ∃ (k : Int) (t : Tok), v = .int k t ∧ 7 ≤ k ∧ k ≤ 70) ?kN ?km ?k0 ?k1 ?k2 ?kP ?_ ?ks; (case kN => k_asm); (case km => k_mem); (case k0 => omega); (case k1 => (simp only [List.length_cons, List.length_nil]; omega)); (case k2 => omega); (case kP => (simp only [List.forall_mem_cons, List.not_mem_nil, false_implies, implies_true, and_true]; exact ⟨⟨_, _, rfl, by decide, by decide⟩, ⟨_, _, rfl, by decide, by decide⟩, ⟨_, _, rfl, by decide, by decide⟩, ⟨_, _, rfl, by decide, by decide⟩, ⟨_, _, rfl, by decide, by decide⟩⟩)); (case ks => with_unfolding_all rfl); (rintro v' - ⟨bits', tb', e9', hb0', hb1'⟩; subst e9'))))
local macro_rules | `(tactic| walk_at "compareOp Eq ref ref") => `(tactic| (k_here; k_dflt (first
  | ((refine' eq_nilC ?N ?h1 ?h2 ?hI ?hu ?_); (case N => k_asm); (case h1 => k_mem); (case h2 => k_mem); (case hI => assumption); (case hu => units_room); k_whole)
  | ((refine' eq_nilN ?N ?h1 ?h2 ?hu ?_); (case N => k_asm); (case h1 => k_mem); (case h2 => k_mem); (case hu => units_room); k_whole))))
theorem gval_snoc (x : Int) : ∀ gs : List Int, gval (gs ++ [x]) = gval gs + 128 ^ gs.length * x
  | [] => by simp [gval]
  | g :: r => by
    show g + 128 * gval (r ++ [x]) = g + 128 * gval r + 128 ^ (r.length + 1) * x
    rw [gval_snoc x r, Int.pow_succ, Int.mul_add, Int.mul_assoc, Int.mul_comm (128 ^ r.length) (128 * x), Int.mul_assoc, Int.mul_comm x]
    omega
structure GOk (gs : List Int) (left number : Int) : Prop where
  small : ∀ x ∈ gs, 0 ≤ x ∧ x < 128
  len : gs.length ≤ 10
  l0 : 0 ≤ left
  l1 : left < 128 ^ (10 - gs.length)
  val : number = gval gs + 128 ^ gs.length * left
structure GJ1 (m₀ : Str → Option Value) (number : Int) (g : Addr) (rest : List (Addr × Obj)) (n : Nat) (m₁ : Str → Option Value) (news₁ : List (Addr × Obj)) : Prop where
  ex : ∃ gs us left tl ng, m₁ = (fun y => if y = Str.ofString "left" then some (.int left tl) else m₀ y) ∧ news₁ = (g, listOf (List.toArray us) ng) :: rest ∧ IntsAre us gs ∧ GOk gs left number ∧ n = left.toNat + (if gs = [] then 1 else 0)
theorem two70 : (2 : Int) ^ 70 = 128 ^ 10 := by decide
theorem pow_le70 {bits : Int} (h : bits ≤ 70) : (2 : Int) ^ bits.toNat ≤ 2 ^ 70 := by
  have : (2 : Nat) ^ bits.toNat ≤ 2 ^ 70 := Nat.pow_le_pow_right (by decide) (by omega)
  exact_mod_cast this
theorem gok_next {gs : List Int} {left number : Int} (h : GOk gs left number) (hc : 0 < left ∨ gs = []) : GOk (gs ++ [left.fmod 128]) (left.fdiv 128) number ∧ (left.fdiv 128).toNat < left.toNat + (if gs = [] then 1 else 0) := by
  have hd : left.fdiv 128 = left / 128 := Int.fdiv_eq_ediv_of_nonneg _ (by decide)
  have hm : left.fmod 128 = left % 128 := Int.fmod_eq_emod_of_nonneg _ (by decide)
  have h0 := h.l0
  have hl := h.l1
  have hlen : gs.length < 10 := by
    rcases hc with hc | hc
    · by_cases q : gs.length < 10
      · exact q
      · have : gs.length = 10 := by have := h.len; omega
        rw [this] at hl
        simp at hl
        omega
    · rw [hc]; decide
  rw [hd, hm]
  refine ⟨⟨fun x hx => ?_, by rw [List.length_append, List.length_singleton]; omega, by omega, ?_, ?_⟩, ?_⟩
  · rcases List.mem_append.mp hx with hx | hx
    · exact h.small x hx
    · rw [List.mem_singleton.mp hx]; omega
  · rw [List.length_append, List.length_singleton]
    rw [show 10 - gs.length = (10 - (gs.length + 1)) + 1 by omega, Int.pow_succ] at hl
    omega
  · rw [h.val, gval_snoc, List.length_append, List.length_singleton, Int.pow_succ, Int.mul_assoc, Int.add_assoc, ← Int.mul_add]
    congr 2
    omega
  · rcases hc with hc | hc
    · split <;> omega
    · rw [if_pos hc]; omega
theorem gj1_next {h₀ h' : Heap} {L g : Addr} {s : Shared} {Q : Flow → Shared → Prop} {m₀ : Str → Option Value} {number left : Int} {tl t tx : Tok} {rest : List (Addr × Obj)} {us : List Value} {gs : List Int} {n' tk : Nat}
    (F : Fr h₀ L h' (fun y => if y = Str.ofString "left" then some (.int (left.fdiv 128) t) else if y = Str.ofString "left" then some (.int left tl) else m₀ y)) (N : News h₀ L h' ((g, listOf (us.toArray.push (.int (left.fmod 128) tx)) n') :: rest))
    (hI : IntsAre us gs) (h : GOk gs left number) (hc : 0 < left ∨ gs = []) : WhileStep2 h₀ L s (GJ1 m₀ number g rest) Q (left.toNat + (if gs = [] then 1 else 0)) .next { s with heap := h', toks := tk } := by
  obtain ⟨h1, h2⟩ := gok_next h hc
  have e : (fun y => if y = Str.ofString "left" then some (Value.int (left.fdiv 128) t) else if y = Str.ofString "left" then some (.int left tl) else m₀ y) = fun y => if y = Str.ofString "left" then some (.int (left.fdiv 128) t) else m₀ y := by
    funext y; by_cases q : y = Str.ofString "left" <;> simp [q]
  rw [e] at F
  rw [List.push_toArray] at N
  exact ⟨h', tk, _, _, _, rfl, F, N, h2, ⟨_, _, _, _, _, rfl, rfl, ints_snoc hI _ _, h1, by simp⟩⟩
theorem gj1_start {m₀ : Str → Option Value} {number bits : Int} {g : Addr} {rest : List (Addr × Obj)} {t : Tok} (h0 : 0 ≤ number) (h1 : number < 2 ^ bits.toNat) (hb : bits ≤ 70) :
    GJ1 m₀ number g rest (number.toNat + 1) (fun y => if y = Str.ofString "left" then some (.int number t) else m₀ y) ((g, listOf #[] 0) :: rest) :=
  ⟨[], [], number, t, 0, rfl, rfl, .nil, ⟨nofun, by decide, h0, by have := pow_le70 hb; rw [two70] at this; exact Int.lt_of_lt_of_le h1 this, by simp [gval]⟩, rfl⟩
structure GsOk (gs : List Int) (number : Int) : Prop where
  small : ∀ x ∈ gs, 0 ≤ x ∧ x < 128
  one : 1 ≤ gs.length
  len : gs.length ≤ 10
  val : number = gval gs
theorem gsok_of {gs : List Int} {left number : Int} (h : GOk gs left number) (hl : ¬ 0 < left) (hne : gs ≠ []) : GsOk gs number := by
  have h0 := h.l0
  have : left = 0 := by omega
  refine ⟨h.small, ?_, h.len, by rw [h.val, this]; simp⟩
  cases gs with
  | nil => exact absurd rfl hne
  | cons => simp
theorem gsok_next {gs : List Int} {number : Int} (h : GsOk gs number) (hl : gs.length < 10) : GsOk (gs ++ [0]) number := by
  refine ⟨fun x hx => ?_, by simp, by rw [List.length_append, List.length_singleton]; omega, by rw [h.val, gval_snoc]; simp⟩
  rcases List.mem_append.mp hx with hx | hx
  · exact h.small x hx
  · rw [List.mem_singleton.mp hx]; decide
structure GJ2 (m₀ : Str → Option Value) (number : Int) (e0 e1 e2 : Addr × Obj) (g d l : Addr) (n : Nat) (m₁ : Str → Option Value) (news₁ : List (Addr × Obj)) : Prop where
  ex : ∃ gs us ng us' xs' sd td nd nl, m₁ = m₀ ∧ news₁ = [e0, (g, listOf (List.toArray us) ng), e1, e2, (d, listOf #[.ref l, .int sd td] nd), (l, listOf (List.toArray us') nl)] ∧ IntsAre us gs ∧ IntsAre us' xs' ∧ DrawOk xs' sd ∧ GsOk gs number ∧ n = 10 - gs.length
theorem gj2_next {h₀ h' : Heap} {L g d l : Addr} {s : Shared} {Q : Flow → Shared → Prop} {m₀ : Str → Option Value} {number : Int} {e0 e1 e2 : Addr × Obj} {us us' : List Value} {gs xs' : List Int} {ng tk nd nl : Nat} {sd : Int} {td tx : Tok}
    (F : Fr h₀ L h' m₀) (N : News h₀ L h' [e0, (g, listOf (us.toArray.push (.int 0 tx)) ng), e1, e2, (d, listOf #[.ref l, .int sd td] nd), (l, listOf (List.toArray us') nl)])
    (hI : IntsAre us gs) (hI' : IntsAre us' xs') (D : DrawOk xs' sd) (h : GsOk gs number) (hl : gs.length < 10) : WhileStep2 h₀ L s (GJ2 m₀ number e0 e1 e2 g d l) Q (10 - gs.length) .next { s with heap := h', toks := tk } := by
  rw [List.push_toArray] at N
  exact ⟨h', tk, _, _, 10 - (gs ++ [0]).length, rfl, F, N, by rw [List.length_append, List.length_singleton]; omega, ⟨_, _, _, _, _, _, _, _, _, rfl, rfl, ints_snoc hI _ _, hI', D, gsok_next h hl, rfl⟩⟩
def encAt (gs : List Int) (j : Nat) : Int := gs.getD j 0 + if j + 1 < gs.length then 128 else 0
local macro_rules | `(tactic| walk_at "subscriptTail") => `(tactic| (k_here; k_dflt ((show wpAny _ _ (subscriptTail (PySem.Expr.Name _ _) _ (Value.ref _) (Value.int _ _)) _ _ _); refine' itemI_K ?kN ?km ?ki ?k0 ?k1 ?k2 ?_ ?ks; (case kN => k_asm); (case km => k_mem); (case ki => assumption); (case k0 => omega); (case k1 => omega); (case k2 => omega); (case ks => with_unfolding_all rfl); (intro t9'))))
theorem enc_step {gs ms : List Int} {x : Int} (hP : ms = (List.range ms.length).map (encAt gs)) (hx : x = encAt gs ms.length) : ms ++ [x] = (List.range (ms ++ [x]).length).map (encAt gs) := by
  rw [List.length_append, List.length_singleton, List.range_succ, List.map_append, ← hP, hx]
  rfl
theorem encAt_map : ∀ gs : List Int, (List.range gs.length).map (encAt gs) = enc gs
  | [] => rfl
  | [g] => by simp [encAt, enc]
  | g :: g' :: r => by
    rw [List.length_cons, List.range_succ_eq_map, List.map_cons, List.map_map]
    have ih := encAt_map (g' :: r)
    show encAt (g :: g' :: r) 0 :: _ = (g + 128) :: enc (g' :: r)
    rw [← ih]
    congr 1
    apply List.map_congr_left
    intro j _
    simp [encAt]
theorem enc_in : ∀ {gs : List Int}, (∀ x ∈ gs, 0 ≤ x ∧ x < 128) → KBa.In (enc gs)
  | [], _ => fun _ h => nomatch h
  | [g], h => fun x hx => by
    have := h g (.head _)
    rw [show x = g from List.mem_singleton.mp hx]
    omega
  | g :: g' :: r, h => fun x hx => by
    rcases List.mem_cons.mp hx with q | q
    · have := h g (.head _); omega
    · exact enc_in (fun y hy => h y (.tail _ hy)) x q
theorem pick3 {h₀ h : Heap} {L : Addr} {a b c d e f k l : Addr × Obj} (N : News h₀ L h [a, b, c, d, e, f, k, l]) : News h₀ L h [a, k, l] := fun p hp => N p (by
  rcases hp with _ | ⟨_, hp⟩
  · exact .head _
  · exact .tail _ (.tail _ (.tail _ (.tail _ (.tail _ (.tail _ hp))))))
local macro_rules | `(tactic| walk_at "call type:bytes") => `(tactic| (k_here; k_dflt (refine' KBa.make_K ?kbaF ?kbaN ?kbah ?kbal ?kbai ?kbar ?kban ?_; (case kbaF => k_asm); (case kbaN => k_asm); (case kbah => rfl); (case kbal => exact News.isList (by k_asm) (by k_mem)); (case kbai => assumption); (case kbar => assumption); (case kban => omega)); intro h' t' tk' F' N' kbaIn))
local macro_rules | `(tactic| walk_at "call builtin:len") => `(tactic| (k_here; k_dflt (refine' len_K ?kN ?km ?ki ?kz ?_; (case kN => k_asm); (case km => k_mem); (case ki => assumption); (case kz => omega); intro t9' tk9')))
local macro_rules | `(tactic| walk_at "call builtin:list.append") => `(tactic| (k_here; k_dflt (refine' append_K ?k1 ?k2 ?k3 ?_ ?z; (case k1 => k_asm); (case k2 => k_asm); (case k3 => k_upd); (case z => (simp only [List.size_toArray, List.length_cons, sizeLine_eq]; omega)); k_whole); intro h' F' N'))
theorem groups_c {w : World} {p : Program} {loose : List Str} {mean : ExcName → Option Value} {mg mb : Str → Option Value} {dp un : Nat} {gd : Option (List Code)} {cn : Str} {cs : Scope} {a : Addr} {ccd : Value} {cl : List (Str × Addr)} {outer : List Env} {A₀ : Around} {base h₀ : Heap} {L : Addr} {m : Str → Option Value} {s : Shared} {Q E : Value → Shared → Prop}
    {d l : Addr} {nd nl : Nat} {us : List Value} {xs : List Int} {seed : Int} {t1 : Tok}
    (B : Below A₀ base outer h₀) (F : Fr h₀ L s.heap m) (X : (Mine.hd.heap_39 w.params).In h₀)
    (N : News h₀ L s.heap [(d, listOf #[.ref l, .int seed t1] nd), (l, listOf us.toArray nl)]) (hlt : @LT.lt Nat _ l d)
    (T : Top p loose mean mg mb h₀) (hk : cs.kind = .function) (hI : IntsAre us xs) (D : DrawOk xs seed)
    (hdp : dp < 800) (hun : un < 8000)
    (hret : ∀ (tp : Addr) (number : Int) (tn : Tok) (b : Array UInt8) (tb : Tok) (gs : List Int) us' xs' seed' t1' nd' nl' h' tk', Fr h₀ L h' m → KeepBut [d, l] s.heap h' →
      News h₀ L h' [(tp, { cls := .type "tuple", data := .seq #[.int number tn, .bytes b tb] }), (d, listOf #[.ref l, .int seed' t1'] nd'), (l, listOf (List.toArray us') nl')] → @LT.lt Nat _ d tp →
      IntsAre us' xs' → DrawOk xs' seed' → (∀ g ∈ gs, 0 ≤ g ∧ g < 128) → 1 ≤ gs.length → gs.length ≤ 10 → number = gval gs → number < 2 ^ 70 → KBw.bInts b = enc gs →
      Q (.ref tp) { s with heap := h', toks := tk' }) :
    wpAny (model PySem.Challenge.rw_au6043_01.row.toRowW.prog w) (ktrTop dp un gd cn cs L a ccd cl outer) (call (.ref 137) [.ref d]) Q E s := by
  w_top off
  revert X; k_fill; intro X
  refine wpAny_call ?_
  k_dflt walk_at "m enterC"
  walk_at "m steps"
  refine wpAny_noRaise ?_
  rename News _ _ _ _ => N9
  rename Fr _ _ _ _ => F9
  refine While_inv2 (GJ1 _ _ _ _) F9 N9 (gj1_start (by assumption) (by assumption) (by assumption)) ?turn PassesOwn.never
  case turn =>
    clear N9 F9
    rintro n m₁ news₁ h₁ tk₁ F₁ N₁ ⟨gs, us₁, left, tl, ng, rfl, rfl, hI₁, hok, rfl⟩
    cases hI₁ with
    | nil =>
      walk_at "m steps"
      all_goals first | exact gj1_next (by assumption) (by assumption) .nil hok (.inr rfl) | exact gj1_next (by assumption) (cb_drop (by assumption) fun _ hp => .tail _ hp) .nil hok (.inr rfl)
    | cons x tx hI₂ =>
      rename_i us₂ gs₂
      have hI₁ : IntsAre (.int x tx :: us₂) (x :: gs₂) := .cons x tx hI₂
      have hsz : us₂.length ≤ 10 := by have := hok.len; have := hI₂.length; simp at *; omega
      walk_at "m steps"
      · exact gj1_next (by assumption) (by assumption) hI₁ hok (.inl (by assumption))
      refine wpAny_noRaise ?_
      rename News _ _ _ _ => N9
      rename Fr _ _ _ _ => F9
      refine While_joinJ (GJ2 _ _ _ _ _ _ _ _) F9 N9 ⟨_, _, _, _, _, _, _, _, _, rfl, rfl, hI₁, by assumption, by assumption, gsok_of hok (by assumption) (by simp), rfl⟩ ?turn2 ?done2 PassesOwn.never
      case turn2 =>
        clear N9 F9
        rintro n m₁ news₁ h₁ tk₁ F₁ N₁ ⟨gs, us₃, ng₃, us₄, xs₄, sd₄, td₄, nd₄, nl₄, rfl, rfl, hI₃, hI₄, hD₄, hok₃, rfl⟩
        have hl₃ := hok₃.len
        have hsz₃ : us₃.length ≤ 10 := by rw [hI₃.length]; exact hl₃
        walk_at "m steps"
        all_goals first
          | exact gj2_next (by assumption) (by assumption) hI₃ (by assumption) (by assumption) hok₃ (by omega)
          | exact WExit.intro (by assumption) (by assumption) ⟨_, ⟨_, _, _, _, _, _, _, _, _, rfl, rfl, hI₃, by assumption, by assumption, hok₃, rfl⟩⟩
      case done2 =>
        clear N9 F9
        rintro n m₁ news₁ h₁ tk₁ F₁ N₁ ⟨gs, us₃, ng₃, us₄, xs₄, sd₄, td₄, nd₄, nl₄, rfl, rfl, hI₃, hI₄, hD₄, hok₃, rfl⟩
        have hl₃ := hok₃.len
        walk_at "m steps"
        refine rest_inv (CInv _ fun ms => ms = (List.range ms.length).map (encAt gs)) ?step ?fin _ 0 [] _ (Nat.zero_add _) ⟨rfl, [], .nil, rfl, rfl⟩
        case step =>
          rintro i ys news hi ⟨rfl, ms, hms, hml, hP⟩ v I oI C oC D m₂ h9 tk9 E9 hv hC hx F9 N9 off9 ne9
          obtain ⟨t9, rfl⟩ := hv
          simp only [LCg.Off3, and_true] at off9
          simp only [Int.zero_add] at hx
          walk_at "m steps"
          · refine ⟨rfl, _, ints_snoc hms _ _, by simp [hml], enc_step hP ?_⟩
            rw [hml]
            unfold encAt
            rw [if_pos (by omega), Int.toNat_natCast]
          · refine ⟨rfl, _, ints_snoc hms _ _, by simp [hml], enc_step hP ?_⟩
            rw [hml]
            unfold encAt
            rw [if_neg (by omega), Int.toNat_natCast]
        case fin =>
          rintro ys news ⟨rfl, ms, hms, hml, hP⟩
          have e9 : ms = enc gs := by rw [hP, hml]; exact encAt_map gs
          subst e9
          have hIn : KBa.In (enc gs) := enc_in hok₃.small
          have hLe : (enc gs).length ≤ 10 := by rw [hml]; exact hl₃
          walk_at "m steps"
          intro hkeep
          show Q _ _
          refine hret _ _ _ _ _ gs _ _ _ _ _ _ _ _ (by assumption) hkeep (pick3 (by assumption)) ?_ hI₄ hD₄ hok₃.small hok₃.one hok₃.len hok₃.val ?_ (KBa.ints_make hIn)
          · omega
          · exact Int.lt_of_lt_of_le (by assumption) (pow_le70 (by assumption))
end GroupsPart

end PartGroups

section PartUses
local macro_rules | `(tactic| walk_at "m enter") => `(tactic| (refine' code_defS ?k1 ?k2 ?k3 ?k4 ?k5 ?kA ?kF ?kK ?k6 ?k7 ?k8 ?k9 ?kB ?_ ?c2 ?c3 ?c4 ?c5; (case kA => exact rfl); (case kF => exact rfl); (case kK => assumption); (case k1 => k_asm); (case k2 => k_asm); (case k3 => k_asm); (case k4 => k_asm); (case k5 => k_asm); (case k6 => k_is); (case k7 => k_is); (case k8 => ktr_room); (case k9 => exact BindsTo.of_eq rfl); (case c5 => decide); (case kB => exact locs rfl); (case c2 => exact rfl); (case c3 => exact rfl); (case c4 => exact rfl); k_whole; intro g' L' h' FG' F' N' B' X' T'; (try dsimp only); (try k_lift B'); (try k_fold)))
local macro_rules | `(tactic| units_room) => `(tactic| (have hcL' := cLine_is; simp only [units_in1, units_deeper, Around.mark_units]; (try dsimp only [ktrTop]); omega))
local macro_rules | `(tactic| ktr_room) => `(tactic| ((try simp only [depth_in1, depth_deeper]); (try dsimp only [ktrTop]); (try simp only [recursionLimit]); omega))
local macro_rules | `(tactic| k_room) => `(tactic| ktr_room)
local macro_rules | `(tactic| walk_at "eval ListComp") => `(tactic| (k_here; k_dflt (refine LCg.ListComp_U (F₀ := by k_asm) (by rfl) (by decide) (by rfl) (by decide) (by rfl) ?_)))
local macro_rules | `(tactic| walk_at "CompSrc") => `(tactic| (k_here; k_dflt (first
  | (refine LCg.CompSrc.base (by rfl) (by k_asm) (by k_asm) (by assumption) ?hz ?_; (case hz => ((have hL9 := IntsAre.length (by assumption)); simp only [List.size_toArray, sizeLine_eq]; omega)); intro g')
  | (refine LCg.CompSrc.range (by rfl) (by k_asm) (by k_asm) (by assumption) ?sm (rangeSize_up _) ?hz ?_; (case sm => exact small_one (by omega) (by omega) (by omega) (by omega)); (case hz => (simp only [sizeLine_eq]; omega)); intro g'))))
local macro_rules | `(tactic| walk_at "call type:range") => `(tactic| (k_here; k_dflt (refine' range1_rows ?kF ?kN ?_; (case kF => k_asm); (case kN => k_asm); intro h' tk' t1' u1' v1' hR' F' N' hk')))
local macro_rules | `(tactic| walk_at "execs nil") => `(tactic| (with_reducible refine wpAny_execs_nil ?_))
local macro_rules | `(tactic| walk_at "m enterC") => `(tactic| (refine' code_defCS ?k1 ?k2 ?k3 ?k4 ?k5 ?kA ?kF ?kK ?k6 ?k7 ?k8 ?k9 ?kB ?kD ?_ ?c2 ?c3 ?c4; (case kA => exact rfl); (case kF => exact rfl); (case kK => assumption); (case k1 => k_asm); (case k2 => k_asm); (case k3 => k_asm); (case k4 => k_asm); (case k5 => k_asm); (case k6 => k_is); (case k7 => k_is); (case k8 => ktr_room); (case k9 => exact BindsTo.of_eq rfl); (case kB => exact rfl); (case kD => decide +kernel); (case c2 => exact rfl); (case c3 => exact rfl); (case c4 => exact rfl); k_whole; intro g' L' h' tk' cells' FG' F' N' Y' B' X' T' l1; (try k_lt l1); k_cells Y'; (try simp only [List.cons_append, List.nil_append] at N'); (try dsimp only); (try k_lift B'); (try k_fold)))
local macro_rules | `(tactic| walk_at "m step") => `(tactic| ((fail_if_success (with_reducible show wpAny _ _ (exec (Stmt.While _ _ _ _) _) _ _ _)); (fail_if_success (with_reducible show LCg.CompRest _ _ _ _ _ _ _ _ _ _ _ _ _ _ _ _ _ _ _)); (first | (k_unfold; (try dsimp only)) | (k_end; kc_close) | walk1 | (dsimp only; walk1) | (leave1; walk_say "STEP leave1"; (try dsimp only)) | fail "no step")))
local macro_rules | `(tactic| walk_at "m steps") => `(tactic| repeat' ((fail_if_success (with_reducible show wpAny _ _ (exec (Stmt.While _ _ _ _) _) _ _ _)); (fail_if_success (with_reducible show LCg.CompRest _ _ _ _ _ _ _ _ _ _ _ _ _ _ _ _ _ _ _)); (first | (k_unfold; (try dsimp only)) | (k_end; kc_close) | walk1 | (dsimp only; walk1) | (leave1; walk_say "STEP leave1"; (try dsimp only)) | fail "no step")))
local macro_rules | `(tactic| walk_at "m room") => `(tactic| ((try simp only [depth_in1, depth_deeper, units_in1, units_deeper, depth_caller, units_caller]); (try dsimp only [ktrTop]); omega))
local macro_rules | `(tactic| walk_at "binaryOp LShift int int") => `(tactic| (k_here; k_dflt ((refine' lshift_K ?ka ?kb ?kc ?ke ?_); (case ka => first | decide | omega); (case kb => first | decide | omega); (case kc => first | decide | omega); (case ke => ((try simp only [Int.reduceSub, Int.reduceAdd, Int.reduceToNat, Int.reducePow, Int.reduceMul, Int.one_mul]); exact rfl)); k_whole)))
local macro_rules | `(tactic| walk_at "callWith ref") => `(tactic| (k_here; k_dflt (refine' callWith_K ?k1 ?k2 ?_; (case k1 => k_asm); (case k2 => k_is); k_whole)))
local macro_rules | `(tactic| walk_at "m enterT") => `(tactic| (refine' code_defX0 ?k1 ?k2 ?k3 ?k4 ?k5 ?kA ?kF ?kK ?k6 ?k7 ?k8 ?k9 ?kB ?_ ?c2 ?c3 ?c4 ?c5; (case kA => exact rfl); (case kF => exact rfl); (case kK => assumption); (case k1 => k_asm); (case k2 => k_asm); (case k3 => k_asm); (case k4 => k_asm); (case k5 => k_asm); (case k6 => k_is); (case k7 => k_is); (case k8 => ktr_room); (case k9 => exact BindsTo.of_eq rfl); (case c5 => decide); (case kB => exact locs rfl); (case c2 => exact rfl); (case c3 => exact rfl); (case c4 => exact rfl); k_whole; intro g' L' h' FG' F' N' B' X' T' D'; (try dsimp only); (try k_lift B'); (try k_fold)))
local macro_rules | `(tactic| walk_at "call ref") => `(tactic| (k_here; k_dflt ((show wpAny _ _ (call (Value.ref 132) [Value.ref _, Value.int _ _]) _ _ _); refine' take_use ?kB ?kF ?kX ?kT ?kk ?kN ?kd ?kl ?lt ?kI ?kD ?km ?kdp ?kun ?kU ?kV ?_; (case kB => k_asm); (case kF => k_asm); (case kX => k_asm); (case kT => k_asm); (case kk => first | exact rfl | assumption); (case kN => k_asm); (case kd => k_mem); (case kl => k_mem); (case lt => omega); (case kI => assumption); (case kD => assumption); (case km => first | decide | assumption | omega | exact Int.pow_pos (by decide)); (case kdp => walk_at "m room"); (case kun => walk_at "m room"); (case kU => (intro _ _ _; k_upd)); (case kV => (intro _ _ _ _ _; k_upd)); k_whole; intro r' tr' us' xs' sd' td' nd' nl' h' tk' F' N' hI' D' hr0' hr1'; (try dsimp only at N'); (try k_fold))))
local macro_rules | `(tactic| walk_at "eval Name") => `(tactic| (k_here; (with_reducible show wpAny _ _ (eval (Expr.Name _ _) (compEnvC _ _ _ _)) _ _ _); k_dflt (refine ld_cell (by k_asm) (by rfl) (by k_mem) (by assumption) ?_)))
theorem news_from {h₀ h h' : Heap} {L x : Addr} {ox : Obj} {rest pre : List (Addr × Obj)} (N : News h₀ L h ((x, ox) :: rest)) (k : KeepBut [x] h h') (N' : News h₀ L h' (pre ++ [(x, ox)])) : News h₀ L h' (pre ++ (x, ox) :: rest) := by
  intro p hp
  rcases List.mem_append.mp hp with q | q
  · exact N' p (List.mem_append_left _ q)
  · rcases List.mem_cons.mp q with rfl | q
    · exact N' _ (List.mem_append_right _ (.head _))
    · have P := N p (.tail _ q)
      by_cases e : p.1 = x
      · refine ⟨?_, P.2⟩
        have X := N (x, ox) (.head _)
        have X' := N' (x, ox) (List.mem_append_right _ (.head _))
        have e2 : p.2 = ox := by
          have := P.1
          rw [e, X.1] at this
          exact (Option.some.inj this).symm
        rw [e, e2]
        exact X'.1
      · exact ⟨k _ _ P.1 (by simpa using e), P.2⟩
theorem draw_use {w : World} {p : Program} {loose : List Str} {mean : ExcName → Option Value} {mg mb : Str → Option Value} {dp un : Nat} {gd : Option (List Code)} {cn : Str} {cs : Scope} {a : Addr} {ccd : Value} {cl : List (Str × Addr)} {outer : List Env} {A₀ : Around} {base h₀ : Heap} {L : Addr} {m : Str → Option Value} {s : Shared} {Q E : Value → Shared → Prop}
    {ls x : Addr} {ox : Obj} {vs : List Value} {ns : List Int} {rest : List (Addr × Obj)}
    (B : Below A₀ base outer h₀) (F : Fr h₀ L s.heap m) (X : (Mine.hd.heap_39 w.params).In h₀)
    (T : Top p loose mean mg mb h₀) (hk : cs.kind = .function) (hl : base.IsList ls vs.toArray) (iL : IntsAre vs ns) (hn : ns.length ≤ 63)
    (N : News h₀ L s.heap ((x, ox) :: rest)) (hdp : dp < 900) (hun : un < 9000)
    (hret : ∀ d l us xs seed t1 nd nl h' tk', Fr h₀ L h' m → News h₀ L h' ((d, listOf #[.ref l, .int seed t1] nd) :: (l, listOf (List.toArray us) nl) :: (x, ox) :: rest) → @LT.lt Nat _ l d → @LT.lt Nat _ x l →
      IntsAre us xs → DrawOk xs seed → Q (.ref d) { s with heap := h', toks := tk' }) :
    wpAny (model PySem.Challenge.rw_au6043_01.row.toRowW.prog w) (ktrTop dp un gd cn cs L a ccd cl outer) (call (.ref 125) [.ref ls]) Q E s :=
  draw_c B F X T hk hl iL hn (cb_drop N fun p hp => by rcases hp with _ | ⟨_, hp⟩; exact .head _; cases hp) hdp hun fun d l us xs seed t1 nd nl h' tk' F' K' N' h1 h2 hI hD =>
    hret d l us xs seed t1 nd nl h' tk' F' (news_from (pre := [(d, listOf #[.ref l, .int seed t1] nd), (l, listOf (List.toArray us) nl)]) N K' N') h1 h2 hI hD
theorem groups_use {w : World} {p : Program} {loose : List Str} {mean : ExcName → Option Value} {mg mb : Str → Option Value} {dp un : Nat} {gd : Option (List Code)} {cn : Str} {cs : Scope} {a : Addr} {ccd : Value} {cl : List (Str × Addr)} {outer : List Env} {A₀ : Around} {base h₀ : Heap} {L : Addr} {m : Str → Option Value} {s : Shared} {Q E : Value → Shared → Prop}
    {d l : Addr} {nd nl : Nat} {us : List Value} {xs : List Int} {seed : Int} {t1 : Tok} {news : List (Addr × Obj)} {mid : Int → Tok → Nat → List (Addr × Obj)} {fin : Int → Tok → Nat → List Value → Nat → List (Addr × Obj)}
    (B : Below A₀ base outer h₀) (F : Fr h₀ L s.heap m) (X : (Mine.hd.heap_39 w.params).In h₀) (T : Top p loose mean mg mb h₀) (hk : cs.kind = .function)
    (N : News h₀ L s.heap news) (hd : (d, listOf #[.ref l, .int seed t1] nd) ∈ news) (hl : (l, listOf us.toArray nl) ∈ news) (hlt : @LT.lt Nat _ l d)
    (hI : IntsAre us xs) (D : DrawOk xs seed) (hdp : dp < 800) (hun : un < 8000)
    (U : ∀ seed' t1' nd', Upd d (listOf #[.ref l, .int seed t1] nd) (listOf #[.ref l, .int seed' t1'] nd') news (mid seed' t1' nd'))
    (V : ∀ seed' t1' nd' us' nl', Upd l (listOf us.toArray nl) (listOf (List.toArray us') nl') (mid seed' t1' nd') (fin seed' t1' nd' us' nl'))
    (hret : ∀ (tp : Addr) (number : Int) (tn : Tok) (b : Array UInt8) (tb : Tok) (gs : List Int) us' xs' seed' t1' nd' nl' h' tk', Fr h₀ L h' m →
      News h₀ L h' ((tp, { cls := .type "tuple", data := .seq #[.int number tn, .bytes b tb] }) :: fin seed' t1' nd' us' nl') → @LT.lt Nat _ d tp →
      IntsAre us' xs' → DrawOk xs' seed' → (∀ g ∈ gs, 0 ≤ g ∧ g < 128) → 1 ≤ gs.length → gs.length ≤ 10 → number = gval gs → number < 2 ^ 70 → KBw.bInts b = enc gs →
      Q (.ref tp) { s with heap := h', toks := tk' }) :
    wpAny (model PySem.Challenge.rw_au6043_01.row.toRowW.prog w) (ktrTop dp un gd cn cs L a ccd cl outer) (call (.ref 137) [.ref d]) Q E s := by
  refine groups_c B F X (nd := nd) (nl := nl) (us := us) (xs := xs) (l := l) (t1 := t1) (fun p hp => N p ?_) hlt T hk hI D hdp hun fun tp number tn b tb gs us' xs' seed' t1' nd' nl' h' tk' F' K' N' hdt hI' D' h0 h1 h2 h3 h4 h5 =>
    hret tp number tn b tb gs us' xs' seed' t1' nd' nl' h' tk' F' (fun p hp => ?_) hdt hI' D' h0 h1 h2 h3 h4 h5
  · rcases hp with _ | ⟨_, hp⟩
    · exact hd
    · rcases hp with _ | ⟨_, hp⟩
      · exact hl
      · cases hp
  · rcases List.mem_cons.mp hp with rfl | hp
    · exact N' _ (.head _)
    · exact news_after2 N K' (U seed' t1' nd') (V seed' t1' nd' us' nl') (N'.get (.tail _ (.head _))) (N'.get (.tail _ (.tail _ (.head _)))) p hp

end PartUses

section PartRead
local macro_rules | `(tactic| walk_at "m enter") => `(tactic| (refine' code_defS ?k1 ?k2 ?k3 ?k4 ?k5 ?kA ?kF ?kK ?k6 ?k7 ?k8 ?k9 ?kB ?_ ?c2 ?c3 ?c4 ?c5; (case kA => exact rfl); (case kF => exact rfl); (case kK => assumption); (case k1 => k_asm); (case k2 => k_asm); (case k3 => k_asm); (case k4 => k_asm); (case k5 => k_asm); (case k6 => k_is); (case k7 => k_is); (case k8 => ktr_room); (case k9 => exact BindsTo.of_eq rfl); (case c5 => decide); (case kB => exact locs rfl); (case c2 => exact rfl); (case c3 => exact rfl); (case c4 => exact rfl); k_whole; intro g' L' h' FG' F' N' B' X' T'; (try dsimp only); (try k_lift B'); (try k_fold)))
local macro_rules | `(tactic| units_room) => `(tactic| (have hcL' := cLine_is; simp only [units_in1, units_deeper, Around.mark_units]; (try dsimp only [ktrTop]); omega))
local macro_rules | `(tactic| ktr_room) => `(tactic| ((try simp only [depth_in1, depth_deeper]); (try dsimp only [ktrTop]); (try simp only [recursionLimit]); omega))
local macro_rules | `(tactic| k_room) => `(tactic| ktr_room)
local macro_rules | `(tactic| walk_at "eval ListComp") => `(tactic| (k_here; k_dflt (refine LCg.ListComp_U (F₀ := by k_asm) (by rfl) (by decide) (by rfl) (by decide) (by rfl) ?_)))
local macro_rules | `(tactic| walk_at "CompSrc") => `(tactic| (k_here; k_dflt (first
  | (refine LCg.CompSrc.base (by rfl) (by k_asm) (by k_asm) (by assumption) ?hz ?_; (case hz => ((have hL9 := IntsAre.length (by assumption)); simp only [List.size_toArray, sizeLine_eq]; omega)); intro g')
  | (refine LCg.CompSrc.range (by rfl) (by k_asm) (by k_asm) (by assumption) ?sm (rangeSize_up _) ?hz ?_; (case sm => exact small_one (by omega) (by omega) (by omega) (by omega)); (case hz => (simp only [sizeLine_eq]; omega)); intro g'))))
local macro_rules | `(tactic| walk_at "call type:range") => `(tactic| (k_here; k_dflt (refine' range1_rows ?kF ?kN ?_; (case kF => k_asm); (case kN => k_asm); intro h' tk' t1' u1' v1' hR' F' N' hk')))
local macro_rules | `(tactic| walk_at "execs nil") => `(tactic| (with_reducible refine wpAny_execs_nil ?_))
local macro_rules | `(tactic| walk_at "m enterC") => `(tactic| (refine' code_defCS ?k1 ?k2 ?k3 ?k4 ?k5 ?kA ?kF ?kK ?k6 ?k7 ?k8 ?k9 ?kB ?kD ?_ ?c2 ?c3 ?c4; (case kA => exact rfl); (case kF => exact rfl); (case kK => assumption); (case k1 => k_asm); (case k2 => k_asm); (case k3 => k_asm); (case k4 => k_asm); (case k5 => k_asm); (case k6 => k_is); (case k7 => k_is); (case k8 => ktr_room); (case k9 => exact BindsTo.of_eq rfl); (case kB => exact rfl); (case kD => decide +kernel); (case c2 => exact rfl); (case c3 => exact rfl); (case c4 => exact rfl); k_whole; intro g' L' h' tk' cells' FG' F' N' Y' B' X' T' l1; (try k_lt l1); k_cells Y'; (try simp only [List.cons_append, List.nil_append] at N'); (try dsimp only); (try k_lift B'); (try k_fold)))
local macro_rules | `(tactic| walk_at "m step") => `(tactic| ((fail_if_success (with_reducible show wpAny _ _ (exec (Stmt.While _ _ _ _) _) _ _ _)); (fail_if_success (with_reducible show LCg.CompRest _ _ _ _ _ _ _ _ _ _ _ _ _ _ _ _ _ _ _)); (first | (k_unfold; (try dsimp only)) | (k_end; kc_close) | walk1 | (dsimp only; walk1) | (leave1; walk_say "STEP leave1"; (try dsimp only)) | fail "no step")))
local macro_rules | `(tactic| walk_at "m steps") => `(tactic| repeat' ((fail_if_success (with_reducible show wpAny _ _ (exec (Stmt.While _ _ _ _) _) _ _ _)); (fail_if_success (with_reducible show LCg.CompRest _ _ _ _ _ _ _ _ _ _ _ _ _ _ _ _ _ _ _)); (first | (k_unfold; (try dsimp only)) | (k_end; kc_close) | walk1 | (dsimp only; walk1) | (leave1; walk_say "STEP leave1"; (try dsimp only)) | fail "no step")))
local macro_rules | `(tactic| walk_at "m room") => `(tactic| ((try simp only [depth_in1, depth_deeper, units_in1, units_deeper, depth_caller, units_caller]); (try dsimp only [ktrTop]); omega))
local macro_rules | `(tactic| walk_at "binaryOp LShift int int") => `(tactic| (k_here; k_dflt ((refine' lshift_K ?ka ?kb ?kc ?ke ?_); (case ka => first | decide | omega); (case kb => first | decide | omega); (case kc => first | decide | omega); (case ke => ((try simp only [Int.reduceSub, Int.reduceAdd, Int.reduceToNat, Int.reducePow, Int.reduceMul, Int.one_mul]); exact rfl)); k_whole)))
local macro_rules | `(tactic| walk_at "callWith ref") => `(tactic| (k_here; k_dflt (refine' callWith_K ?k1 ?k2 ?_; (case k1 => k_asm); (case k2 => k_is); k_whole)))
local macro_rules | `(tactic| walk_at "m enterT") => `(tactic| (refine' code_defX0 ?k1 ?k2 ?k3 ?k4 ?k5 ?kA ?kF ?kK ?k6 ?k7 ?k8 ?k9 ?kB ?_ ?c2 ?c3 ?c4 ?c5; (case kA => exact rfl); (case kF => exact rfl); (case kK => assumption); (case k1 => k_asm); (case k2 => k_asm); (case k3 => k_asm); (case k4 => k_asm); (case k5 => k_asm); (case k6 => k_is); (case k7 => k_is); (case k8 => ktr_room); (case k9 => exact BindsTo.of_eq rfl); (case c5 => decide); (case kB => exact locs rfl); (case c2 => exact rfl); (case c3 => exact rfl); (case c4 => exact rfl); k_whole; intro g' L' h' FG' F' N' B' X' T' D'; (try dsimp only); (try k_lift B'); (try k_fold)))
local macro_rules | `(tactic| walk_at "call ref") => `(tactic| (k_here; k_dflt ((show wpAny _ _ (call (Value.ref 132) [Value.ref _, Value.int _ _]) _ _ _); refine' take_use ?kB ?kF ?kX ?kT ?kk ?kN ?kd ?kl ?lt ?kI ?kD ?km ?kdp ?kun ?kU ?kV ?_; (case kB => k_asm); (case kF => k_asm); (case kX => k_asm); (case kT => k_asm); (case kk => first | exact rfl | assumption); (case kN => k_asm); (case kd => k_mem); (case kl => k_mem); (case lt => omega); (case kI => assumption); (case kD => assumption); (case km => first | decide | assumption | omega | exact Int.pow_pos (by decide)); (case kdp => walk_at "m room"); (case kun => walk_at "m room"); (case kU => (intro _ _ _; k_upd)); (case kV => (intro _ _ _ _ _; k_upd)); k_whole; intro r' tr' us' xs' sd' td' nd' nl' h' tk' F' N' hI' D' hr0' hr1'; (try dsimp only at N'); (try k_fold))))
local macro_rules | `(tactic| walk_at "eval Name") => `(tactic| (k_here; (with_reducible show wpAny _ _ (eval (Expr.Name _ _) (compEnvC _ _ _ _)) _ _ _); k_dflt (refine ld_cell (by k_asm) (by rfl) (by k_mem) (by assumption) ?_)))
local macro_rules | `(tactic| walk_at "call ref") => `(tactic| (k_here; k_dflt ((show wpAny _ _ (call (Value.ref 125) [Value.ref _]) _ _ _); refine' draw_use ?kB ?kF ?kX ?kT ?kk ?kl ?ki ?kn ?kN ?kdp ?kun ?_; (case kB => k_asm); (case kF => k_asm); (case kX => k_asm); (case kT => k_asm); (case kk => first | exact rfl | assumption); (case kl => assumption); (case ki => assumption); (case kn => first | assumption | omega); (case kN => k_asm); (case kdp => walk_at "m room"); (case kun => walk_at "m room"); k_whole; intro d' l' us' xs' sd' td' nd' nl' h' tk' F' N' l1' l2' hI' D'; (try k_fold))))
local macro_rules | `(tactic| walk_at "call ref") => `(tactic| (k_here; k_dflt ((show wpAny _ _ (call (Value.ref 137) [Value.ref _]) _ _ _); refine' groups_use ?kB ?kF ?kX ?kT ?kk ?kN ?kd ?kl ?lt ?kI ?kD ?kdp ?kun ?kU ?kV ?_; (case kB => k_asm); (case kF => k_asm); (case kX => k_asm); (case kT => k_asm); (case kk => first | exact rfl | assumption); (case kN => k_asm); (case kd => k_mem); (case kl => k_mem); (case lt => omega); (case kI => assumption); (case kD => assumption); (case kdp => walk_at "m room"); (case kun => walk_at "m room"); (case kU => (intro _ _ _; k_upd)); (case kV => (intro _ _ _ _ _; k_upd)); k_whole; intro tp' number' tn' b' tb' gs' us' xs' sd' td' nd' nl' h' tk' F' N' l1' hI' D' hg1' hg2' hg3' hg4' hg5' hg6'; (try dsimp only at N'); (try k_fold))))
section ReadPart
def topStmt (n : String) : Option Stmt := PySem.Challenge.pw_au6043_01.main.body.find? fun st => match st with
  | .FunctionDef name .. => name == Str.ofString n
  | _ => false
def defBody : Option Stmt → List Stmt
  | some (.FunctionDef _ _ b ..) => b
  | _ => []
def defArgs : Option Stmt → Option Arguments
  | some (.FunctionDef _ a ..) => some a
  | _ => none
def defScope : Option Stmt → Option Scope
  | some (.FunctionDef _ _ _ _ _ _ sc ..) => some sc
  | _ => none
def plainDef : Option Stmt := (defBody (topStmt "_VarintDecoder"))[0]?
def signedDef : Option Stmt := (defBody (topStmt "_SignedVarintDecoder"))[2]?
section
variable {prog : Program} {w : World} {A : Around} {E : Value → Shared → Prop} {s : Shared} {Q : Value → Shared → Prop}
open Builtin in
theorem bytes_out {b : Array UInt8} {i : Int} {t u : Tok} (hA : A.handled = none) (h0 : 0 ≤ i) (h1 : (b.size : Int) ≤ i) (h2 : i < 2 ^ 62)
    (hE : ∀ h' tk e, Heap.NewExc s.heap h' e "IndexError" → E (.ref e) { s with heap := h', toks := tk }) : wpAny (model prog w) A (getItem (.bytes b t) (.int i u)) Q E s := by
  refine wpAny_getItem_slot (typeIs_bytes s b t) (by decide) FB.slot_bytes_getitem (wpAny_call_entry FB.slot_bytes_getitem (typeIs_bytes s b t) FB.entry_bytes_getitem ?_ (FB.args_bytes_getitem_2 _ _))
  show wpAny _ _ (Bytes.subscript? (.int i u) >>= fun r => _) _ _ s
  refine wpAny_bind ?_
  unfold Bytes.subscript?
  refine wpAny_bind (wpAny_specialOf (typeIs_int s i u) F.slot_int_index.lookup ?_)
  show wpAny _ _ (if (!Bytes.fitsIndex i) = true then _ else pure (some i)) _ _ s
  have hr : Bytes.fitsIndex i = true := by simp only [Bytes.fitsIndex, Bool.and_eq_true, decide_eq_true_eq]; omega
  rw [hr]
  refine wpAny_pure ?_
  show wpAny _ _ (match (seqIndex? i b.size).bind (b[·]?) with | some x => retInt x.toNat | none => _) _ _ s
  have hn : (seqIndex? i b.size).bind (b[·]?) = none := by
    have h3 : ¬ i < 0 := by omega
    have h4 : ¬ i < (b.size : Int) := by omega
    simp [seqIndex?, h3, h4]
  rw [hn]
  first
    | exact wpAny_bind (wpAny_rule (by exact_raiseError plainExc_IndexError hA hE))
    | exact wpAny_bind (wpAny_rule (wpAny_bind (by exact_raiseError plainExc_IndexError hA hE)))
    | exact wpAny_bind (wpAny_bind (wpAny_rule (by exact_raiseError plainExc_IndexError hA hE)))
    | exact wpAny_rule (by exact_raiseError plainExc_IndexError hA hE)
theorem bytes_outT {value slice : PySem.Expr} {b : Array UInt8} {ks : List Int} {i : Int} {t u : Tok} (hk : KBw.bInts b = ks) (hA : A.handled = none) (h0 : 0 ≤ i) (h1 : (ks.length : Int) ≤ i) (h2 : i < 2 ^ 62)
    (hE : ∀ h' tk e, Heap.NewExc s.heap h' e "IndexError" → E (.ref e) { s with heap := h', toks := tk })
    (hs : subscripted slice false (.bytes b t) (.int i u) = operate [.bytes b t, .int i u] (getItem (.bytes b t) (.int i u))) (ht : ∀ r, letTemporaryGo value (.bytes b t) r = pure ()) :
    wpAny (model prog w) A (subscriptTail value slice (.bytes b t) (.int i u)) Q E s :=
  tail_of_ItemOn ⟨"bytes", _, FB.slot_bytes_getitem.lookup, typeIs_bytes _ _ _, bytes_out hA h0 (by rw [← KBw.ints_length, hk]; exact h1) h2 hE⟩ hs ht
theorem bytes_inT {value slice : PySem.Expr} {b : Array UInt8} {ks : List Int} {i v : Int} {t u : Tok} (hk : KBw.bInts b = ks) (hfit : ks.length ≤ 60) (h0 : 0 ≤ i) (hv : ks[i.toNat]? = some v)
    (h : ∀ t' k, Q (.int v t') { s with toks := k })
    (hs : subscripted slice false (.bytes b t) (.int i u) = operate [.bytes b t, .int i u] (getItem (.bytes b t) (.int i u))) (ht : ∀ r, letTemporaryGo value (.bytes b t) r = pure ()) :
    wpAny (model prog w) A (subscriptTail value slice (.bytes b t) (.int i u)) Q E s := by
  have hl : i.toNat < ks.length := by
    by_cases q : i.toNat < ks.length
    · exact q
    · rw [List.getElem?_eq_none (by omega)] at hv; cases hv
  refine KBw.item_K hk (by omega) h0 (by omega) (fun t' k _ _ => ?_) hs ht
  rw [List.getD_eq_getElem?_getD, hv]
  exact h t' k
/-- what a reader of groups of seven bits does: the number and how many octets it took; nothing left; too many -/
inductive DecOut
  | ok (r : Int) (used : Nat)
  | ended
  | many
def dec : Nat → Int → List Int → DecOut
  | _, _, [] => .ended
  | n, acc, b :: r => if b < 128 then .ok (acc + b * 128 ^ n) (n + 1) else if 9 ≤ n then .many else dec (n + 1) (acc + (b % 128) * 128 ^ n) r
end
/-- a function object that a def's nested def has made -/
structure FnOk (o : Obj) (dfn : Option Stmt) (cl : List (Str × Addr)) (c' : Addr) (oc : Obj) : Prop where
  ex : ∃ name qual params scope dc pm ct vs t, defArgs dfn = some params ∧ defScope dfn = some scope ∧ o = fnMade name qual params (defBody dfn) scope cl dc pm c' ct ∧ oc.data = .fields vs ∧ vs[1]? = some (.str qual t)
section
variable {prog : Program} {w : World} {A : Around} {E : Value → Shared → Prop} {s : Shared} {Q : Value → Shared → Prop}
theorem and127_K {b : Int} {t u : Tok} (h : Q (.int (b % 128) s.toks) { s with toks := s.toks + 1 }) : wpAny (model prog w) A (binaryOp .BitAnd (.int b t) (.int 127 u)) Q E s :=
  and_int (by rw [bitAnd_m7]; exact h)
theorem and128_eq {b : Int} (h0 : 0 ≤ b) (h1 : b < 256) : Builtin.bitAnd b 128 = 128 * (b / 128) := by
  have h2 : Builtin.bitAnd b 128 = (b / 128 % 2) * 128 := kbt_bit b 7
  rw [h2]
  omega
theorem and128_lo {b : Int} {t u : Tok} (h0 : 0 ≤ b) (h1 : b < 128) (h : Q (.int 0 s.toks) { s with toks := s.toks + 1 }) : wpAny (model prog w) A (binaryOp .BitAnd (.int b t) (.int 128 u)) Q E s :=
  and_int (by rw [and128_eq h0 (by omega), show 128 * (b / 128) = 0 by omega]; exact h)
theorem and128_hi {b : Int} {t u : Tok} (h0 : 128 ≤ b) (h1 : b < 256) (h : Q (.int 128 s.toks) { s with toks := s.toks + 1 }) : wpAny (model prog w) A (binaryOp .BitAnd (.int b t) (.int 128 u)) Q E s :=
  and_int (by rw [and128_eq (by omega) h1, show 128 * (b / 128) = 128 by omega]; exact h)
end
abbrev N4 (m0 : Str → Option Value) (vb : Option Value) (vp vr vs : Value) : Str → Option Value := fun y => if y = Str.ofString "shift" then some vs else if y = Str.ofString "result" then some vr else if y = Str.ofString "pos" then some vp else if y = Str.ofString "b" then vb else m0 y
theorem n4_start {m0 : Str → Option Value} {vp vr vs : Value} (hp : m0 (Str.ofString "pos") = some vp) (hb : m0 (Str.ofString "b") = none) :
    (fun y => if y = Str.ofString "shift" then some vs else if y = Str.ofString "result" then some vr else m0 y) = N4 m0 none vp vr vs := by
  funext y
  unfold N4
  by_cases h1 : y = Str.ofString "shift"
  · simp [h1]
  · by_cases h2 : y = Str.ofString "result"
    · simp [h2]
    · by_cases h3 : y = Str.ofString "pos"
      · subst h3; simp [hp, h1, h2]
      · by_cases h4 : y = Str.ofString "b"
        · subst h4; simp [hb, h1, h2, h3]
        · simp [h1, h2, h3, h4]
theorem n4_next {m0 : Str → Option Value} {vb : Option Value} {a b c d vp vr vs : Value} :
    (fun y => if y = Str.ofString "shift" then some d else if y = Str.ofString "result" then some c else if y = Str.ofString "pos" then some b else if y = Str.ofString "b" then some a else N4 m0 vb vp vr vs y) = N4 m0 (some a) b c d := by
  funext y
  unfold N4
  by_cases h1 : y = Str.ofString "shift"
  · simp [h1]
  · by_cases h2 : y = Str.ofString "result"
    · simp [h2]
    · by_cases h3 : y = Str.ofString "pos"
      · simp [h3]
      · by_cases h4 : y = Str.ofString "b"
        · simp [h4]
        · simp [h1, h2, h3, h4]
structure DJ (m0 : Str → Option Value) (led : List (Addr × Obj)) (ks : List Int) (i : Nat) (res : DecOut) (n : Nat) (m₁ : Str → Option Value) (news₁ : List (Addr × Obj)) : Prop where
  ex : ∃ (k : Nat) (acc : Int) (vb : Option Value) (tp tr ts : Tok), m₁ = N4 m0 vb (.int ((i : Int) + (k : Int)) tp) (.int acc tr) (.int (7 * (k : Int)) ts) ∧ news₁ = led ∧ k ≤ 9 ∧ n = 10 - k ∧ 0 ≤ acc ∧ acc < 128 ^ k ∧ dec k acc (ks.drop (i + k)) = res
theorem dj_start {m0 m : Str → Option Value} {led : List (Addr × Obj)} {ks : List Int} {i : Nat} {tp tr ts : Tok} (h : m = N4 m0 none (.int ((i : Nat) : Int) tp) (.int 0 tr) (.int 0 ts)) : DJ m0 led ks i (dec 0 0 (ks.drop i)) 10 m led :=
  ⟨0, 0, none, tp, tr, ts, by rw [h]; simp, rfl, by decide, rfl, by decide, by decide, by simp⟩
theorem pow7 (k : Nat) : (2 : Int) ^ (7 * (k : Int)).toNat = 128 ^ k := by
  rw [show (7 * (k : Int)).toNat = 7 * k by omega, Int.pow_mul]
  rfl
theorem and_zero {a x n : Nat} (h : a < 2 ^ n) : a &&& (x * 2 ^ n) = 0 := by
  apply Nat.eq_of_testBit_eq
  intro i
  rw [Nat.testBit_and, Nat.testBit_mul_two_pow, Nat.zero_testBit]
  by_cases hi : n ≤ i
  · rw [Nat.testBit_lt_two_pow (Nat.lt_of_lt_of_le h (Nat.pow_le_pow_right (by decide) hi))]
    rfl
  · simp [hi]
theorem or_eq {acc x : Int} {k : Nat} (h0 : 0 ≤ acc) (h1 : acc < 128 ^ k) (hx : 0 ≤ x) : Builtin.bitOr acc (x * 2 ^ (7 * (k : Int)).toNat) = acc + x * 128 ^ k := by
  rw [bitOr_and, pow7]
  have hp : (0 : Int) < 128 ^ k := Int.pow_pos (by decide)
  have hz : Builtin.bitAnd acc (x * 128 ^ k) = 0 := by
    rw [bitAnd_pp h0 (Int.mul_nonneg hx (Int.le_of_lt hp))]
    have e1 : (x * 128 ^ k).toNat = x.toNat * 2 ^ (7 * k) := by
      rw [Int.toNat_mul hx (Int.le_of_lt hp), show ((128 : Int) ^ k) = ((2 ^ (7 * k) : Nat) : Int) by rw [Nat.pow_mul]; exact_mod_cast rfl, Int.toNat_natCast]
    have e2 : acc.toNat < 2 ^ (7 * k) := by
      rw [show ((128 : Int) ^ k) = ((2 ^ (7 * k) : Nat) : Int) by rw [Nat.pow_mul]; exact_mod_cast rfl] at h1
      omega
    rw [e1, and_zero e2]
    rfl
  rw [hz]
  omega
theorem dj_next {h₀ h' : Heap} {L : Addr} {s : Shared} {Q : Flow → Shared → Prop} {m0 : Str → Option Value} {news : List (Addr × Obj)} {ks r : List Int} {res : DecOut} {i k tk : Nat} {acc bv : Int} {vb : Option Value} {vp vr vs : Value} {t1 t2 t3 t4 : Tok}
    (F : Fr h₀ L h' (fun y => if y = Str.ofString "shift" then some (.int (7 * (k : Int) + 7) t4) else if y = Str.ofString "result" then some (.int (Builtin.bitOr acc (bv % 128 * 2 ^ (7 * (k : Int)).toNat)) t3) else if y = Str.ofString "pos" then some (.int ((i : Int) + (k : Int) + 1) t2) else if y = Str.ofString "b" then some (.int bv t1) else N4 m0 vb vp vr vs y))
    (N : News h₀ L h' news) (hdec : dec (k + 1) (acc + bv % 128 * 128 ^ k) r = res) (hr : ks.drop (i + k) = bv :: r) (hk : k < 9) (h0 : 0 ≤ acc) (h1 : acc < 128 ^ k) (hb : 0 ≤ bv) : WhileStep2 h₀ L s (DJ m0 news ks i res) Q (10 - k) .next { s with heap := h', toks := tk } := by
  rw [n4_next, or_eq h0 h1 (show 0 ≤ bv % 128 by omega), show (i : Int) + (k : Int) + 1 = (i : Int) + ((k + 1 : Nat) : Int) by omega, show 7 * (k : Int) + 7 = 7 * ((k + 1 : Nat) : Int) by omega] at F
  have hp : (0 : Int) < 128 ^ k := Int.pow_pos (by decide)
  have hm0 : 0 ≤ bv % 128 * 128 ^ k := Int.mul_nonneg (by omega) (Int.le_of_lt hp)
  have hm1 : bv % 128 * 128 ^ k ≤ 127 * 128 ^ k := Int.mul_le_mul_of_nonneg_right (by omega) (Int.le_of_lt hp)
  refine ⟨h', tk, _, _, 10 - (k + 1), rfl, F, N, by omega, ⟨k + 1, _, _, _, _, _, rfl, rfl, by omega, rfl, by omega, by rw [Int.pow_succ]; omega, ?_⟩⟩
  rw [← hdec]
  congr 1
  rw [← Nat.add_assoc, ← List.drop_drop, hr]
  rfl
local macro_rules | `(tactic| walk_at "subscriptTail") => `(tactic| (k_here; k_dflt ((show wpAny _ _ (subscriptTail _ _ (Value.bytes _ _) (Value.int _ _)) _ _ _); (first
  | (refine' bytes_inT ?hk ?hf ?h0 ?hv ?_ ?hs ?ht; (case hk => assumption); (case hf => omega); (case h0 => omega); (case hv => assumption); (case hs => with_unfolding_all rfl); (case ht => (intro _; with_unfolding_all rfl)); (intro t9' tk9'))
  | (refine' bytes_outT ?hk ?hh ?h0 ?h1 ?h2 ?_ ?hs ?ht; (case hk => assumption); (case hh => exact rfl); (case h0 => omega); (case h1 => omega); (case h2 => omega); (case hs => with_unfolding_all rfl); (case ht => (intro _; with_unfolding_all rfl)); (intro h' tk' e' hNew'))))))
local macro_rules | `(tactic| walk_at "binaryOp BitAnd int int") => `(tactic| (k_here; k_dflt (first | ((with_reducible show wpAny _ _ (binaryOp Operator.BitAnd (Value.int _ _) (Value.int 127 _)) _ _ _); refine' and127_K ?_) | ((with_reducible show wpAny _ _ (binaryOp Operator.BitAnd (Value.int _ _) (Value.int 128 _)) _ _ _); first | (refine' and128_lo ?h0 ?h1 ?_; (case h0 => omega); (case h1 => omega)) | (refine' and128_hi ?h0 ?h1 ?_; (case h0 => omega); (case h1 => omega))))))
local macro_rules | `(tactic| walk_at "loadName") => `(tactic| (k_here; k_dflt (refine' loadX_L ?k1 ?k2 ?_; (case k1 => k_asm); (case k2 => exact rfl); k_whole)))
local macro_rules | `(tactic| walk_at "exec Raise some none") => `(tactic| (k_here; k_dflt (refine' Raise_ownX ?F ?X ?T ?e ?q PySem.F.excBase_Exception ?h ?_ ?a ?b ?c ?d ?z; (case F => k_asm); (case X => k_asm); (case T => k_asm); (case e => k_is); (case q => k_exc); (case h => first | rfl | assumption); (case a => rfl); (case b => rfl); (case c => rfl); (case d => rfl); (case z => decide); k_whole)))
local macro_rules | `(tactic| walk_at "leaving ref") => `(tactic| (k_here; k_dflt (first
  | (refine' leave_newX ?k1 ?k0 ?k2 ?k3 ?kf ?kk ?_; (case k0 => assumption); (case k1 => assumption); (case k2 => assumption); (case k3 => k_asm); (case kf => exact rfl); (case kk => exact rfl); k_whole; intro h' S' R' U'; (try dsimp only at S' R' U' ⊢))
  | (refine' leave_raiseX ?k1 ?k0 ?k2 ?k3 ?kf ?kk ?_; (case k0 => first | assumption | exact Heap.MadeExc.of (by assumption)); (case k1 => assumption); (case k2 => assumption); (case k3 => k_asm); (case kf => exact rfl); (case kk => exact rfl); k_whole; intro h' t' S' R' U'; (try dsimp only at S' R' U' ⊢)))))
theorem read_plain {w : World} {p : Program} {loose : List Str} {mean : ExcName → Option Value} {mg mb : Str → Option Value} {dp un : Nat} {gd : Option (List Code)} {cn : Str} {cs : Scope} {a : Addr} {ccd : Value} {cl : List (Str × Addr)} {A₀ : Around} {h₀ : Heap} {L : Addr} {m : Str → Option Value} {s : Shared} {Q E : Value → Shared → Prop}
    {f c' cM : Addr} {of oc oM : Obj} {b : Array UInt8} {ks : List Int} {mask : Int} {i : Nat} {tb ti tm : Tok} {news : List (Addr × Obj)}
    (B : Below A₀ h₀ [] h₀) (F : Fr h₀ L s.heap m) (X : (Mine.hd.heap_39 w.params).In h₀) (T : Top p loose mean mg mb h₀) (hk : cs.kind = .function)
    (N : News h₀ L s.heap news) (hfm : (f, of) ∈ news) (hcm : (c', oc) ∈ news) (hMm : (cM, oM) ∈ news) (hf : FnOk of plainDef [(Str.ofString "mask", cM)] c' oc) (hM : oM.data = .cell (some (.int mask tm)))
    (hb : KBw.bInts b = ks) (hks : ks.length ≤ 40) (hi0 : i ≤ 40) {hX : Heap} {cX pX : Addr} (hCH : CodeHd hX cX pX) (hdp : dp < 800) (hun : un < 8000)
    (hok : ∀ r used tp t1 t2 h' tk', dec 0 0 (ks.drop i) = .ok r used → Fr h₀ L h' m → News h₀ L h' ((tp, { cls := .type "tuple", data := .seq #[.int (Builtin.bitAnd r mask) t1, .int ((i : Int) + (used : Int)) t2] }) :: news) → (∀ q ∈ news, q.1 < tp) → Q (.ref tp) { s with heap := h', toks := tk' })
    (hend : ∀ t h' tk', dec 0 0 (ks.drop i) = .ended → Fr h₀ L h' m → News h₀ L h' news → Q (.str (Str.ofString "ended") t) { s with heap := h', toks := tk' })
    (hmany : ∀ t h' tk', dec 0 0 (ks.drop i) = .many → Fr h₀ L h' m → News h₀ L h' news → Q (.str (Str.ofString "too many") t) { s with heap := h', toks := tk' }) :
    wpAny (model PySem.Challenge.rw_au6043_01.row.toRowW.prog w) (ktrTop dp un gd cn cs L a ccd cl []) (call (.ref 144) [.ref f, .bytes b tb, .int (i : Int) ti]) Q E s := by
  w_top off
  revert X; k_fill; intro X
  obtain ⟨name, qual, params, scope, dc, pm, ct, vs, t, hA, hS, rfl, hd, hv⟩ := hf
  have eB : defBody plainDef = defBody plainDef := rfl
  conv at eB => rhs; whnf
  conv at hA => lhs; whnf
  conv at hS => lhs; whnf
  cases hA
  cases hS
  rw [eB] at hfm
  refine wpAny_call ?_
  k_dflt walk_at "m enterT"
  walk_at "m steps"
  rename News _ _ _ _ => N9
  rename Fr _ _ _ _ => F9
  refine While_join (DJ _ _ ks i _) (fun _ _ => False) F9 N9 (dj_start (n4_start rfl rfl)) ?turn (fun _ _ _ _ _ _ z => z.elim) PassesOwn.leaving
  case turn =>
    clear N9 F9
    rintro n m₁ news₁ h₁ tk₁ F₁ N₁ ⟨k, acc, vb, tp, tr, ts, rfl, rfl, hk9, rfl, ha0, ha1, hdec⟩
    cases hks9 : ks.drop (i + k) with
    | nil =>
      have hlen9 : (ks.length : Int) ≤ (i : Int) + (k : Int) := by have := congrArg List.length hks9; simp at this; omega
      walk_at "m steps"
      exact hend _ _ _ (by rw [← hdec, hks9]; rfl) (by assumption) (by assumption)
    | cons bv r =>
      have hv9 : ks[((i : Int) + (k : Int)).toNat]? = some bv := by
        rw [show ((i : Int) + (k : Int)).toNat = i + k by omega]
        have := congrArg List.head? hks9
        simpa using this
      have hbv : 0 ≤ bv ∧ bv < 256 := KBw.ints_in (b := b) (hb ▸ List.mem_of_getElem? hv9)
      obtain ⟨hbv0, hbv1⟩ := hbv
      rw [hks9] at hdec
      by_cases h128 : bv < 128
      · walk_at "m steps"
        dsimp only [WhileStep2, JoinQ]
        walk_at "m steps"
        rename News _ _ _ _ => N9
        rw [or_eq ha0 ha1 (show 0 ≤ bv % 128 by omega), show bv % 128 = bv by omega, show (i : Int) + (k : Int) + 1 = (i : Int) + ((k + 1 : Nat) : Int) by omega] at N9
        exact hok _ _ _ _ _ _ _ (by rw [← hdec, dec, if_pos h128]) (by assumption) N9 (by assumption)
      · rw [dec, if_neg h128] at hdec
        by_cases h9 : k < 9
        · rw [if_neg (by omega)] at hdec
          walk_at "m steps"
          exact dj_next (by assumption) (by assumption) hdec hks9 h9 ha0 ha1 hbv0
        · rw [if_pos (by omega)] at hdec
          walk_at "m steps"
          exact hmany _ _ _ hdec.symm (by assumption) (by assumption)
theorem n4_nextS {m0 : Str → Option Value} {vb : Option Value} {a b c d vp vr vs : Value} :
    (fun y => if y = Str.ofString "shift" then some d else if y = Str.ofString "pos" then some b else if y = Str.ofString "result" then some c else if y = Str.ofString "b" then some a else N4 m0 vb vp vr vs y) = N4 m0 (some a) b c d := by
  funext y
  unfold N4
  by_cases h1 : y = Str.ofString "shift"
  · simp [h1]
  · by_cases h2 : y = Str.ofString "result"
    · have hne : ¬ Str.ofString "result" = Str.ofString "pos" := by decide
      subst h2; simp [h1, hne]
    · by_cases h3 : y = Str.ofString "pos"
      · subst h3; simp [h1, h2]
      · by_cases h4 : y = Str.ofString "b"
        · subst h4; simp [h1, h2, h3]
        · simp [h1, h2, h3, h4]
theorem dj_nextS {h₀ h' : Heap} {L : Addr} {s : Shared} {Q : Flow → Shared → Prop} {m0 : Str → Option Value} {news : List (Addr × Obj)} {ks r : List Int} {res : DecOut} {i k tk : Nat} {acc bv : Int} {vb : Option Value} {vp vr vs : Value} {t1 t2 t3 t4 : Tok}
    (F : Fr h₀ L h' (fun y => if y = Str.ofString "shift" then some (.int (7 * (k : Int) + 7) t4) else if y = Str.ofString "pos" then some (.int ((i : Int) + (k : Int) + 1) t2) else if y = Str.ofString "result" then some (.int (Builtin.bitOr acc (bv % 128 * 2 ^ (7 * (k : Int)).toNat)) t3) else if y = Str.ofString "b" then some (.int bv t1) else N4 m0 vb vp vr vs y))
    (N : News h₀ L h' news) (hdec : dec (k + 1) (acc + bv % 128 * 128 ^ k) r = res) (hr : ks.drop (i + k) = bv :: r) (hk : k < 9) (h0 : 0 ≤ acc) (h1 : acc < 128 ^ k) (hb : 0 ≤ bv) : WhileStep2 h₀ L s (DJ m0 news ks i res) Q (10 - k) .next { s with heap := h', toks := tk } := by
  rw [n4_nextS, or_eq h0 h1 (show 0 ≤ bv % 128 by omega), show (i : Int) + (k : Int) + 1 = (i : Int) + ((k + 1 : Nat) : Int) by omega, show 7 * (k : Int) + 7 = 7 * ((k + 1 : Nat) : Int) by omega] at F
  have hp : (0 : Int) < 128 ^ k := Int.pow_pos (by decide)
  have hm0 : 0 ≤ bv % 128 * 128 ^ k := Int.mul_nonneg (by omega) (Int.le_of_lt hp)
  have hm1 : bv % 128 * 128 ^ k ≤ 127 * 128 ^ k := Int.mul_le_mul_of_nonneg_right (by omega) (Int.le_of_lt hp)
  refine ⟨h', tk, _, _, 10 - (k + 1), rfl, F, N, by omega, ⟨k + 1, _, _, _, _, _, rfl, rfl, by omega, rfl, by omega, by rw [Int.pow_succ]; omega, ?_⟩⟩
  rw [← hdec]
  congr 1
  rw [← Nat.add_assoc, ← List.drop_drop, hr]
  rfl
theorem read_signed {w : World} {p : Program} {loose : List Str} {mean : ExcName → Option Value} {mg mb : Str → Option Value} {dp un : Nat} {gd : Option (List Code)} {cn : Str} {cs : Scope} {a : Addr} {ccd : Value} {cl : List (Str × Addr)} {A₀ : Around} {h₀ : Heap} {L : Addr} {m : Str → Option Value} {s : Shared} {Q E : Value → Shared → Prop}
    {f c' cM cS : Addr} {of oc oM oS : Obj} {b : Array UInt8} {ks : List Int} {mask sbit : Int} {i : Nat} {tb ti tm ts : Tok} {news : List (Addr × Obj)}
    (B : Below A₀ h₀ [] h₀) (F : Fr h₀ L s.heap m) (X : (Mine.hd.heap_39 w.params).In h₀) (T : Top p loose mean mg mb h₀) (hk : cs.kind = .function)
    (N : News h₀ L s.heap news) (hfm : (f, of) ∈ news) (hcm : (c', oc) ∈ news) (hMm : (cM, oM) ∈ news) (hSm : (cS, oS) ∈ news) (hf : FnOk of signedDef [(Str.ofString "signbit", cS), (Str.ofString "mask", cM)] c' oc) (hM : oM.data = .cell (some (.int mask tm))) (hS9 : oS.data = .cell (some (.int sbit ts)))
    (hb : KBw.bInts b = ks) (hks : ks.length ≤ 40) (hi0 : i ≤ 40) {hX : Heap} {cX pX : Addr} (hCH : CodeHd hX cX pX) (hdp : dp < 800) (hun : un < 8000)
    (hok : ∀ r used tp t1 t2 h' tk', dec 0 0 (ks.drop i) = .ok r used → Fr h₀ L h' m → News h₀ L h' ((tp, { cls := .type "tuple", data := .seq #[.int (Builtin.bitXor (Builtin.bitAnd r mask) sbit - sbit) t1, .int ((i : Int) + (used : Int)) t2] }) :: news) → (∀ q ∈ news, q.1 < tp) → Q (.ref tp) { s with heap := h', toks := tk' })
    (hend : ∀ t h' tk', dec 0 0 (ks.drop i) = .ended → Fr h₀ L h' m → News h₀ L h' news → Q (.str (Str.ofString "ended") t) { s with heap := h', toks := tk' })
    (hmany : ∀ t h' tk', dec 0 0 (ks.drop i) = .many → Fr h₀ L h' m → News h₀ L h' news → Q (.str (Str.ofString "too many") t) { s with heap := h', toks := tk' }) :
    wpAny (model PySem.Challenge.rw_au6043_01.row.toRowW.prog w) (ktrTop dp un gd cn cs L a ccd cl []) (call (.ref 144) [.ref f, .bytes b tb, .int (i : Int) ti]) Q E s := by
  w_top off
  revert X; k_fill; intro X
  obtain ⟨name, qual, params, scope, dc, pm, ct, vs, t, hA, hS, rfl, hd, hv⟩ := hf
  have eB : defBody signedDef = defBody signedDef := rfl
  conv at eB => rhs; whnf
  conv at hA => lhs; whnf
  conv at hS => lhs; whnf
  cases hA
  cases hS
  rw [eB] at hfm
  refine wpAny_call ?_
  k_dflt walk_at "m enterT"
  walk_at "m steps"
  rename News _ _ _ _ => N9
  rename Fr _ _ _ _ => F9
  refine While_join (DJ _ _ ks i _) (fun _ _ => False) F9 N9 (dj_start (n4_start rfl rfl)) ?turn (fun _ _ _ _ _ _ z => z.elim) PassesOwn.leaving
  case turn =>
    clear N9 F9
    rintro n m₁ news₁ h₁ tk₁ F₁ N₁ ⟨k, acc, vb, tp, tr, ts, rfl, rfl, hk9, rfl, ha0, ha1, hdec⟩
    cases hks9 : ks.drop (i + k) with
    | nil =>
      have hlen9 : (ks.length : Int) ≤ (i : Int) + (k : Int) := by have := congrArg List.length hks9; simp at this; omega
      walk_at "m steps"
      exact hend _ _ _ (by rw [← hdec, hks9]; rfl) (by assumption) (by assumption)
    | cons bv r =>
      have hv9 : ks[((i : Int) + (k : Int)).toNat]? = some bv := by
        rw [show ((i : Int) + (k : Int)).toNat = i + k by omega]
        have := congrArg List.head? hks9
        simpa using this
      have hbv : 0 ≤ bv ∧ bv < 256 := KBw.ints_in (b := b) (hb ▸ List.mem_of_getElem? hv9)
      obtain ⟨hbv0, hbv1⟩ := hbv
      rw [hks9] at hdec
      by_cases h128 : bv < 128
      · walk_at "m steps"
        dsimp only [WhileStep2, JoinQ]
        walk_at "m steps"
        rename News _ _ _ _ => N9
        rw [or_eq ha0 ha1 (show 0 ≤ bv % 128 by omega), show bv % 128 = bv by omega, show (i : Int) + (k : Int) + 1 = (i : Int) + ((k + 1 : Nat) : Int) by omega] at N9
        exact hok _ _ _ _ _ _ _ (by rw [← hdec, dec, if_pos h128]) (by assumption) N9 (by assumption)
      · rw [dec, if_neg h128] at hdec
        by_cases h9 : k < 9
        · rw [if_neg (by omega)] at hdec
          walk_at "m steps"
          exact dj_nextS (by assumption) (by assumption) hdec hks9 h9 ha0 ha1 hbv0
        · rw [if_pos (by omega)] at hdec
          walk_at "m steps"
          exact hmany _ _ _ hdec.symm (by assumption) (by assumption)
end ReadPart

end PartRead

section PartReadF
local macro_rules | `(tactic| walk_at "m enter") => `(tactic| (refine' code_defS ?k1 ?k2 ?k3 ?k4 ?k5 ?kA ?kF ?kK ?k6 ?k7 ?k8 ?k9 ?kB ?_ ?c2 ?c3 ?c4 ?c5; (case kA => exact rfl); (case kF => exact rfl); (case kK => assumption); (case k1 => k_asm); (case k2 => k_asm); (case k3 => k_asm); (case k4 => k_asm); (case k5 => k_asm); (case k6 => k_is); (case k7 => k_is); (case k8 => ktr_room); (case k9 => exact BindsTo.of_eq rfl); (case c5 => decide); (case kB => exact locs rfl); (case c2 => exact rfl); (case c3 => exact rfl); (case c4 => exact rfl); k_whole; intro g' L' h' FG' F' N' B' X' T'; (try dsimp only); (try k_lift B'); (try k_fold)))
local macro_rules | `(tactic| units_room) => `(tactic| (have hcL' := cLine_is; simp only [units_in1, units_deeper, Around.mark_units]; (try dsimp only [ktrTop]); omega))
local macro_rules | `(tactic| ktr_room) => `(tactic| ((try simp only [depth_in1, depth_deeper]); (try dsimp only [ktrTop]); (try simp only [recursionLimit]); omega))
local macro_rules | `(tactic| k_room) => `(tactic| ktr_room)
local macro_rules | `(tactic| walk_at "eval ListComp") => `(tactic| (k_here; k_dflt (refine LCg.ListComp_U (F₀ := by k_asm) (by rfl) (by decide) (by rfl) (by decide) (by rfl) ?_)))
local macro_rules | `(tactic| walk_at "CompSrc") => `(tactic| (k_here; k_dflt (first
  | (refine LCg.CompSrc.base (by rfl) (by k_asm) (by k_asm) (by assumption) ?hz ?_; (case hz => ((have hL9 := IntsAre.length (by assumption)); simp only [List.size_toArray, sizeLine_eq]; omega)); intro g')
  | (refine LCg.CompSrc.range (by rfl) (by k_asm) (by k_asm) (by assumption) ?sm (rangeSize_up _) ?hz ?_; (case sm => exact small_one (by omega) (by omega) (by omega) (by omega)); (case hz => (simp only [sizeLine_eq]; omega)); intro g'))))
local macro_rules | `(tactic| walk_at "call type:range") => `(tactic| (k_here; k_dflt (refine' range1_rows ?kF ?kN ?_; (case kF => k_asm); (case kN => k_asm); intro h' tk' t1' u1' v1' hR' F' N' hk')))
local macro_rules | `(tactic| walk_at "execs nil") => `(tactic| (with_reducible refine wpAny_execs_nil ?_))
local macro_rules | `(tactic| walk_at "m enterC") => `(tactic| (refine' code_defCS ?k1 ?k2 ?k3 ?k4 ?k5 ?kA ?kF ?kK ?k6 ?k7 ?k8 ?k9 ?kB ?kD ?_ ?c2 ?c3 ?c4; (case kA => exact rfl); (case kF => exact rfl); (case kK => assumption); (case k1 => k_asm); (case k2 => k_asm); (case k3 => k_asm); (case k4 => k_asm); (case k5 => k_asm); (case k6 => k_is); (case k7 => k_is); (case k8 => ktr_room); (case k9 => exact BindsTo.of_eq rfl); (case kB => exact rfl); (case kD => decide +kernel); (case c2 => exact rfl); (case c3 => exact rfl); (case c4 => exact rfl); k_whole; intro g' L' h' tk' cells' FG' F' N' Y' B' X' T' l1; (try k_lt l1); k_cells Y'; (try simp only [List.cons_append, List.nil_append] at N'); (try dsimp only); (try k_lift B'); (try k_fold)))
local macro_rules | `(tactic| walk_at "m step") => `(tactic| ((fail_if_success (with_reducible show wpAny _ _ (exec (Stmt.While _ _ _ _) _) _ _ _)); (fail_if_success (with_reducible show LCg.CompRest _ _ _ _ _ _ _ _ _ _ _ _ _ _ _ _ _ _ _)); (first | (k_unfold; (try dsimp only)) | (k_end; kc_close) | walk1 | (dsimp only; walk1) | (leave1; walk_say "STEP leave1"; (try dsimp only)) | fail "no step")))
local macro_rules | `(tactic| walk_at "m steps") => `(tactic| repeat' ((fail_if_success (with_reducible show wpAny _ _ (exec (Stmt.While _ _ _ _) _) _ _ _)); (fail_if_success (with_reducible show LCg.CompRest _ _ _ _ _ _ _ _ _ _ _ _ _ _ _ _ _ _ _)); (first | (k_unfold; (try dsimp only)) | (k_end; kc_close) | walk1 | (dsimp only; walk1) | (leave1; walk_say "STEP leave1"; (try dsimp only)) | fail "no step")))
local macro_rules | `(tactic| walk_at "m room") => `(tactic| ((try simp only [depth_in1, depth_deeper, units_in1, units_deeper, depth_caller, units_caller]); (try dsimp only [ktrTop]); omega))
local macro_rules | `(tactic| walk_at "binaryOp LShift int int") => `(tactic| (k_here; k_dflt ((refine' lshift_K ?ka ?kb ?kc ?ke ?_); (case ka => first | decide | omega); (case kb => first | decide | omega); (case kc => first | decide | omega); (case ke => ((try simp only [Int.reduceSub, Int.reduceAdd, Int.reduceToNat, Int.reducePow, Int.reduceMul, Int.one_mul]); exact rfl)); k_whole)))
local macro_rules | `(tactic| walk_at "callWith ref") => `(tactic| (k_here; k_dflt (refine' callWith_K ?k1 ?k2 ?_; (case k1 => k_asm); (case k2 => k_is); k_whole)))
local macro_rules | `(tactic| walk_at "m enterT") => `(tactic| (refine' code_defX0 ?k1 ?k2 ?k3 ?k4 ?k5 ?kA ?kF ?kK ?k6 ?k7 ?k8 ?k9 ?kB ?_ ?c2 ?c3 ?c4 ?c5; (case kA => exact rfl); (case kF => exact rfl); (case kK => assumption); (case k1 => k_asm); (case k2 => k_asm); (case k3 => k_asm); (case k4 => k_asm); (case k5 => k_asm); (case k6 => k_is); (case k7 => k_is); (case k8 => ktr_room); (case k9 => exact BindsTo.of_eq rfl); (case c5 => decide); (case kB => exact locs rfl); (case c2 => exact rfl); (case c3 => exact rfl); (case c4 => exact rfl); k_whole; intro g' L' h' FG' F' N' B' X' T' D'; (try dsimp only); (try k_lift B'); (try k_fold)))
local macro_rules | `(tactic| walk_at "call ref") => `(tactic| (k_here; k_dflt ((show wpAny _ _ (call (Value.ref 132) [Value.ref _, Value.int _ _]) _ _ _); refine' take_use ?kB ?kF ?kX ?kT ?kk ?kN ?kd ?kl ?lt ?kI ?kD ?km ?kdp ?kun ?kU ?kV ?_; (case kB => k_asm); (case kF => k_asm); (case kX => k_asm); (case kT => k_asm); (case kk => first | exact rfl | assumption); (case kN => k_asm); (case kd => k_mem); (case kl => k_mem); (case lt => omega); (case kI => assumption); (case kD => assumption); (case km => first | decide | assumption | omega | exact Int.pow_pos (by decide)); (case kdp => walk_at "m room"); (case kun => walk_at "m room"); (case kU => (intro _ _ _; k_upd)); (case kV => (intro _ _ _ _ _; k_upd)); k_whole; intro r' tr' us' xs' sd' td' nd' nl' h' tk' F' N' hI' D' hr0' hr1'; (try dsimp only at N'); (try k_fold))))
local macro_rules | `(tactic| walk_at "eval Name") => `(tactic| (k_here; (with_reducible show wpAny _ _ (eval (Expr.Name _ _) (compEnvC _ _ _ _)) _ _ _); k_dflt (refine ld_cell (by k_asm) (by rfl) (by k_mem) (by assumption) ?_)))
local macro_rules | `(tactic| walk_at "call ref") => `(tactic| (k_here; k_dflt ((show wpAny _ _ (call (Value.ref 125) [Value.ref _]) _ _ _); refine' draw_use ?kB ?kF ?kX ?kT ?kk ?kl ?ki ?kn ?kN ?kdp ?kun ?_; (case kB => k_asm); (case kF => k_asm); (case kX => k_asm); (case kT => k_asm); (case kk => first | exact rfl | assumption); (case kl => assumption); (case ki => assumption); (case kn => first | assumption | omega); (case kN => k_asm); (case kdp => walk_at "m room"); (case kun => walk_at "m room"); k_whole; intro d' l' us' xs' sd' td' nd' nl' h' tk' F' N' l1' l2' hI' D'; (try k_fold))))
local macro_rules | `(tactic| walk_at "call ref") => `(tactic| (k_here; k_dflt ((show wpAny _ _ (call (Value.ref 137) [Value.ref _]) _ _ _); refine' groups_use ?kB ?kF ?kX ?kT ?kk ?kN ?kd ?kl ?lt ?kI ?kD ?kdp ?kun ?kU ?kV ?_; (case kB => k_asm); (case kF => k_asm); (case kX => k_asm); (case kT => k_asm); (case kk => first | exact rfl | assumption); (case kN => k_asm); (case kd => k_mem); (case kl => k_mem); (case lt => omega); (case kI => assumption); (case kD => assumption); (case kdp => walk_at "m room"); (case kun => walk_at "m room"); (case kU => (intro _ _ _; k_upd)); (case kV => (intro _ _ _ _ _; k_upd)); k_whole; intro tp' number' tn' b' tb' gs' us' xs' sd' td' nd' nl' h' tk' F' N' l1' hI' D' hg1' hg2' hg3' hg4' hg5' hg6'; (try dsimp only at N'); (try k_fold))))
section ReadFPart
local macro_rules | `(tactic| walk_at "subscriptTail") => `(tactic| (k_here; (with_reducible show wpAny _ _ (subscriptTail _ (PySem.Expr.Slice (some _) (some _) none _) (Value.bytes _ _) (Value.ref _)) _ _ _); k_dflt ((refine' bslice_K (s := ⟨_, _, _, _, _⟩) ?kF ?kN ?kb ?kx ?ky ?kz ?_ ?hs ?ht); (case kF => k_asm); (case kN => k_asm); (case kb => assumption); (case kx => exact rfl); (case ky => (exact (Int.natCast_add _ 8).symm)); (case kz => omega); (case hs => with_unfolding_all rfl); (case ht => (intro _; with_unfolding_all rfl)); (intro b9' h' t9' tk9' F' N' hb9'; simp only [Nat.add_sub_cancel_left] at hb9'))))
local macro_rules | `(tactic| walk_at "call builtin:len") => `(tactic| (k_here; (with_reducible show wpAny _ _ (call (Value.builtin "len") [Value.bytes _ _]) _ _ _); k_dflt (refine KBw.len_K (by assumption) (by omega) ?_)))
local macro_rules | `(tactic| walk_at "call ref") => `(tactic| (k_here; (with_reducible show wpAny _ _ (call (Value.ref _) [Value.bytes _ _, Value.str _ _]) _ _ _); k_dflt (refine KFB.call_little (by k_asm) (by k_mem) (by assumption) (by omega) ?_); (intro t9' tk9')))
theorem drop2 {h₀ h : Heap} {L : Addr} {a b c : Addr × Obj} {news : List (Addr × Obj)} (N : News h₀ L h (a :: b :: c :: news)) : News h₀ L h (a :: news) := fun p hp => N p (by
  rcases List.mem_cons.mp hp with rfl | hp
  · exact .head _
  · exact .tail _ (.tail _ (.tail _ hp)))
theorem allLt_mem {d : Addr} : ∀ {l : List (Addr × Obj)}, AllLt d l → ∀ q ∈ l, q.1 < d
  | [], _, _, h => nomatch h
  | p :: r, h, q, hq => by
    rcases List.mem_cons.mp hq with rfl | hq
    · exact h.1
    · exact allLt_mem h.2 q hq
theorem lt_of_all {a b : Prop} {d : Addr} {news : List (Addr × Obj)} (h : a ∧ b ∧ AllLt d news) : ∀ q ∈ news, q.1 < d := allLt_mem h.2.2
theorem read_f64 {w : World} {p : Program} {loose : List Str} {mean : ExcName → Option Value} {mg mb : Str → Option Value} {dp un : Nat} {gd : Option (List Code)} {cn : Str} {cs : Scope} {a : Addr} {ccd : Value} {cl : List (Str × Addr)} {A₀ : Around} {h₀ : Heap} {L : Addr} {m : Str → Option Value} {s : Shared} {Q E : Value → Shared → Prop}
    {b : Array UInt8} {ks : List Int} {i : Nat} {tb ti : Tok} {news : List (Addr × Obj)}
    (B : Below A₀ h₀ [] h₀) (F : Fr h₀ L s.heap m) (X : (Mine.hd.heap_39 w.params).In h₀) (T : Top p loose mean mg mb h₀) (hk : cs.kind = .function)
    (N : News h₀ L s.heap news) (hb : KBw.bInts b = ks) (hks : ks.length = 12) (hi0 : i ≤ 12) {hX : Heap} {cX pX : Addr} (hCH : CodeHd hX cX pX) (hdp : dp < 800) (hun : un < 8000)
    (hok : ∀ tp t1 t2 h' tk', i + 8 ≤ 12 → Fr h₀ L h' m → News h₀ L h' ((tp, { cls := .type "tuple", data := .seq #[.int (KFB.value ((ks.drop i).take 8).reverse) t1, .int ((i : Int) + 8) t2] }) :: news) → (∀ q ∈ news, q.1 < tp) → Q (.ref tp) { s with heap := h', toks := tk' })
    (hfew : ∀ t h' tk', ¬ i + 8 ≤ 12 → Fr h₀ L h' m → News h₀ L h' news → Q (.str (Str.ofString "too few") t) { s with heap := h', toks := tk' }) :
    wpAny (model PySem.Challenge.rw_au6043_01.row.toRowW.prog w) (ktrTop dp un gd cn cs L a ccd cl []) (call (.ref 144) [.ref 113, .bytes b tb, .int (i : Int) ti]) Q E s := by
  w_top off
  revert X; k_fill; intro X
  by_cases hi : i + 8 ≤ 12
  · have hl9 : ((ks.drop i).take 8).length = 8 := by rw [List.length_take, List.length_drop]; omega
    refine wpAny_call ?_
    k_dflt walk_at "m enterT"
    walk_at "m steps"
    · exfalso; omega
    · exact hok _ _ _ _ _ hi (by assumption) (drop2 (by assumption)) (lt_of_all (by assumption))
  · have hl9 : ((ks.drop i).take 8).length < 8 := by rw [List.length_take, List.length_drop]; omega
    refine wpAny_call ?_
    k_dflt walk_at "m enterT"
    walk_at "m steps"
    · exact hfew _ _ _ hi (by assumption) (by assumption)
    · exfalso; omega
local macro_rules | `(tactic| walk_at "subscriptTail") => `(tactic| (k_here; (with_reducible show wpAny _ _ (subscriptTail _ (PySem.Expr.Slice (some _) (some _) none _) (Value.bytes _ _) (Value.ref _)) _ _ _); k_dflt ((refine' bslice_K (s := ⟨_, _, _, _, _⟩) ?kF ?kN ?kb ?kx ?ky ?kz ?_ ?hs ?ht); (case kF => k_asm); (case kN => k_asm); (case kb => assumption); (case kx => exact rfl); (case ky => (exact (Int.natCast_add _ 4).symm)); (case kz => omega); (case hs => with_unfolding_all rfl); (case ht => (intro _; with_unfolding_all rfl)); (intro b9' h' t9' tk9' F' N' hb9'; simp only [Nat.add_sub_cancel_left] at hb9'))))
theorem read_f32 {w : World} {p : Program} {loose : List Str} {mean : ExcName → Option Value} {mg mb : Str → Option Value} {dp un : Nat} {gd : Option (List Code)} {cn : Str} {cs : Scope} {a : Addr} {ccd : Value} {cl : List (Str × Addr)} {A₀ : Around} {h₀ : Heap} {L : Addr} {m : Str → Option Value} {s : Shared} {Q E : Value → Shared → Prop}
    {b : Array UInt8} {ks : List Int} {i : Nat} {tb ti : Tok} {news : List (Addr × Obj)}
    (B : Below A₀ h₀ [] h₀) (F : Fr h₀ L s.heap m) (X : (Mine.hd.heap_39 w.params).In h₀) (T : Top p loose mean mg mb h₀) (hk : cs.kind = .function)
    (N : News h₀ L s.heap news) (hb : KBw.bInts b = ks) (hks : ks.length = 12) (hi0 : i ≤ 12) {hX : Heap} {cX pX : Addr} (hCH : CodeHd hX cX pX) (hdp : dp < 800) (hun : un < 8000)
    (hok : ∀ tp t1 t2 h' tk', i + 4 ≤ 12 → Fr h₀ L h' m → News h₀ L h' ((tp, { cls := .type "tuple", data := .seq #[.int (KFB.value ((ks.drop i).take 4).reverse) t1, .int ((i : Int) + 4) t2] }) :: news) → (∀ q ∈ news, q.1 < tp) → Q (.ref tp) { s with heap := h', toks := tk' })
    (hfew : ∀ t h' tk', ¬ i + 4 ≤ 12 → Fr h₀ L h' m → News h₀ L h' news → Q (.str (Str.ofString "too few") t) { s with heap := h', toks := tk' }) :
    wpAny (model PySem.Challenge.rw_au6043_01.row.toRowW.prog w) (ktrTop dp un gd cn cs L a ccd cl []) (call (.ref 144) [.ref 120, .bytes b tb, .int (i : Int) ti]) Q E s := by
  w_top off
  revert X; k_fill; intro X
  by_cases hi : i + 4 ≤ 12
  · have hl9 : ((ks.drop i).take 4).length = 4 := by rw [List.length_take, List.length_drop]; omega
    refine wpAny_call ?_
    k_dflt walk_at "m enterT"
    walk_at "m steps"
    · exfalso; omega
    · exact hok _ _ _ _ _ hi (by assumption) (drop2 (by assumption)) (lt_of_all (by assumption))
  · have hl9 : ((ks.drop i).take 4).length < 4 := by rw [List.length_take, List.length_drop]; omega
    refine wpAny_call ?_
    k_dflt walk_at "m enterT"
    walk_at "m steps"
    · exact hfew _ _ _ hi (by assumption) (by assumption)
    · exfalso; omega
end ReadFPart

end PartReadF

section PartPacked
local macro_rules | `(tactic| walk_at "m enter") => `(tactic| (refine' code_defS ?k1 ?k2 ?k3 ?k4 ?k5 ?kA ?kF ?kK ?k6 ?k7 ?k8 ?k9 ?kB ?_ ?c2 ?c3 ?c4 ?c5; (case kA => exact rfl); (case kF => exact rfl); (case kK => assumption); (case k1 => k_asm); (case k2 => k_asm); (case k3 => k_asm); (case k4 => k_asm); (case k5 => k_asm); (case k6 => k_is); (case k7 => k_is); (case k8 => ktr_room); (case k9 => exact BindsTo.of_eq rfl); (case c5 => decide); (case kB => exact locs rfl); (case c2 => exact rfl); (case c3 => exact rfl); (case c4 => exact rfl); k_whole; intro g' L' h' FG' F' N' B' X' T'; (try dsimp only); (try k_lift B'); (try k_fold)))
local macro_rules | `(tactic| units_room) => `(tactic| (have hcL' := cLine_is; simp only [units_in1, units_deeper, Around.mark_units]; (try dsimp only [ktrTop]); omega))
local macro_rules | `(tactic| ktr_room) => `(tactic| ((try simp only [depth_in1, depth_deeper]); (try dsimp only [ktrTop]); (try simp only [recursionLimit]); omega))
local macro_rules | `(tactic| k_room) => `(tactic| ktr_room)
local macro_rules | `(tactic| walk_at "eval ListComp") => `(tactic| (k_here; k_dflt (refine LCg.ListComp_U (F₀ := by k_asm) (by rfl) (by decide) (by rfl) (by decide) (by rfl) ?_)))
local macro_rules | `(tactic| walk_at "CompSrc") => `(tactic| (k_here; k_dflt (first
  | (refine LCg.CompSrc.base (by rfl) (by k_asm) (by k_asm) (by assumption) ?hz ?_; (case hz => ((have hL9 := IntsAre.length (by assumption)); simp only [List.size_toArray, sizeLine_eq]; omega)); intro g')
  | (refine LCg.CompSrc.range (by rfl) (by k_asm) (by k_asm) (by assumption) ?sm (rangeSize_up _) ?hz ?_; (case sm => exact small_one (by omega) (by omega) (by omega) (by omega)); (case hz => (simp only [sizeLine_eq]; omega)); intro g'))))
local macro_rules | `(tactic| walk_at "call type:range") => `(tactic| (k_here; k_dflt (refine' range1_rows ?kF ?kN ?_; (case kF => k_asm); (case kN => k_asm); intro h' tk' t1' u1' v1' hR' F' N' hk')))
local macro_rules | `(tactic| walk_at "execs nil") => `(tactic| (with_reducible refine wpAny_execs_nil ?_))
local macro_rules | `(tactic| walk_at "m enterC") => `(tactic| (refine' code_defCS ?k1 ?k2 ?k3 ?k4 ?k5 ?kA ?kF ?kK ?k6 ?k7 ?k8 ?k9 ?kB ?kD ?_ ?c2 ?c3 ?c4; (case kA => exact rfl); (case kF => exact rfl); (case kK => assumption); (case k1 => k_asm); (case k2 => k_asm); (case k3 => k_asm); (case k4 => k_asm); (case k5 => k_asm); (case k6 => k_is); (case k7 => k_is); (case k8 => ktr_room); (case k9 => exact BindsTo.of_eq rfl); (case kB => exact rfl); (case kD => decide +kernel); (case c2 => exact rfl); (case c3 => exact rfl); (case c4 => exact rfl); k_whole; intro g' L' h' tk' cells' FG' F' N' Y' B' X' T' l1; (try k_lt l1); k_cells Y'; (try simp only [List.cons_append, List.nil_append] at N'); (try dsimp only); (try k_lift B'); (try k_fold)))
local macro_rules | `(tactic| walk_at "m step") => `(tactic| ((fail_if_success (with_reducible show wpAny _ _ (exec (Stmt.While _ _ _ _) _) _ _ _)); (fail_if_success (with_reducible show LCg.CompRest _ _ _ _ _ _ _ _ _ _ _ _ _ _ _ _ _ _ _)); (first | (k_unfold; (try dsimp only)) | (k_end; kc_close) | walk1 | (dsimp only; walk1) | (leave1; walk_say "STEP leave1"; (try dsimp only)) | fail "no step")))
local macro_rules | `(tactic| walk_at "m steps") => `(tactic| repeat' ((fail_if_success (with_reducible show wpAny _ _ (exec (Stmt.While _ _ _ _) _) _ _ _)); (fail_if_success (with_reducible show LCg.CompRest _ _ _ _ _ _ _ _ _ _ _ _ _ _ _ _ _ _ _)); (first | (k_unfold; (try dsimp only)) | (k_end; kc_close) | walk1 | (dsimp only; walk1) | (leave1; walk_say "STEP leave1"; (try dsimp only)) | fail "no step")))
local macro_rules | `(tactic| walk_at "m room") => `(tactic| ((try simp only [depth_in1, depth_deeper, units_in1, units_deeper, depth_caller, units_caller]); (try dsimp only [ktrTop]); omega))
local macro_rules | `(tactic| walk_at "binaryOp LShift int int") => `(tactic| (k_here; k_dflt ((refine' lshift_K ?ka ?kb ?kc ?ke ?_); (case ka => first | decide | omega); (case kb => first | decide | omega); (case kc => first | decide | omega); (case ke => ((try simp only [Int.reduceSub, Int.reduceAdd, Int.reduceToNat, Int.reducePow, Int.reduceMul, Int.one_mul]); exact rfl)); k_whole)))
local macro_rules | `(tactic| walk_at "callWith ref") => `(tactic| (k_here; k_dflt (refine' callWith_K ?k1 ?k2 ?_; (case k1 => k_asm); (case k2 => k_is); k_whole)))
local macro_rules | `(tactic| walk_at "m enterT") => `(tactic| (refine' code_defX0 ?k1 ?k2 ?k3 ?k4 ?k5 ?kA ?kF ?kK ?k6 ?k7 ?k8 ?k9 ?kB ?_ ?c2 ?c3 ?c4 ?c5; (case kA => exact rfl); (case kF => exact rfl); (case kK => assumption); (case k1 => k_asm); (case k2 => k_asm); (case k3 => k_asm); (case k4 => k_asm); (case k5 => k_asm); (case k6 => k_is); (case k7 => k_is); (case k8 => ktr_room); (case k9 => exact BindsTo.of_eq rfl); (case c5 => decide); (case kB => exact locs rfl); (case c2 => exact rfl); (case c3 => exact rfl); (case c4 => exact rfl); k_whole; intro g' L' h' FG' F' N' B' X' T' D'; (try dsimp only); (try k_lift B'); (try k_fold)))
local macro_rules | `(tactic| walk_at "call ref") => `(tactic| (k_here; k_dflt ((show wpAny _ _ (call (Value.ref 132) [Value.ref _, Value.int _ _]) _ _ _); refine' take_use ?kB ?kF ?kX ?kT ?kk ?kN ?kd ?kl ?lt ?kI ?kD ?km ?kdp ?kun ?kU ?kV ?_; (case kB => k_asm); (case kF => k_asm); (case kX => k_asm); (case kT => k_asm); (case kk => first | exact rfl | assumption); (case kN => k_asm); (case kd => k_mem); (case kl => k_mem); (case lt => omega); (case kI => assumption); (case kD => assumption); (case km => first | decide | assumption | omega | exact Int.pow_pos (by decide)); (case kdp => walk_at "m room"); (case kun => walk_at "m room"); (case kU => (intro _ _ _; k_upd)); (case kV => (intro _ _ _ _ _; k_upd)); k_whole; intro r' tr' us' xs' sd' td' nd' nl' h' tk' F' N' hI' D' hr0' hr1'; (try dsimp only at N'); (try k_fold))))
local macro_rules | `(tactic| walk_at "eval Name") => `(tactic| (k_here; (with_reducible show wpAny _ _ (eval (Expr.Name _ _) (compEnvC _ _ _ _)) _ _ _); k_dflt (refine ld_cell (by k_asm) (by rfl) (by k_mem) (by assumption) ?_)))
local macro_rules | `(tactic| walk_at "call ref") => `(tactic| (k_here; k_dflt ((show wpAny _ _ (call (Value.ref 125) [Value.ref _]) _ _ _); refine' draw_use ?kB ?kF ?kX ?kT ?kk ?kl ?ki ?kn ?kN ?kdp ?kun ?_; (case kB => k_asm); (case kF => k_asm); (case kX => k_asm); (case kT => k_asm); (case kk => first | exact rfl | assumption); (case kl => assumption); (case ki => assumption); (case kn => first | assumption | omega); (case kN => k_asm); (case kdp => walk_at "m room"); (case kun => walk_at "m room"); k_whole; intro d' l' us' xs' sd' td' nd' nl' h' tk' F' N' l1' l2' hI' D'; (try k_fold))))
local macro_rules | `(tactic| walk_at "call ref") => `(tactic| (k_here; k_dflt ((show wpAny _ _ (call (Value.ref 137) [Value.ref _]) _ _ _); refine' groups_use ?kB ?kF ?kX ?kT ?kk ?kN ?kd ?kl ?lt ?kI ?kD ?kdp ?kun ?kU ?kV ?_; (case kB => k_asm); (case kF => k_asm); (case kX => k_asm); (case kT => k_asm); (case kk => first | exact rfl | assumption); (case kN => k_asm); (case kd => k_mem); (case kl => k_mem); (case lt => omega); (case kI => assumption); (case kD => assumption); (case kdp => walk_at "m room"); (case kun => walk_at "m room"); (case kU => (intro _ _ _; k_upd)); (case kV => (intro _ _ _ _ _; k_upd)); k_whole; intro tp' number' tn' b' tb' gs' us' xs' sd' td' nd' nl' h' tk' F' N' l1' hI' D' hg1' hg2' hg3' hg4' hg5' hg6'; (try dsimp only at N'); (try k_fold))))
section PackedPart
inductive Form : String → Nat → Int → Int → Prop
  | ui : Form "<I" 4 0 4294967296
  | si : Form "<i" 4 (-2147483648) 2147483648
  | uq : Form "<Q" 8 0 18446744073709551616
  | sq : Form "<q" 8 (-9223372036854775808) 9223372036854775808
section
variable {prog : Program} {w : World} {A : Around} {E : Value → Shared → Prop} {s : Shared} {Q : Value → Shared → Prop}
theorem and_maskK {x M : Int} {t u : Tok} (k : Nat) (hM : M = 2 ^ k - 1) (h : 0 ≤ x % 2 ^ k → x % 2 ^ k < 2 ^ k → Q (.int (x % 2 ^ k) s.toks) { s with toks := s.toks + 1 }) : wpAny (model prog w) A (binaryOp .BitAnd (.int x t) (.int M u)) Q E s := by
  have hp : (0 : Int) < 2 ^ k := Int.pow_pos (by decide)
  exact and_int (by rw [hM, kbt_mask]; exact h (Int.emod_nonneg _ (by omega)) (Int.emod_lt_of_pos _ hp))
end
local macro_rules | `(tactic| walk_at "binaryOp BitAnd int int") => `(tactic| (k_here; (with_reducible show wpAny _ _ (binaryOp Operator.BitAnd (Value.int _ _) (Value.int _ _)) _ _ _); k_dflt (first | (refine' and_maskK (32 : Nat) (by decide) ?_; intro hm0' hm1') | (refine' and_maskK (64 : Nat) (by decide) ?_; intro hm0' hm1'))))
local macro_rules | `(tactic| walk_at "call builtin:int.to_bytes") => `(tactic| (k_here; (with_reducible show wpAny _ _ (call (Value.builtin "int.to_bytes") [Value.int _ _, Value.int _ _, Value.str _ _]) _ _ _); k_dflt (first
  | (with_unfolding_all refine KTBy.to_little (k := 4) (B := 2 ^ 32) (by decide) (by decide) (by assumption) (by assumption) ?_; intro b9' t9' tk9' hb9' hl9')
  | (with_unfolding_all refine KTBy.to_little (k := 8) (B := 2 ^ 64) (by decide) (by decide) (by assumption) (by assumption) ?_; intro b9' t9' tk9' hb9' hl9'))))
theorem packed_c {w : World} {p : Program} {loose : List Str} {mean : ExcName → Option Value} {mg mb : Str → Option Value} {dp un : Nat} {gd : Option (List Code)} {cn : Str} {cs : Scope} {a : Addr} {ccd : Value} {cl : List (Str × Addr)} {A₀ : Around} {h₀ : Heap} {L : Addr} {m : Str → Option Value} {s : Shared} {Q E : Value → Shared → Prop}
    {fm : String} {many : Nat} {lo hi v : Int} {tf tv : Tok} {news : List (Addr × Obj)} (hfm : Form fm many lo hi)
    (B : Below A₀ h₀ [] h₀) (F : Fr h₀ L s.heap m) (X : (Mine.hd.heap_39 w.params).In h₀) (T : Top p loose mean mg mb h₀) (hk : cs.kind = .function)
    (N : News h₀ L s.heap news) {hX : Heap} {cX pX : Addr} (hCH : CodeHd hX cX pX) (hdp : dp < 800) (hun : un < 8000)
    (hok : ∀ b t h' tk', lo ≤ v → v < hi → Fr h₀ L h' m → News h₀ L h' news → KBw.bInts b = KTBy.little many (v % 2 ^ (8 * many)) → Q (.bytes b t) { s with heap := h', toks := tk' })
    (hno : ∀ h' tk', ¬ (lo ≤ v ∧ v < hi) → Fr h₀ L h' m → News h₀ L h' news → Q .none { s with heap := h', toks := tk' }) :
    wpAny (model PySem.Challenge.rw_au6043_01.row.toRowW.prog w) (ktrTop dp un gd cn cs L a ccd cl []) (call (.ref 151) [.str (Str.ofString fm) tf, .int v tv]) Q E s := by
  w_top off
  revert X; k_fill; intro X
  cases hfm
  all_goals (
    refine wpAny_call ?_
    k_dflt walk_at "m enterT"
    walk_at "m steps"
    · exact hno _ _ (by omega) (by assumption) (by assumption)
    · exact hno _ _ (by omega) (by assumption) (by assumption)
    · exact hok _ _ _ _ (by omega) (by omega) (by assumption) (by assumption) (by assumption))
end PackedPart

end PartPacked

section PartSize
local macro_rules | `(tactic| walk_at "pad") => `(tactic| skip)
local macro_rules | `(tactic| walk_at "m enter") => `(tactic| (refine' code_defS ?k1 ?k2 ?k3 ?k4 ?k5 ?kA ?kF ?kK ?k6 ?k7 ?k8 ?k9 ?kB ?_ ?c2 ?c3 ?c4 ?c5; (case kA => exact rfl); (case kF => exact rfl); (case kK => assumption); (case k1 => k_asm); (case k2 => k_asm); (case k3 => k_asm); (case k4 => k_asm); (case k5 => k_asm); (case k6 => k_is); (case k7 => k_is); (case k8 => ktr_room); (case k9 => exact BindsTo.of_eq rfl); (case c5 => decide); (case kB => exact locs rfl); (case c2 => exact rfl); (case c3 => exact rfl); (case c4 => exact rfl); k_whole; intro g' L' h' FG' F' N' B' X' T'; (try dsimp only); (try k_lift B'); (try k_fold)))
local macro_rules | `(tactic| units_room) => `(tactic| (have hcL' := cLine_is; simp only [units_in1, units_deeper, Around.mark_units]; (try dsimp only [ktrTop]); omega))
local macro_rules | `(tactic| ktr_room) => `(tactic| ((try simp only [depth_in1, depth_deeper]); (try dsimp only [ktrTop]); (try simp only [recursionLimit]); omega))
local macro_rules | `(tactic| k_room) => `(tactic| ktr_room)
local macro_rules | `(tactic| walk_at "eval ListComp") => `(tactic| (k_here; k_dflt (refine LCg.ListComp_U (F₀ := by k_asm) (by rfl) (by decide) (by rfl) (by decide) (by rfl) ?_)))
local macro_rules | `(tactic| walk_at "CompSrc") => `(tactic| (k_here; k_dflt (first
  | (refine LCg.CompSrc.base (by rfl) (by k_asm) (by k_asm) (by assumption) ?hz ?_; (case hz => ((have hL9 := IntsAre.length (by assumption)); simp only [List.size_toArray, sizeLine_eq]; omega)); intro g')
  | (refine LCg.CompSrc.range (by rfl) (by k_asm) (by k_asm) (by assumption) ?sm (rangeSize_up _) ?hz ?_; (case sm => exact small_one (by omega) (by omega) (by omega) (by omega)); (case hz => (simp only [sizeLine_eq]; omega)); intro g'))))
local macro_rules | `(tactic| walk_at "call type:range") => `(tactic| (k_here; k_dflt (refine' range1_rows ?kF ?kN ?_; (case kF => k_asm); (case kN => k_asm); intro h' tk' t1' u1' v1' hR' F' N' hk')))
local macro_rules | `(tactic| walk_at "execs nil") => `(tactic| (with_reducible refine wpAny_execs_nil ?_))
local macro_rules | `(tactic| walk_at "m enterC") => `(tactic| (refine' code_defCS ?k1 ?k2 ?k3 ?k4 ?k5 ?kA ?kF ?kK ?k6 ?k7 ?k8 ?k9 ?kB ?kD ?_ ?c2 ?c3 ?c4; (case kA => exact rfl); (case kF => exact rfl); (case kK => assumption); (case k1 => k_asm); (case k2 => k_asm); (case k3 => k_asm); (case k4 => k_asm); (case k5 => k_asm); (case k6 => k_is); (case k7 => k_is); (case k8 => ktr_room); (case k9 => exact BindsTo.of_eq rfl); (case kB => exact rfl); (case kD => decide +kernel); (case c2 => exact rfl); (case c3 => exact rfl); (case c4 => exact rfl); k_whole; intro g' L' h' tk' cells' FG' F' N' Y' B' X' T' l1; (try k_lt l1); k_cells Y'; (try simp only [List.cons_append, List.nil_append] at N'); (try dsimp only); (try k_lift B'); (try k_fold)))
local macro_rules | `(tactic| walk_at "m step") => `(tactic| ((fail_if_success (with_reducible show wpAny _ _ (exec (Stmt.While _ _ _ _) _) _ _ _)); (fail_if_success (with_reducible show LCg.CompRest _ _ _ _ _ _ _ _ _ _ _ _ _ _ _ _ _ _ _)); (first | (k_unfold; (try dsimp only)) | (k_end; kc_close) | walk1 | (dsimp only; walk1) | (leave1; walk_say "STEP leave1"; (try dsimp only)) | fail "no step")))
local macro_rules | `(tactic| walk_at "m steps") => `(tactic| repeat' ((fail_if_success (with_reducible show wpAny _ _ (exec (Stmt.While _ _ _ _) _) _ _ _)); (fail_if_success (with_reducible show LCg.CompRest _ _ _ _ _ _ _ _ _ _ _ _ _ _ _ _ _ _ _)); (first | (k_unfold; (try dsimp only)) | (k_end; kc_close) | walk1 | (dsimp only; walk1) | (leave1; walk_say "STEP leave1"; (try dsimp only)) | fail "no step")))
local macro_rules | `(tactic| walk_at "m room") => `(tactic| ((try simp only [depth_in1, depth_deeper, units_in1, units_deeper, depth_caller, units_caller]); (try dsimp only [ktrTop]); omega))
local macro_rules | `(tactic| walk_at "binaryOp LShift int int") => `(tactic| (k_here; k_dflt ((refine' lshift_K ?ka ?kb ?kc ?ke ?_); (case ka => first | decide | omega); (case kb => first | decide | omega); (case kc => first | decide | omega); (case ke => ((try simp only [Int.reduceSub, Int.reduceAdd, Int.reduceToNat, Int.reducePow, Int.reduceMul, Int.one_mul]); exact rfl)); k_whole)))
local macro_rules | `(tactic| walk_at "callWith ref") => `(tactic| (k_here; k_dflt (refine' callWith_K ?k1 ?k2 ?_; (case k1 => k_asm); (case k2 => k_is); k_whole)))
local macro_rules | `(tactic| walk_at "m enterT") => `(tactic| (refine' code_defX0 ?k1 ?k2 ?k3 ?k4 ?k5 ?kA ?kF ?kK ?k6 ?k7 ?k8 ?k9 ?kB ?_ ?c2 ?c3 ?c4 ?c5; (case kA => exact rfl); (case kF => exact rfl); (case kK => assumption); (case k1 => k_asm); (case k2 => k_asm); (case k3 => k_asm); (case k4 => k_asm); (case k5 => k_asm); (case k6 => k_is); (case k7 => k_is); (case k8 => ktr_room); (case k9 => exact BindsTo.of_eq rfl); (case c5 => decide); (case kB => exact locs rfl); (case c2 => exact rfl); (case c3 => exact rfl); (case c4 => exact rfl); k_whole; intro g' L' h' FG' F' N' B' X' T' D'; (try dsimp only); (try k_lift B'); (try k_fold)))
local macro_rules | `(tactic| walk_at "call ref") => `(tactic| (k_here; k_dflt ((show wpAny _ _ (call (Value.ref 132) [Value.ref _, Value.int _ _]) _ _ _); refine' take_use ?kB ?kF ?kX ?kT ?kk ?kN ?kd ?kl ?lt ?kI ?kD ?km ?kdp ?kun ?kU ?kV ?_; (case kB => k_asm); (case kF => k_asm); (case kX => k_asm); (case kT => k_asm); (case kk => first | exact rfl | assumption); (case kN => k_asm); (case kd => k_mem); (case kl => k_mem); (case lt => omega); (case kI => assumption); (case kD => assumption); (case km => first | decide | assumption | omega | exact Int.pow_pos (by decide)); (case kdp => walk_at "m room"); (case kun => walk_at "m room"); (case kU => (intro _ _ _; k_upd)); (case kV => (intro _ _ _ _ _; k_upd)); k_whole; intro r' tr' us' xs' sd' td' nd' nl' h' tk' F' N' hI' D' hr0' hr1'; (try dsimp only at N'); (try k_fold))))
local macro_rules | `(tactic| walk_at "eval Name") => `(tactic| (k_here; (with_reducible show wpAny _ _ (eval (Expr.Name _ _) (compEnvC _ _ _ _)) _ _ _); k_dflt (refine ld_cell (by k_asm) (by rfl) (by k_mem) (by assumption) ?_)))
local macro_rules | `(tactic| walk_at "call ref") => `(tactic| (k_here; k_dflt ((show wpAny _ _ (call (Value.ref 125) [Value.ref _]) _ _ _); refine' draw_use ?kB ?kF ?kX ?kT ?kk ?kl ?ki ?kn ?kN ?kdp ?kun ?_; (case kB => k_asm); (case kF => k_asm); (case kX => k_asm); (case kT => k_asm); (case kk => first | exact rfl | assumption); (case kl => assumption); (case ki => assumption); (case kn => first | assumption | omega); (case kN => k_asm); (case kdp => walk_at "m room"); (case kun => walk_at "m room"); k_whole; intro d' l' us' xs' sd' td' nd' nl' h' tk' F' N' l1' l2' hI' D'; (try k_fold))))
local macro_rules | `(tactic| walk_at "call ref") => `(tactic| (k_here; k_dflt ((show wpAny _ _ (call (Value.ref 137) [Value.ref _]) _ _ _); refine' groups_use ?kB ?kF ?kX ?kT ?kk ?kN ?kd ?kl ?lt ?kI ?kD ?kdp ?kun ?kU ?kV ?_; (case kB => k_asm); (case kF => k_asm); (case kX => k_asm); (case kT => k_asm); (case kk => first | exact rfl | assumption); (case kN => k_asm); (case kd => k_mem); (case kl => k_mem); (case lt => omega); (case kI => assumption); (case kD => assumption); (case kdp => walk_at "m room"); (case kun => walk_at "m room"); (case kU => (intro _ _ _; k_upd)); (case kV => (intro _ _ _ _ _; k_upd)); k_whole; intro tp' number' tn' b' tb' gs' us' xs' sd' td' nd' nl' h' tk' F' N' l1' hI' D' hg1' hg2' hg3' hg4' hg5' hg6'; (try dsimp only at N'); (try k_fold))))
section SizePart
def sizeOf7 (n : Int) : Option Int :=
  if n ≤ 127 then some 1 else if n ≤ 16383 then some 2 else if n ≤ 2097151 then some 3 else if n ≤ 268435455 then some 4 else if n ≤ 34359738367 then some 5
  else if n ≤ 4398046511103 then some 6 else if n ≤ 562949953421311 then some 7 else if n ≤ 72057594037927935 then some 8 else if n ≤ 9223372036854775807 then some 9
  else if n > 18446744073709551615 then none else some 10
section
open PySem.Builtin.Str
variable {M : Model} {A : Around} {E : Value → Shared → Prop} {s : Shared} {l : List Nat} {p : List Value} {r : List Nat}
  {f : Nat → List Value × Builtin.Str.Writer × List Nat → Sem (ForInStep (List Value × Builtin.Str.Writer × List Nat))} {Q : List Value × Builtin.Str.Writer × List Nat → Shared → Prop}
  {w : Builtin.Str.Writer} {T : PySem.Str} {N : Nat} {o : Option Value}
theorem int22 {c : Percent} {n : Int} {d : List Nat} (g : KPc.Good w T N) (h1 : c.alt = false) (h2 : c.type = 100 ∨ c.type = 105 ∨ c.type = 117) (h3 : c.prec = none) (hn : 0 ≤ n) (hm : n < 10 ^ 22)
    (hd : d = (PySem.Str.ofString (toString ((n.natAbs : Nat) : Int))).cps.toList) (ho : o = none) (h : ∀ w', KPc.Good w' (T ++ PySem.Str.ofString (toString n)) (N + 22) → wpAny M A (forIn l (p, w', r) f) Q E s) :
    wpAny M A (forIn l (p, w.add ⟨(percentInt c (decide (n < 0)) d).toArray⟩ o, r) f) Q E s := by
  rw [KPc.int_text c h1 h2 h3 hn, hd, show ((n.natAbs : Nat) : Int) = n by omega]
  exact KPc.after_str g (toString_length_le hn (by decide) hm) (KPc.obj_none ho) h
end
section
variable {prog : Program} {w : World} {A : Around} {E : Value → Shared → Prop} {s : Shared} {X X' : PySem.Str} {n : Int} {t u : Tok} {Q : Value → Shared → Prop}
theorem mod22 {T : Int → PySem.Str} (hX : X = X') (hn0 : 0 ≤ n) (hn1 : n < 10 ^ 22)
    (hm : ∀ i : Int, 0 ≤ i → i < 10 ^ 22 → i.natAbs.log2 < 1920 → ((i.natAbs : Nat) : Int).natAbs.log2 < 1920 → Meets (Builtin.«str.__mod__» ⟨[.str X' t, .int i u], []⟩) (fun _ R s => ∀ t' k, R (.ok (.ret (.str (T i) t'))) { s with toks := k }))
    (h : ∀ t' k, Q (.str (T n) t') { s with toks := k }) : wpAny (model prog w) A (binaryOp .Mod (.str X t) (.int n u)) Q E s :=
  KPc.mod_lit hX (shown (N := 2 ^ 1920) (by omega) (by omega) (Int.le_refl _)) (hm n hn0 hn1) h
end
local macro_rules | `(tactic| kpc_piece) => `(tactic| (refine int22 (by kpc_g) rfl (by kpc_kind) rfl (by with_reducible assumption) (by with_reducible assumption) rfl (by kpc_none) ?_; intro _ _))
local macro_rules | `(tactic| walk_at "binaryOp Mod str int") => `(tactic| (k_here; (with_reducible show wpAny _ _ (binaryOp Operator.Mod (Value.str _ _) (Value.int _ _)) _ _ _); (refine' mod22 ?kpcF ?kpcl ?kpch ?kpcm ?_; (case kpcF => kpc_eq); (case kpcl => omega); (case kpch => omega); (case kpcm => k_dflt kpc_run)); intro _ _))
theorem sz1 {v : Int} (h : v ≤ 127) : sizeOf7 v = some 1 := by unfold sizeOf7; (repeat' split) <;> first | rfl | omega
theorem sz2 {v : Int} (h : ¬ v ≤ 127) (h2 : v ≤ 16383) : sizeOf7 v = some 2 := by unfold sizeOf7; (repeat' split) <;> first | rfl | omega
theorem sz3 {v : Int} (h : ¬ v ≤ 16383) (h2 : v ≤ 2097151) : sizeOf7 v = some 3 := by unfold sizeOf7; (repeat' split) <;> first | rfl | omega
theorem sz4 {v : Int} (h : ¬ v ≤ 2097151) (h2 : v ≤ 268435455) : sizeOf7 v = some 4 := by unfold sizeOf7; (repeat' split) <;> first | rfl | omega
theorem sz5 {v : Int} (h : ¬ v ≤ 268435455) (h2 : v ≤ 34359738367) : sizeOf7 v = some 5 := by unfold sizeOf7; (repeat' split) <;> first | rfl | omega
theorem sz6 {v : Int} (h : ¬ v ≤ 34359738367) (h2 : v ≤ 4398046511103) : sizeOf7 v = some 6 := by unfold sizeOf7; (repeat' split) <;> first | rfl | omega
theorem sz7 {v : Int} (h : ¬ v ≤ 4398046511103) (h2 : v ≤ 562949953421311) : sizeOf7 v = some 7 := by unfold sizeOf7; (repeat' split) <;> first | rfl | omega
theorem sz8 {v : Int} (h : ¬ v ≤ 562949953421311) (h2 : v ≤ 72057594037927935) : sizeOf7 v = some 8 := by unfold sizeOf7; (repeat' split) <;> first | rfl | omega
theorem sz9 {v : Int} (h : ¬ v ≤ 72057594037927935) (h2 : v ≤ 9223372036854775807) : sizeOf7 v = some 9 := by unfold sizeOf7; (repeat' split) <;> first | rfl | omega
theorem sz10 {v : Int} (h : ¬ v ≤ 9223372036854775807) (h2 : v ≤ 18446744073709551615) : sizeOf7 v = some 10 := by unfold sizeOf7; (repeat' split) <;> first | rfl | omega
theorem sz0 {v : Int} (h : ¬ v ≤ 18446744073709551615) : sizeOf7 v = none := by unfold sizeOf7; (repeat' split) <;> first | rfl | omega
local macro_rules | `(tactic| walk_at "eval Call") => `(tactic| (k_here; (with_reducible show wpAny _ _ (eval (Expr.Call (Expr.Name _ _) _ [] _) _) _ _ _); k_dflt (refine Call_ ?_)))
theorem size_c {w : World} {p : Program} {loose : List Str} {mean : ExcName → Option Value} {mg mb : Str → Option Value} {dp un : Nat} {gd : Option (List Code)} {cn : Str} {cs : Scope} {a : Addr} {ccd : Value} {cl : List (Str × Addr)} {A₀ : Around} {h₀ : Heap} {L : Addr} {m : Str → Option Value} {s : Shared} {Q E : Value → Shared → Prop}
    {v : Int} {tv : Tok} {news : List (Addr × Obj)}
    (B : Below A₀ h₀ [] h₀) (F : Fr h₀ L s.heap m) (X : (Mine.hd.heap_39 w.params).In h₀) (T : Top p loose mean mg mb h₀) (hk : cs.kind = .function)
    (N : News h₀ L s.heap news) {hX : Heap} {cX pX : Addr} (hCH : CodeHd hX cX pX) (hdp : dp < 800) (hun : un < 8000) (h0 : 0 ≤ v) (h1 : v < 2 ^ 70)
    (hok : ∀ k t h' tk', sizeOf7 v = some k → Fr h₀ L h' m → News h₀ L h' news → Q (.int k t) { s with heap := h', toks := tk' })
    (hno : ∀ h' tk', sizeOf7 v = none → Fr h₀ L h' m → News h₀ L h' news → Q .none { s with heap := h', toks := tk' }) :
    wpAny (model PySem.Challenge.rw_au6043_01.row.toRowW.prog w) (ktrTop dp un gd cn cs L a ccd cl []) (call (.ref 158) [.int v tv]) Q E s := by
  w_top off
  revert X; k_fill; intro X
  by_cases hv9 : v ≤ 18446744073709551615
  all_goals (
    refine wpAny_call ?_
    k_dflt walk_at "m enterT"
    walk_at "m steps")
  all_goals first
    | exact hok _ _ _ _ (by first | exact sz1 (by assumption) | exact sz2 (by assumption) (by assumption) | exact sz3 (by assumption) (by assumption) | exact sz4 (by assumption) (by assumption) | exact sz5 (by assumption) (by assumption) | exact sz6 (by assumption) (by assumption) | exact sz7 (by assumption) (by assumption) | exact sz8 (by assumption) (by assumption) | exact sz9 (by assumption) (by assumption) | exact sz10 (by assumption) (by assumption)) (by assumption) (by assumption)
    | exact hno _ _ (sz0 hv9) (by assumption) (by assumption)
end SizePart

end PartSize

section PartMany
local macro_rules | `(tactic| walk_at "m enter") => `(tactic| (refine' code_defS ?k1 ?k2 ?k3 ?k4 ?k5 ?kA ?kF ?kK ?k6 ?k7 ?k8 ?k9 ?kB ?_ ?c2 ?c3 ?c4 ?c5; (case kA => exact rfl); (case kF => exact rfl); (case kK => assumption); (case k1 => k_asm); (case k2 => k_asm); (case k3 => k_asm); (case k4 => k_asm); (case k5 => k_asm); (case k6 => k_is); (case k7 => k_is); (case k8 => ktr_room); (case k9 => exact BindsTo.of_eq rfl); (case c5 => decide); (case kB => exact locs rfl); (case c2 => exact rfl); (case c3 => exact rfl); (case c4 => exact rfl); k_whole; intro g' L' h' FG' F' N' B' X' T'; (try dsimp only); (try k_lift B'); (try k_fold)))
local macro_rules | `(tactic| units_room) => `(tactic| (have hcL' := cLine_is; simp only [units_in1, units_deeper, Around.mark_units]; (try dsimp only [ktrTop]); omega))
local macro_rules | `(tactic| ktr_room) => `(tactic| ((try simp only [depth_in1, depth_deeper]); (try dsimp only [ktrTop]); (try simp only [recursionLimit]); omega))
local macro_rules | `(tactic| k_room) => `(tactic| ktr_room)
local macro_rules | `(tactic| walk_at "eval ListComp") => `(tactic| (k_here; k_dflt (refine LCg.ListComp_U (F₀ := by k_asm) (by rfl) (by decide) (by rfl) (by decide) (by rfl) ?_)))
local macro_rules | `(tactic| walk_at "CompSrc") => `(tactic| (k_here; k_dflt (first
  | (refine LCg.CompSrc.base (by rfl) (by k_asm) (by k_asm) (by assumption) ?hz ?_; (case hz => ((have hL9 := IntsAre.length (by assumption)); simp only [List.size_toArray, sizeLine_eq]; omega)); intro g')
  | (refine LCg.CompSrc.range (by rfl) (by k_asm) (by k_asm) (by assumption) ?sm (rangeSize_up _) ?hz ?_; (case sm => exact small_one (by omega) (by omega) (by omega) (by omega)); (case hz => (simp only [sizeLine_eq]; omega)); intro g'))))
local macro_rules | `(tactic| walk_at "call type:range") => `(tactic| (k_here; k_dflt (refine' range1_rows ?kF ?kN ?_; (case kF => k_asm); (case kN => k_asm); intro h' tk' t1' u1' v1' hR' F' N' hk')))
local macro_rules | `(tactic| walk_at "execs nil") => `(tactic| (with_reducible refine wpAny_execs_nil ?_))
local macro_rules | `(tactic| walk_at "m enterC") => `(tactic| (refine' code_defCS ?k1 ?k2 ?k3 ?k4 ?k5 ?kA ?kF ?kK ?k6 ?k7 ?k8 ?k9 ?kB ?kD ?_ ?c2 ?c3 ?c4; (case kA => exact rfl); (case kF => exact rfl); (case kK => assumption); (case k1 => k_asm); (case k2 => k_asm); (case k3 => k_asm); (case k4 => k_asm); (case k5 => k_asm); (case k6 => k_is); (case k7 => k_is); (case k8 => ktr_room); (case k9 => exact BindsTo.of_eq rfl); (case kB => exact rfl); (case kD => decide +kernel); (case c2 => exact rfl); (case c3 => exact rfl); (case c4 => exact rfl); k_whole; intro g' L' h' tk' cells' FG' F' N' Y' B' X' T' l1; (try k_lt l1); k_cells Y'; (try simp only [List.cons_append, List.nil_append] at N'); (try dsimp only); (try k_lift B'); (try k_fold)))
local macro_rules | `(tactic| walk_at "m step") => `(tactic| ((fail_if_success (with_reducible show wpAny _ _ (exec (Stmt.While _ _ _ _) _) _ _ _)); (fail_if_success (with_reducible show LCg.CompRest _ _ _ _ _ _ _ _ _ _ _ _ _ _ _ _ _ _ _)); (first | (k_unfold; (try dsimp only)) | (k_end; kc_close) | walk1 | (dsimp only; walk1) | (leave1; walk_say "STEP leave1"; (try dsimp only)) | fail "no step")))
local macro_rules | `(tactic| walk_at "m steps") => `(tactic| repeat' ((fail_if_success (with_reducible show wpAny _ _ (exec (Stmt.While _ _ _ _) _) _ _ _)); (fail_if_success (with_reducible show LCg.CompRest _ _ _ _ _ _ _ _ _ _ _ _ _ _ _ _ _ _ _)); (first | (k_unfold; (try dsimp only)) | (k_end; kc_close) | walk1 | (dsimp only; walk1) | (leave1; walk_say "STEP leave1"; (try dsimp only)) | fail "no step")))
local macro_rules | `(tactic| walk_at "m room") => `(tactic| ((try simp only [depth_in1, depth_deeper, units_in1, units_deeper, depth_caller, units_caller]); (try dsimp only [ktrTop]); omega))
local macro_rules | `(tactic| walk_at "binaryOp LShift int int") => `(tactic| (k_here; k_dflt ((refine' lshift_K ?ka ?kb ?kc ?ke ?_); (case ka => first | decide | omega); (case kb => first | decide | omega); (case kc => first | decide | omega); (case ke => ((try simp only [Int.reduceSub, Int.reduceAdd, Int.reduceToNat, Int.reducePow, Int.reduceMul, Int.one_mul]); exact rfl)); k_whole)))
local macro_rules | `(tactic| walk_at "callWith ref") => `(tactic| (k_here; k_dflt (refine' callWith_K ?k1 ?k2 ?_; (case k1 => k_asm); (case k2 => k_is); k_whole)))
local macro_rules | `(tactic| walk_at "m enterT") => `(tactic| (refine' code_defX0 ?k1 ?k2 ?k3 ?k4 ?k5 ?kA ?kF ?kK ?k6 ?k7 ?k8 ?k9 ?kB ?_ ?c2 ?c3 ?c4 ?c5; (case kA => exact rfl); (case kF => exact rfl); (case kK => assumption); (case k1 => k_asm); (case k2 => k_asm); (case k3 => k_asm); (case k4 => k_asm); (case k5 => k_asm); (case k6 => k_is); (case k7 => k_is); (case k8 => ktr_room); (case k9 => exact BindsTo.of_eq rfl); (case c5 => decide); (case kB => exact locs rfl); (case c2 => exact rfl); (case c3 => exact rfl); (case c4 => exact rfl); k_whole; intro g' L' h' FG' F' N' B' X' T' D'; (try dsimp only); (try k_lift B'); (try k_fold)))
local macro_rules | `(tactic| walk_at "call ref") => `(tactic| (k_here; k_dflt ((show wpAny _ _ (call (Value.ref 132) [Value.ref _, Value.int _ _]) _ _ _); refine' take_use ?kB ?kF ?kX ?kT ?kk ?kN ?kd ?kl ?lt ?kI ?kD ?km ?kdp ?kun ?kU ?kV ?_; (case kB => k_asm); (case kF => k_asm); (case kX => k_asm); (case kT => k_asm); (case kk => first | exact rfl | assumption); (case kN => k_asm); (case kd => k_mem); (case kl => k_mem); (case lt => omega); (case kI => assumption); (case kD => assumption); (case km => first | decide | assumption | omega | exact Int.pow_pos (by decide)); (case kdp => walk_at "m room"); (case kun => walk_at "m room"); (case kU => (intro _ _ _; k_upd)); (case kV => (intro _ _ _ _ _; k_upd)); k_whole; intro r' tr' us' xs' sd' td' nd' nl' h' tk' F' N' hI' D' hr0' hr1'; (try dsimp only at N'); (try k_fold))))
local macro_rules | `(tactic| walk_at "eval Name") => `(tactic| (k_here; (with_reducible show wpAny _ _ (eval (Expr.Name _ _) (compEnvC _ _ _ _)) _ _ _); k_dflt (refine ld_cell (by k_asm) (by rfl) (by k_mem) (by assumption) ?_)))
local macro_rules | `(tactic| walk_at "call ref") => `(tactic| (k_here; k_dflt ((show wpAny _ _ (call (Value.ref 125) [Value.ref _]) _ _ _); refine' draw_use ?kB ?kF ?kX ?kT ?kk ?kl ?ki ?kn ?kN ?kdp ?kun ?_; (case kB => k_asm); (case kF => k_asm); (case kX => k_asm); (case kT => k_asm); (case kk => first | exact rfl | assumption); (case kl => assumption); (case ki => assumption); (case kn => first | assumption | omega); (case kN => k_asm); (case kdp => walk_at "m room"); (case kun => walk_at "m room"); k_whole; intro d' l' us' xs' sd' td' nd' nl' h' tk' F' N' l1' l2' hI' D'; (try k_fold))))
local macro_rules | `(tactic| walk_at "call ref") => `(tactic| (k_here; k_dflt ((show wpAny _ _ (call (Value.ref 137) [Value.ref _]) _ _ _); refine' groups_use ?kB ?kF ?kX ?kT ?kk ?kN ?kd ?kl ?lt ?kI ?kD ?kdp ?kun ?kU ?kV ?_; (case kB => k_asm); (case kF => k_asm); (case kX => k_asm); (case kT => k_asm); (case kk => first | exact rfl | assumption); (case kN => k_asm); (case kd => k_mem); (case kl => k_mem); (case lt => omega); (case kI => assumption); (case kD => assumption); (case kdp => walk_at "m room"); (case kun => walk_at "m room"); (case kU => (intro _ _ _; k_upd)); (case kV => (intro _ _ _ _ _; k_upd)); k_whole; intro tp' number' tn' b' tb' gs' us' xs' sd' td' nd' nl' h' tk' F' N' l1' hI' D' hg1' hg2' hg3' hg4' hg5' hg6'; (try dsimp only at N'); (try k_fold))))
section ManyPart
def N7 (m0 : Str → Option Value) (vm : Value) : Str → Option Value := fun y => if y = Str.ofString "many" then some vm else m0 y
theorem n7_next {m0 : Str → Option Value} {a b : Value} : (fun y => if y = Str.ofString "many" then some b else N7 m0 a y) = N7 m0 b := by
  funext y
  unfold N7
  by_cases h : y = Str.ofString "many" <;> simp [h]
structure MJ (m0 : Str → Option Value) (led : List (Addr × Obj)) (v : Int) (n : Nat) (m₁ : Str → Option Value) (news₁ : List (Addr × Obj)) : Prop where
  ex : ∃ (k : Nat) (tk : Tok), m₁ = N7 m0 (.int (k : Int) tk) ∧ news₁ = led ∧ n = 11 - k ∧ 1 ≤ k ∧ k ≤ 10 ∧ (k = 1 ∨ 128 ^ (k - 1) ≤ v)
structure MX (m0 : Str → Option Value) (led : List (Addr × Obj)) (v : Int) (m₁ : Str → Option Value) (news₁ : List (Addr × Obj)) : Prop where
  ex : ∃ (k : Nat) (tk : Tok), m₁ = N7 m0 (.int (k : Int) tk) ∧ news₁ = led ∧ 1 ≤ k ∧ k ≤ 10 ∧ (k = 1 ∨ 128 ^ (k - 1) ≤ v) ∧ v < 128 ^ k
theorem many_size {v : Int} {k : Nat} (h1 : 1 ≤ k) (h2 : k ≤ 10) (h3 : k = 1 ∨ 128 ^ (k - 1) ≤ v) (h4 : v < 128 ^ k) (h5 : v < 18446744073709551616) : sizeOf7 v = some (k : Int) := by
  have : k = 1 ∨ k = 2 ∨ k = 3 ∨ k = 4 ∨ k = 5 ∨ k = 6 ∨ k = 7 ∨ k = 8 ∨ k = 9 ∨ k = 10 := by omega
  unfold sizeOf7
  rcases this with rfl | rfl | rfl | rfl | rfl | rfl | rfl | rfl | rfl | rfl <;> simp only [Nat.reduceSub, Int.reducePow] at h3 h4 <;> ((repeat' split) <;> first | rfl | omega)
section
variable {prog : Program} {w : World} {A : Around} {E : Value → Shared → Prop} {s : Shared} {Q : Value → Shared → Prop}
theorem rsh7_K {v : Int} {k : Nat} {t u : Tok} (h : Q (.int (v / 128 ^ k) s.toks) { s with toks := s.toks + 1 }) : wpAny (model prog w) A (binaryOp .RShift (.int v t) (.int (7 * (k : Int)) u)) Q E s := by
  refine rshift_int (by omega) ?_
  rw [show (7 * (k : Int)).toNat = 7 * k by omega, Int.pow_mul, Int.fdiv_eq_ediv_of_nonneg _ (Int.le_of_lt (Int.pow_pos (by decide)))]
  exact h
end
theorem mj_start {m0 m : Str → Option Value} {led : List (Addr × Obj)} {v : Int} {tk : Tok} (h : m = N7 m0 (.int 1 tk)) : MJ m0 led v 10 m led :=
  ⟨1, tk, by rw [h]; rfl, rfl, rfl, by decide, by decide, .inl rfl⟩
theorem mj_next {h₀ h' : Heap} {L : Addr} {s : Shared} {Q : Flow → Shared → Prop} {m0 : Str → Option Value} {news : List (Addr × Obj)} {v : Int} {k n : Nat} {tk : Tok} {kk : Nat} {vm : Value}
    (F : Fr h₀ L h' (fun y => if y = Str.ofString "many" then some (.int ((k : Int) + 1) tk) else N7 m0 vm y)) (N : News h₀ L h' news) (h1 : 1 ≤ k) (h2 : k ≤ 10) (hv : 0 < v / 128 ^ k) (h3 : v < 2 ^ 70) (hn : n = 11 - k) :
    WhileStep2 h₀ L s (MJ m0 news v) Q n .next { s with heap := h', toks := kk } := by
  have hp : (0 : Int) < 128 ^ k := Int.pow_pos (by decide)
  have hle : 128 ^ k ≤ v := by
    by_cases q : 128 ^ k ≤ v
    · exact q
    · by_cases q0 : 0 ≤ v
      · rw [Int.ediv_eq_zero_of_lt q0 (by omega)] at hv; omega
      · have := Int.ediv_neg_of_neg_of_pos (show v < 0 by omega) hp; omega
  have hk : k ≠ 10 := by
    rintro rfl
    have : (128 : Int) ^ 10 = 2 ^ 70 := by decide
    omega
  rw [n7_next, show (k : Int) + 1 = ((k + 1 : Nat) : Int) by omega] at F
  exact ⟨h', kk, _, _, 11 - (k + 1), rfl, F, N, by omega, ⟨k + 1, _, rfl, rfl, rfl, by omega, by omega, .inr (by simpa using hle)⟩⟩
local macro_rules | `(tactic| walk_at "binaryOp RShift int int") => `(tactic| (k_here; (with_reducible show wpAny _ _ (binaryOp Operator.RShift (Value.int _ _) (Value.int (7 * ((_ : Nat) : Int)) _)) _ _ _); k_dflt (refine rsh7_K ?_)))
theorem lt_of_div {v : Int} {k : Nat} (h : ¬ 0 < v / 128 ^ k) (h0 : 0 ≤ v) : v < 128 ^ k := by
  have hp : (0 : Int) < 128 ^ k := Int.pow_pos (by decide)
  by_cases q : v < 128 ^ k
  · exact q
  · exfalso
    have := Int.mul_le_mul_of_nonneg_left (show v / 128 ^ k ≤ 0 by omega) (Int.le_of_lt hp)
    have e := Int.mul_ediv_add_emod v (128 ^ k)
    have l := Int.emod_lt_of_pos v hp
    omega
section
variable {prog : Program} {w : World} {A : Around} {E : Value → Shared → Prop} {Q : Flow → Shared → Prop} {s : Shared} {env : Env} {h₀ : Heap} {L : Addr}
theorem many_join {test : Expr} {body : List Stmt} {pos : Pos} {g : Str → Option Value} {news : List (Addr × Obj)} {tk : Tok} (v : Int)
    (F : Fr h₀ L s.heap (fun y => if y = Str.ofString "many" then some (.int 1 tk) else g y)) (N : News h₀ L s.heap news)
    (turn : ∀ n m₁ news₁ h₁ tk₁, Fr h₀ L h₁ m₁ → News h₀ L h₁ news₁ → MJ g news v n m₁ news₁ →
      wpAny (model prog w) A (isTrue test env (eval test env)) (fun b s₂ =>
        if b = true then wpAny (model prog w) A (execs body env) (WhileStep2 h₀ L s (MJ g news v) (JoinQ h₀ L s (MX g news v) Q) n) E s₂ else WExit h₀ L s (MX g news v) s₂) E { s with heap := h₁, toks := tk₁ })
    (done : ∀ m₁ news₁ h₁ tk₁, Fr h₀ L h₁ m₁ → News h₀ L h₁ news₁ → MX g news v m₁ news₁ → Q .next { s with heap := h₁, toks := tk₁ })
    (hE : PassesOwn (model prog w) A env E) :
    wpAny (model prog w) A (exec (.While test body [] pos) env) Q E s := While_join (MJ g news v) (MX g news v) F N (mj_start rfl) turn done hE
end
theorem many_c {w : World} {p : Program} {loose : List Str} {mean : ExcName → Option Value} {mg mb : Str → Option Value} {dp un : Nat} {gd : Option (List Code)} {cn : Str} {cs : Scope} {a : Addr} {ccd : Value} {cl : List (Str × Addr)} {A₀ : Around} {h₀ : Heap} {L : Addr} {m : Str → Option Value} {s : Shared} {Q E : Value → Shared → Prop}
    {v : Int} {tv : Tok} {news : List (Addr × Obj)}
    (B : Below A₀ h₀ [] h₀) (F : Fr h₀ L s.heap m) (X : (Mine.hd.heap_39 w.params).In h₀) (T : Top p loose mean mg mb h₀) (hk : cs.kind = .function)
    (N : News h₀ L s.heap news) {hX : Heap} {cX pX : Addr} (hCH : CodeHd hX cX pX) (hdp : dp < 800) (hun : un < 8000) (h0 : 0 ≤ v) (h1 : v < 2 ^ 70)
    (hok : ∀ k t h' tk', sizeOf7 v = some k → Fr h₀ L h' m → News h₀ L h' news → Q (.int k t) { s with heap := h', toks := tk' })
    (hno : ∀ h' tk', sizeOf7 v = none → Fr h₀ L h' m → News h₀ L h' news → Q .none { s with heap := h', toks := tk' }) :
    wpAny (model PySem.Challenge.rw_au6043_01.row.toRowW.prog w) (ktrTop dp un gd cn cs L a ccd cl []) (call (.ref 165) [.int v tv]) Q E s := by
  w_top off
  revert X; k_fill; intro X
  refine wpAny_call ?_
  k_dflt walk_at "m enter"
  walk_at "m steps"
  rename News _ _ _ _ => N9
  rename Fr _ _ _ _ => F9
  refine wpAny_noRaise ?_
  refine many_join v F9 N9 ?turn ?done PassesOwn.never
  case turn =>
    clear N9 F9
    rintro n m₁ news₁ h₁ tk₁ F₁ N₁ ⟨k, tk, rfl, rfl, hn, hk1, hk2, hk3⟩
    walk_at "m steps"
    · exact mj_next (by assumption) (by assumption) hk1 hk2 (by assumption) h1 hn
    · exact WExit.intro (by assumption) (by assumption) ⟨k, _, rfl, rfl, hk1, hk2, hk3, lt_of_div (by assumption) h0⟩
  case done =>
    clear N9 F9
    rintro m₁ news₁ h₁ tk₁ F₁ N₁ ⟨k, tk, rfl, rfl, hk1, hk2, hk3, hk4⟩
    walk_at "m steps"
    · exact fun _ => hok _ _ _ _ (many_size hk1 hk2 hk3 hk4 (by assumption)) (by assumption) (by assumption)
    · exact fun _ => hno _ _ (sz0 (by omega)) (by assumption) (by assumption)
end ManyPart

end PartMany

section PartPackUse
local macro_rules | `(tactic| walk_at "m enter") => `(tactic| (refine' code_defS ?k1 ?k2 ?k3 ?k4 ?k5 ?kA ?kF ?kK ?k6 ?k7 ?k8 ?k9 ?kB ?_ ?c2 ?c3 ?c4 ?c5; (case kA => exact rfl); (case kF => exact rfl); (case kK => assumption); (case k1 => k_asm); (case k2 => k_asm); (case k3 => k_asm); (case k4 => k_asm); (case k5 => k_asm); (case k6 => k_is); (case k7 => k_is); (case k8 => ktr_room); (case k9 => exact BindsTo.of_eq rfl); (case c5 => decide); (case kB => exact locs rfl); (case c2 => exact rfl); (case c3 => exact rfl); (case c4 => exact rfl); k_whole; intro g' L' h' FG' F' N' B' X' T'; (try dsimp only); (try k_lift B'); (try k_fold)))
local macro_rules | `(tactic| units_room) => `(tactic| (have hcL' := cLine_is; simp only [units_in1, units_deeper, Around.mark_units]; (try dsimp only [ktrTop]); omega))
local macro_rules | `(tactic| ktr_room) => `(tactic| ((try simp only [depth_in1, depth_deeper]); (try dsimp only [ktrTop]); (try simp only [recursionLimit]); omega))
local macro_rules | `(tactic| k_room) => `(tactic| ktr_room)
local macro_rules | `(tactic| walk_at "eval ListComp") => `(tactic| (k_here; k_dflt (refine LCg.ListComp_U (F₀ := by k_asm) (by rfl) (by decide) (by rfl) (by decide) (by rfl) ?_)))
local macro_rules | `(tactic| walk_at "CompSrc") => `(tactic| (k_here; k_dflt (first
  | (refine LCg.CompSrc.base (by rfl) (by k_asm) (by k_asm) (by assumption) ?hz ?_; (case hz => ((have hL9 := IntsAre.length (by assumption)); simp only [List.size_toArray, sizeLine_eq]; omega)); intro g')
  | (refine LCg.CompSrc.range (by rfl) (by k_asm) (by k_asm) (by assumption) ?sm (rangeSize_up _) ?hz ?_; (case sm => exact small_one (by omega) (by omega) (by omega) (by omega)); (case hz => (simp only [sizeLine_eq]; omega)); intro g'))))
local macro_rules | `(tactic| walk_at "call type:range") => `(tactic| (k_here; k_dflt (refine' range1_rows ?kF ?kN ?_; (case kF => k_asm); (case kN => k_asm); intro h' tk' t1' u1' v1' hR' F' N' hk')))
local macro_rules | `(tactic| walk_at "execs nil") => `(tactic| (with_reducible refine wpAny_execs_nil ?_))
local macro_rules | `(tactic| walk_at "m enterC") => `(tactic| (refine' code_defCS ?k1 ?k2 ?k3 ?k4 ?k5 ?kA ?kF ?kK ?k6 ?k7 ?k8 ?k9 ?kB ?kD ?_ ?c2 ?c3 ?c4; (case kA => exact rfl); (case kF => exact rfl); (case kK => assumption); (case k1 => k_asm); (case k2 => k_asm); (case k3 => k_asm); (case k4 => k_asm); (case k5 => k_asm); (case k6 => k_is); (case k7 => k_is); (case k8 => ktr_room); (case k9 => exact BindsTo.of_eq rfl); (case kB => exact rfl); (case kD => decide +kernel); (case c2 => exact rfl); (case c3 => exact rfl); (case c4 => exact rfl); k_whole; intro g' L' h' tk' cells' FG' F' N' Y' B' X' T' l1; (try k_lt l1); k_cells Y'; (try simp only [List.cons_append, List.nil_append] at N'); (try dsimp only); (try k_lift B'); (try k_fold)))
local macro_rules | `(tactic| walk_at "m step") => `(tactic| ((fail_if_success (with_reducible show wpAny _ _ (exec (Stmt.While _ _ _ _) _) _ _ _)); (fail_if_success (with_reducible show LCg.CompRest _ _ _ _ _ _ _ _ _ _ _ _ _ _ _ _ _ _ _)); (first | (k_unfold; (try dsimp only)) | (k_end; kc_close) | walk1 | (dsimp only; walk1) | (leave1; walk_say "STEP leave1"; (try dsimp only)) | fail "no step")))
local macro_rules | `(tactic| walk_at "m steps") => `(tactic| repeat' ((fail_if_success (with_reducible show wpAny _ _ (exec (Stmt.While _ _ _ _) _) _ _ _)); (fail_if_success (with_reducible show LCg.CompRest _ _ _ _ _ _ _ _ _ _ _ _ _ _ _ _ _ _ _)); (first | (k_unfold; (try dsimp only)) | (k_end; kc_close) | walk1 | (dsimp only; walk1) | (leave1; walk_say "STEP leave1"; (try dsimp only)) | fail "no step")))
local macro_rules | `(tactic| walk_at "m room") => `(tactic| ((try simp only [depth_in1, depth_deeper, units_in1, units_deeper, depth_caller, units_caller]); (try dsimp only [ktrTop]); omega))
local macro_rules | `(tactic| walk_at "binaryOp LShift int int") => `(tactic| (k_here; k_dflt ((refine' lshift_K ?ka ?kb ?kc ?ke ?_); (case ka => first | decide | omega); (case kb => first | decide | omega); (case kc => first | decide | omega); (case ke => ((try simp only [Int.reduceSub, Int.reduceAdd, Int.reduceToNat, Int.reducePow, Int.reduceMul, Int.one_mul]); exact rfl)); k_whole)))
local macro_rules | `(tactic| walk_at "callWith ref") => `(tactic| (k_here; k_dflt (refine' callWith_K ?k1 ?k2 ?_; (case k1 => k_asm); (case k2 => k_is); k_whole)))
local macro_rules | `(tactic| walk_at "m enterT") => `(tactic| (refine' code_defX0 ?k1 ?k2 ?k3 ?k4 ?k5 ?kA ?kF ?kK ?k6 ?k7 ?k8 ?k9 ?kB ?_ ?c2 ?c3 ?c4 ?c5; (case kA => exact rfl); (case kF => exact rfl); (case kK => assumption); (case k1 => k_asm); (case k2 => k_asm); (case k3 => k_asm); (case k4 => k_asm); (case k5 => k_asm); (case k6 => k_is); (case k7 => k_is); (case k8 => ktr_room); (case k9 => exact BindsTo.of_eq rfl); (case c5 => decide); (case kB => exact locs rfl); (case c2 => exact rfl); (case c3 => exact rfl); (case c4 => exact rfl); k_whole; intro g' L' h' FG' F' N' B' X' T' D'; (try dsimp only); (try k_lift B'); (try k_fold)))
local macro_rules | `(tactic| walk_at "call ref") => `(tactic| (k_here; k_dflt ((show wpAny _ _ (call (Value.ref 132) [Value.ref _, Value.int _ _]) _ _ _); refine' take_use ?kB ?kF ?kX ?kT ?kk ?kN ?kd ?kl ?lt ?kI ?kD ?km ?kdp ?kun ?kU ?kV ?_; (case kB => k_asm); (case kF => k_asm); (case kX => k_asm); (case kT => k_asm); (case kk => first | exact rfl | assumption); (case kN => k_asm); (case kd => k_mem); (case kl => k_mem); (case lt => omega); (case kI => assumption); (case kD => assumption); (case km => first | decide | assumption | omega | exact Int.pow_pos (by decide)); (case kdp => walk_at "m room"); (case kun => walk_at "m room"); (case kU => (intro _ _ _; k_upd)); (case kV => (intro _ _ _ _ _; k_upd)); k_whole; intro r' tr' us' xs' sd' td' nd' nl' h' tk' F' N' hI' D' hr0' hr1'; (try dsimp only at N'); (try k_fold))))
local macro_rules | `(tactic| walk_at "eval Name") => `(tactic| (k_here; (with_reducible show wpAny _ _ (eval (Expr.Name _ _) (compEnvC _ _ _ _)) _ _ _); k_dflt (refine ld_cell (by k_asm) (by rfl) (by k_mem) (by assumption) ?_)))
local macro_rules | `(tactic| walk_at "call ref") => `(tactic| (k_here; k_dflt ((show wpAny _ _ (call (Value.ref 125) [Value.ref _]) _ _ _); refine' draw_use ?kB ?kF ?kX ?kT ?kk ?kl ?ki ?kn ?kN ?kdp ?kun ?_; (case kB => k_asm); (case kF => k_asm); (case kX => k_asm); (case kT => k_asm); (case kk => first | exact rfl | assumption); (case kl => assumption); (case ki => assumption); (case kn => first | assumption | omega); (case kN => k_asm); (case kdp => walk_at "m room"); (case kun => walk_at "m room"); k_whole; intro d' l' us' xs' sd' td' nd' nl' h' tk' F' N' l1' l2' hI' D'; (try k_fold))))
local macro_rules | `(tactic| walk_at "call ref") => `(tactic| (k_here; k_dflt ((show wpAny _ _ (call (Value.ref 137) [Value.ref _]) _ _ _); refine' groups_use ?kB ?kF ?kX ?kT ?kk ?kN ?kd ?kl ?lt ?kI ?kD ?kdp ?kun ?kU ?kV ?_; (case kB => k_asm); (case kF => k_asm); (case kX => k_asm); (case kT => k_asm); (case kk => first | exact rfl | assumption); (case kN => k_asm); (case kd => k_mem); (case kl => k_mem); (case lt => omega); (case kI => assumption); (case kD => assumption); (case kdp => walk_at "m room"); (case kun => walk_at "m room"); (case kU => (intro _ _ _; k_upd)); (case kV => (intro _ _ _ _ _; k_upd)); k_whole; intro tp' number' tn' b' tb' gs' us' xs' sd' td' nd' nl' h' tk' F' N' l1' hI' D' hg1' hg2' hg3' hg4' hg5' hg6'; (try dsimp only at N'); (try k_fold))))
section PackUsePart
theorem bints_inj {b c : Array UInt8} (h : KBw.bInts b = KBw.bInts c) : b = c := by
  obtain ⟨l⟩ := b
  obtain ⟨r⟩ := c
  rw [KBw.ints_list, KBw.ints_list] at h
  have e : l = r := by
    refine (List.map_inj_right (f := fun c : UInt8 => ((c.toNat : Nat) : Int)) fun x y q => ?_).mp h
    exact UInt8.toNat_inj.mp (Int.ofNat.inj q)
  rw [e]
variable {w : World} {p : Program} {loose : List Str} {mean : ExcName → Option Value} {mg mb : Str → Option Value} {dp un : Nat} {gd : Option (List Code)} {cn : Str} {cs : Scope} {a : Addr} {ccd : Value} {cl : List (Str × Addr)} {A₀ : Around} {h₀ : Heap} {L : Addr} {m : Str → Option Value} {s : Shared} {Q E : Value → Shared → Prop}
    {fm : String} {many : Nat} {lo hi v : Int} {tf tv : Tok} {news : List (Addr × Obj)} {hX : Heap} {cX pX : Addr} {ms : List Int}
theorem packed_is (hfm : Form fm many lo hi) (h0 : lo ≤ v) (h1 : v < hi) (hT : ms = KTBy.little many (v % 2 ^ 64))
    (B : Below A₀ h₀ [] h₀) (F : Fr h₀ L s.heap m) (X : (Mine.hd.heap_39 w.params).In h₀) (T : Top p loose mean mg mb h₀) (hk : cs.kind = .function)
    (N : News h₀ L s.heap news) (hCH : CodeHd hX cX pX) (hdp : dp < 800) (hun : un < 8000)
    (hok : ∀ t h' tk', Fr h₀ L h' m → News h₀ L h' news → Q (.bytes (byteArr ms) t) { s with heap := h', toks := tk' }) :
    wpAny (model PySem.Challenge.rw_au6043_01.row.toRowW.prog w) (ktrTop dp un gd cn cs L a ccd cl []) (call (.ref 151) [.str (Str.ofString fm) tf, .int v tv]) Q E s := by
  refine packed_c hfm B F X T hk N hCH hdp hun (fun b t h' tk' _ _ F' N' hb => ?_) fun _ _ hn => absurd ⟨h0, h1⟩ hn
  have e : KTBy.little many (v % 2 ^ (8 * many)) = ms := by
    rw [hT]
    cases hfm <;> simp only [KTBy.little, List.cons.injEq, and_true] <;> omega
  have hIn : KBa.In ms := by
    rw [hT]
    intro x hx
    rw [KTBy.little_eq] at hx
    obtain ⟨i, _, rfl⟩ := List.mem_map.mp hx
    omega
  rw [e, ← KBa.ints_make hIn] at hb
  rw [bints_inj hb]
  exact hok t h' tk' F' N'
theorem packed_no (hfm : Form fm many lo hi) (hn : ¬ (lo ≤ v ∧ v < hi))
    (B : Below A₀ h₀ [] h₀) (F : Fr h₀ L s.heap m) (X : (Mine.hd.heap_39 w.params).In h₀) (T : Top p loose mean mg mb h₀) (hk : cs.kind = .function)
    (N : News h₀ L s.heap news) (hCH : CodeHd hX cX pX) (hdp : dp < 800) (hun : un < 8000)
    (hno : ∀ h' tk', Fr h₀ L h' m → News h₀ L h' news → Q .none { s with heap := h', toks := tk' }) :
    wpAny (model PySem.Challenge.rw_au6043_01.row.toRowW.prog w) (ktrTop dp un gd cn cs L a ccd cl []) (call (.ref 151) [.str (Str.ofString fm) tf, .int v tv]) Q E s :=
  packed_c hfm B F X T hk N hCH hdp hun (fun _ _ _ _ h0 h1 => absurd ⟨h0, h1⟩ hn) fun h' tk' _ F' N' => hno h' tk' F' N'
end PackUsePart

end PartPackUse

section PartSzUse
local macro_rules | `(tactic| walk_at "m enter") => `(tactic| (refine' code_defS ?k1 ?k2 ?k3 ?k4 ?k5 ?kA ?kF ?kK ?k6 ?k7 ?k8 ?k9 ?kB ?_ ?c2 ?c3 ?c4 ?c5; (case kA => exact rfl); (case kF => exact rfl); (case kK => assumption); (case k1 => k_asm); (case k2 => k_asm); (case k3 => k_asm); (case k4 => k_asm); (case k5 => k_asm); (case k6 => k_is); (case k7 => k_is); (case k8 => ktr_room); (case k9 => exact BindsTo.of_eq rfl); (case c5 => decide); (case kB => exact locs rfl); (case c2 => exact rfl); (case c3 => exact rfl); (case c4 => exact rfl); k_whole; intro g' L' h' FG' F' N' B' X' T'; (try dsimp only); (try k_lift B'); (try k_fold)))
local macro_rules | `(tactic| units_room) => `(tactic| (have hcL' := cLine_is; simp only [units_in1, units_deeper, Around.mark_units]; (try dsimp only [ktrTop]); omega))
local macro_rules | `(tactic| ktr_room) => `(tactic| ((try simp only [depth_in1, depth_deeper]); (try dsimp only [ktrTop]); (try simp only [recursionLimit]); omega))
local macro_rules | `(tactic| k_room) => `(tactic| ktr_room)
local macro_rules | `(tactic| walk_at "eval ListComp") => `(tactic| (k_here; k_dflt (refine LCg.ListComp_U (F₀ := by k_asm) (by rfl) (by decide) (by rfl) (by decide) (by rfl) ?_)))
local macro_rules | `(tactic| walk_at "CompSrc") => `(tactic| (k_here; k_dflt (first
  | (refine LCg.CompSrc.base (by rfl) (by k_asm) (by k_asm) (by assumption) ?hz ?_; (case hz => ((have hL9 := IntsAre.length (by assumption)); simp only [List.size_toArray, sizeLine_eq]; omega)); intro g')
  | (refine LCg.CompSrc.range (by rfl) (by k_asm) (by k_asm) (by assumption) ?sm (rangeSize_up _) ?hz ?_; (case sm => exact small_one (by omega) (by omega) (by omega) (by omega)); (case hz => (simp only [sizeLine_eq]; omega)); intro g'))))
local macro_rules | `(tactic| walk_at "call type:range") => `(tactic| (k_here; k_dflt (refine' range1_rows ?kF ?kN ?_; (case kF => k_asm); (case kN => k_asm); intro h' tk' t1' u1' v1' hR' F' N' hk')))
local macro_rules | `(tactic| walk_at "execs nil") => `(tactic| (with_reducible refine wpAny_execs_nil ?_))
local macro_rules | `(tactic| walk_at "m enterC") => `(tactic| (refine' code_defCS ?k1 ?k2 ?k3 ?k4 ?k5 ?kA ?kF ?kK ?k6 ?k7 ?k8 ?k9 ?kB ?kD ?_ ?c2 ?c3 ?c4; (case kA => exact rfl); (case kF => exact rfl); (case kK => assumption); (case k1 => k_asm); (case k2 => k_asm); (case k3 => k_asm); (case k4 => k_asm); (case k5 => k_asm); (case k6 => k_is); (case k7 => k_is); (case k8 => ktr_room); (case k9 => exact BindsTo.of_eq rfl); (case kB => exact rfl); (case kD => decide +kernel); (case c2 => exact rfl); (case c3 => exact rfl); (case c4 => exact rfl); k_whole; intro g' L' h' tk' cells' FG' F' N' Y' B' X' T' l1; (try k_lt l1); k_cells Y'; (try simp only [List.cons_append, List.nil_append] at N'); (try dsimp only); (try k_lift B'); (try k_fold)))
local macro_rules | `(tactic| walk_at "m step") => `(tactic| ((fail_if_success (with_reducible show wpAny _ _ (exec (Stmt.While _ _ _ _) _) _ _ _)); (fail_if_success (with_reducible show LCg.CompRest _ _ _ _ _ _ _ _ _ _ _ _ _ _ _ _ _ _ _)); (first | (k_unfold; (try dsimp only)) | (k_end; kc_close) | walk1 | (dsimp only; walk1) | (leave1; walk_say "STEP leave1"; (try dsimp only)) | fail "no step")))
local macro_rules | `(tactic| walk_at "m steps") => `(tactic| repeat' ((fail_if_success (with_reducible show wpAny _ _ (exec (Stmt.While _ _ _ _) _) _ _ _)); (fail_if_success (with_reducible show LCg.CompRest _ _ _ _ _ _ _ _ _ _ _ _ _ _ _ _ _ _ _)); (first | (k_unfold; (try dsimp only)) | (k_end; kc_close) | walk1 | (dsimp only; walk1) | (leave1; walk_say "STEP leave1"; (try dsimp only)) | fail "no step")))
local macro_rules | `(tactic| walk_at "m room") => `(tactic| ((try simp only [depth_in1, depth_deeper, units_in1, units_deeper, depth_caller, units_caller]); (try dsimp only [ktrTop]); omega))
local macro_rules | `(tactic| walk_at "binaryOp LShift int int") => `(tactic| (k_here; k_dflt ((refine' lshift_K ?ka ?kb ?kc ?ke ?_); (case ka => first | decide | omega); (case kb => first | decide | omega); (case kc => first | decide | omega); (case ke => ((try simp only [Int.reduceSub, Int.reduceAdd, Int.reduceToNat, Int.reducePow, Int.reduceMul, Int.one_mul]); exact rfl)); k_whole)))
local macro_rules | `(tactic| walk_at "callWith ref") => `(tactic| (k_here; k_dflt (refine' callWith_K ?k1 ?k2 ?_; (case k1 => k_asm); (case k2 => k_is); k_whole)))
local macro_rules | `(tactic| walk_at "m enterT") => `(tactic| (refine' code_defX0 ?k1 ?k2 ?k3 ?k4 ?k5 ?kA ?kF ?kK ?k6 ?k7 ?k8 ?k9 ?kB ?_ ?c2 ?c3 ?c4 ?c5; (case kA => exact rfl); (case kF => exact rfl); (case kK => assumption); (case k1 => k_asm); (case k2 => k_asm); (case k3 => k_asm); (case k4 => k_asm); (case k5 => k_asm); (case k6 => k_is); (case k7 => k_is); (case k8 => ktr_room); (case k9 => exact BindsTo.of_eq rfl); (case c5 => decide); (case kB => exact locs rfl); (case c2 => exact rfl); (case c3 => exact rfl); (case c4 => exact rfl); k_whole; intro g' L' h' FG' F' N' B' X' T' D'; (try dsimp only); (try k_lift B'); (try k_fold)))
local macro_rules | `(tactic| walk_at "call ref") => `(tactic| (k_here; k_dflt ((show wpAny _ _ (call (Value.ref 132) [Value.ref _, Value.int _ _]) _ _ _); refine' take_use ?kB ?kF ?kX ?kT ?kk ?kN ?kd ?kl ?lt ?kI ?kD ?km ?kdp ?kun ?kU ?kV ?_; (case kB => k_asm); (case kF => k_asm); (case kX => k_asm); (case kT => k_asm); (case kk => first | exact rfl | assumption); (case kN => k_asm); (case kd => k_mem); (case kl => k_mem); (case lt => omega); (case kI => assumption); (case kD => assumption); (case km => first | decide | assumption | omega | exact Int.pow_pos (by decide)); (case kdp => walk_at "m room"); (case kun => walk_at "m room"); (case kU => (intro _ _ _; k_upd)); (case kV => (intro _ _ _ _ _; k_upd)); k_whole; intro r' tr' us' xs' sd' td' nd' nl' h' tk' F' N' hI' D' hr0' hr1'; (try dsimp only at N'); (try k_fold))))
local macro_rules | `(tactic| walk_at "eval Name") => `(tactic| (k_here; (with_reducible show wpAny _ _ (eval (Expr.Name _ _) (compEnvC _ _ _ _)) _ _ _); k_dflt (refine ld_cell (by k_asm) (by rfl) (by k_mem) (by assumption) ?_)))
local macro_rules | `(tactic| walk_at "call ref") => `(tactic| (k_here; k_dflt ((show wpAny _ _ (call (Value.ref 125) [Value.ref _]) _ _ _); refine' draw_use ?kB ?kF ?kX ?kT ?kk ?kl ?ki ?kn ?kN ?kdp ?kun ?_; (case kB => k_asm); (case kF => k_asm); (case kX => k_asm); (case kT => k_asm); (case kk => first | exact rfl | assumption); (case kl => assumption); (case ki => assumption); (case kn => first | assumption | omega); (case kN => k_asm); (case kdp => walk_at "m room"); (case kun => walk_at "m room"); k_whole; intro d' l' us' xs' sd' td' nd' nl' h' tk' F' N' l1' l2' hI' D'; (try k_fold))))
local macro_rules | `(tactic| walk_at "call ref") => `(tactic| (k_here; k_dflt ((show wpAny _ _ (call (Value.ref 137) [Value.ref _]) _ _ _); refine' groups_use ?kB ?kF ?kX ?kT ?kk ?kN ?kd ?kl ?lt ?kI ?kD ?kdp ?kun ?kU ?kV ?_; (case kB => k_asm); (case kF => k_asm); (case kX => k_asm); (case kT => k_asm); (case kk => first | exact rfl | assumption); (case kN => k_asm); (case kd => k_mem); (case kl => k_mem); (case lt => omega); (case kI => assumption); (case kD => assumption); (case kdp => walk_at "m room"); (case kun => walk_at "m room"); (case kU => (intro _ _ _; k_upd)); (case kV => (intro _ _ _ _ _; k_upd)); k_whole; intro tp' number' tn' b' tb' gs' us' xs' sd' td' nd' nl' h' tk' F' N' l1' hI' D' hg1' hg2' hg3' hg4' hg5' hg6'; (try dsimp only at N'); (try k_fold))))
section SzUsePart
theorem size_is {w : World} {p : Program} {loose : List Str} {mean : ExcName → Option Value} {mg mb : Str → Option Value} {dp un : Nat} {gd : Option (List Code)} {cn : Str} {cs : Scope} {a : Addr} {ccd : Value} {cl : List (Str × Addr)} {A₀ : Around} {h₀ : Heap} {L : Addr} {m : Str → Option Value} {s : Shared} {Q E : Value → Shared → Prop}
    {v k : Int} {tv : Tok} {news : List (Addr × Obj)}
    (B : Below A₀ h₀ [] h₀) (F : Fr h₀ L s.heap m) (X : (Mine.hd.heap_39 w.params).In h₀) (T : Top p loose mean mg mb h₀) (hk : cs.kind = .function)
    (N : News h₀ L s.heap news) {hX : Heap} {cX pX : Addr} (hCH : CodeHd hX cX pX) (hdp : dp < 800) (hun : un < 8000) (h0 : 0 ≤ v) (h1 : v < 2 ^ 70) (hz : sizeOf7 v = some k)
    (hok : ∀ t h' tk', Fr h₀ L h' m → News h₀ L h' news → Q (.int k t) { s with heap := h', toks := tk' }) :
    wpAny (model PySem.Challenge.rw_au6043_01.row.toRowW.prog w) (ktrTop dp un gd cn cs L a ccd cl []) (call (.ref 158) [.int v tv]) Q E s :=
  size_c B F X T hk N hCH hdp hun h0 h1 (fun k' t h' tk' e F' N' => by obtain rfl := Option.some.inj (hz.symm.trans e); exact hok t h' tk' F' N') fun _ _ e => by rw [hz] at e; cases e
theorem size_no {w : World} {p : Program} {loose : List Str} {mean : ExcName → Option Value} {mg mb : Str → Option Value} {dp un : Nat} {gd : Option (List Code)} {cn : Str} {cs : Scope} {a : Addr} {ccd : Value} {cl : List (Str × Addr)} {A₀ : Around} {h₀ : Heap} {L : Addr} {m : Str → Option Value} {s : Shared} {Q E : Value → Shared → Prop}
    {v : Int} {tv : Tok} {news : List (Addr × Obj)}
    (B : Below A₀ h₀ [] h₀) (F : Fr h₀ L s.heap m) (X : (Mine.hd.heap_39 w.params).In h₀) (T : Top p loose mean mg mb h₀) (hk : cs.kind = .function)
    (N : News h₀ L s.heap news) {hX : Heap} {cX pX : Addr} (hCH : CodeHd hX cX pX) (hdp : dp < 800) (hun : un < 8000) (h0 : 0 ≤ v) (h1 : v < 2 ^ 70) (hz : sizeOf7 v = none)
    (hno : ∀ h' tk', Fr h₀ L h' m → News h₀ L h' news → Q .none { s with heap := h', toks := tk' }) :
    wpAny (model PySem.Challenge.rw_au6043_01.row.toRowW.prog w) (ktrTop dp un gd cn cs L a ccd cl []) (call (.ref 158) [.int v tv]) Q E s :=
  size_c B F X T hk N hCH hdp hun h0 h1 (fun _ _ _ _ e => by rw [hz] at e; cases e) fun h' tk' _ F' N' => hno h' tk' F' N'
theorem many_is {w : World} {p : Program} {loose : List Str} {mean : ExcName → Option Value} {mg mb : Str → Option Value} {dp un : Nat} {gd : Option (List Code)} {cn : Str} {cs : Scope} {a : Addr} {ccd : Value} {cl : List (Str × Addr)} {A₀ : Around} {h₀ : Heap} {L : Addr} {m : Str → Option Value} {s : Shared} {Q E : Value → Shared → Prop}
    {v k : Int} {tv : Tok} {news : List (Addr × Obj)}
    (B : Below A₀ h₀ [] h₀) (F : Fr h₀ L s.heap m) (X : (Mine.hd.heap_39 w.params).In h₀) (T : Top p loose mean mg mb h₀) (hk : cs.kind = .function)
    (N : News h₀ L s.heap news) {hX : Heap} {cX pX : Addr} (hCH : CodeHd hX cX pX) (hdp : dp < 800) (hun : un < 8000) (h0 : 0 ≤ v) (h1 : v < 2 ^ 70) (hz : sizeOf7 v = some k)
    (hok : ∀ t h' tk', Fr h₀ L h' m → News h₀ L h' news → Q (.int k t) { s with heap := h', toks := tk' }) :
    wpAny (model PySem.Challenge.rw_au6043_01.row.toRowW.prog w) (ktrTop dp un gd cn cs L a ccd cl []) (call (.ref 165) [.int v tv]) Q E s :=
  many_c B F X T hk N hCH hdp hun h0 h1 (fun k' t h' tk' e F' N' => by obtain rfl := Option.some.inj (hz.symm.trans e); exact hok t h' tk' F' N') fun _ _ e => by rw [hz] at e; cases e
theorem many_no {w : World} {p : Program} {loose : List Str} {mean : ExcName → Option Value} {mg mb : Str → Option Value} {dp un : Nat} {gd : Option (List Code)} {cn : Str} {cs : Scope} {a : Addr} {ccd : Value} {cl : List (Str × Addr)} {A₀ : Around} {h₀ : Heap} {L : Addr} {m : Str → Option Value} {s : Shared} {Q E : Value → Shared → Prop}
    {v : Int} {tv : Tok} {news : List (Addr × Obj)}
    (B : Below A₀ h₀ [] h₀) (F : Fr h₀ L s.heap m) (X : (Mine.hd.heap_39 w.params).In h₀) (T : Top p loose mean mg mb h₀) (hk : cs.kind = .function)
    (N : News h₀ L s.heap news) {hX : Heap} {cX pX : Addr} (hCH : CodeHd hX cX pX) (hdp : dp < 800) (hun : un < 8000) (h0 : 0 ≤ v) (h1 : v < 2 ^ 70) (hz : sizeOf7 v = none)
    (hno : ∀ h' tk', Fr h₀ L h' m → News h₀ L h' news → Q .none { s with heap := h', toks := tk' }) :
    wpAny (model PySem.Challenge.rw_au6043_01.row.toRowW.prog w) (ktrTop dp un gd cn cs L a ccd cl []) (call (.ref 165) [.int v tv]) Q E s :=
  many_c B F X T hk N hCH hdp hun h0 h1 (fun _ _ _ _ e => by rw [hz] at e; cases e) fun h' tk' _ F' N' => hno h' tk' F' N'
end SzUsePart

end PartSzUse

section PartReadUse
local macro_rules | `(tactic| walk_at "m enter") => `(tactic| (refine' code_defS ?k1 ?k2 ?k3 ?k4 ?k5 ?kA ?kF ?kK ?k6 ?k7 ?k8 ?k9 ?kB ?_ ?c2 ?c3 ?c4 ?c5; (case kA => exact rfl); (case kF => exact rfl); (case kK => assumption); (case k1 => k_asm); (case k2 => k_asm); (case k3 => k_asm); (case k4 => k_asm); (case k5 => k_asm); (case k6 => k_is); (case k7 => k_is); (case k8 => ktr_room); (case k9 => exact BindsTo.of_eq rfl); (case c5 => decide); (case kB => exact locs rfl); (case c2 => exact rfl); (case c3 => exact rfl); (case c4 => exact rfl); k_whole; intro g' L' h' FG' F' N' B' X' T'; (try dsimp only); (try k_lift B'); (try k_fold)))
local macro_rules | `(tactic| units_room) => `(tactic| (have hcL' := cLine_is; simp only [units_in1, units_deeper, Around.mark_units]; (try dsimp only [ktrTop]); omega))
local macro_rules | `(tactic| ktr_room) => `(tactic| ((try simp only [depth_in1, depth_deeper]); (try dsimp only [ktrTop]); (try simp only [recursionLimit]); omega))
local macro_rules | `(tactic| k_room) => `(tactic| ktr_room)
local macro_rules | `(tactic| walk_at "eval ListComp") => `(tactic| (k_here; k_dflt (refine LCg.ListComp_U (F₀ := by k_asm) (by rfl) (by decide) (by rfl) (by decide) (by rfl) ?_)))
local macro_rules | `(tactic| walk_at "CompSrc") => `(tactic| (k_here; k_dflt (first
  | (refine LCg.CompSrc.base (by rfl) (by k_asm) (by k_asm) (by assumption) ?hz ?_; (case hz => ((have hL9 := IntsAre.length (by assumption)); simp only [List.size_toArray, sizeLine_eq]; omega)); intro g')
  | (refine LCg.CompSrc.range (by rfl) (by k_asm) (by k_asm) (by assumption) ?sm (rangeSize_up _) ?hz ?_; (case sm => exact small_one (by omega) (by omega) (by omega) (by omega)); (case hz => (simp only [sizeLine_eq]; omega)); intro g'))))
local macro_rules | `(tactic| walk_at "call type:range") => `(tactic| (k_here; k_dflt (refine' range1_rows ?kF ?kN ?_; (case kF => k_asm); (case kN => k_asm); intro h' tk' t1' u1' v1' hR' F' N' hk')))
local macro_rules | `(tactic| walk_at "execs nil") => `(tactic| (with_reducible refine wpAny_execs_nil ?_))
local macro_rules | `(tactic| walk_at "m enterC") => `(tactic| (refine' code_defCS ?k1 ?k2 ?k3 ?k4 ?k5 ?kA ?kF ?kK ?k6 ?k7 ?k8 ?k9 ?kB ?kD ?_ ?c2 ?c3 ?c4; (case kA => exact rfl); (case kF => exact rfl); (case kK => assumption); (case k1 => k_asm); (case k2 => k_asm); (case k3 => k_asm); (case k4 => k_asm); (case k5 => k_asm); (case k6 => k_is); (case k7 => k_is); (case k8 => ktr_room); (case k9 => exact BindsTo.of_eq rfl); (case kB => exact rfl); (case kD => decide +kernel); (case c2 => exact rfl); (case c3 => exact rfl); (case c4 => exact rfl); k_whole; intro g' L' h' tk' cells' FG' F' N' Y' B' X' T' l1; (try k_lt l1); k_cells Y'; (try simp only [List.cons_append, List.nil_append] at N'); (try dsimp only); (try k_lift B'); (try k_fold)))
local macro_rules | `(tactic| walk_at "m step") => `(tactic| ((fail_if_success (with_reducible show wpAny _ _ (exec (Stmt.While _ _ _ _) _) _ _ _)); (fail_if_success (with_reducible show LCg.CompRest _ _ _ _ _ _ _ _ _ _ _ _ _ _ _ _ _ _ _)); (first | (k_unfold; (try dsimp only)) | (k_end; kc_close) | walk1 | (dsimp only; walk1) | (leave1; walk_say "STEP leave1"; (try dsimp only)) | fail "no step")))
local macro_rules | `(tactic| walk_at "m steps") => `(tactic| repeat' ((fail_if_success (with_reducible show wpAny _ _ (exec (Stmt.While _ _ _ _) _) _ _ _)); (fail_if_success (with_reducible show LCg.CompRest _ _ _ _ _ _ _ _ _ _ _ _ _ _ _ _ _ _ _)); (first | (k_unfold; (try dsimp only)) | (k_end; kc_close) | walk1 | (dsimp only; walk1) | (leave1; walk_say "STEP leave1"; (try dsimp only)) | fail "no step")))
local macro_rules | `(tactic| walk_at "m room") => `(tactic| ((try simp only [depth_in1, depth_deeper, units_in1, units_deeper, depth_caller, units_caller]); (try dsimp only [ktrTop]); omega))
local macro_rules | `(tactic| walk_at "binaryOp LShift int int") => `(tactic| (k_here; k_dflt ((refine' lshift_K ?ka ?kb ?kc ?ke ?_); (case ka => first | decide | omega); (case kb => first | decide | omega); (case kc => first | decide | omega); (case ke => ((try simp only [Int.reduceSub, Int.reduceAdd, Int.reduceToNat, Int.reducePow, Int.reduceMul, Int.one_mul]); exact rfl)); k_whole)))
local macro_rules | `(tactic| walk_at "callWith ref") => `(tactic| (k_here; k_dflt (refine' callWith_K ?k1 ?k2 ?_; (case k1 => k_asm); (case k2 => k_is); k_whole)))
local macro_rules | `(tactic| walk_at "m enterT") => `(tactic| (refine' code_defX0 ?k1 ?k2 ?k3 ?k4 ?k5 ?kA ?kF ?kK ?k6 ?k7 ?k8 ?k9 ?kB ?_ ?c2 ?c3 ?c4 ?c5; (case kA => exact rfl); (case kF => exact rfl); (case kK => assumption); (case k1 => k_asm); (case k2 => k_asm); (case k3 => k_asm); (case k4 => k_asm); (case k5 => k_asm); (case k6 => k_is); (case k7 => k_is); (case k8 => ktr_room); (case k9 => exact BindsTo.of_eq rfl); (case c5 => decide); (case kB => exact locs rfl); (case c2 => exact rfl); (case c3 => exact rfl); (case c4 => exact rfl); k_whole; intro g' L' h' FG' F' N' B' X' T' D'; (try dsimp only); (try k_lift B'); (try k_fold)))
local macro_rules | `(tactic| walk_at "call ref") => `(tactic| (k_here; k_dflt ((show wpAny _ _ (call (Value.ref 132) [Value.ref _, Value.int _ _]) _ _ _); refine' take_use ?kB ?kF ?kX ?kT ?kk ?kN ?kd ?kl ?lt ?kI ?kD ?km ?kdp ?kun ?kU ?kV ?_; (case kB => k_asm); (case kF => k_asm); (case kX => k_asm); (case kT => k_asm); (case kk => first | exact rfl | assumption); (case kN => k_asm); (case kd => k_mem); (case kl => k_mem); (case lt => omega); (case kI => assumption); (case kD => assumption); (case km => first | decide | assumption | omega | exact Int.pow_pos (by decide)); (case kdp => walk_at "m room"); (case kun => walk_at "m room"); (case kU => (intro _ _ _; k_upd)); (case kV => (intro _ _ _ _ _; k_upd)); k_whole; intro r' tr' us' xs' sd' td' nd' nl' h' tk' F' N' hI' D' hr0' hr1'; (try dsimp only at N'); (try k_fold))))
local macro_rules | `(tactic| walk_at "eval Name") => `(tactic| (k_here; (with_reducible show wpAny _ _ (eval (Expr.Name _ _) (compEnvC _ _ _ _)) _ _ _); k_dflt (refine ld_cell (by k_asm) (by rfl) (by k_mem) (by assumption) ?_)))
local macro_rules | `(tactic| walk_at "call ref") => `(tactic| (k_here; k_dflt ((show wpAny _ _ (call (Value.ref 125) [Value.ref _]) _ _ _); refine' draw_use ?kB ?kF ?kX ?kT ?kk ?kl ?ki ?kn ?kN ?kdp ?kun ?_; (case kB => k_asm); (case kF => k_asm); (case kX => k_asm); (case kT => k_asm); (case kk => first | exact rfl | assumption); (case kl => assumption); (case ki => assumption); (case kn => first | assumption | omega); (case kN => k_asm); (case kdp => walk_at "m room"); (case kun => walk_at "m room"); k_whole; intro d' l' us' xs' sd' td' nd' nl' h' tk' F' N' l1' l2' hI' D'; (try k_fold))))
local macro_rules | `(tactic| walk_at "call ref") => `(tactic| (k_here; k_dflt ((show wpAny _ _ (call (Value.ref 137) [Value.ref _]) _ _ _); refine' groups_use ?kB ?kF ?kX ?kT ?kk ?kN ?kd ?kl ?lt ?kI ?kD ?kdp ?kun ?kU ?kV ?_; (case kB => k_asm); (case kF => k_asm); (case kX => k_asm); (case kT => k_asm); (case kk => first | exact rfl | assumption); (case kN => k_asm); (case kd => k_mem); (case kl => k_mem); (case lt => omega); (case kI => assumption); (case kD => assumption); (case kdp => walk_at "m room"); (case kun => walk_at "m room"); (case kU => (intro _ _ _; k_upd)); (case kV => (intro _ _ _ _ _; k_upd)); k_whole; intro tp' number' tn' b' tb' gs' us' xs' sd' td' nd' nl' h' tk' F' N' l1' hI' D' hg1' hg2' hg3' hg4' hg5' hg6'; (try dsimp only at N'); (try k_fold))))
section ReadUsePart
theorem plain_ok {w : World} {p : Program} {loose : List Str} {mean : ExcName → Option Value} {mg mb : Str → Option Value} {dp un : Nat} {gd : Option (List Code)} {cn : Str} {cs : Scope} {a : Addr} {ccd : Value} {cl : List (Str × Addr)} {A₀ : Around} {h₀ : Heap} {L : Addr} {m : Str → Option Value} {s : Shared} {Q E : Value → Shared → Prop}
    {f c' cM : Addr} {of oc oM : Obj} {b : Array UInt8} {ks : List Int} {mask : Int} {i : Nat} {x : Int} {tb ti tm : Tok} {news : List (Addr × Obj)}
    (B : Below A₀ h₀ [] h₀) (F : Fr h₀ L s.heap m) (X : (Mine.hd.heap_39 w.params).In h₀) (T : Top p loose mean mg mb h₀) (hk : cs.kind = .function)
    (N : News h₀ L s.heap news) (hfm : (f, of) ∈ news) (hcm : (c', oc) ∈ news) (hMm : (cM, oM) ∈ news) (hf : FnOk of plainDef [(Str.ofString "mask", cM)] c' oc) (hM : oM.data = .cell (some (.int mask tm)))
    (hb : KBw.bInts b = ks) (hks : ks.length ≤ 40) (hi0 : i ≤ 40) (hx : x = ((i : Nat) : Int)) {hX : Heap} {cX pX : Addr} (hCH : CodeHd hX cX pX) (hdp : dp < 800) (hun : un < 8000)
    {r V : Int} {used : Nat} (hdec : dec 0 0 (ks.drop i) = .ok r used) (hV : Builtin.bitAnd r mask = V)
    (hok : ∀ tp t1 t2 h' tk', Fr h₀ L h' m → News h₀ L h' ((tp, { cls := .type "tuple", data := .seq #[.int V t1, .int ((i : Int) + (used : Int)) t2] }) :: news) → (∀ q ∈ news, q.1 < tp) → Q (.ref tp) { s with heap := h', toks := tk' }) :
    wpAny (model PySem.Challenge.rw_au6043_01.row.toRowW.prog w) (ktrTop dp un gd cn cs L a ccd cl []) (call (.ref 144) [.ref f, .bytes b tb, .int x ti]) Q E s := by
  subst hx
  subst hV
  refine read_plain B F X T hk N hfm hcm hMm hf hM hb hks hi0 hCH hdp hun (fun r' used' tp t1 t2 h' tk' e F' N' l' => ?_) (fun _ _ _ e => ?_) (fun _ _ _ e => ?_)
  · rw [hdec] at e
    cases e
    exact hok tp t1 t2 h' tk' F' N' l'
  · rw [hdec] at e; cases e
  · rw [hdec] at e; cases e
theorem plain_end {w : World} {p : Program} {loose : List Str} {mean : ExcName → Option Value} {mg mb : Str → Option Value} {dp un : Nat} {gd : Option (List Code)} {cn : Str} {cs : Scope} {a : Addr} {ccd : Value} {cl : List (Str × Addr)} {A₀ : Around} {h₀ : Heap} {L : Addr} {m : Str → Option Value} {s : Shared} {Q E : Value → Shared → Prop}
    {f c' cM : Addr} {of oc oM : Obj} {b : Array UInt8} {ks : List Int} {mask : Int} {i : Nat} {x : Int} {tb ti tm : Tok} {news : List (Addr × Obj)}
    (B : Below A₀ h₀ [] h₀) (F : Fr h₀ L s.heap m) (X : (Mine.hd.heap_39 w.params).In h₀) (T : Top p loose mean mg mb h₀) (hk : cs.kind = .function)
    (N : News h₀ L s.heap news) (hfm : (f, of) ∈ news) (hcm : (c', oc) ∈ news) (hMm : (cM, oM) ∈ news) (hf : FnOk of plainDef [(Str.ofString "mask", cM)] c' oc) (hM : oM.data = .cell (some (.int mask tm)))
    (hb : KBw.bInts b = ks) (hks : ks.length ≤ 40) (hi0 : i ≤ 40) (hx : x = ((i : Nat) : Int)) {hX : Heap} {cX pX : Addr} (hCH : CodeHd hX cX pX) (hdp : dp < 800) (hun : un < 8000)
    (hdec : dec 0 0 (ks.drop i) = .ended)
    (hok : ∀ t h' tk', Fr h₀ L h' m → News h₀ L h' news → Q (.str (Str.ofString "ended") t) { s with heap := h', toks := tk' }) :
    wpAny (model PySem.Challenge.rw_au6043_01.row.toRowW.prog w) (ktrTop dp un gd cn cs L a ccd cl []) (call (.ref 144) [.ref f, .bytes b tb, .int x ti]) Q E s := by
  subst hx
  refine read_plain B F X T hk N hfm hcm hMm hf hM hb hks hi0 hCH hdp hun (fun r' used' tp t1 t2 h' tk' e F' N' l' => ?_) (fun t h' tk' e F' N' => hok t h' tk' F' N') (fun _ _ _ e => ?_)
  · rw [hdec] at e; cases e
  · rw [hdec] at e; cases e
theorem plain_many {w : World} {p : Program} {loose : List Str} {mean : ExcName → Option Value} {mg mb : Str → Option Value} {dp un : Nat} {gd : Option (List Code)} {cn : Str} {cs : Scope} {a : Addr} {ccd : Value} {cl : List (Str × Addr)} {A₀ : Around} {h₀ : Heap} {L : Addr} {m : Str → Option Value} {s : Shared} {Q E : Value → Shared → Prop}
    {f c' cM : Addr} {of oc oM : Obj} {b : Array UInt8} {ks : List Int} {mask : Int} {i : Nat} {x : Int} {tb ti tm : Tok} {news : List (Addr × Obj)}
    (B : Below A₀ h₀ [] h₀) (F : Fr h₀ L s.heap m) (X : (Mine.hd.heap_39 w.params).In h₀) (T : Top p loose mean mg mb h₀) (hk : cs.kind = .function)
    (N : News h₀ L s.heap news) (hfm : (f, of) ∈ news) (hcm : (c', oc) ∈ news) (hMm : (cM, oM) ∈ news) (hf : FnOk of plainDef [(Str.ofString "mask", cM)] c' oc) (hM : oM.data = .cell (some (.int mask tm)))
    (hb : KBw.bInts b = ks) (hks : ks.length ≤ 40) (hi0 : i ≤ 40) (hx : x = ((i : Nat) : Int)) {hX : Heap} {cX pX : Addr} (hCH : CodeHd hX cX pX) (hdp : dp < 800) (hun : un < 8000)
    (hdec : dec 0 0 (ks.drop i) = .many)
    (hok : ∀ t h' tk', Fr h₀ L h' m → News h₀ L h' news → Q (.str (Str.ofString "too many") t) { s with heap := h', toks := tk' }) :
    wpAny (model PySem.Challenge.rw_au6043_01.row.toRowW.prog w) (ktrTop dp un gd cn cs L a ccd cl []) (call (.ref 144) [.ref f, .bytes b tb, .int x ti]) Q E s := by
  subst hx
  refine read_plain B F X T hk N hfm hcm hMm hf hM hb hks hi0 hCH hdp hun (fun r' used' tp t1 t2 h' tk' e F' N' l' => ?_) (fun _ _ _ e => ?_) (fun t h' tk' e F' N' => hok t h' tk' F' N')
  · rw [hdec] at e; cases e
  · rw [hdec] at e; cases e
theorem sign_ok {w : World} {p : Program} {loose : List Str} {mean : ExcName → Option Value} {mg mb : Str → Option Value} {dp un : Nat} {gd : Option (List Code)} {cn : Str} {cs : Scope} {a : Addr} {ccd : Value} {cl : List (Str × Addr)} {A₀ : Around} {h₀ : Heap} {L : Addr} {m : Str → Option Value} {s : Shared} {Q E : Value → Shared → Prop}
    {f c' cM cS : Addr} {of oc oM oS : Obj} {b : Array UInt8} {ks : List Int} {mask sbit : Int} {i : Nat} {x : Int} {tb ti tm ts : Tok} {news : List (Addr × Obj)}
    (B : Below A₀ h₀ [] h₀) (F : Fr h₀ L s.heap m) (X : (Mine.hd.heap_39 w.params).In h₀) (T : Top p loose mean mg mb h₀) (hk : cs.kind = .function)
    (N : News h₀ L s.heap news) (hfm : (f, of) ∈ news) (hcm : (c', oc) ∈ news) (hMm : (cM, oM) ∈ news) (hSm : (cS, oS) ∈ news) (hf : FnOk of signedDef [(Str.ofString "signbit", cS), (Str.ofString "mask", cM)] c' oc) (hM : oM.data = .cell (some (.int mask tm))) (hS9 : oS.data = .cell (some (.int sbit ts)))
    (hb : KBw.bInts b = ks) (hks : ks.length ≤ 40) (hi0 : i ≤ 40) (hx : x = ((i : Nat) : Int)) {hX : Heap} {cX pX : Addr} (hCH : CodeHd hX cX pX) (hdp : dp < 800) (hun : un < 8000)
    {r V : Int} {used : Nat} (hdec : dec 0 0 (ks.drop i) = .ok r used) (hV : Builtin.bitXor (Builtin.bitAnd r mask) sbit - sbit = V)
    (hok : ∀ tp t1 t2 h' tk', Fr h₀ L h' m → News h₀ L h' ((tp, { cls := .type "tuple", data := .seq #[.int V t1, .int ((i : Int) + (used : Int)) t2] }) :: news) → (∀ q ∈ news, q.1 < tp) → Q (.ref tp) { s with heap := h', toks := tk' }) :
    wpAny (model PySem.Challenge.rw_au6043_01.row.toRowW.prog w) (ktrTop dp un gd cn cs L a ccd cl []) (call (.ref 144) [.ref f, .bytes b tb, .int x ti]) Q E s := by
  subst hx
  subst hV
  refine read_signed B F X T hk N hfm hcm hMm hSm hf hM hS9 hb hks hi0 hCH hdp hun (fun r' used' tp t1 t2 h' tk' e F' N' l' => ?_) (fun _ _ _ e => ?_) (fun _ _ _ e => ?_)
  · rw [hdec] at e
    cases e
    exact hok tp t1 t2 h' tk' F' N' l'
  · rw [hdec] at e; cases e
  · rw [hdec] at e; cases e
theorem sign_end {w : World} {p : Program} {loose : List Str} {mean : ExcName → Option Value} {mg mb : Str → Option Value} {dp un : Nat} {gd : Option (List Code)} {cn : Str} {cs : Scope} {a : Addr} {ccd : Value} {cl : List (Str × Addr)} {A₀ : Around} {h₀ : Heap} {L : Addr} {m : Str → Option Value} {s : Shared} {Q E : Value → Shared → Prop}
    {f c' cM cS : Addr} {of oc oM oS : Obj} {b : Array UInt8} {ks : List Int} {mask sbit : Int} {i : Nat} {x : Int} {tb ti tm ts : Tok} {news : List (Addr × Obj)}
    (B : Below A₀ h₀ [] h₀) (F : Fr h₀ L s.heap m) (X : (Mine.hd.heap_39 w.params).In h₀) (T : Top p loose mean mg mb h₀) (hk : cs.kind = .function)
    (N : News h₀ L s.heap news) (hfm : (f, of) ∈ news) (hcm : (c', oc) ∈ news) (hMm : (cM, oM) ∈ news) (hSm : (cS, oS) ∈ news) (hf : FnOk of signedDef [(Str.ofString "signbit", cS), (Str.ofString "mask", cM)] c' oc) (hM : oM.data = .cell (some (.int mask tm))) (hS9 : oS.data = .cell (some (.int sbit ts)))
    (hb : KBw.bInts b = ks) (hks : ks.length ≤ 40) (hi0 : i ≤ 40) (hx : x = ((i : Nat) : Int)) {hX : Heap} {cX pX : Addr} (hCH : CodeHd hX cX pX) (hdp : dp < 800) (hun : un < 8000)
    (hdec : dec 0 0 (ks.drop i) = .ended)
    (hok : ∀ t h' tk', Fr h₀ L h' m → News h₀ L h' news → Q (.str (Str.ofString "ended") t) { s with heap := h', toks := tk' }) :
    wpAny (model PySem.Challenge.rw_au6043_01.row.toRowW.prog w) (ktrTop dp un gd cn cs L a ccd cl []) (call (.ref 144) [.ref f, .bytes b tb, .int x ti]) Q E s := by
  subst hx
  refine read_signed B F X T hk N hfm hcm hMm hSm hf hM hS9 hb hks hi0 hCH hdp hun (fun r' used' tp t1 t2 h' tk' e F' N' l' => ?_) (fun t h' tk' e F' N' => hok t h' tk' F' N') (fun _ _ _ e => ?_)
  · rw [hdec] at e; cases e
  · rw [hdec] at e; cases e
theorem sign_many {w : World} {p : Program} {loose : List Str} {mean : ExcName → Option Value} {mg mb : Str → Option Value} {dp un : Nat} {gd : Option (List Code)} {cn : Str} {cs : Scope} {a : Addr} {ccd : Value} {cl : List (Str × Addr)} {A₀ : Around} {h₀ : Heap} {L : Addr} {m : Str → Option Value} {s : Shared} {Q E : Value → Shared → Prop}
    {f c' cM cS : Addr} {of oc oM oS : Obj} {b : Array UInt8} {ks : List Int} {mask sbit : Int} {i : Nat} {x : Int} {tb ti tm ts : Tok} {news : List (Addr × Obj)}
    (B : Below A₀ h₀ [] h₀) (F : Fr h₀ L s.heap m) (X : (Mine.hd.heap_39 w.params).In h₀) (T : Top p loose mean mg mb h₀) (hk : cs.kind = .function)
    (N : News h₀ L s.heap news) (hfm : (f, of) ∈ news) (hcm : (c', oc) ∈ news) (hMm : (cM, oM) ∈ news) (hSm : (cS, oS) ∈ news) (hf : FnOk of signedDef [(Str.ofString "signbit", cS), (Str.ofString "mask", cM)] c' oc) (hM : oM.data = .cell (some (.int mask tm))) (hS9 : oS.data = .cell (some (.int sbit ts)))
    (hb : KBw.bInts b = ks) (hks : ks.length ≤ 40) (hi0 : i ≤ 40) (hx : x = ((i : Nat) : Int)) {hX : Heap} {cX pX : Addr} (hCH : CodeHd hX cX pX) (hdp : dp < 800) (hun : un < 8000)
    (hdec : dec 0 0 (ks.drop i) = .many)
    (hok : ∀ t h' tk', Fr h₀ L h' m → News h₀ L h' news → Q (.str (Str.ofString "too many") t) { s with heap := h', toks := tk' }) :
    wpAny (model PySem.Challenge.rw_au6043_01.row.toRowW.prog w) (ktrTop dp un gd cn cs L a ccd cl []) (call (.ref 144) [.ref f, .bytes b tb, .int x ti]) Q E s := by
  subst hx
  refine read_signed B F X T hk N hfm hcm hMm hSm hf hM hS9 hb hks hi0 hCH hdp hun (fun r' used' tp t1 t2 h' tk' e F' N' l' => ?_) (fun _ _ _ e => ?_) (fun t h' tk' e F' N' => hok t h' tk' F' N')
  · rw [hdec] at e; cases e
  · rw [hdec] at e; cases e
section
variable {prog : Program} {w : World} {A : Around} {E : Value → Shared → Prop} {s : Shared} {Q : Value → Shared → Prop} {b c : Array UInt8} {ks ls : List Int} {t u : Tok}
theorem addB_K (hb : KBw.bInts b = ks) (hc : KBw.bInts c = ls) (hsz : ks.length + ls.length ≤ 60) (h : ∀ b' t' k, KBw.bInts b' = ks ++ ls → Q (.bytes b' t') { s with toks := k }) :
    wpAny (model prog w) A (binaryOp .Add (.bytes b t) (.bytes c u)) Q E s := KBa.add_K hb hc (by omega) fun t' k e => h _ t' k e
end
end ReadUsePart

end PartReadUse

section PartPlainHead
local macro_rules | `(tactic| walk_at "m enter") => `(tactic| (refine' code_defS ?k1 ?k2 ?k3 ?k4 ?k5 ?kA ?kF ?kK ?k6 ?k7 ?k8 ?k9 ?kB ?_ ?c2 ?c3 ?c4 ?c5; (case kA => exact rfl); (case kF => exact rfl); (case kK => assumption); (case k1 => k_asm); (case k2 => k_asm); (case k3 => k_asm); (case k4 => k_asm); (case k5 => k_asm); (case k6 => k_is); (case k7 => k_is); (case k8 => ktr_room); (case k9 => exact BindsTo.of_eq rfl); (case c5 => decide); (case kB => exact locs rfl); (case c2 => exact rfl); (case c3 => exact rfl); (case c4 => exact rfl); k_whole; intro g' L' h' FG' F' N' B' X' T'; (try dsimp only); (try k_lift B'); (try k_fold)))
local macro_rules | `(tactic| units_room) => `(tactic| (have hcL' := cLine_is; simp only [units_in1, units_deeper, Around.mark_units]; (try dsimp only [ktrTop]); omega))
local macro_rules | `(tactic| ktr_room) => `(tactic| ((try simp only [depth_in1, depth_deeper]); (try dsimp only [ktrTop]); (try simp only [recursionLimit]); omega))
local macro_rules | `(tactic| k_room) => `(tactic| ktr_room)
local macro_rules | `(tactic| walk_at "eval ListComp") => `(tactic| (k_here; k_dflt (refine LCg.ListComp_U (F₀ := by k_asm) (by rfl) (by decide) (by rfl) (by decide) (by rfl) ?_)))
local macro_rules | `(tactic| walk_at "CompSrc") => `(tactic| (k_here; k_dflt (first
  | (refine LCg.CompSrc.base (by rfl) (by k_asm) (by k_asm) (by assumption) ?hz ?_; (case hz => ((have hL9 := IntsAre.length (by assumption)); simp only [List.size_toArray, sizeLine_eq]; omega)); intro g')
  | (refine LCg.CompSrc.range (by rfl) (by k_asm) (by k_asm) (by assumption) ?sm (rangeSize_up _) ?hz ?_; (case sm => exact small_one (by omega) (by omega) (by omega) (by omega)); (case hz => (simp only [sizeLine_eq]; omega)); intro g'))))
local macro_rules | `(tactic| walk_at "call type:range") => `(tactic| (k_here; k_dflt (refine' range1_rows ?kF ?kN ?_; (case kF => k_asm); (case kN => k_asm); intro h' tk' t1' u1' v1' hR' F' N' hk')))
local macro_rules | `(tactic| walk_at "execs nil") => `(tactic| (with_reducible refine wpAny_execs_nil ?_))
local macro_rules | `(tactic| walk_at "m enterC") => `(tactic| (refine' code_defCS ?k1 ?k2 ?k3 ?k4 ?k5 ?kA ?kF ?kK ?k6 ?k7 ?k8 ?k9 ?kB ?kD ?_ ?c2 ?c3 ?c4; (case kA => exact rfl); (case kF => exact rfl); (case kK => assumption); (case k1 => k_asm); (case k2 => k_asm); (case k3 => k_asm); (case k4 => k_asm); (case k5 => k_asm); (case k6 => k_is); (case k7 => k_is); (case k8 => ktr_room); (case k9 => exact BindsTo.of_eq rfl); (case kB => exact rfl); (case kD => decide +kernel); (case c2 => exact rfl); (case c3 => exact rfl); (case c4 => exact rfl); k_whole; intro g' L' h' tk' cells' FG' F' N' Y' B' X' T' l1; (try k_lt l1); k_cells Y'; (try simp only [List.cons_append, List.nil_append] at N'); (try dsimp only); (try k_lift B'); (try k_fold)))
local macro_rules | `(tactic| walk_at "m step") => `(tactic| ((fail_if_success (with_reducible show wpAny _ _ (exec (Stmt.While _ _ _ _) _) _ _ _)); (fail_if_success (with_reducible show LCg.CompRest _ _ _ _ _ _ _ _ _ _ _ _ _ _ _ _ _ _ _)); (first | (k_unfold; (try dsimp only)) | (k_end; kc_close) | walk1 | (dsimp only; walk1) | (leave1; walk_say "STEP leave1"; (try dsimp only)) | fail "no step")))
local macro_rules | `(tactic| walk_at "m steps") => `(tactic| repeat' ((fail_if_success (with_reducible show wpAny _ _ (exec (Stmt.While _ _ _ _) _) _ _ _)); (fail_if_success (with_reducible show LCg.CompRest _ _ _ _ _ _ _ _ _ _ _ _ _ _ _ _ _ _ _)); (first | (k_unfold; (try dsimp only)) | (k_end; kc_close) | walk1 | (dsimp only; walk1) | (leave1; walk_say "STEP leave1"; (try dsimp only)) | fail "no step")))
local macro_rules | `(tactic| walk_at "m room") => `(tactic| ((try simp only [depth_in1, depth_deeper, units_in1, units_deeper, depth_caller, units_caller]); (try dsimp only [ktrTop]); omega))
local macro_rules | `(tactic| walk_at "binaryOp LShift int int") => `(tactic| (k_here; k_dflt ((refine' lshift_K ?ka ?kb ?kc ?ke ?_); (case ka => first | decide | omega); (case kb => first | decide | omega); (case kc => first | decide | omega); (case ke => ((try simp only [Int.reduceSub, Int.reduceAdd, Int.reduceToNat, Int.reducePow, Int.reduceMul, Int.one_mul]); exact rfl)); k_whole)))
local macro_rules | `(tactic| walk_at "callWith ref") => `(tactic| (k_here; k_dflt (refine' callWith_K ?k1 ?k2 ?_; (case k1 => k_asm); (case k2 => k_is); k_whole)))
local macro_rules | `(tactic| walk_at "m enterT") => `(tactic| (refine' code_defX0 ?k1 ?k2 ?k3 ?k4 ?k5 ?kA ?kF ?kK ?k6 ?k7 ?k8 ?k9 ?kB ?_ ?c2 ?c3 ?c4 ?c5; (case kA => exact rfl); (case kF => exact rfl); (case kK => assumption); (case k1 => k_asm); (case k2 => k_asm); (case k3 => k_asm); (case k4 => k_asm); (case k5 => k_asm); (case k6 => k_is); (case k7 => k_is); (case k8 => ktr_room); (case k9 => exact BindsTo.of_eq rfl); (case c5 => decide); (case kB => exact locs rfl); (case c2 => exact rfl); (case c3 => exact rfl); (case c4 => exact rfl); k_whole; intro g' L' h' FG' F' N' B' X' T' D'; (try dsimp only); (try k_lift B'); (try k_fold)))
local macro_rules | `(tactic| walk_at "call ref") => `(tactic| (k_here; k_dflt ((show wpAny _ _ (call (Value.ref 132) [Value.ref _, Value.int _ _]) _ _ _); refine' take_use ?kB ?kF ?kX ?kT ?kk ?kN ?kd ?kl ?lt ?kI ?kD ?km ?kdp ?kun ?kU ?kV ?_; (case kB => k_asm); (case kF => k_asm); (case kX => k_asm); (case kT => k_asm); (case kk => first | exact rfl | assumption); (case kN => k_asm); (case kd => k_mem); (case kl => k_mem); (case lt => omega); (case kI => assumption); (case kD => assumption); (case km => first | decide | assumption | omega | exact Int.pow_pos (by decide)); (case kdp => walk_at "m room"); (case kun => walk_at "m room"); (case kU => (intro _ _ _; k_upd)); (case kV => (intro _ _ _ _ _; k_upd)); k_whole; intro r' tr' us' xs' sd' td' nd' nl' h' tk' F' N' hI' D' hr0' hr1'; (try dsimp only at N'); (try k_fold))))
local macro_rules | `(tactic| walk_at "eval Name") => `(tactic| (k_here; (with_reducible show wpAny _ _ (eval (Expr.Name _ _) (compEnvC _ _ _ _)) _ _ _); k_dflt (refine ld_cell (by k_asm) (by rfl) (by k_mem) (by assumption) ?_)))
local macro_rules | `(tactic| walk_at "call ref") => `(tactic| (k_here; k_dflt ((show wpAny _ _ (call (Value.ref 125) [Value.ref _]) _ _ _); refine' draw_use ?kB ?kF ?kX ?kT ?kk ?kl ?ki ?kn ?kN ?kdp ?kun ?_; (case kB => k_asm); (case kF => k_asm); (case kX => k_asm); (case kT => k_asm); (case kk => first | exact rfl | assumption); (case kl => assumption); (case ki => assumption); (case kn => first | assumption | omega); (case kN => k_asm); (case kdp => walk_at "m room"); (case kun => walk_at "m room"); k_whole; intro d' l' us' xs' sd' td' nd' nl' h' tk' F' N' l1' l2' hI' D'; (try k_fold))))
local macro_rules | `(tactic| walk_at "call ref") => `(tactic| (k_here; k_dflt ((show wpAny _ _ (call (Value.ref 137) [Value.ref _]) _ _ _); refine' groups_use ?kB ?kF ?kX ?kT ?kk ?kN ?kd ?kl ?lt ?kI ?kD ?kdp ?kun ?kU ?kV ?_; (case kB => k_asm); (case kF => k_asm); (case kX => k_asm); (case kT => k_asm); (case kk => first | exact rfl | assumption); (case kN => k_asm); (case kd => k_mem); (case kl => k_mem); (case lt => omega); (case kI => assumption); (case kD => assumption); (case kdp => walk_at "m room"); (case kun => walk_at "m room"); (case kU => (intro _ _ _; k_upd)); (case kV => (intro _ _ _ _ _; k_upd)); k_whole; intro tp' number' tn' b' tb' gs' us' xs' sd' td' nd' nl' h' tk' F' N' l1' hI' D' hg1' hg2' hg3' hg4' hg5' hg6'; (try dsimp only at N'); (try k_fold))))
section PlainHeadPart
theorem enc_len : ∀ gs : List Int, (enc gs).length = gs.length
  | [] => rfl
  | [_] => rfl
  | _ :: g' :: r => by show (enc (g' :: r)).length + 1 = _; rw [enc_len (g' :: r)]; rfl
theorem dec_enc (r : List Int) : ∀ (gs : List Int) (k : Nat) (acc : Int), (∀ g ∈ gs, 0 ≤ g ∧ g < 128) → 1 ≤ gs.length → gs.length + k ≤ 10 → dec k acc (enc gs ++ r) = .ok (acc + gval gs * 128 ^ k) (k + gs.length)
  | [], _, _, _, h1, _ => by simp at h1
  | [g], k, acc, hg, _, _ => by
    have h := hg g (.head _)
    show dec k acc (g :: r) = _
    rw [dec, if_pos h.2]
    simp [gval]
  | g :: g' :: gs, k, acc, hg, _, hl => by
    have h := hg g (.head _)
    have hl' : (g' :: gs).length + (k + 1) ≤ 10 := by simp at hl ⊢; omega
    have hk : ¬ 9 ≤ k := by simp at hl; omega
    show dec k acc ((g + 128) :: (enc (g' :: gs) ++ r)) = _
    rw [dec, if_neg (by omega), if_neg hk, dec_enc r (g' :: gs) (k + 1) _ (fun x hx => hg x (.tail _ hx)) (by simp) hl', show (g + 128) % 128 = g by omega]
    congr 1
    · show _ = acc + (g + 128 * gval (g' :: gs)) * 128 ^ k
      rw [Int.pow_succ, Int.add_mul, Int.add_assoc, Int.mul_comm 128 (gval (g' :: gs)), Int.mul_assoc, Int.mul_comm (128 ^ k) 128]
    · simp only [List.length_cons]; omega
theorem dec_cut : ∀ (gs : List Int) (c k : Nat) (acc : Int), (∀ g ∈ gs, 0 ≤ g ∧ g < 128) → c < gs.length → gs.length + k ≤ 10 → dec k acc ((enc gs).take c) = .ended
  | [], _, _, _, _, h1, _ => by simp at h1
  | [g], c, k, acc, _, h1, _ => by
    obtain rfl : c = 0 := by simp at h1; omega
    rfl
  | g :: g' :: gs, 0, k, acc, _, _, _ => rfl
  | g :: g' :: gs, c + 1, k, acc, hg, h1, hl => by
    have h := hg g (.head _)
    have hl' : (g' :: gs).length + (k + 1) ≤ 10 := by simp at hl ⊢; omega
    have hk : ¬ 9 ≤ k := by simp at hl; omega
    show dec k acc ((g + 128) :: (enc (g' :: gs)).take c) = _
    rw [dec, if_neg (by omega), if_neg hk]
    exact dec_cut (g' :: gs) c (k + 1) _ (fun x hx => hg x (.tail _ hx)) (by simpa using h1) hl'
theorem dec_many1 : dec 0 0 [128, 128, 128, 128, 128, 128, 128, 128, 128, 128, 0] = .many := by simp [dec]
theorem dec_many2 : dec 0 0 [255, 255, 255, 255, 255, 255, 255, 255, 255, 255, 255] = .many := by simp [dec]
theorem gval_pos : ∀ gs : List Int, (∀ g ∈ gs, 0 ≤ g ∧ g < 128) → 0 ≤ gval gs
  | [], _ => by simp [gval]
  | g :: r, h => by
    have h1 := h g (.head _)
    have h2 := gval_pos r fun x hx => h x (.tail _ hx)
    show 0 ≤ g + 128 * gval r
    omega
theorem xor_sign {x : Int} (j : Nat) (h0 : 0 ≤ x) (h1 : x < 2 ^ (j + 1)) : Builtin.bitXor x (2 ^ j) - 2 ^ j = if x < 2 ^ j then x else x - 2 ^ (j + 1) := by
  have e : Builtin.bitAnd x (2 ^ j) = (x / 2 ^ j % 2) * 2 ^ j := kbt_bit x j
  rw [bitXor_and, e]
  have hp : (0 : Int) < 2 ^ j := Int.pow_pos (by decide)
  rw [Int.pow_succ] at h1 ⊢
  split
  · rename_i h
    rw [Int.ediv_eq_zero_of_lt h0 h]
    simp
  · rename_i h
    have e2 : x / 2 ^ j = 1 := by
      rw [show x = (x - 2 ^ j) + 1 * 2 ^ j by omega, Int.add_mul_ediv_right _ _ (by omega), Int.ediv_eq_zero_of_lt (by omega) (by omega)]
      rfl
    rw [e2]
    simp
    omega
theorem sgn_law {number bits : Int} (h1 : 1 ≤ bits) : Builtin.bitXor (Builtin.bitAnd number (2 ^ bits.toNat - 1)) (2 ^ (bits - 1).toNat) - 2 ^ (bits - 1).toNat = if (number.fmod (2 ^ bits.toNat)).fdiv (2 ^ (bits - 1).toNat) = 1 then number.fmod (2 ^ bits.toNat) - 2 ^ bits.toNat else number.fmod (2 ^ bits.toNat) := by
  obtain ⟨j, hj⟩ : ∃ j, (bits - 1).toNat = j := ⟨_, rfl⟩
  have hb : bits.toNat = j + 1 := by omega
  rw [hj, hb, kbt_mask]
  have hp : (0 : Int) < 2 ^ j := Int.pow_pos (by decide)
  have hp2 : (0 : Int) < 2 ^ (j + 1) := Int.pow_pos (by decide)
  rw [Int.fmod_eq_emod_of_nonneg _ (Int.le_of_lt hp2), Int.fdiv_eq_ediv_of_nonneg _ (Int.le_of_lt hp)]
  have h2 := Int.emod_nonneg number (show (2 : Int) ^ (j + 1) ≠ 0 by omega)
  have h3 := Int.emod_lt_of_pos number hp2
  rw [xor_sign j h2 h3]
  generalize number % 2 ^ (j + 1) = x at *
  by_cases hx : x < 2 ^ j
  · rw [if_pos hx, if_neg]
    rw [Int.ediv_eq_zero_of_lt h2 hx]
    decide
  · rw [if_neg hx, if_pos]
    rw [Int.pow_succ] at h3
    rw [show x = (x - 2 ^ j) + 1 * 2 ^ j by omega, Int.add_mul_ediv_right _ _ (by omega), Int.ediv_eq_zero_of_lt (by omega) (by omega)]
    rfl
end PlainHeadPart

end PartPlainHead

section PartLawDefs
local macro_rules | `(tactic| walk_at "m enter") => `(tactic| (refine' code_defS ?k1 ?k2 ?k3 ?k4 ?k5 ?kA ?kF ?kK ?k6 ?k7 ?k8 ?k9 ?kB ?_ ?c2 ?c3 ?c4 ?c5; (case kA => exact rfl); (case kF => exact rfl); (case kK => assumption); (case k1 => k_asm); (case k2 => k_asm); (case k3 => k_asm); (case k4 => k_asm); (case k5 => k_asm); (case k6 => k_is); (case k7 => k_is); (case k8 => ktr_room); (case k9 => exact BindsTo.of_eq rfl); (case c5 => decide); (case kB => exact locs rfl); (case c2 => exact rfl); (case c3 => exact rfl); (case c4 => exact rfl); k_whole; intro g' L' h' FG' F' N' B' X' T'; (try dsimp only); (try k_lift B'); (try k_fold)))
local macro_rules | `(tactic| units_room) => `(tactic| (have hcL' := cLine_is; simp only [units_in1, units_deeper, Around.mark_units]; (try dsimp only [ktrTop]); omega))
local macro_rules | `(tactic| ktr_room) => `(tactic| ((try simp only [depth_in1, depth_deeper]); (try dsimp only [ktrTop]); (try simp only [recursionLimit]); omega))
local macro_rules | `(tactic| k_room) => `(tactic| ktr_room)
local macro_rules | `(tactic| walk_at "eval ListComp") => `(tactic| (k_here; k_dflt (refine LCg.ListComp_U (F₀ := by k_asm) (by rfl) (by decide) (by rfl) (by decide) (by rfl) ?_)))
local macro_rules | `(tactic| walk_at "CompSrc") => `(tactic| (k_here; k_dflt (first
  | (refine LCg.CompSrc.base (by rfl) (by k_asm) (by k_asm) (by assumption) ?hz ?_; (case hz => ((have hL9 := IntsAre.length (by assumption)); simp only [List.size_toArray, sizeLine_eq]; omega)); intro g')
  | (refine LCg.CompSrc.range (by rfl) (by k_asm) (by k_asm) (by assumption) ?sm (rangeSize_up _) ?hz ?_; (case sm => exact small_one (by omega) (by omega) (by omega) (by omega)); (case hz => (simp only [sizeLine_eq]; omega)); intro g'))))
local macro_rules | `(tactic| walk_at "call type:range") => `(tactic| (k_here; k_dflt (refine' range1_rows ?kF ?kN ?_; (case kF => k_asm); (case kN => k_asm); intro h' tk' t1' u1' v1' hR' F' N' hk')))
local macro_rules | `(tactic| walk_at "execs nil") => `(tactic| (with_reducible refine wpAny_execs_nil ?_))
local macro_rules | `(tactic| walk_at "m enterC") => `(tactic| (refine' code_defCS ?k1 ?k2 ?k3 ?k4 ?k5 ?kA ?kF ?kK ?k6 ?k7 ?k8 ?k9 ?kB ?kD ?_ ?c2 ?c3 ?c4; (case kA => exact rfl); (case kF => exact rfl); (case kK => assumption); (case k1 => k_asm); (case k2 => k_asm); (case k3 => k_asm); (case k4 => k_asm); (case k5 => k_asm); (case k6 => k_is); (case k7 => k_is); (case k8 => ktr_room); (case k9 => exact BindsTo.of_eq rfl); (case kB => exact rfl); (case kD => decide +kernel); (case c2 => exact rfl); (case c3 => exact rfl); (case c4 => exact rfl); k_whole; intro g' L' h' tk' cells' FG' F' N' Y' B' X' T' l1; (try k_lt l1); k_cells Y'; (try simp only [List.cons_append, List.nil_append] at N'); (try dsimp only); (try k_lift B'); (try k_fold)))
local macro_rules | `(tactic| walk_at "m step") => `(tactic| ((fail_if_success (with_reducible show wpAny _ _ (exec (Stmt.While _ _ _ _) _) _ _ _)); (fail_if_success (with_reducible show LCg.CompRest _ _ _ _ _ _ _ _ _ _ _ _ _ _ _ _ _ _ _)); (first | (k_unfold; (try dsimp only)) | (k_end; kc_close) | walk1 | (dsimp only; walk1) | (leave1; walk_say "STEP leave1"; (try dsimp only)) | fail "no step")))
local macro_rules | `(tactic| walk_at "m steps") => `(tactic| repeat' ((fail_if_success (with_reducible show wpAny _ _ (exec (Stmt.While _ _ _ _) _) _ _ _)); (fail_if_success (with_reducible show LCg.CompRest _ _ _ _ _ _ _ _ _ _ _ _ _ _ _ _ _ _ _)); (first | (k_unfold; (try dsimp only)) | (k_end; kc_close) | walk1 | (dsimp only; walk1) | (leave1; walk_say "STEP leave1"; (try dsimp only)) | fail "no step")))
local macro_rules | `(tactic| walk_at "m room") => `(tactic| ((try simp only [depth_in1, depth_deeper, units_in1, units_deeper, depth_caller, units_caller]); (try dsimp only [ktrTop]); omega))
local macro_rules | `(tactic| walk_at "binaryOp LShift int int") => `(tactic| (k_here; k_dflt ((refine' lshift_K ?ka ?kb ?kc ?ke ?_); (case ka => first | decide | omega); (case kb => first | decide | omega); (case kc => first | decide | omega); (case ke => ((try simp only [Int.reduceSub, Int.reduceAdd, Int.reduceToNat, Int.reducePow, Int.reduceMul, Int.one_mul]); exact rfl)); k_whole)))
local macro_rules | `(tactic| walk_at "callWith ref") => `(tactic| (k_here; k_dflt (refine' callWith_K ?k1 ?k2 ?_; (case k1 => k_asm); (case k2 => k_is); k_whole)))
local macro_rules | `(tactic| walk_at "m enterT") => `(tactic| (refine' code_defX0 ?k1 ?k2 ?k3 ?k4 ?k5 ?kA ?kF ?kK ?k6 ?k7 ?k8 ?k9 ?kB ?_ ?c2 ?c3 ?c4 ?c5; (case kA => exact rfl); (case kF => exact rfl); (case kK => assumption); (case k1 => k_asm); (case k2 => k_asm); (case k3 => k_asm); (case k4 => k_asm); (case k5 => k_asm); (case k6 => k_is); (case k7 => k_is); (case k8 => ktr_room); (case k9 => exact BindsTo.of_eq rfl); (case c5 => decide); (case kB => exact locs rfl); (case c2 => exact rfl); (case c3 => exact rfl); (case c4 => exact rfl); k_whole; intro g' L' h' FG' F' N' B' X' T' D'; (try dsimp only); (try k_lift B'); (try k_fold)))
local macro_rules | `(tactic| walk_at "call ref") => `(tactic| (k_here; k_dflt ((show wpAny _ _ (call (Value.ref 132) [Value.ref _, Value.int _ _]) _ _ _); refine' take_use ?kB ?kF ?kX ?kT ?kk ?kN ?kd ?kl ?lt ?kI ?kD ?km ?kdp ?kun ?kU ?kV ?_; (case kB => k_asm); (case kF => k_asm); (case kX => k_asm); (case kT => k_asm); (case kk => first | exact rfl | assumption); (case kN => k_asm); (case kd => k_mem); (case kl => k_mem); (case lt => omega); (case kI => assumption); (case kD => assumption); (case km => first | decide | assumption | omega | exact Int.pow_pos (by decide)); (case kdp => walk_at "m room"); (case kun => walk_at "m room"); (case kU => (intro _ _ _; k_upd)); (case kV => (intro _ _ _ _ _; k_upd)); k_whole; intro r' tr' us' xs' sd' td' nd' nl' h' tk' F' N' hI' D' hr0' hr1'; (try dsimp only at N'); (try k_fold))))
local macro_rules | `(tactic| walk_at "eval Name") => `(tactic| (k_here; (with_reducible show wpAny _ _ (eval (Expr.Name _ _) (compEnvC _ _ _ _)) _ _ _); k_dflt (refine ld_cell (by k_asm) (by rfl) (by k_mem) (by assumption) ?_)))
local macro_rules | `(tactic| walk_at "call ref") => `(tactic| (k_here; k_dflt ((show wpAny _ _ (call (Value.ref 125) [Value.ref _]) _ _ _); refine' draw_use ?kB ?kF ?kX ?kT ?kk ?kl ?ki ?kn ?kN ?kdp ?kun ?_; (case kB => k_asm); (case kF => k_asm); (case kX => k_asm); (case kT => k_asm); (case kk => first | exact rfl | assumption); (case kl => assumption); (case ki => assumption); (case kn => first | assumption | omega); (case kN => k_asm); (case kdp => walk_at "m room"); (case kun => walk_at "m room"); k_whole; intro d' l' us' xs' sd' td' nd' nl' h' tk' F' N' l1' l2' hI' D'; (try k_fold))))
local macro_rules | `(tactic| walk_at "call ref") => `(tactic| (k_here; k_dflt ((show wpAny _ _ (call (Value.ref 137) [Value.ref _]) _ _ _); refine' groups_use ?kB ?kF ?kX ?kT ?kk ?kN ?kd ?kl ?lt ?kI ?kD ?kdp ?kun ?kU ?kV ?_; (case kB => k_asm); (case kF => k_asm); (case kX => k_asm); (case kT => k_asm); (case kk => first | exact rfl | assumption); (case kN => k_asm); (case kd => k_mem); (case kl => k_mem); (case lt => omega); (case kI => assumption); (case kD => assumption); (case kdp => walk_at "m room"); (case kun => walk_at "m room"); (case kU => (intro _ _ _; k_upd)); (case kV => (intro _ _ _ _ _; k_upd)); k_whole; intro tp' number' tn' b' tb' gs' us' xs' sd' td' nd' nl' h' tk' F' N' l1' hI' D' hg1' hg2' hg3' hg4' hg5' hg6'; (try dsimp only at N'); (try k_fold))))
/-- the draw's part of a ledger, ahead of the rest -/
structure RInv (d l : Addr) (rest : List (Addr × Obj)) (i : Nat) (ys : List Value) (news : List (Addr × Obj)) : Prop where
  ex : ∃ (ms : List Int) (us : List Value) (xs : List Int) (sd : Int) (td : Tok) (nd nl : Nat), IntsAre ys ms ∧ ms.length = i ∧ (∀ x ∈ ms, 0 ≤ x ∧ x < 256) ∧ IntsAre us xs ∧ DrawOk xs sd ∧
    news = (d, listOf #[.ref l, .int sd td] nd) :: (l, listOf us.toArray nl) :: rest
theorem rinv_next {d l : Addr} {rest : List (Addr × Obj)} {i : Nat} {ys : List Value} {ms : List Int} {us : List Value} {xs : List Int} {sd r : Int} {td t : Tok} {nd nl : Nat} (hms : IntsAre ys ms) (hml : ms.length = i) (hmr : ∀ x ∈ ms, 0 ≤ x ∧ x < 256)
    (h0 : 0 ≤ r) (h1 : r < 256) (hI : IntsAre us xs) (D : DrawOk xs sd) : RInv d l rest (i + 1) (ys ++ [.int r t]) ((d, listOf #[.ref l, .int sd td] nd) :: (l, listOf us.toArray nl) :: rest) := by
  refine ⟨ms ++ [r], us, xs, sd, td, nd, nl, ints_snoc hms _ _, by simp [hml], fun x hx => ?_, hI, D, rfl⟩
  rcases List.mem_append.mp hx with hx | hx
  · exact hmr x hx
  · obtain rfl := List.mem_singleton.mp hx
    exact ⟨h0, h1⟩
/-- the j-th octet from the place a on, at its weight -/
def octAt (a : Nat) (ms : List Int) (j : Nat) : Int := ms.getD (a + j) 0 * 2 ^ (8 * j)
theorem map_next (f : Nat → Int) {ts : List Int} {i : Nat} {v : Int} (h : ts = (List.range ts.length).map f) (hl : ts.length = i) (hv : v = f i) : ts ++ [v] = (List.range (ts ++ [v]).length).map f := by
  subst hl
  subst hv
  rw [List.length_append, List.length_singleton, List.range_succ, List.map_append, ← h]
  rfl

end PartLawDefs

section PartFUse
local macro_rules | `(tactic| walk_at "m enter") => `(tactic| (refine' code_defS ?k1 ?k2 ?k3 ?k4 ?k5 ?kA ?kF ?kK ?k6 ?k7 ?k8 ?k9 ?kB ?_ ?c2 ?c3 ?c4 ?c5; (case kA => exact rfl); (case kF => exact rfl); (case kK => assumption); (case k1 => k_asm); (case k2 => k_asm); (case k3 => k_asm); (case k4 => k_asm); (case k5 => k_asm); (case k6 => k_is); (case k7 => k_is); (case k8 => ktr_room); (case k9 => exact BindsTo.of_eq rfl); (case c5 => decide); (case kB => exact locs rfl); (case c2 => exact rfl); (case c3 => exact rfl); (case c4 => exact rfl); k_whole; intro g' L' h' FG' F' N' B' X' T'; (try dsimp only); (try k_lift B'); (try k_fold)))
local macro_rules | `(tactic| units_room) => `(tactic| (have hcL' := cLine_is; simp only [units_in1, units_deeper, Around.mark_units]; (try dsimp only [ktrTop]); omega))
local macro_rules | `(tactic| ktr_room) => `(tactic| ((try simp only [depth_in1, depth_deeper]); (try dsimp only [ktrTop]); (try simp only [recursionLimit]); omega))
local macro_rules | `(tactic| k_room) => `(tactic| ktr_room)
local macro_rules | `(tactic| walk_at "eval ListComp") => `(tactic| (k_here; k_dflt (refine LCg.ListComp_U (F₀ := by k_asm) (by rfl) (by decide) (by rfl) (by decide) (by rfl) ?_)))
local macro_rules | `(tactic| walk_at "CompSrc") => `(tactic| (k_here; k_dflt (first
  | (refine LCg.CompSrc.base (by rfl) (by k_asm) (by k_asm) (by assumption) ?hz ?_; (case hz => ((have hL9 := IntsAre.length (by assumption)); simp only [List.size_toArray, sizeLine_eq]; omega)); intro g')
  | (refine LCg.CompSrc.range (by rfl) (by k_asm) (by k_asm) (by assumption) ?sm (rangeSize_up _) ?hz ?_; (case sm => exact small_one (by omega) (by omega) (by omega) (by omega)); (case hz => (simp only [sizeLine_eq]; omega)); intro g'))))
local macro_rules | `(tactic| walk_at "call type:range") => `(tactic| (k_here; k_dflt (refine' range1_rows ?kF ?kN ?_; (case kF => k_asm); (case kN => k_asm); intro h' tk' t1' u1' v1' hR' F' N' hk')))
local macro_rules | `(tactic| walk_at "execs nil") => `(tactic| (with_reducible refine wpAny_execs_nil ?_))
local macro_rules | `(tactic| walk_at "m enterC") => `(tactic| (refine' code_defCS ?k1 ?k2 ?k3 ?k4 ?k5 ?kA ?kF ?kK ?k6 ?k7 ?k8 ?k9 ?kB ?kD ?_ ?c2 ?c3 ?c4; (case kA => exact rfl); (case kF => exact rfl); (case kK => assumption); (case k1 => k_asm); (case k2 => k_asm); (case k3 => k_asm); (case k4 => k_asm); (case k5 => k_asm); (case k6 => k_is); (case k7 => k_is); (case k8 => ktr_room); (case k9 => exact BindsTo.of_eq rfl); (case kB => exact rfl); (case kD => decide +kernel); (case c2 => exact rfl); (case c3 => exact rfl); (case c4 => exact rfl); k_whole; intro g' L' h' tk' cells' FG' F' N' Y' B' X' T' l1; (try k_lt l1); k_cells Y'; (try simp only [List.cons_append, List.nil_append] at N'); (try dsimp only); (try k_lift B'); (try k_fold)))
local macro_rules | `(tactic| walk_at "m step") => `(tactic| ((fail_if_success (with_reducible show wpAny _ _ (exec (Stmt.While _ _ _ _) _) _ _ _)); (fail_if_success (with_reducible show LCg.CompRest _ _ _ _ _ _ _ _ _ _ _ _ _ _ _ _ _ _ _)); (first | (k_unfold; (try dsimp only)) | (k_end; kc_close) | walk1 | (dsimp only; walk1) | (leave1; walk_say "STEP leave1"; (try dsimp only)) | fail "no step")))
local macro_rules | `(tactic| walk_at "m steps") => `(tactic| repeat' ((fail_if_success (with_reducible show wpAny _ _ (exec (Stmt.While _ _ _ _) _) _ _ _)); (fail_if_success (with_reducible show LCg.CompRest _ _ _ _ _ _ _ _ _ _ _ _ _ _ _ _ _ _ _)); (first | (k_unfold; (try dsimp only)) | (k_end; kc_close) | walk1 | (dsimp only; walk1) | (leave1; walk_say "STEP leave1"; (try dsimp only)) | fail "no step")))
local macro_rules | `(tactic| walk_at "m room") => `(tactic| ((try simp only [depth_in1, depth_deeper, units_in1, units_deeper, depth_caller, units_caller]); (try dsimp only [ktrTop]); omega))
local macro_rules | `(tactic| walk_at "binaryOp LShift int int") => `(tactic| (k_here; k_dflt ((refine' lshift_K ?ka ?kb ?kc ?ke ?_); (case ka => first | decide | omega); (case kb => first | decide | omega); (case kc => first | decide | omega); (case ke => ((try simp only [Int.reduceSub, Int.reduceAdd, Int.reduceToNat, Int.reducePow, Int.reduceMul, Int.one_mul]); exact rfl)); k_whole)))
local macro_rules | `(tactic| walk_at "callWith ref") => `(tactic| (k_here; k_dflt (refine' callWith_K ?k1 ?k2 ?_; (case k1 => k_asm); (case k2 => k_is); k_whole)))
local macro_rules | `(tactic| walk_at "m enterT") => `(tactic| (refine' code_defX0 ?k1 ?k2 ?k3 ?k4 ?k5 ?kA ?kF ?kK ?k6 ?k7 ?k8 ?k9 ?kB ?_ ?c2 ?c3 ?c4 ?c5; (case kA => exact rfl); (case kF => exact rfl); (case kK => assumption); (case k1 => k_asm); (case k2 => k_asm); (case k3 => k_asm); (case k4 => k_asm); (case k5 => k_asm); (case k6 => k_is); (case k7 => k_is); (case k8 => ktr_room); (case k9 => exact BindsTo.of_eq rfl); (case c5 => decide); (case kB => exact locs rfl); (case c2 => exact rfl); (case c3 => exact rfl); (case c4 => exact rfl); k_whole; intro g' L' h' FG' F' N' B' X' T' D'; (try dsimp only); (try k_lift B'); (try k_fold)))
local macro_rules | `(tactic| walk_at "call ref") => `(tactic| (k_here; k_dflt ((show wpAny _ _ (call (Value.ref 132) [Value.ref _, Value.int _ _]) _ _ _); refine' take_use ?kB ?kF ?kX ?kT ?kk ?kN ?kd ?kl ?lt ?kI ?kD ?km ?kdp ?kun ?kU ?kV ?_; (case kB => k_asm); (case kF => k_asm); (case kX => k_asm); (case kT => k_asm); (case kk => first | exact rfl | assumption); (case kN => k_asm); (case kd => k_mem); (case kl => k_mem); (case lt => omega); (case kI => assumption); (case kD => assumption); (case km => first | decide | assumption | omega | exact Int.pow_pos (by decide)); (case kdp => walk_at "m room"); (case kun => walk_at "m room"); (case kU => (intro _ _ _; k_upd)); (case kV => (intro _ _ _ _ _; k_upd)); k_whole; intro r' tr' us' xs' sd' td' nd' nl' h' tk' F' N' hI' D' hr0' hr1'; (try dsimp only at N'); (try k_fold))))
local macro_rules | `(tactic| walk_at "eval Name") => `(tactic| (k_here; (with_reducible show wpAny _ _ (eval (Expr.Name _ _) (compEnvC _ _ _ _)) _ _ _); k_dflt (refine ld_cell (by k_asm) (by rfl) (by k_mem) (by assumption) ?_)))
local macro_rules | `(tactic| walk_at "call ref") => `(tactic| (k_here; k_dflt ((show wpAny _ _ (call (Value.ref 125) [Value.ref _]) _ _ _); refine' draw_use ?kB ?kF ?kX ?kT ?kk ?kl ?ki ?kn ?kN ?kdp ?kun ?_; (case kB => k_asm); (case kF => k_asm); (case kX => k_asm); (case kT => k_asm); (case kk => first | exact rfl | assumption); (case kl => assumption); (case ki => assumption); (case kn => first | assumption | omega); (case kN => k_asm); (case kdp => walk_at "m room"); (case kun => walk_at "m room"); k_whole; intro d' l' us' xs' sd' td' nd' nl' h' tk' F' N' l1' l2' hI' D'; (try k_fold))))
local macro_rules | `(tactic| walk_at "call ref") => `(tactic| (k_here; k_dflt ((show wpAny _ _ (call (Value.ref 137) [Value.ref _]) _ _ _); refine' groups_use ?kB ?kF ?kX ?kT ?kk ?kN ?kd ?kl ?lt ?kI ?kD ?kdp ?kun ?kU ?kV ?_; (case kB => k_asm); (case kF => k_asm); (case kX => k_asm); (case kT => k_asm); (case kk => first | exact rfl | assumption); (case kN => k_asm); (case kd => k_mem); (case kl => k_mem); (case lt => omega); (case kI => assumption); (case kD => assumption); (case kdp => walk_at "m room"); (case kun => walk_at "m room"); (case kU => (intro _ _ _; k_upd)); (case kV => (intro _ _ _ _ _; k_upd)); k_whole; intro tp' number' tn' b' tb' gs' us' xs' sd' td' nd' nl' h' tk' F' N' l1' hI' D' hg1' hg2' hg3' hg4' hg5' hg6'; (try dsimp only at N'); (try k_fold))))
local macro_rules | `(tactic| walk_at "CompSrc") => `(tactic| (k_here; k_dflt (first
  | (refine LCg.CompSrc.range (n := 12) (by rfl) (by k_asm) (by k_asm) (by assumption) ?sm (rangeSize_up 12) ?hz ?_; (case hz => (simp only [sizeLine_eq]; omega)); (case sm => exact small_one (by omega) (by omega) (by omega) (by omega)); intro g')
  | (refine LCg.CompSrc.range (n := 8) (by rfl) (by k_asm) (by k_asm) (by assumption) ?sm (rangeSize_up 8) ?hz ?_; (case hz => (simp only [sizeLine_eq]; omega)); (case sm => exact small_one (by omega) (by omega) (by omega) (by omega)); intro g')
  | (refine LCg.CompSrc.range (n := 4) (by rfl) (by k_asm) (by k_asm) (by assumption) ?sm (rangeSize_up 4) ?hz ?_; (case hz => (simp only [sizeLine_eq]; omega)); (case sm => exact small_one (by omega) (by omega) (by omega) (by omega)); intro g'))))
section FUsePart
variable {w : World} {p : Program} {loose : List Str} {mean : ExcName → Option Value} {mg mb : Str → Option Value} {dp un : Nat} {gd : Option (List Code)} {cn : Str} {cs : Scope} {a : Addr} {ccd : Value} {cl : List (Str × Addr)} {A₀ : Around} {h₀ : Heap} {L : Addr} {m : Str → Option Value} {s : Shared} {Q E : Value → Shared → Prop}
    {b : Array UInt8} {ks : List Int} {W : Int} {tb ti : Tok} {news : List (Addr × Obj)} {hX : Heap} {cX pX : Addr}
theorem f64_2 (B : Below A₀ h₀ [] h₀) (F : Fr h₀ L s.heap m) (X : (Mine.hd.heap_39 w.params).In h₀) (T : Top p loose mean mg mb h₀) (hk : cs.kind = .function)
    (N : News h₀ L s.heap news) (hb : KBw.bInts b = ks) (hks : ks.length = 12) (hW : KFB.value ((ks.drop 2).take 8).reverse = W) (hCH : CodeHd hX cX pX) (hdp : dp < 800) (hun : un < 8000)
    (hok : ∀ tp t1 t2 h' tk', Fr h₀ L h' m → News h₀ L h' ((tp, { cls := .type "tuple", data := .seq #[.int W t1, .int 10 t2] }) :: news) → (∀ q ∈ news, q.1 < tp) → Q (.ref tp) { s with heap := h', toks := tk' }) :
    wpAny (model PySem.Challenge.rw_au6043_01.row.toRowW.prog w) (ktrTop dp un gd cn cs L a ccd cl []) (call (.ref 144) [.ref 113, .bytes b tb, .int 2 ti]) Q E s := by
  subst hW
  exact read_f64 (i := 2) B F X T hk N hb hks (by decide) hCH hdp hun (fun tp t1 t2 h' tk' _ F' N' l' => hok tp t1 t2 h' tk' F' N' l') fun _ _ _ hn => absurd (by decide) hn
theorem f64_5 (B : Below A₀ h₀ [] h₀) (F : Fr h₀ L s.heap m) (X : (Mine.hd.heap_39 w.params).In h₀) (T : Top p loose mean mg mb h₀) (hk : cs.kind = .function)
    (N : News h₀ L s.heap news) (hb : KBw.bInts b = ks) (hks : ks.length = 12) (hCH : CodeHd hX cX pX) (hdp : dp < 800) (hun : un < 8000)
    (hfew : ∀ t h' tk', Fr h₀ L h' m → News h₀ L h' news → Q (.str (Str.ofString "too few") t) { s with heap := h', toks := tk' }) :
    wpAny (model PySem.Challenge.rw_au6043_01.row.toRowW.prog w) (ktrTop dp un gd cn cs L a ccd cl []) (call (.ref 144) [.ref 113, .bytes b tb, .int 5 ti]) Q E s :=
  read_f64 (i := 5) B F X T hk N hb hks (by decide) hCH hdp hun (fun _ _ _ _ _ hn => absurd hn (by decide)) fun t h' tk' _ F' N' => hfew t h' tk' F' N'
theorem f32_2 (B : Below A₀ h₀ [] h₀) (F : Fr h₀ L s.heap m) (X : (Mine.hd.heap_39 w.params).In h₀) (T : Top p loose mean mg mb h₀) (hk : cs.kind = .function)
    (N : News h₀ L s.heap news) (hb : KBw.bInts b = ks) (hks : ks.length = 12) (hW : KFB.value ((ks.drop 2).take 4).reverse = W) (hCH : CodeHd hX cX pX) (hdp : dp < 800) (hun : un < 8000)
    (hok : ∀ tp t1 t2 h' tk', Fr h₀ L h' m → News h₀ L h' ((tp, { cls := .type "tuple", data := .seq #[.int W t1, .int 6 t2] }) :: news) → (∀ q ∈ news, q.1 < tp) → Q (.ref tp) { s with heap := h', toks := tk' }) :
    wpAny (model PySem.Challenge.rw_au6043_01.row.toRowW.prog w) (ktrTop dp un gd cn cs L a ccd cl []) (call (.ref 144) [.ref 120, .bytes b tb, .int 2 ti]) Q E s := by
  subst hW
  exact read_f32 (i := 2) B F X T hk N hb hks (by decide) hCH hdp hun (fun tp t1 t2 h' tk' _ F' N' l' => hok tp t1 t2 h' tk' F' N' l') fun _ _ _ hn => absurd (by decide) hn
theorem f32_9 (B : Below A₀ h₀ [] h₀) (F : Fr h₀ L s.heap m) (X : (Mine.hd.heap_39 w.params).In h₀) (T : Top p loose mean mg mb h₀) (hk : cs.kind = .function)
    (N : News h₀ L s.heap news) (hb : KBw.bInts b = ks) (hks : ks.length = 12) (hCH : CodeHd hX cX pX) (hdp : dp < 800) (hun : un < 8000)
    (hfew : ∀ t h' tk', Fr h₀ L h' m → News h₀ L h' news → Q (.str (Str.ofString "too few") t) { s with heap := h', toks := tk' }) :
    wpAny (model PySem.Challenge.rw_au6043_01.row.toRowW.prog w) (ktrTop dp un gd cn cs L a ccd cl []) (call (.ref 144) [.ref 120, .bytes b tb, .int 9 ti]) Q E s :=
  read_f32 (i := 9) B F X T hk N hb hks (by decide) hCH hdp hun (fun _ _ _ _ _ hn => absurd hn (by decide)) fun t h' tk' _ F' N' => hfew t h' tk' F' N'
end FUsePart

end PartFUse

section PartPlainFor
local macro_rules | `(tactic| walk_at "m enter") => `(tactic| (refine' code_defS ?k1 ?k2 ?k3 ?k4 ?k5 ?kA ?kF ?kK ?k6 ?k7 ?k8 ?k9 ?kB ?_ ?c2 ?c3 ?c4 ?c5; (case kA => exact rfl); (case kF => exact rfl); (case kK => assumption); (case k1 => k_asm); (case k2 => k_asm); (case k3 => k_asm); (case k4 => k_asm); (case k5 => k_asm); (case k6 => k_is); (case k7 => k_is); (case k8 => ktr_room); (case k9 => exact BindsTo.of_eq rfl); (case c5 => decide); (case kB => exact locs rfl); (case c2 => exact rfl); (case c3 => exact rfl); (case c4 => exact rfl); k_whole; intro g' L' h' FG' F' N' B' X' T'; (try dsimp only); (try k_lift B'); (try k_fold)))
local macro_rules | `(tactic| units_room) => `(tactic| (have hcL' := cLine_is; simp only [units_in1, units_deeper, Around.mark_units]; (try dsimp only [ktrTop]); omega))
local macro_rules | `(tactic| ktr_room) => `(tactic| ((try simp only [depth_in1, depth_deeper]); (try dsimp only [ktrTop]); (try simp only [recursionLimit]); omega))
local macro_rules | `(tactic| k_room) => `(tactic| ktr_room)
local macro_rules | `(tactic| walk_at "eval ListComp") => `(tactic| (k_here; k_dflt (refine LCg.ListComp_U (F₀ := by k_asm) (by rfl) (by decide) (by rfl) (by decide) (by rfl) ?_)))
local macro_rules | `(tactic| walk_at "CompSrc") => `(tactic| (k_here; k_dflt (first
  | (refine LCg.CompSrc.base (by rfl) (by k_asm) (by k_asm) (by assumption) ?hz ?_; (case hz => ((have hL9 := IntsAre.length (by assumption)); simp only [List.size_toArray, sizeLine_eq]; omega)); intro g')
  | (refine LCg.CompSrc.range (by rfl) (by k_asm) (by k_asm) (by assumption) ?sm (rangeSize_up _) ?hz ?_; (case sm => exact small_one (by omega) (by omega) (by omega) (by omega)); (case hz => (simp only [sizeLine_eq]; omega)); intro g'))))
local macro_rules | `(tactic| walk_at "call type:range") => `(tactic| (k_here; k_dflt (refine' range1_rows ?kF ?kN ?_; (case kF => k_asm); (case kN => k_asm); intro h' tk' t1' u1' v1' hR' F' N' hk')))
local macro_rules | `(tactic| walk_at "execs nil") => `(tactic| (with_reducible refine wpAny_execs_nil ?_))
local macro_rules | `(tactic| walk_at "m enterC") => `(tactic| (refine' code_defCS ?k1 ?k2 ?k3 ?k4 ?k5 ?kA ?kF ?kK ?k6 ?k7 ?k8 ?k9 ?kB ?kD ?_ ?c2 ?c3 ?c4; (case kA => exact rfl); (case kF => exact rfl); (case kK => assumption); (case k1 => k_asm); (case k2 => k_asm); (case k3 => k_asm); (case k4 => k_asm); (case k5 => k_asm); (case k6 => k_is); (case k7 => k_is); (case k8 => ktr_room); (case k9 => exact BindsTo.of_eq rfl); (case kB => exact rfl); (case kD => decide +kernel); (case c2 => exact rfl); (case c3 => exact rfl); (case c4 => exact rfl); k_whole; intro g' L' h' tk' cells' FG' F' N' Y' B' X' T' l1; (try k_lt l1); k_cells Y'; (try simp only [List.cons_append, List.nil_append] at N'); (try dsimp only); (try k_lift B'); (try k_fold)))
local macro_rules | `(tactic| walk_at "m step") => `(tactic| ((fail_if_success (with_reducible show wpAny _ _ (exec (Stmt.While _ _ _ _) _) _ _ _)); (fail_if_success (with_reducible show LCg.CompRest _ _ _ _ _ _ _ _ _ _ _ _ _ _ _ _ _ _ _)); (first | (k_unfold; (try dsimp only)) | (k_end; kc_close) | walk1 | (dsimp only; walk1) | (leave1; walk_say "STEP leave1"; (try dsimp only)) | fail "no step")))
local macro_rules | `(tactic| walk_at "m steps") => `(tactic| repeat' ((fail_if_success (with_reducible show wpAny _ _ (exec (Stmt.While _ _ _ _) _) _ _ _)); (fail_if_success (with_reducible show LCg.CompRest _ _ _ _ _ _ _ _ _ _ _ _ _ _ _ _ _ _ _)); (first | (k_unfold; (try dsimp only)) | (k_end; kc_close) | walk1 | (dsimp only; walk1) | (leave1; walk_say "STEP leave1"; (try dsimp only)) | fail "no step")))
local macro_rules | `(tactic| walk_at "m room") => `(tactic| ((try simp only [depth_in1, depth_deeper, units_in1, units_deeper, depth_caller, units_caller]); (try dsimp only [ktrTop]); omega))
local macro_rules | `(tactic| walk_at "binaryOp LShift int int") => `(tactic| (k_here; k_dflt ((refine' lshift_K ?ka ?kb ?kc ?ke ?_); (case ka => first | decide | omega); (case kb => first | decide | omega); (case kc => first | decide | omega); (case ke => ((try simp only [Int.reduceSub, Int.reduceAdd, Int.reduceToNat, Int.reducePow, Int.reduceMul, Int.one_mul]); exact rfl)); k_whole)))
local macro_rules | `(tactic| walk_at "callWith ref") => `(tactic| (k_here; k_dflt (refine' callWith_K ?k1 ?k2 ?_; (case k1 => k_asm); (case k2 => k_is); k_whole)))
local macro_rules | `(tactic| walk_at "m enterT") => `(tactic| (refine' code_defX0 ?k1 ?k2 ?k3 ?k4 ?k5 ?kA ?kF ?kK ?k6 ?k7 ?k8 ?k9 ?kB ?_ ?c2 ?c3 ?c4 ?c5; (case kA => exact rfl); (case kF => exact rfl); (case kK => assumption); (case k1 => k_asm); (case k2 => k_asm); (case k3 => k_asm); (case k4 => k_asm); (case k5 => k_asm); (case k6 => k_is); (case k7 => k_is); (case k8 => ktr_room); (case k9 => exact BindsTo.of_eq rfl); (case c5 => decide); (case kB => exact locs rfl); (case c2 => exact rfl); (case c3 => exact rfl); (case c4 => exact rfl); k_whole; intro g' L' h' FG' F' N' B' X' T' D'; (try dsimp only); (try k_lift B'); (try k_fold)))
local macro_rules | `(tactic| walk_at "call ref") => `(tactic| (k_here; k_dflt ((show wpAny _ _ (call (Value.ref 132) [Value.ref _, Value.int _ _]) _ _ _); refine' take_use ?kB ?kF ?kX ?kT ?kk ?kN ?kd ?kl ?lt ?kI ?kD ?km ?kdp ?kun ?kU ?kV ?_; (case kB => k_asm); (case kF => k_asm); (case kX => k_asm); (case kT => k_asm); (case kk => first | exact rfl | assumption); (case kN => k_asm); (case kd => k_mem); (case kl => k_mem); (case lt => omega); (case kI => assumption); (case kD => assumption); (case km => first | decide | assumption | omega | exact Int.pow_pos (by decide)); (case kdp => walk_at "m room"); (case kun => walk_at "m room"); (case kU => (intro _ _ _; k_upd)); (case kV => (intro _ _ _ _ _; k_upd)); k_whole; intro r' tr' us' xs' sd' td' nd' nl' h' tk' F' N' hI' D' hr0' hr1'; (try dsimp only at N'); (try k_fold))))
local macro_rules | `(tactic| walk_at "eval Name") => `(tactic| (k_here; (with_reducible show wpAny _ _ (eval (Expr.Name _ _) (compEnvC _ _ _ _)) _ _ _); k_dflt (refine ld_cell (by k_asm) (by rfl) (by k_mem) (by assumption) ?_)))
local macro_rules | `(tactic| walk_at "call ref") => `(tactic| (k_here; k_dflt ((show wpAny _ _ (call (Value.ref 125) [Value.ref _]) _ _ _); refine' draw_use ?kB ?kF ?kX ?kT ?kk ?kl ?ki ?kn ?kN ?kdp ?kun ?_; (case kB => k_asm); (case kF => k_asm); (case kX => k_asm); (case kT => k_asm); (case kk => first | exact rfl | assumption); (case kl => assumption); (case ki => assumption); (case kn => first | assumption | omega); (case kN => k_asm); (case kdp => walk_at "m room"); (case kun => walk_at "m room"); k_whole; intro d' l' us' xs' sd' td' nd' nl' h' tk' F' N' l1' l2' hI' D'; (try k_fold))))
local macro_rules | `(tactic| walk_at "call ref") => `(tactic| (k_here; k_dflt ((show wpAny _ _ (call (Value.ref 137) [Value.ref _]) _ _ _); refine' groups_use ?kB ?kF ?kX ?kT ?kk ?kN ?kd ?kl ?lt ?kI ?kD ?kdp ?kun ?kU ?kV ?_; (case kB => k_asm); (case kF => k_asm); (case kX => k_asm); (case kT => k_asm); (case kk => first | exact rfl | assumption); (case kN => k_asm); (case kd => k_mem); (case kl => k_mem); (case lt => omega); (case kI => assumption); (case kD => assumption); (case kdp => walk_at "m room"); (case kun => walk_at "m room"); (case kU => (intro _ _ _; k_upd)); (case kV => (intro _ _ _ _ _; k_upd)); k_whole; intro tp' number' tn' b' tb' gs' us' xs' sd' td' nd' nl' h' tk' F' N' l1' hI' D' hg1' hg2' hg3' hg4' hg5' hg6'; (try dsimp only at N'); (try k_fold))))
local macro_rules | `(tactic| walk_at "CompSrc") => `(tactic| (k_here; k_dflt (first
  | (refine LCg.CompSrc.range (n := 12) (by rfl) (by k_asm) (by k_asm) (by assumption) ?sm (rangeSize_up 12) ?hz ?_; (case hz => (simp only [sizeLine_eq]; omega)); (case sm => exact small_one (by omega) (by omega) (by omega) (by omega)); intro g')
  | (refine LCg.CompSrc.range (n := 8) (by rfl) (by k_asm) (by k_asm) (by assumption) ?sm (rangeSize_up 8) ?hz ?_; (case hz => (simp only [sizeLine_eq]; omega)); (case sm => exact small_one (by omega) (by omega) (by omega) (by omega)); intro g')
  | (refine LCg.CompSrc.range (n := 4) (by rfl) (by k_asm) (by k_asm) (by assumption) ?sm (rangeSize_up 4) ?hz ?_; (case hz => (simp only [sizeLine_eq]; omega)); (case sm => exact small_one (by omega) (by omega) (by omega) (by omega)); intro g'))))
section PlainForPart
inductive Form4 : String → Int → Int → Nat → Int → Int → Prop
  | ui : Form4 "<I" 4 0 4 0 4294967296
  | si : Form4 "<i" 4 1 4 (-2147483648) 2147483648
  | uq : Form4 "<Q" 8 0 8 0 18446744073709551616
  | sq : Form4 "<q" 8 1 8 (-9223372036854775808) 9223372036854775808
theorem Form4.form {fm : String} {mi sg lo hi : Int} {many : Nat} (h : Form4 fm mi sg many lo hi) : Form fm many lo hi := by
  cases h
  · exact .ui
  · exact .si
  · exact .uq
  · exact .sq
def forBody : Option Stmt → List Stmt
  | some (.For _ _ b ..) => b
  | _ => []
def octOf (v : Int) (i : Nat) : Int := v % 2 ^ 64 / 256 ^ i % 256
theorem oct_el {v : Int} {i : Nat} : Builtin.bitAnd ((v.fmod 18446744073709551616).fdiv (2 ^ (8 * (i : Int)).toNat)) 255 = octOf v i := by
  have h : ∀ x : Int, Builtin.bitAnd x 255 = x % 256 := fun x => kbt_mask x 8
  have e : (2 : Int) ^ (8 * (i : Int)).toNat = 256 ^ i := by
    rw [show (8 * (i : Int)).toNat = 8 * i by omega, Int.pow_mul]
    rfl
  have hp : (0 : Int) < 256 ^ i := Int.pow_pos (by decide)
  rw [h, e, Int.fmod_eq_emod_of_nonneg _ (by decide), Int.fdiv_eq_ediv_of_nonneg _ (Int.le_of_lt hp)]
  rfl
theorem octs_in {v : Int} {ts : List Int} (h : ts = (List.range ts.length).map (octOf v)) : KBa.In ts := by
  intro x hx
  rw [h] at hx
  obtain ⟨i, _, rfl⟩ := List.mem_map.mp hx
  unfold octOf
  omega
theorem range4 : List.range 4 = [0, 1, 2, 3] := by decide
theorem range8 : List.range 8 = [0, 1, 2, 3, 4, 5, 6, 7] := by decide
theorem octs_little4 {v : Int} {ts : List Int} (h : ts = (List.range ts.length).map (octOf v)) (hl : ts.length = 4) : ts = KTBy.little 4 (v % 2 ^ 64) := by
  rw [hl, range4] at h
  rw [h]
  simp only [List.map_cons, List.map_nil, octOf, KTBy.little, List.cons.injEq, and_true]
  refine ⟨?_, ?_, ?_, ?_⟩ <;> omega
theorem octs_little8 {v : Int} {ts : List Int} (h : ts = (List.range ts.length).map (octOf v)) (hl : ts.length = 8) : ts = KTBy.little 8 (v % 2 ^ 64) := by
  rw [hl, range8] at h
  rw [h]
  simp only [List.map_cons, List.map_nil, octOf, KTBy.little, List.cons.injEq, and_true]
  refine ⟨?_, ?_, ?_, ?_, ?_, ?_, ?_, ?_⟩ <;> omega
theorem octs_fold4 {v : Int} {ts : List Int} (h : ts = (List.range ts.length).map (octOf v)) (hl : ts.length = 4) : List.foldl (fun a k => a * 256 + k) 0 ts.reverse = v % 4294967296 := by
  rw [hl, range4] at h
  rw [h]
  simp [octOf]
  omega
theorem octs_fold8 {v : Int} {ts : List Int} (h : ts = (List.range ts.length).map (octOf v)) (hl : ts.length = 8) : List.foldl (fun a k => a * 256 + k) 0 ts.reverse = v % 18446744073709551616 := by
  rw [hl, range8] at h
  rw [h]
  simp [octOf]
  omega
end PlainForPart

end PartPlainFor

section PartTurnRest
local macro_rules | `(tactic| walk_at "m enter") => `(tactic| (refine' code_defS ?k1 ?k2 ?k3 ?k4 ?k5 ?kA ?kF ?kK ?k6 ?k7 ?k8 ?k9 ?kB ?_ ?c2 ?c3 ?c4 ?c5; (case kA => exact rfl); (case kF => exact rfl); (case kK => assumption); (case k1 => k_asm); (case k2 => k_asm); (case k3 => k_asm); (case k4 => k_asm); (case k5 => k_asm); (case k6 => k_is); (case k7 => k_is); (case k8 => ktr_room); (case k9 => exact BindsTo.of_eq rfl); (case c5 => decide); (case kB => exact locs rfl); (case c2 => exact rfl); (case c3 => exact rfl); (case c4 => exact rfl); k_whole; intro g' L' h' FG' F' N' B' X' T'; (try dsimp only); (try k_lift B'); (try k_fold)))
local macro_rules | `(tactic| units_room) => `(tactic| (have hcL' := cLine_is; simp only [units_in1, units_deeper, Around.mark_units]; (try dsimp only [ktrTop]); omega))
local macro_rules | `(tactic| ktr_room) => `(tactic| ((try simp only [depth_in1, depth_deeper]); (try dsimp only [ktrTop]); (try simp only [recursionLimit]); omega))
local macro_rules | `(tactic| k_room) => `(tactic| ktr_room)
local macro_rules | `(tactic| walk_at "eval ListComp") => `(tactic| (k_here; k_dflt (refine LCg.ListComp_U (F₀ := by k_asm) (by rfl) (by decide) (by rfl) (by decide) (by rfl) ?_)))
local macro_rules | `(tactic| walk_at "CompSrc") => `(tactic| (k_here; k_dflt (first
  | (refine LCg.CompSrc.base (by rfl) (by k_asm) (by k_asm) (by assumption) ?hz ?_; (case hz => ((have hL9 := IntsAre.length (by assumption)); simp only [List.size_toArray, sizeLine_eq]; omega)); intro g')
  | (refine LCg.CompSrc.range (by rfl) (by k_asm) (by k_asm) (by assumption) ?sm (rangeSize_up _) ?hz ?_; (case sm => exact small_one (by omega) (by omega) (by omega) (by omega)); (case hz => (simp only [sizeLine_eq]; omega)); intro g'))))
local macro_rules | `(tactic| walk_at "call type:range") => `(tactic| (k_here; k_dflt (refine' range1_rows ?kF ?kN ?_; (case kF => k_asm); (case kN => k_asm); intro h' tk' t1' u1' v1' hR' F' N' hk')))
local macro_rules | `(tactic| walk_at "execs nil") => `(tactic| (with_reducible refine wpAny_execs_nil ?_))
local macro_rules | `(tactic| walk_at "m enterC") => `(tactic| (refine' code_defCS ?k1 ?k2 ?k3 ?k4 ?k5 ?kA ?kF ?kK ?k6 ?k7 ?k8 ?k9 ?kB ?kD ?_ ?c2 ?c3 ?c4; (case kA => exact rfl); (case kF => exact rfl); (case kK => assumption); (case k1 => k_asm); (case k2 => k_asm); (case k3 => k_asm); (case k4 => k_asm); (case k5 => k_asm); (case k6 => k_is); (case k7 => k_is); (case k8 => ktr_room); (case k9 => exact BindsTo.of_eq rfl); (case kB => exact rfl); (case kD => decide +kernel); (case c2 => exact rfl); (case c3 => exact rfl); (case c4 => exact rfl); k_whole; intro g' L' h' tk' cells' FG' F' N' Y' B' X' T' l1; (try k_lt l1); k_cells Y'; (try simp only [List.cons_append, List.nil_append] at N'); (try dsimp only); (try k_lift B'); (try k_fold)))
local macro_rules | `(tactic| walk_at "m step") => `(tactic| ((fail_if_success (with_reducible show wpAny _ _ (exec (Stmt.While _ _ _ _) _) _ _ _)); (fail_if_success (with_reducible show LCg.CompRest _ _ _ _ _ _ _ _ _ _ _ _ _ _ _ _ _ _ _)); (first | (k_unfold; (try dsimp only)) | (k_end; kc_close) | walk1 | (dsimp only; walk1) | (leave1; walk_say "STEP leave1"; (try dsimp only)) | fail "no step")))
local macro_rules | `(tactic| walk_at "m steps") => `(tactic| repeat' ((fail_if_success (with_reducible show wpAny _ _ (exec (Stmt.While _ _ _ _) _) _ _ _)); (fail_if_success (with_reducible show LCg.CompRest _ _ _ _ _ _ _ _ _ _ _ _ _ _ _ _ _ _ _)); (first | (k_unfold; (try dsimp only)) | (k_end; kc_close) | walk1 | (dsimp only; walk1) | (leave1; walk_say "STEP leave1"; (try dsimp only)) | fail "no step")))
local macro_rules | `(tactic| walk_at "m room") => `(tactic| ((try simp only [depth_in1, depth_deeper, units_in1, units_deeper, depth_caller, units_caller]); (try dsimp only [ktrTop]); omega))
local macro_rules | `(tactic| walk_at "binaryOp LShift int int") => `(tactic| (k_here; k_dflt ((refine' lshift_K ?ka ?kb ?kc ?ke ?_); (case ka => first | decide | omega); (case kb => first | decide | omega); (case kc => first | decide | omega); (case ke => ((try simp only [Int.reduceSub, Int.reduceAdd, Int.reduceToNat, Int.reducePow, Int.reduceMul, Int.one_mul]); exact rfl)); k_whole)))
local macro_rules | `(tactic| walk_at "callWith ref") => `(tactic| (k_here; k_dflt (refine' callWith_K ?k1 ?k2 ?_; (case k1 => k_asm); (case k2 => k_is); k_whole)))
local macro_rules | `(tactic| walk_at "m enterT") => `(tactic| (refine' code_defX0 ?k1 ?k2 ?k3 ?k4 ?k5 ?kA ?kF ?kK ?k6 ?k7 ?k8 ?k9 ?kB ?_ ?c2 ?c3 ?c4 ?c5; (case kA => exact rfl); (case kF => exact rfl); (case kK => assumption); (case k1 => k_asm); (case k2 => k_asm); (case k3 => k_asm); (case k4 => k_asm); (case k5 => k_asm); (case k6 => k_is); (case k7 => k_is); (case k8 => ktr_room); (case k9 => exact BindsTo.of_eq rfl); (case c5 => decide); (case kB => exact locs rfl); (case c2 => exact rfl); (case c3 => exact rfl); (case c4 => exact rfl); k_whole; intro g' L' h' FG' F' N' B' X' T' D'; (try dsimp only); (try k_lift B'); (try k_fold)))
local macro_rules | `(tactic| walk_at "call ref") => `(tactic| (k_here; k_dflt ((show wpAny _ _ (call (Value.ref 132) [Value.ref _, Value.int _ _]) _ _ _); refine' take_use ?kB ?kF ?kX ?kT ?kk ?kN ?kd ?kl ?lt ?kI ?kD ?km ?kdp ?kun ?kU ?kV ?_; (case kB => k_asm); (case kF => k_asm); (case kX => k_asm); (case kT => k_asm); (case kk => first | exact rfl | assumption); (case kN => k_asm); (case kd => k_mem); (case kl => k_mem); (case lt => omega); (case kI => assumption); (case kD => assumption); (case km => first | decide | assumption | omega | exact Int.pow_pos (by decide)); (case kdp => walk_at "m room"); (case kun => walk_at "m room"); (case kU => (intro _ _ _; k_upd)); (case kV => (intro _ _ _ _ _; k_upd)); k_whole; intro r' tr' us' xs' sd' td' nd' nl' h' tk' F' N' hI' D' hr0' hr1'; (try dsimp only at N'); (try k_fold))))
local macro_rules | `(tactic| walk_at "eval Name") => `(tactic| (k_here; (with_reducible show wpAny _ _ (eval (Expr.Name _ _) (compEnvC _ _ _ _)) _ _ _); k_dflt (refine ld_cell (by k_asm) (by rfl) (by k_mem) (by assumption) ?_)))
local macro_rules | `(tactic| walk_at "call ref") => `(tactic| (k_here; k_dflt ((show wpAny _ _ (call (Value.ref 125) [Value.ref _]) _ _ _); refine' draw_use ?kB ?kF ?kX ?kT ?kk ?kl ?ki ?kn ?kN ?kdp ?kun ?_; (case kB => k_asm); (case kF => k_asm); (case kX => k_asm); (case kT => k_asm); (case kk => first | exact rfl | assumption); (case kl => assumption); (case ki => assumption); (case kn => first | assumption | omega); (case kN => k_asm); (case kdp => walk_at "m room"); (case kun => walk_at "m room"); k_whole; intro d' l' us' xs' sd' td' nd' nl' h' tk' F' N' l1' l2' hI' D'; (try k_fold))))
local macro_rules | `(tactic| walk_at "call ref") => `(tactic| (k_here; k_dflt ((show wpAny _ _ (call (Value.ref 137) [Value.ref _]) _ _ _); refine' groups_use ?kB ?kF ?kX ?kT ?kk ?kN ?kd ?kl ?lt ?kI ?kD ?kdp ?kun ?kU ?kV ?_; (case kB => k_asm); (case kF => k_asm); (case kX => k_asm); (case kT => k_asm); (case kk => first | exact rfl | assumption); (case kN => k_asm); (case kd => k_mem); (case kl => k_mem); (case lt => omega); (case kI => assumption); (case kD => assumption); (case kdp => walk_at "m room"); (case kun => walk_at "m room"); (case kU => (intro _ _ _; k_upd)); (case kV => (intro _ _ _ _ _; k_upd)); k_whole; intro tp' number' tn' b' tb' gs' us' xs' sd' td' nd' nl' h' tk' F' N' l1' hI' D' hg1' hg2' hg3' hg4' hg5' hg6'; (try dsimp only at N'); (try k_fold))))
local macro_rules | `(tactic| walk_at "CompSrc") => `(tactic| (k_here; k_dflt (first
  | (refine LCg.CompSrc.range (n := 12) (by rfl) (by k_asm) (by k_asm) (by assumption) ?sm (rangeSize_up 12) ?hz ?_; (case hz => (simp only [sizeLine_eq]; omega)); (case sm => exact small_one (by omega) (by omega) (by omega) (by omega)); intro g')
  | (refine LCg.CompSrc.range (n := 8) (by rfl) (by k_asm) (by k_asm) (by assumption) ?sm (rangeSize_up 8) ?hz ?_; (case hz => (simp only [sizeLine_eq]; omega)); (case sm => exact small_one (by omega) (by omega) (by omega) (by omega)); intro g')
  | (refine LCg.CompSrc.range (n := 4) (by rfl) (by k_asm) (by k_asm) (by assumption) ?sm (rangeSize_up 4) ?hz ?_; (case hz => (simp only [sizeLine_eq]; omega)); (case sm => exact small_one (by omega) (by omega) (by omega) (by omega)); intro g'))))
section TurnRestPart
local macro_rules | `(tactic| walk_at "call ref") => `(tactic| (k_here; k_dflt ((with_reducible show wpAny _ _ (call (Value.ref 151) [Value.str _ _, Value.int _ _]) _ _ _); refine' packed_is ?kfm ?k0 ?k1 ?kT ?kB ?kF ?kX ?kTp ?kk ?kN ?kC ?kdp ?kun ?_; (case kfm => assumption); (case k0 => omega); (case k1 => omega); (case kT => assumption); (case kB => k_asm); (case kF => k_asm); (case kX => k_asm); (case kTp => k_asm); (case kk => exact rfl); (case kN => k_asm); (case kC => assumption); (case kdp => walk_at "m room"); (case kun => walk_at "m room"); k_whole; intro t9' h' tk' F' N'; (try k_fold))))
local macro_rules | `(tactic| walk_at "call ref") => `(tactic| (k_here; k_dflt ((with_reducible show wpAny _ _ (call (Value.ref 151) [Value.str _ _, Value.int _ _]) _ _ _); refine' packed_no ?kfm ?kn ?kB ?kF ?kX ?kTp ?kk ?kN ?kC ?kdp ?kun ?_; (case kfm => assumption); (case kn => omega); (case kB => k_asm); (case kF => k_asm); (case kX => k_asm); (case kTp => k_asm); (case kk => exact rfl); (case kN => k_asm); (case kC => assumption); (case kdp => walk_at "m room"); (case kun => walk_at "m room"); k_whole; intro h' tk' F' N'; (try k_fold))))
local macro_rules | `(tactic| walk_at "binaryOp RShift int int") => `(tactic| (k_here; (with_reducible show wpAny _ _ (binaryOp Operator.RShift (Value.int _ _) (Value.int _ _)) _ _ _); k_dflt (refine rshift_int (by omega) ?_)))
local macro_rules | `(tactic| walk_at "m sub") => `(tactic| (refine cb_drop (by assumption) ?_; intro p hp; (iterate 11 (rcases hp with _ | ⟨_, hp⟩; (focus k_mem))); cases hp))
local macro_rules | `(tactic| walk_at "m stepsV") => `(tactic| repeat' ((fail_if_success (with_reducible show wpAny _ _ (storeName _ (Str.ofString "value") _) _ _ _)); walk_at "m step"))
local macro_rules | `(tactic| walk_at "m stepsC") => `(tactic| repeat' ((fail_if_success (with_reducible show LCg.CompEnd _ _ _ _ _ _ _ _ _ _ _ _ _ _)); walk_at "m step"))
theorem turn_rest {w : World} {p : Program} {loose : List Str} {mean : ExcName → Option Value} {mg mb : Str → Option Value} {h₀ : Heap} {L fa : Addr} {cd : Value} {m : Str → Option Value} {s : Shared} {Q : Flow → Shared → Prop} {E : Value → Shared → Prop}
    {sc : Scope} {body : List Stmt} {d l a0 a1 a2 a3 a4 a5 : Addr} {o0 o1 o2 o3 o4 o5 : Obj} {nd nl : Nat} {us : List Value} {xs : List Int} {seed number : Int} {t1 tn tf tm ts : Tok} {oR oV oD : Obj} {vR vV : Option Value} {fm : String} {mi sg lo hi : Int} {many : Nat} {v : Int} {tv th : Tok} {b : Bool}
    (hfm : Form4 fm mi sg many lo hi) (hb : b = decide (lo ≤ v ∧ v < hi))
    (hS : defScope (topStmt "law") = some sc) (hBd : (forBody (defBody (topStmt "law"))[14]?).drop 3 = body)
    (B : Below callerA h₀ [] h₀) (F : Fr h₀ L s.heap (fun y => if y = Str.ofString "fits" then some (.bool b) else if y = Str.ofString "high" then some (.int hi th) else if y = Str.ofString "sign" then some (.int sg ts) else if y = Str.ofString "many" then some (.int mi tm) else if y = Str.ofString "form" then some (.str (Str.ofString fm) tf) else if y = Str.ofString "number" then some (.int number tn) else m y))
    (X : (Mine.hd.heap_39 w.params).In h₀) (T : Top p loose mean mg mb h₀)
    (N : News h₀ L s.heap [(a0, o0), (a1, o1), (a2, o2), (a3, o3), (a4, o4), (a5, o5), (d, listOf #[.ref l, .int seed t1] nd), (l, listOf us.toArray nl), (L + 1 + 1 + 1, oR), (L + 1 + 1, oV), (L + 1, oD)])
    (hoV : oV.data = .cell (some (.int v tv))) (hoR : oR.data = .cell vR) (hoD : oD.data = .cell (some (.ref d))) (hlt : @LT.lt Nat _ l d) (hlt2 : @LT.lt Nat _ (L + 1 + 1 + 1) l)
    (h5 : @LT.lt Nat _ d a5) (h4 : @LT.lt Nat _ a5 a4) (h3 : @LT.lt Nat _ a4 a3) (h2 : @LT.lt Nat _ a3 a2) (h1 : @LT.lt Nat _ a2 a1) (h0 : @LT.lt Nat _ a1 a0)
    (hI : IntsAre us xs) (D : DrawOk xs seed)
    {hX : Heap} {cX pX : Addr} (hCH : CodeHd hX cX pX)
    (hQ : ∀ m' us' xs' seed' t1' nd' nl' oV' vV' h' tk', m' (Str.ofString "number") = some (.int number tn) → Fr h₀ L h' m' →
      News h₀ L h' [(a0, o0), (a1, o1), (a2, o2), (a3, o3), (a4, o4), (a5, o5), (d, listOf #[.ref l, .int seed' t1'] nd'), (l, listOf (List.toArray us') nl'), (L + 1 + 1 + 1, oR), (L + 1 + 1, oV'), (L + 1, oD)] → oV'.data = .cell vV' → IntsAre us' xs' → DrawOk xs' seed' → Q .next { s with heap := h', toks := tk' }) :
    wpAny (model PySem.Challenge.rw_au6043_01.row.toRowW.prog w) (callerA.deeper (envOfC (Str.ofString "law") sc L fa cd)) (execs body (envOfC (Str.ofString "law") sc L fa cd)) Q E s := by
  w_top off
  revert X; k_fill; intro X
  conv at hS => lhs; whnf
  cases hS
  conv at hBd => lhs; whnf
  subst hBd
  have hfm3 := hfm.form
  cases hfm
  case ui =>
    walk_at "m steps"
    refine rest_inv (CInv _ fun ts => ts = (List.range ts.length).map (octOf v)) ?step2 ?fin2 _ 0 [] _ (Nat.zero_add _) ⟨rfl, [], .nil, rfl, rfl⟩
    case step2 =>
      rintro i ys news hi ⟨rfl, ts, hts, htl, hP⟩ v I oI C oC D m₂ h9 tk9 E9 hv hC hx F9 N9 off9 ne9
      obtain ⟨t9, rfl⟩ := hv
      have off10 := off9
      simp only [LCg.Off3, and_true] at off9
      simp only [Int.zero_add] at hx
      walk_at "m stepsC"
      exact LCg.CompEnd.intro (by assumption) (by assumption) _ (fun _ hp => hp) off10 trivial ⟨rfl, _, ints_snoc hts _ _, by simp [htl], map_next _ hP htl oct_el⟩
    case fin2 =>
      rintro ys news ⟨rfl, ts, hts, htl, hP⟩
      have hIn : KBa.In ts := octs_in hP
      have hrow : KBw.bInts (byteArr ts) = ts := KBa.ints_make hIn
      have hT : ts = KTBy.little 4 (v % 2 ^ 64) := octs_little4 hP htl
      have hfold := octs_fold4 hP htl
      cases b
      · have hb9 := of_decide_eq_false hb.symm
        walk_at "m steps"
        all_goals first
          | exact hQ _ _ _ _ _ _ _ _ _ _ _ rfl (by assumption) (by walk_at "m sub") hoV hI D
          | skip
      · obtain ⟨hb8, hb9⟩ := of_decide_eq_true hb.symm
        walk_at "m steps"
        all_goals first
          | exact hQ _ _ _ _ _ _ _ _ _ _ _ rfl (by assumption) (by walk_at "m sub") hoV hI D
          | (exfalso; omega)
          | (exfalso; rename (_ != _) = true => a9; simp at a9; done)
          | skip
  case si =>
    walk_at "m steps"
    refine rest_inv (CInv _ fun ts => ts = (List.range ts.length).map (octOf v)) ?step2 ?fin2 _ 0 [] _ (Nat.zero_add _) ⟨rfl, [], .nil, rfl, rfl⟩
    case step2 =>
      rintro i ys news hi ⟨rfl, ts, hts, htl, hP⟩ v I oI C oC D m₂ h9 tk9 E9 hv hC hx F9 N9 off9 ne9
      obtain ⟨t9, rfl⟩ := hv
      have off10 := off9
      simp only [LCg.Off3, and_true] at off9
      simp only [Int.zero_add] at hx
      walk_at "m stepsC"
      exact LCg.CompEnd.intro (by assumption) (by assumption) _ (fun _ hp => hp) off10 trivial ⟨rfl, _, ints_snoc hts _ _, by simp [htl], map_next _ hP htl oct_el⟩
    case fin2 =>
      rintro ys news ⟨rfl, ts, hts, htl, hP⟩
      have hIn : KBa.In ts := octs_in hP
      have hrow : KBw.bInts (byteArr ts) = ts := KBa.ints_make hIn
      have hT : ts = KTBy.little 4 (v % 2 ^ 64) := octs_little4 hP htl
      have hfold := octs_fold4 hP htl
      cases b
      · have hb9 := of_decide_eq_false hb.symm
        walk_at "m steps"
        all_goals first
          | exact hQ _ _ _ _ _ _ _ _ _ _ _ rfl (by assumption) (by walk_at "m sub") hoV hI D
          | skip
      · obtain ⟨hb8, hb9⟩ := of_decide_eq_true hb.symm
        walk_at "m steps"
        all_goals first
          | exact hQ _ _ _ _ _ _ _ _ _ _ _ rfl (by assumption) (by walk_at "m sub") hoV hI D
          | (exfalso; omega)
          | (exfalso; rename (_ != _) = true => a9; simp at a9; done)
          | skip
  case uq =>
    walk_at "m steps"
    refine rest_inv (CInv _ fun ts => ts = (List.range ts.length).map (octOf v)) ?step2 ?fin2 _ 0 [] _ (Nat.zero_add _) ⟨rfl, [], .nil, rfl, rfl⟩
    case step2 =>
      rintro i ys news hi ⟨rfl, ts, hts, htl, hP⟩ v I oI C oC D m₂ h9 tk9 E9 hv hC hx F9 N9 off9 ne9
      obtain ⟨t9, rfl⟩ := hv
      have off10 := off9
      simp only [LCg.Off3, and_true] at off9
      simp only [Int.zero_add] at hx
      walk_at "m stepsC"
      exact LCg.CompEnd.intro (by assumption) (by assumption) _ (fun _ hp => hp) off10 trivial ⟨rfl, _, ints_snoc hts _ _, by simp [htl], map_next _ hP htl oct_el⟩
    case fin2 =>
      rintro ys news ⟨rfl, ts, hts, htl, hP⟩
      have hIn : KBa.In ts := octs_in hP
      have hrow : KBw.bInts (byteArr ts) = ts := KBa.ints_make hIn
      have hT : ts = KTBy.little 8 (v % 2 ^ 64) := octs_little8 hP htl
      have hfold := octs_fold8 hP htl
      cases b
      · have hb9 := of_decide_eq_false hb.symm
        walk_at "m steps"
        all_goals first
          | exact hQ _ _ _ _ _ _ _ _ _ _ _ rfl (by assumption) (by walk_at "m sub") hoV hI D
          | skip
      · obtain ⟨hb8, hb9⟩ := of_decide_eq_true hb.symm
        walk_at "m steps"
        all_goals first
          | exact hQ _ _ _ _ _ _ _ _ _ _ _ rfl (by assumption) (by walk_at "m sub") hoV hI D
          | (exfalso; omega)
          | (exfalso; rename (_ != _) = true => a9; simp at a9; done)
          | skip
  case sq =>
    walk_at "m steps"
    refine rest_inv (CInv _ fun ts => ts = (List.range ts.length).map (octOf v)) ?step2 ?fin2 _ 0 [] _ (Nat.zero_add _) ⟨rfl, [], .nil, rfl, rfl⟩
    case step2 =>
      rintro i ys news hi ⟨rfl, ts, hts, htl, hP⟩ v I oI C oC D m₂ h9 tk9 E9 hv hC hx F9 N9 off9 ne9
      obtain ⟨t9, rfl⟩ := hv
      have off10 := off9
      simp only [LCg.Off3, and_true] at off9
      simp only [Int.zero_add] at hx
      walk_at "m stepsC"
      exact LCg.CompEnd.intro (by assumption) (by assumption) _ (fun _ hp => hp) off10 trivial ⟨rfl, _, ints_snoc hts _ _, by simp [htl], map_next _ hP htl oct_el⟩
    case fin2 =>
      rintro ys news ⟨rfl, ts, hts, htl, hP⟩
      have hIn : KBa.In ts := octs_in hP
      have hrow : KBw.bInts (byteArr ts) = ts := KBa.ints_make hIn
      have hT : ts = KTBy.little 8 (v % 2 ^ 64) := octs_little8 hP htl
      have hfold := octs_fold8 hP htl
      cases b
      · have hb9 := of_decide_eq_false hb.symm
        walk_at "m steps"
        all_goals first
          | exact hQ _ _ _ _ _ _ _ _ _ _ _ rfl (by assumption) (by walk_at "m sub") hoV hI D
          | skip
      · obtain ⟨hb8, hb9⟩ := of_decide_eq_true hb.symm
        walk_at "m steps"
        all_goals first
          | exact hQ _ _ _ _ _ _ _ _ _ _ _ rfl (by assumption) (by walk_at "m sub") hoV hI D
          | (exfalso; omega)
          | (exfalso; rename (_ != _) = true => a9; simp at a9; done)
          | skip
end TurnRestPart

end PartTurnRest

section PartLawTurn
local macro_rules | `(tactic| walk_at "m enter") => `(tactic| (refine' code_defS ?k1 ?k2 ?k3 ?k4 ?k5 ?kA ?kF ?kK ?k6 ?k7 ?k8 ?k9 ?kB ?_ ?c2 ?c3 ?c4 ?c5; (case kA => exact rfl); (case kF => exact rfl); (case kK => assumption); (case k1 => k_asm); (case k2 => k_asm); (case k3 => k_asm); (case k4 => k_asm); (case k5 => k_asm); (case k6 => k_is); (case k7 => k_is); (case k8 => ktr_room); (case k9 => exact BindsTo.of_eq rfl); (case c5 => decide); (case kB => exact locs rfl); (case c2 => exact rfl); (case c3 => exact rfl); (case c4 => exact rfl); k_whole; intro g' L' h' FG' F' N' B' X' T'; (try dsimp only); (try k_lift B'); (try k_fold)))
local macro_rules | `(tactic| units_room) => `(tactic| (have hcL' := cLine_is; simp only [units_in1, units_deeper, Around.mark_units]; (try dsimp only [ktrTop]); omega))
local macro_rules | `(tactic| ktr_room) => `(tactic| ((try simp only [depth_in1, depth_deeper]); (try dsimp only [ktrTop]); (try simp only [recursionLimit]); omega))
local macro_rules | `(tactic| k_room) => `(tactic| ktr_room)
local macro_rules | `(tactic| walk_at "eval ListComp") => `(tactic| (k_here; k_dflt (refine LCg.ListComp_U (F₀ := by k_asm) (by rfl) (by decide) (by rfl) (by decide) (by rfl) ?_)))
local macro_rules | `(tactic| walk_at "CompSrc") => `(tactic| (k_here; k_dflt (first
  | (refine LCg.CompSrc.base (by rfl) (by k_asm) (by k_asm) (by assumption) ?hz ?_; (case hz => ((have hL9 := IntsAre.length (by assumption)); simp only [List.size_toArray, sizeLine_eq]; omega)); intro g')
  | (refine LCg.CompSrc.range (by rfl) (by k_asm) (by k_asm) (by assumption) ?sm (rangeSize_up _) ?hz ?_; (case sm => exact small_one (by omega) (by omega) (by omega) (by omega)); (case hz => (simp only [sizeLine_eq]; omega)); intro g'))))
local macro_rules | `(tactic| walk_at "call type:range") => `(tactic| (k_here; k_dflt (refine' range1_rows ?kF ?kN ?_; (case kF => k_asm); (case kN => k_asm); intro h' tk' t1' u1' v1' hR' F' N' hk')))
local macro_rules | `(tactic| walk_at "execs nil") => `(tactic| (with_reducible refine wpAny_execs_nil ?_))
local macro_rules | `(tactic| walk_at "m enterC") => `(tactic| (refine' code_defCS ?k1 ?k2 ?k3 ?k4 ?k5 ?kA ?kF ?kK ?k6 ?k7 ?k8 ?k9 ?kB ?kD ?_ ?c2 ?c3 ?c4; (case kA => exact rfl); (case kF => exact rfl); (case kK => assumption); (case k1 => k_asm); (case k2 => k_asm); (case k3 => k_asm); (case k4 => k_asm); (case k5 => k_asm); (case k6 => k_is); (case k7 => k_is); (case k8 => ktr_room); (case k9 => exact BindsTo.of_eq rfl); (case kB => exact rfl); (case kD => decide +kernel); (case c2 => exact rfl); (case c3 => exact rfl); (case c4 => exact rfl); k_whole; intro g' L' h' tk' cells' FG' F' N' Y' B' X' T' l1; (try k_lt l1); k_cells Y'; (try simp only [List.cons_append, List.nil_append] at N'); (try dsimp only); (try k_lift B'); (try k_fold)))
local macro_rules | `(tactic| walk_at "m step") => `(tactic| ((fail_if_success (with_reducible show wpAny _ _ (exec (Stmt.While _ _ _ _) _) _ _ _)); (fail_if_success (with_reducible show LCg.CompRest _ _ _ _ _ _ _ _ _ _ _ _ _ _ _ _ _ _ _)); (first | (k_unfold; (try dsimp only)) | (k_end; kc_close) | walk1 | (dsimp only; walk1) | (leave1; walk_say "STEP leave1"; (try dsimp only)) | fail "no step")))
local macro_rules | `(tactic| walk_at "m steps") => `(tactic| repeat' ((fail_if_success (with_reducible show wpAny _ _ (exec (Stmt.While _ _ _ _) _) _ _ _)); (fail_if_success (with_reducible show LCg.CompRest _ _ _ _ _ _ _ _ _ _ _ _ _ _ _ _ _ _ _)); (first | (k_unfold; (try dsimp only)) | (k_end; kc_close) | walk1 | (dsimp only; walk1) | (leave1; walk_say "STEP leave1"; (try dsimp only)) | fail "no step")))
local macro_rules | `(tactic| walk_at "m room") => `(tactic| ((try simp only [depth_in1, depth_deeper, units_in1, units_deeper, depth_caller, units_caller]); (try dsimp only [ktrTop]); omega))
local macro_rules | `(tactic| walk_at "binaryOp LShift int int") => `(tactic| (k_here; k_dflt ((refine' lshift_K ?ka ?kb ?kc ?ke ?_); (case ka => first | decide | omega); (case kb => first | decide | omega); (case kc => first | decide | omega); (case ke => ((try simp only [Int.reduceSub, Int.reduceAdd, Int.reduceToNat, Int.reducePow, Int.reduceMul, Int.one_mul]); exact rfl)); k_whole)))
local macro_rules | `(tactic| walk_at "callWith ref") => `(tactic| (k_here; k_dflt (refine' callWith_K ?k1 ?k2 ?_; (case k1 => k_asm); (case k2 => k_is); k_whole)))
local macro_rules | `(tactic| walk_at "m enterT") => `(tactic| (refine' code_defX0 ?k1 ?k2 ?k3 ?k4 ?k5 ?kA ?kF ?kK ?k6 ?k7 ?k8 ?k9 ?kB ?_ ?c2 ?c3 ?c4 ?c5; (case kA => exact rfl); (case kF => exact rfl); (case kK => assumption); (case k1 => k_asm); (case k2 => k_asm); (case k3 => k_asm); (case k4 => k_asm); (case k5 => k_asm); (case k6 => k_is); (case k7 => k_is); (case k8 => ktr_room); (case k9 => exact BindsTo.of_eq rfl); (case c5 => decide); (case kB => exact locs rfl); (case c2 => exact rfl); (case c3 => exact rfl); (case c4 => exact rfl); k_whole; intro g' L' h' FG' F' N' B' X' T' D'; (try dsimp only); (try k_lift B'); (try k_fold)))
local macro_rules | `(tactic| walk_at "call ref") => `(tactic| (k_here; k_dflt ((show wpAny _ _ (call (Value.ref 132) [Value.ref _, Value.int _ _]) _ _ _); refine' take_use ?kB ?kF ?kX ?kT ?kk ?kN ?kd ?kl ?lt ?kI ?kD ?km ?kdp ?kun ?kU ?kV ?_; (case kB => k_asm); (case kF => k_asm); (case kX => k_asm); (case kT => k_asm); (case kk => first | exact rfl | assumption); (case kN => k_asm); (case kd => k_mem); (case kl => k_mem); (case lt => omega); (case kI => assumption); (case kD => assumption); (case km => first | decide | assumption | omega | exact Int.pow_pos (by decide)); (case kdp => walk_at "m room"); (case kun => walk_at "m room"); (case kU => (intro _ _ _; k_upd)); (case kV => (intro _ _ _ _ _; k_upd)); k_whole; intro r' tr' us' xs' sd' td' nd' nl' h' tk' F' N' hI' D' hr0' hr1'; (try dsimp only at N'); (try k_fold))))
local macro_rules | `(tactic| walk_at "eval Name") => `(tactic| (k_here; (with_reducible show wpAny _ _ (eval (Expr.Name _ _) (compEnvC _ _ _ _)) _ _ _); k_dflt (refine ld_cell (by k_asm) (by rfl) (by k_mem) (by assumption) ?_)))
local macro_rules | `(tactic| walk_at "call ref") => `(tactic| (k_here; k_dflt ((show wpAny _ _ (call (Value.ref 125) [Value.ref _]) _ _ _); refine' draw_use ?kB ?kF ?kX ?kT ?kk ?kl ?ki ?kn ?kN ?kdp ?kun ?_; (case kB => k_asm); (case kF => k_asm); (case kX => k_asm); (case kT => k_asm); (case kk => first | exact rfl | assumption); (case kl => assumption); (case ki => assumption); (case kn => first | assumption | omega); (case kN => k_asm); (case kdp => walk_at "m room"); (case kun => walk_at "m room"); k_whole; intro d' l' us' xs' sd' td' nd' nl' h' tk' F' N' l1' l2' hI' D'; (try k_fold))))
local macro_rules | `(tactic| walk_at "call ref") => `(tactic| (k_here; k_dflt ((show wpAny _ _ (call (Value.ref 137) [Value.ref _]) _ _ _); refine' groups_use ?kB ?kF ?kX ?kT ?kk ?kN ?kd ?kl ?lt ?kI ?kD ?kdp ?kun ?kU ?kV ?_; (case kB => k_asm); (case kF => k_asm); (case kX => k_asm); (case kT => k_asm); (case kk => first | exact rfl | assumption); (case kN => k_asm); (case kd => k_mem); (case kl => k_mem); (case lt => omega); (case kI => assumption); (case kD => assumption); (case kdp => walk_at "m room"); (case kun => walk_at "m room"); (case kU => (intro _ _ _; k_upd)); (case kV => (intro _ _ _ _ _; k_upd)); k_whole; intro tp' number' tn' b' tb' gs' us' xs' sd' td' nd' nl' h' tk' F' N' l1' hI' D' hg1' hg2' hg3' hg4' hg5' hg6'; (try dsimp only at N'); (try k_fold))))
local macro_rules | `(tactic| walk_at "CompSrc") => `(tactic| (k_here; k_dflt (first
  | (refine LCg.CompSrc.range (n := 12) (by rfl) (by k_asm) (by k_asm) (by assumption) ?sm (rangeSize_up 12) ?hz ?_; (case hz => (simp only [sizeLine_eq]; omega)); (case sm => exact small_one (by omega) (by omega) (by omega) (by omega)); intro g')
  | (refine LCg.CompSrc.range (n := 8) (by rfl) (by k_asm) (by k_asm) (by assumption) ?sm (rangeSize_up 8) ?hz ?_; (case hz => (simp only [sizeLine_eq]; omega)); (case sm => exact small_one (by omega) (by omega) (by omega) (by omega)); intro g')
  | (refine LCg.CompSrc.range (n := 4) (by rfl) (by k_asm) (by k_asm) (by assumption) ?sm (rangeSize_up 4) ?hz ?_; (case hz => (simp only [sizeLine_eq]; omega)); (case sm => exact small_one (by omega) (by omega) (by omega) (by omega)); intro g'))))
section LawTurnPart
local macro_rules | `(tactic| walk_at "m stepsV") => `(tactic| repeat' ((fail_if_success (with_reducible show wpAny _ _ (storeName _ (Str.ofString "value") _) _ _ _)); walk_at "m step"))
local macro_rules | `(tactic| walk_at "m stepsB") => `(tactic| repeat' ((fail_if_success (with_reducible show wpAny _ _ (execs (Stmt.Assign [Expr.Name (Str.ofString "told") _] _ _ :: _) _) _ _ _)); walk_at "m step"))
theorem law_turn {w : World} {p : Program} {loose : List Str} {mean : ExcName → Option Value} {mg mb : Str → Option Value} {h₀ : Heap} {L fa : Addr} {cd : Value} {m : Str → Option Value} {s : Shared} {Q : Flow → Shared → Prop} {E : Value → Shared → Prop}
    {sc : Scope} {body : List Stmt} {d l a0 a1 a2 a3 a4 a5 : Addr} {o0 o1 o2 o3 o4 o5 : Obj} {nd nl : Nat} {us : List Value} {xs : List Int} {seed number : Int} {t1 tn tf tm ts : Tok} {oR oV oD : Obj} {vR vV : Option Value} {fm : String} {mi sg lo hi : Int} {many : Nat}
    (hfm : Form4 fm mi sg many lo hi)
    (hS : defScope (topStmt "law") = some sc) (hBd : forBody (defBody (topStmt "law"))[14]? = body)
    (B : Below callerA h₀ [] h₀) (F : Fr h₀ L s.heap (fun y => if y = Str.ofString "sign" then some (.int sg ts) else if y = Str.ofString "many" then some (.int mi tm) else if y = Str.ofString "form" then some (.str (Str.ofString fm) tf) else if y = Str.ofString "number" then some (.int number tn) else m y))
    (X : (Mine.hd.heap_39 w.params).In h₀) (T : Top p loose mean mg mb h₀)
    (N : News h₀ L s.heap [(a0, o0), (a1, o1), (a2, o2), (a3, o3), (a4, o4), (a5, o5), (d, listOf #[.ref l, .int seed t1] nd), (l, listOf us.toArray nl), (L + 1 + 1 + 1, oR), (L + 1 + 1, oV), (L + 1, oD)])
    (hoV : oV.data = .cell vV) (hoR : oR.data = .cell vR) (hoD : oD.data = .cell (some (.ref d))) (hlt : @LT.lt Nat _ l d) (hlt2 : @LT.lt Nat _ (L + 1 + 1 + 1) l)
    (h5 : @LT.lt Nat _ d a5) (h4 : @LT.lt Nat _ a5 a4) (h3 : @LT.lt Nat _ a4 a3) (h2 : @LT.lt Nat _ a3 a2) (h1 : @LT.lt Nat _ a2 a1) (h0 : @LT.lt Nat _ a1 a0)
    (hI : IntsAre us xs) (D : DrawOk xs seed)
    {hX : Heap} {cX pX : Addr} (hCH : CodeHd hX cX pX)
    (hQ : ∀ m' us' xs' seed' t1' nd' nl' oV' vV' h' tk', m' (Str.ofString "number") = some (.int number tn) → Fr h₀ L h' m' →
      News h₀ L h' [(a0, o0), (a1, o1), (a2, o2), (a3, o3), (a4, o4), (a5, o5), (d, listOf #[.ref l, .int seed' t1'] nd'), (l, listOf (List.toArray us') nl'), (L + 1 + 1 + 1, oR), (L + 1 + 1, oV'), (L + 1, oD)] → oV'.data = .cell vV' → IntsAre us' xs' → DrawOk xs' seed' → Q .next { s with heap := h', toks := tk' }) :
    wpAny (model PySem.Challenge.rw_au6043_01.row.toRowW.prog w) (callerA.deeper (envOfC (Str.ofString "law") sc L fa cd)) (execs body (envOfC (Str.ofString "law") sc L fa cd)) Q E s := by
  have X₀ := X
  have hS0 := hS
  have hB3 := congrArg (List.drop 3) hBd
  w_top off
  revert X; k_fill; intro X
  conv at hS => lhs; whnf
  cases hS
  conv at hBd => lhs; whnf
  subst hBd
  have hfm3 := hfm
  cases hfm
  all_goals (
    walk_at "m stepsV"
    generalize List.getD _ _ _ = v9
    walk_at "m stepsB"
    all_goals (
      show wpAny _ _ _ _ _ _
      rename News _ _ _ _ => N9
      rename Fr _ _ _ _ => F9
      refine turn_rest (vV := none) (N := cb_drop N9 fun p hp => .tail _ hp) (F := F9) (hfm := by assumption) (hS := hS0) (hBd := hB3) (B := B) (X := X₀) (T := T) (hoV := by assumption) (hoR := hoR) (hoD := hoD) (hlt := hlt) (hlt2 := hlt2) (h5 := h5) (h4 := h4) (h3 := h3) (h2 := h2) (h1 := h1) (h0 := h0) (hI := by assumption) (D := by assumption) (hCH := hCH) (hQ := hQ) (hb := ?_)
      exact decide_eq_decide.mpr ⟨fun h => ⟨by omega, by omega⟩, fun h => by omega⟩))
end LawTurnPart

end PartLawTurn

section PartLawFor
local macro_rules | `(tactic| walk_at "pad") => `(tactic| skip)
local macro_rules | `(tactic| walk_at "m enter") => `(tactic| (refine' code_defS ?k1 ?k2 ?k3 ?k4 ?k5 ?kA ?kF ?kK ?k6 ?k7 ?k8 ?k9 ?kB ?_ ?c2 ?c3 ?c4 ?c5; (case kA => exact rfl); (case kF => exact rfl); (case kK => assumption); (case k1 => k_asm); (case k2 => k_asm); (case k3 => k_asm); (case k4 => k_asm); (case k5 => k_asm); (case k6 => k_is); (case k7 => k_is); (case k8 => ktr_room); (case k9 => exact BindsTo.of_eq rfl); (case c5 => decide); (case kB => exact locs rfl); (case c2 => exact rfl); (case c3 => exact rfl); (case c4 => exact rfl); k_whole; intro g' L' h' FG' F' N' B' X' T'; (try dsimp only); (try k_lift B'); (try k_fold)))
local macro_rules | `(tactic| units_room) => `(tactic| (have hcL' := cLine_is; simp only [units_in1, units_deeper, Around.mark_units]; (try dsimp only [ktrTop]); omega))
local macro_rules | `(tactic| ktr_room) => `(tactic| ((try simp only [depth_in1, depth_deeper]); (try dsimp only [ktrTop]); (try simp only [recursionLimit]); omega))
local macro_rules | `(tactic| k_room) => `(tactic| ktr_room)
local macro_rules | `(tactic| walk_at "eval ListComp") => `(tactic| (k_here; k_dflt (refine LCg.ListComp_U (F₀ := by k_asm) (by rfl) (by decide) (by rfl) (by decide) (by rfl) ?_)))
local macro_rules | `(tactic| walk_at "CompSrc") => `(tactic| (k_here; k_dflt (first
  | (refine LCg.CompSrc.base (by rfl) (by k_asm) (by k_asm) (by assumption) ?hz ?_; (case hz => ((have hL9 := IntsAre.length (by assumption)); simp only [List.size_toArray, sizeLine_eq]; omega)); intro g')
  | (refine LCg.CompSrc.range (by rfl) (by k_asm) (by k_asm) (by assumption) ?sm (rangeSize_up _) ?hz ?_; (case sm => exact small_one (by omega) (by omega) (by omega) (by omega)); (case hz => (simp only [sizeLine_eq]; omega)); intro g'))))
local macro_rules | `(tactic| walk_at "call type:range") => `(tactic| (k_here; k_dflt (refine' range1_rows ?kF ?kN ?_; (case kF => k_asm); (case kN => k_asm); intro h' tk' t1' u1' v1' hR' F' N' hk')))
local macro_rules | `(tactic| walk_at "execs nil") => `(tactic| (with_reducible refine wpAny_execs_nil ?_))
local macro_rules | `(tactic| walk_at "m enterC") => `(tactic| (refine' code_defCS ?k1 ?k2 ?k3 ?k4 ?k5 ?kA ?kF ?kK ?k6 ?k7 ?k8 ?k9 ?kB ?kD ?_ ?c2 ?c3 ?c4; (case kA => exact rfl); (case kF => exact rfl); (case kK => assumption); (case k1 => k_asm); (case k2 => k_asm); (case k3 => k_asm); (case k4 => k_asm); (case k5 => k_asm); (case k6 => k_is); (case k7 => k_is); (case k8 => ktr_room); (case k9 => exact BindsTo.of_eq rfl); (case kB => exact rfl); (case kD => decide +kernel); (case c2 => exact rfl); (case c3 => exact rfl); (case c4 => exact rfl); k_whole; intro g' L' h' tk' cells' FG' F' N' Y' B' X' T' l1; (try k_lt l1); k_cells Y'; (try simp only [List.cons_append, List.nil_append] at N'); (try dsimp only); (try k_lift B'); (try k_fold)))
local macro_rules | `(tactic| walk_at "m step") => `(tactic| ((fail_if_success (with_reducible show wpAny _ _ (exec (Stmt.While _ _ _ _) _) _ _ _)); (fail_if_success (with_reducible show LCg.CompRest _ _ _ _ _ _ _ _ _ _ _ _ _ _ _ _ _ _ _)); (first | (k_unfold; (try dsimp only)) | (k_end; kc_close) | walk1 | (dsimp only; walk1) | (leave1; walk_say "STEP leave1"; (try dsimp only)) | fail "no step")))
local macro_rules | `(tactic| walk_at "m steps") => `(tactic| repeat' ((fail_if_success (with_reducible show wpAny _ _ (exec (Stmt.While _ _ _ _) _) _ _ _)); (fail_if_success (with_reducible show LCg.CompRest _ _ _ _ _ _ _ _ _ _ _ _ _ _ _ _ _ _ _)); (first | (k_unfold; (try dsimp only)) | (k_end; kc_close) | walk1 | (dsimp only; walk1) | (leave1; walk_say "STEP leave1"; (try dsimp only)) | fail "no step")))
local macro_rules | `(tactic| walk_at "m room") => `(tactic| ((try simp only [depth_in1, depth_deeper, units_in1, units_deeper, depth_caller, units_caller]); (try dsimp only [ktrTop]); omega))
local macro_rules | `(tactic| walk_at "binaryOp LShift int int") => `(tactic| (k_here; k_dflt ((refine' lshift_K ?ka ?kb ?kc ?ke ?_); (case ka => first | decide | omega); (case kb => first | decide | omega); (case kc => first | decide | omega); (case ke => ((try simp only [Int.reduceSub, Int.reduceAdd, Int.reduceToNat, Int.reducePow, Int.reduceMul, Int.one_mul]); exact rfl)); k_whole)))
local macro_rules | `(tactic| walk_at "callWith ref") => `(tactic| (k_here; k_dflt (refine' callWith_K ?k1 ?k2 ?_; (case k1 => k_asm); (case k2 => k_is); k_whole)))
local macro_rules | `(tactic| walk_at "m enterT") => `(tactic| (refine' code_defX0 ?k1 ?k2 ?k3 ?k4 ?k5 ?kA ?kF ?kK ?k6 ?k7 ?k8 ?k9 ?kB ?_ ?c2 ?c3 ?c4 ?c5; (case kA => exact rfl); (case kF => exact rfl); (case kK => assumption); (case k1 => k_asm); (case k2 => k_asm); (case k3 => k_asm); (case k4 => k_asm); (case k5 => k_asm); (case k6 => k_is); (case k7 => k_is); (case k8 => ktr_room); (case k9 => exact BindsTo.of_eq rfl); (case c5 => decide); (case kB => exact locs rfl); (case c2 => exact rfl); (case c3 => exact rfl); (case c4 => exact rfl); k_whole; intro g' L' h' FG' F' N' B' X' T' D'; (try dsimp only); (try k_lift B'); (try k_fold)))
local macro_rules | `(tactic| walk_at "call ref") => `(tactic| (k_here; k_dflt ((show wpAny _ _ (call (Value.ref 132) [Value.ref _, Value.int _ _]) _ _ _); refine' take_use ?kB ?kF ?kX ?kT ?kk ?kN ?kd ?kl ?lt ?kI ?kD ?km ?kdp ?kun ?kU ?kV ?_; (case kB => k_asm); (case kF => k_asm); (case kX => k_asm); (case kT => k_asm); (case kk => first | exact rfl | assumption); (case kN => k_asm); (case kd => k_mem); (case kl => k_mem); (case lt => omega); (case kI => assumption); (case kD => assumption); (case km => first | decide | assumption | omega | exact Int.pow_pos (by decide)); (case kdp => walk_at "m room"); (case kun => walk_at "m room"); (case kU => (intro _ _ _; k_upd)); (case kV => (intro _ _ _ _ _; k_upd)); k_whole; intro r' tr' us' xs' sd' td' nd' nl' h' tk' F' N' hI' D' hr0' hr1'; (try dsimp only at N'); (try k_fold))))
local macro_rules | `(tactic| walk_at "eval Name") => `(tactic| (k_here; (with_reducible show wpAny _ _ (eval (Expr.Name _ _) (compEnvC _ _ _ _)) _ _ _); k_dflt (refine ld_cell (by k_asm) (by rfl) (by k_mem) (by assumption) ?_)))
local macro_rules | `(tactic| walk_at "call ref") => `(tactic| (k_here; k_dflt ((show wpAny _ _ (call (Value.ref 125) [Value.ref _]) _ _ _); refine' draw_use ?kB ?kF ?kX ?kT ?kk ?kl ?ki ?kn ?kN ?kdp ?kun ?_; (case kB => k_asm); (case kF => k_asm); (case kX => k_asm); (case kT => k_asm); (case kk => first | exact rfl | assumption); (case kl => assumption); (case ki => assumption); (case kn => first | assumption | omega); (case kN => k_asm); (case kdp => walk_at "m room"); (case kun => walk_at "m room"); k_whole; intro d' l' us' xs' sd' td' nd' nl' h' tk' F' N' l1' l2' hI' D'; (try k_fold))))
local macro_rules | `(tactic| walk_at "call ref") => `(tactic| (k_here; k_dflt ((show wpAny _ _ (call (Value.ref 137) [Value.ref _]) _ _ _); refine' groups_use ?kB ?kF ?kX ?kT ?kk ?kN ?kd ?kl ?lt ?kI ?kD ?kdp ?kun ?kU ?kV ?_; (case kB => k_asm); (case kF => k_asm); (case kX => k_asm); (case kT => k_asm); (case kk => first | exact rfl | assumption); (case kN => k_asm); (case kd => k_mem); (case kl => k_mem); (case lt => omega); (case kI => assumption); (case kD => assumption); (case kdp => walk_at "m room"); (case kun => walk_at "m room"); (case kU => (intro _ _ _; k_upd)); (case kV => (intro _ _ _ _ _; k_upd)); k_whole; intro tp' number' tn' b' tb' gs' us' xs' sd' td' nd' nl' h' tk' F' N' l1' hI' D' hg1' hg2' hg3' hg4' hg5' hg6'; (try dsimp only at N'); (try k_fold))))
local macro_rules | `(tactic| walk_at "CompSrc") => `(tactic| (k_here; k_dflt (first
  | (refine LCg.CompSrc.range (n := 12) (by rfl) (by k_asm) (by k_asm) (by assumption) ?sm (rangeSize_up 12) ?hz ?_; (case hz => (simp only [sizeLine_eq]; omega)); (case sm => exact small_one (by omega) (by omega) (by omega) (by omega)); intro g')
  | (refine LCg.CompSrc.range (n := 8) (by rfl) (by k_asm) (by k_asm) (by assumption) ?sm (rangeSize_up 8) ?hz ?_; (case hz => (simp only [sizeLine_eq]; omega)); (case sm => exact small_one (by omega) (by omega) (by omega) (by omega)); intro g')
  | (refine LCg.CompSrc.range (n := 4) (by rfl) (by k_asm) (by k_asm) (by assumption) ?sm (rangeSize_up 4) ?hz ?_; (case hz => (simp only [sizeLine_eq]; omega)); (case sm => exact small_one (by omega) (by omega) (by omega) (by omega)); intro g'))))
section LawForPart
local macro_rules | `(tactic| walk_at "m stepsI") => `(tactic| repeat' ((fail_if_success (with_reducible show wpAny _ _ (pyIter _) _ _ _)); walk_at "m step"))
local macro_rules | `(tactic| walk_at "m stepsX") => `(tactic| repeat' ((fail_if_success (with_reducible show wpAny _ _ (execs (Stmt.Assign [Expr.Name (Str.ofString "high") _] _ _ :: _) _) _ _ _)); walk_at "m step"))
structure FJ (number : Int) (tn : Tok) (tups : List (Addr × Obj)) (d l L : Addr) (oR oD : Obj) (i : Nat) (m₁ : Str → Option Value) (news₁ : List (Addr × Obj)) : Prop where
  ex : ∃ (us : List Value) (xs : List Int) (sd : Int) (td : Tok) (nd nl : Nat) (oV : Obj) (vV : Option Value), IntsAre us xs ∧ DrawOk xs sd ∧ oV.data = .cell vV ∧ m₁ (Str.ofString "number") = some (.int number tn) ∧
    news₁ = tups ++ [(d, listOf #[.ref l, .int sd td] nd), (l, listOf us.toArray nl), (L + 1 + 1 + 1, oR), (L + 1 + 1, oV), (L + 1, oD)]
theorem num_is {m : Str → Option Value} {v : Value} (h : m (Str.ofString "number") = some v) : m = fun y => if y = Str.ofString "number" then some v else m y := by
  funext y
  by_cases e : y = Str.ofString "number"
  · simp [e, h]
  · simp [e]
theorem law_for {w : World} {p : Program} {loose : List Str} {mean : ExcName → Option Value} {mg mb : Str → Option Value} {h₀ : Heap} {L fa : Addr} {cd : Value} {m : Str → Option Value} {s : Shared} {Q : Flow → Shared → Prop} {E : Value → Shared → Prop}
    {sc : Scope} {st : Stmt} {d l : Addr} {nd nl : Nat} {us : List Value} {xs : List Int} {seed number : Int} {t1 tn : Tok} {oR oV oD : Obj} {vR vV : Option Value}
    (hS : defScope (topStmt "law") = some sc) (hSt : (defBody (topStmt "law"))[14]? = some st)
    (B : Below callerA h₀ [] h₀) (F : Fr h₀ L s.heap m) (X : (Mine.hd.heap_39 w.params).In h₀) (T : Top p loose mean mg mb h₀)
    (N : News h₀ L s.heap [(d, listOf #[.ref l, .int seed t1] nd), (l, listOf us.toArray nl), (L + 1 + 1 + 1, oR), (L + 1 + 1, oV), (L + 1, oD)])
    (hoR : oR.data = .cell vR) (hoV : oV.data = .cell vV) (hoD : oD.data = .cell (some (.ref d))) (hlt : @LT.lt Nat _ l d) (hlt2 : @LT.lt Nat _ (L + 1 + 1 + 1) l)
    (hI : IntsAre us xs) (D : DrawOk xs seed) (hm : m (Str.ofString "number") = some (.int number tn))
    {hX : Heap} {cX pX : Addr} (hCH : CodeHd hX cX pX)
    (hQ : ∀ m' us' xs' seed' t1' nd' nl' oV' vV' h' tk', m' (Str.ofString "number") = some (.int number tn) → Fr h₀ L h' m' →
      News h₀ L h' [(d, listOf #[.ref l, .int seed' t1'] nd'), (l, listOf (List.toArray us') nl'), (L + 1 + 1 + 1, oR), (L + 1 + 1, oV'), (L + 1, oD)] → oV'.data = .cell vV' → IntsAre us' xs' → DrawOk xs' seed' → Q .next { s with heap := h', toks := tk' }) :
    wpAny (model PySem.Challenge.rw_au6043_01.row.toRowW.prog w) (callerA.deeper (envOfC (Str.ofString "law") sc L fa cd)) (exec st (envOfC (Str.ofString "law") sc L fa cd)) Q E s := by
  have em : m = fun y => if y = Str.ofString "number" then some (.int number tn) else m y := by
    funext y
    by_cases e : y = Str.ofString "number"
    · simp [e, hm]
    · simp [e]
  rw [em] at F
  clear em
  have X₀ := X
  have hS0 := hS
  have hB3 := congrArg forBody hSt
  w_top off
  revert X; k_fill; intro X
  conv at hS => lhs; whnf
  cases hS
  conv at hSt => lhs; whnf
  cases hSt
  refine wpAny_noRaise ?_
  with_reducible refine for_tuple ?hL F ?_
  case hL => rfl
  walk_at "m stepsI"
  refine tup_turnsL rfl (FJ number tn [_, _, _, _, _] d l L oR oD) rfl (by k_asm) (by k_asm) (List.Mem.head _) rfl rfl ⟨_, _, _, _, _, _, _, _, hI, D, hoV, rfl, rfl⟩ ?step ?fin
  case fin =>
    rintro m₁ news₁ h₁ tk₁ ⟨us₁, xs₁, sd₁, td₁, nd₁, nl₁, oV₁, vV₁, hI₁, D₁, hoV₁, hm₁, rfl⟩ F₁ N₁
    exact hQ _ _ _ _ _ _ _ _ _ _ _ hm₁ F₁ (fun p hp => N₁ p (List.mem_append_right _ hp)) hoV₁ hI₁ D₁
  case step =>
    intro I hIl i v m₁ news₁ h₁ tk₁ o₁ hv ⟨us₁, xs₁, sd₁, td₁, nd₁, nl₁, oV₁, vV₁, hI₁, D₁, hoV₁, hm₁, en⟩ F₁ hc₁ N₁
    subst en
    k_lt hIl
    simp only [List.cons_append, List.nil_append, AllLt, and_true] at hIl N₁
    rw [num_is hm₁] at F₁
    have hi : i = 0 ∨ i = 1 ∨ i = 2 ∨ i = 3 := by
      by_cases q : i < 4
      · omega
      · rw [List.getElem?_eq_none (by simp; omega)] at hv; cases hv
    rcases hi with rfl | rfl | rfl | rfl <;> obtain rfl := Option.some.inj hv
    all_goals (
      walk_at "m stepsX"
      show wpAny _ _ _ _ _ _
      rename News _ _ _ _ => N9
      rename Fr _ _ _ _ => F9
      refine law_turn (N := N9) (F := F9) (hfm := by constructor) (hS := hS0) (hBd := hB3) (B := B) (X := X₀) (T := T) (hoV := by assumption) (hoR := hoR) (hoD := hoD) (hlt := hlt) (hlt2 := hlt2) (h5 := by omega) (h4 := by omega) (h3 := by omega) (h2 := by omega) (h1 := by omega) (h0 := hIl.1) (hI := by assumption) (D := by assumption) (hCH := hCH) (hQ := ?_)
      ·
        intro m' us' xs' seed' t1' nd' nl' oV' vV' h' tk' hm' F' N' hoV' hI' D'
        have hIl1 := hIl.1
        refine ⟨h', tk', m', _, rfl, F', N', ?_, ⟨List.Mem.head _, trivial⟩, ⟨us', xs', seed', t1', nd', nl', oV', vV', hI', D', hoV', hm', rfl⟩⟩
        intro p hp q hq
        obtain rfl := List.mem_singleton.mp hq
        (iterate 10 (rcases hp with _ | ⟨_, hp⟩; (focus (show @Ne Nat _ _; dsimp only; omega))))
        cases hp)
end LawForPart

end PartLawFor

section PartLawTail
local macro_rules | `(tactic| walk_at "m enter") => `(tactic| (refine' code_defS ?k1 ?k2 ?k3 ?k4 ?k5 ?kA ?kF ?kK ?k6 ?k7 ?k8 ?k9 ?kB ?_ ?c2 ?c3 ?c4 ?c5; (case kA => exact rfl); (case kF => exact rfl); (case kK => assumption); (case k1 => k_asm); (case k2 => k_asm); (case k3 => k_asm); (case k4 => k_asm); (case k5 => k_asm); (case k6 => k_is); (case k7 => k_is); (case k8 => ktr_room); (case k9 => exact BindsTo.of_eq rfl); (case c5 => decide); (case kB => exact locs rfl); (case c2 => exact rfl); (case c3 => exact rfl); (case c4 => exact rfl); k_whole; intro g' L' h' FG' F' N' B' X' T'; (try dsimp only); (try k_lift B'); (try k_fold)))
local macro_rules | `(tactic| units_room) => `(tactic| (have hcL' := cLine_is; simp only [units_in1, units_deeper, Around.mark_units]; (try dsimp only [ktrTop]); omega))
local macro_rules | `(tactic| ktr_room) => `(tactic| ((try simp only [depth_in1, depth_deeper]); (try dsimp only [ktrTop]); (try simp only [recursionLimit]); omega))
local macro_rules | `(tactic| k_room) => `(tactic| ktr_room)
local macro_rules | `(tactic| walk_at "eval ListComp") => `(tactic| (k_here; k_dflt (refine LCg.ListComp_U (F₀ := by k_asm) (by rfl) (by decide) (by rfl) (by decide) (by rfl) ?_)))
local macro_rules | `(tactic| walk_at "CompSrc") => `(tactic| (k_here; k_dflt (first
  | (refine LCg.CompSrc.base (by rfl) (by k_asm) (by k_asm) (by assumption) ?hz ?_; (case hz => ((have hL9 := IntsAre.length (by assumption)); simp only [List.size_toArray, sizeLine_eq]; omega)); intro g')
  | (refine LCg.CompSrc.range (by rfl) (by k_asm) (by k_asm) (by assumption) ?sm (rangeSize_up _) ?hz ?_; (case sm => exact small_one (by omega) (by omega) (by omega) (by omega)); (case hz => (simp only [sizeLine_eq]; omega)); intro g'))))
local macro_rules | `(tactic| walk_at "call type:range") => `(tactic| (k_here; k_dflt (refine' range1_rows ?kF ?kN ?_; (case kF => k_asm); (case kN => k_asm); intro h' tk' t1' u1' v1' hR' F' N' hk')))
local macro_rules | `(tactic| walk_at "execs nil") => `(tactic| (with_reducible refine wpAny_execs_nil ?_))
local macro_rules | `(tactic| walk_at "m enterC") => `(tactic| (refine' code_defCS ?k1 ?k2 ?k3 ?k4 ?k5 ?kA ?kF ?kK ?k6 ?k7 ?k8 ?k9 ?kB ?kD ?_ ?c2 ?c3 ?c4; (case kA => exact rfl); (case kF => exact rfl); (case kK => assumption); (case k1 => k_asm); (case k2 => k_asm); (case k3 => k_asm); (case k4 => k_asm); (case k5 => k_asm); (case k6 => k_is); (case k7 => k_is); (case k8 => ktr_room); (case k9 => exact BindsTo.of_eq rfl); (case kB => exact rfl); (case kD => decide +kernel); (case c2 => exact rfl); (case c3 => exact rfl); (case c4 => exact rfl); k_whole; intro g' L' h' tk' cells' FG' F' N' Y' B' X' T' l1; (try k_lt l1); k_cells Y'; (try simp only [List.cons_append, List.nil_append] at N'); (try dsimp only); (try k_lift B'); (try k_fold)))
local macro_rules | `(tactic| walk_at "m step") => `(tactic| ((fail_if_success (with_reducible show wpAny _ _ (exec (Stmt.While _ _ _ _) _) _ _ _)); (fail_if_success (with_reducible show LCg.CompRest _ _ _ _ _ _ _ _ _ _ _ _ _ _ _ _ _ _ _)); (first | (k_unfold; (try dsimp only)) | (k_end; kc_close) | walk1 | (dsimp only; walk1) | (leave1; walk_say "STEP leave1"; (try dsimp only)) | fail "no step")))
local macro_rules | `(tactic| walk_at "m steps") => `(tactic| repeat' ((fail_if_success (with_reducible show wpAny _ _ (exec (Stmt.While _ _ _ _) _) _ _ _)); (fail_if_success (with_reducible show LCg.CompRest _ _ _ _ _ _ _ _ _ _ _ _ _ _ _ _ _ _ _)); (first | (k_unfold; (try dsimp only)) | (k_end; kc_close) | walk1 | (dsimp only; walk1) | (leave1; walk_say "STEP leave1"; (try dsimp only)) | fail "no step")))
local macro_rules | `(tactic| walk_at "m room") => `(tactic| ((try simp only [depth_in1, depth_deeper, units_in1, units_deeper, depth_caller, units_caller]); (try dsimp only [ktrTop]); omega))
local macro_rules | `(tactic| walk_at "binaryOp LShift int int") => `(tactic| (k_here; k_dflt ((refine' lshift_K ?ka ?kb ?kc ?ke ?_); (case ka => first | decide | omega); (case kb => first | decide | omega); (case kc => first | decide | omega); (case ke => ((try simp only [Int.reduceSub, Int.reduceAdd, Int.reduceToNat, Int.reducePow, Int.reduceMul, Int.one_mul]); exact rfl)); k_whole)))
local macro_rules | `(tactic| walk_at "callWith ref") => `(tactic| (k_here; k_dflt (refine' callWith_K ?k1 ?k2 ?_; (case k1 => k_asm); (case k2 => k_is); k_whole)))
local macro_rules | `(tactic| walk_at "m enterT") => `(tactic| (refine' code_defX0 ?k1 ?k2 ?k3 ?k4 ?k5 ?kA ?kF ?kK ?k6 ?k7 ?k8 ?k9 ?kB ?_ ?c2 ?c3 ?c4 ?c5; (case kA => exact rfl); (case kF => exact rfl); (case kK => assumption); (case k1 => k_asm); (case k2 => k_asm); (case k3 => k_asm); (case k4 => k_asm); (case k5 => k_asm); (case k6 => k_is); (case k7 => k_is); (case k8 => ktr_room); (case k9 => exact BindsTo.of_eq rfl); (case c5 => decide); (case kB => exact locs rfl); (case c2 => exact rfl); (case c3 => exact rfl); (case c4 => exact rfl); k_whole; intro g' L' h' FG' F' N' B' X' T' D'; (try dsimp only); (try k_lift B'); (try k_fold)))
local macro_rules | `(tactic| walk_at "call ref") => `(tactic| (k_here; k_dflt ((show wpAny _ _ (call (Value.ref 132) [Value.ref _, Value.int _ _]) _ _ _); refine' take_use ?kB ?kF ?kX ?kT ?kk ?kN ?kd ?kl ?lt ?kI ?kD ?km ?kdp ?kun ?kU ?kV ?_; (case kB => k_asm); (case kF => k_asm); (case kX => k_asm); (case kT => k_asm); (case kk => first | exact rfl | assumption); (case kN => k_asm); (case kd => k_mem); (case kl => k_mem); (case lt => omega); (case kI => assumption); (case kD => assumption); (case km => first | decide | assumption | omega | exact Int.pow_pos (by decide)); (case kdp => walk_at "m room"); (case kun => walk_at "m room"); (case kU => (intro _ _ _; k_upd)); (case kV => (intro _ _ _ _ _; k_upd)); k_whole; intro r' tr' us' xs' sd' td' nd' nl' h' tk' F' N' hI' D' hr0' hr1'; (try dsimp only at N'); (try k_fold))))
local macro_rules | `(tactic| walk_at "eval Name") => `(tactic| (k_here; (with_reducible show wpAny _ _ (eval (Expr.Name _ _) (compEnvC _ _ _ _)) _ _ _); k_dflt (refine ld_cell (by k_asm) (by rfl) (by k_mem) (by assumption) ?_)))
local macro_rules | `(tactic| walk_at "call ref") => `(tactic| (k_here; k_dflt ((show wpAny _ _ (call (Value.ref 125) [Value.ref _]) _ _ _); refine' draw_use ?kB ?kF ?kX ?kT ?kk ?kl ?ki ?kn ?kN ?kdp ?kun ?_; (case kB => k_asm); (case kF => k_asm); (case kX => k_asm); (case kT => k_asm); (case kk => first | exact rfl | assumption); (case kl => assumption); (case ki => assumption); (case kn => first | assumption | omega); (case kN => k_asm); (case kdp => walk_at "m room"); (case kun => walk_at "m room"); k_whole; intro d' l' us' xs' sd' td' nd' nl' h' tk' F' N' l1' l2' hI' D'; (try k_fold))))
local macro_rules | `(tactic| walk_at "call ref") => `(tactic| (k_here; k_dflt ((show wpAny _ _ (call (Value.ref 137) [Value.ref _]) _ _ _); refine' groups_use ?kB ?kF ?kX ?kT ?kk ?kN ?kd ?kl ?lt ?kI ?kD ?kdp ?kun ?kU ?kV ?_; (case kB => k_asm); (case kF => k_asm); (case kX => k_asm); (case kT => k_asm); (case kk => first | exact rfl | assumption); (case kN => k_asm); (case kd => k_mem); (case kl => k_mem); (case lt => omega); (case kI => assumption); (case kD => assumption); (case kdp => walk_at "m room"); (case kun => walk_at "m room"); (case kU => (intro _ _ _; k_upd)); (case kV => (intro _ _ _ _ _; k_upd)); k_whole; intro tp' number' tn' b' tb' gs' us' xs' sd' td' nd' nl' h' tk' F' N' l1' hI' D' hg1' hg2' hg3' hg4' hg5' hg6'; (try dsimp only at N'); (try k_fold))))
local macro_rules | `(tactic| walk_at "CompSrc") => `(tactic| (k_here; k_dflt (first
  | (refine LCg.CompSrc.range (n := 12) (by rfl) (by k_asm) (by k_asm) (by assumption) ?sm (rangeSize_up 12) ?hz ?_; (case hz => (simp only [sizeLine_eq]; omega)); (case sm => exact small_one (by omega) (by omega) (by omega) (by omega)); intro g')
  | (refine LCg.CompSrc.range (n := 8) (by rfl) (by k_asm) (by k_asm) (by assumption) ?sm (rangeSize_up 8) ?hz ?_; (case hz => (simp only [sizeLine_eq]; omega)); (case sm => exact small_one (by omega) (by omega) (by omega) (by omega)); intro g')
  | (refine LCg.CompSrc.range (n := 4) (by rfl) (by k_asm) (by k_asm) (by assumption) ?sm (rangeSize_up 4) ?hz ?_; (case hz => (simp only [sizeLine_eq]; omega)); (case sm => exact small_one (by omega) (by omega) (by omega) (by omega)); intro g'))))
section LawTailPart
structure TInv (led : List (Addr × Obj)) (i : Nat) (ys : List Value) (news : List (Addr × Obj)) : Prop where
  none : ys = []
  stands : news = led
theorem edge_in {r q : Int} (h0 : 0 ≤ r) (h1 : r < 9) (h2 : 0 ≤ q) (h3 : q < 3) : 0 ≤ (2 : Int) ^ (7 * (1 + r)).toNat + q - 1 ∧ (2 : Int) ^ (7 * (1 + r)).toNat + q - 1 < 2 ^ 70 := by
  have : r = 0 ∨ r = 1 ∨ r = 2 ∨ r = 3 ∨ r = 4 ∨ r = 5 ∨ r = 6 ∨ r = 7 ∨ r = 8 := by omega
  rcases this with rfl | rfl | rfl | rfl | rfl | rfl | rfl | rfl | rfl <;> simp only [show (7 * (1 + (0 : Int))).toNat = 7 from rfl, show (7 * (1 + (1 : Int))).toNat = 14 from rfl, show (7 * (1 + (2 : Int))).toNat = 21 from rfl, show (7 * (1 + (3 : Int))).toNat = 28 from rfl, show (7 * (1 + (4 : Int))).toNat = 35 from rfl, show (7 * (1 + (5 : Int))).toNat = 42 from rfl, show (7 * (1 + (6 : Int))).toNat = 49 from rfl, show (7 * (1 + (7 : Int))).toNat = 56 from rfl, show (7 * (1 + (8 : Int))).toNat = 63 from rfl] <;> omega
theorem w64 {ms : List Int} (hl : ms.length = 12) : KFB.value ((ms.drop 2).take 8).reverse = ((List.range 8).map (octAt 2 ms)).sum := by
  match ms, hl with
  | [a0, a1, a2, a3, a4, a5, a6, a7, a8, a9, a10, a11], _ =>
    have e : List.range 8 = [0, 1, 2, 3, 4, 5, 6, 7] := by decide
    rw [e]
    simp [octAt, KFB.value]
    omega
theorem w64_in {ms : List Int} (hl : ms.length = 12) (h : ∀ x ∈ ms, 0 ≤ x ∧ x < 256) : 0 ≤ ((List.range 8).map (octAt 2 ms)).sum ∧ ((List.range 8).map (octAt 2 ms)).sum < 2 ^ 64 := by
  match ms, hl with
  | [a0, a1, a2, a3, a4, a5, a6, a7, a8, a9, a10, a11], _ =>
    have e : List.range 8 = [0, 1, 2, 3, 4, 5, 6, 7] := by decide
    rw [e]
    simp at h
    simp [octAt]
    omega
theorem w32 {ms : List Int} (hl : ms.length = 12) (h : ∀ x ∈ ms, 0 ≤ x ∧ x < 256) : KFB.value ((ms.drop 2).take 4).reverse = ((List.range 8).map (octAt 2 ms)).sum % 4294967296 := by
  match ms, hl with
  | [a0, a1, a2, a3, a4, a5, a6, a7, a8, a9, a10, a11], _ =>
    have e : List.range 8 = [0, 1, 2, 3, 4, 5, 6, 7] := by decide
    rw [e]
    simp at h
    simp [octAt, KFB.value]
    omega
local macro_rules | `(tactic| walk_at "call ref") => `(tactic| (k_here; k_dflt ((with_reducible show wpAny _ _ (call (Value.ref 144) [Value.ref 113, Value.bytes _ _, Value.int 2 _]) _ _ _); refine' f64_2 ?kB ?kF ?kX ?kT ?kk ?kN ?kb ?kl ?kW ?kC ?kdp ?kun ?_; (case kB => k_asm); (case kF => k_asm); (case kX => k_asm); (case kT => k_asm); (case kk => exact rfl); (case kN => k_asm); (case kb => assumption); (case kl => assumption); (case kW => assumption); (case kC => assumption); (case kdp => walk_at "m room"); (case kun => walk_at "m room"); k_whole; intro tp' t1' t2' h' tk' F' N' l9'; k_lt l9'; (try k_fold))))
local macro_rules | `(tactic| walk_at "call ref") => `(tactic| (k_here; k_dflt ((with_reducible show wpAny _ _ (call (Value.ref 144) [Value.ref 113, Value.bytes _ _, Value.int 5 _]) _ _ _); refine' f64_5 ?kB ?kF ?kX ?kT ?kk ?kN ?kb ?kl ?kC ?kdp ?kun ?_; (case kB => k_asm); (case kF => k_asm); (case kX => k_asm); (case kT => k_asm); (case kk => exact rfl); (case kN => k_asm); (case kb => assumption); (case kl => assumption); (case kC => assumption); (case kdp => walk_at "m room"); (case kun => walk_at "m room"); k_whole; intro t9' h' tk' F' N'; (try k_fold))))
local macro_rules | `(tactic| walk_at "call ref") => `(tactic| (k_here; k_dflt ((with_reducible show wpAny _ _ (call (Value.ref 144) [Value.ref 120, Value.bytes _ _, Value.int 2 _]) _ _ _); refine' f32_2 ?kB ?kF ?kX ?kT ?kk ?kN ?kb ?kl ?kW ?kC ?kdp ?kun ?_; (case kB => k_asm); (case kF => k_asm); (case kX => k_asm); (case kT => k_asm); (case kk => exact rfl); (case kN => k_asm); (case kb => assumption); (case kl => assumption); (case kW => assumption); (case kC => assumption); (case kdp => walk_at "m room"); (case kun => walk_at "m room"); k_whole; intro tp' t1' t2' h' tk' F' N' l9'; k_lt l9'; (try k_fold))))
local macro_rules | `(tactic| walk_at "call ref") => `(tactic| (k_here; k_dflt ((with_reducible show wpAny _ _ (call (Value.ref 144) [Value.ref 120, Value.bytes _ _, Value.int 9 _]) _ _ _); refine' f32_9 ?kB ?kF ?kX ?kT ?kk ?kN ?kb ?kl ?kC ?kdp ?kun ?_; (case kB => k_asm); (case kF => k_asm); (case kX => k_asm); (case kT => k_asm); (case kk => exact rfl); (case kN => k_asm); (case kb => assumption); (case kl => assumption); (case kC => assumption); (case kdp => walk_at "m room"); (case kun => walk_at "m room"); k_whole; intro t9' h' tk' F' N'; (try k_fold))))
local macro_rules | `(tactic| walk_at "call ref") => `(tactic| (k_here; k_dflt ((with_reducible show wpAny _ _ (call (Value.ref 158) [Value.int _ _]) _ _ _); refine' size_is ?kB ?kF ?kX ?kT ?kk ?kN ?kC ?kdp ?kun ?k0 ?k1 ?kz ?_; (case kz => assumption); (case kB => k_asm); (case kF => k_asm); (case kX => k_asm); (case kT => k_asm); (case kk => exact rfl); (case kN => k_asm); (case kC => assumption); (case kdp => walk_at "m room"); (case kun => walk_at "m room"); (case k0 => omega); (case k1 => omega); k_whole; intro t9' h' tk' F' N'; (try k_fold))))
local macro_rules | `(tactic| walk_at "call ref") => `(tactic| (k_here; k_dflt ((with_reducible show wpAny _ _ (call (Value.ref 158) [Value.int _ _]) _ _ _); refine' size_no ?kB ?kF ?kX ?kT ?kk ?kN ?kC ?kdp ?kun ?k0 ?k1 ?kz ?_; (case kz => assumption); (case kB => k_asm); (case kF => k_asm); (case kX => k_asm); (case kT => k_asm); (case kk => exact rfl); (case kN => k_asm); (case kC => assumption); (case kdp => walk_at "m room"); (case kun => walk_at "m room"); (case k0 => omega); (case k1 => omega); k_whole; intro h' tk' F' N'; (try k_fold))))
local macro_rules | `(tactic| walk_at "call ref") => `(tactic| (k_here; k_dflt ((with_reducible show wpAny _ _ (call (Value.ref 165) [Value.int _ _]) _ _ _); refine' many_is ?kB ?kF ?kX ?kT ?kk ?kN ?kC ?kdp ?kun ?k0 ?k1 ?kz ?_; (case kz => assumption); (case kB => k_asm); (case kF => k_asm); (case kX => k_asm); (case kT => k_asm); (case kk => exact rfl); (case kN => k_asm); (case kC => assumption); (case kdp => walk_at "m room"); (case kun => walk_at "m room"); (case k0 => omega); (case k1 => omega); k_whole; intro t9' h' tk' F' N'; (try k_fold))))
local macro_rules | `(tactic| walk_at "call ref") => `(tactic| (k_here; k_dflt ((with_reducible show wpAny _ _ (call (Value.ref 165) [Value.int _ _]) _ _ _); refine' many_no ?kB ?kF ?kX ?kT ?kk ?kN ?kC ?kdp ?kun ?k0 ?k1 ?kz ?_; (case kz => assumption); (case kB => k_asm); (case kF => k_asm); (case kX => k_asm); (case kT => k_asm); (case kk => exact rfl); (case kN => k_asm); (case kC => assumption); (case kdp => walk_at "m room"); (case kun => walk_at "m room"); (case k0 => omega); (case k1 => omega); k_whole; intro h' tk' F' N'; (try k_fold))))
local macro_rules | `(tactic| walk_at "eval ListComp") => `(tactic| (k_here; (with_reducible show wpAny _ _ (eval (Expr.ListComp _ [⟨_, _, [_], _⟩] _ _) _) _ _ _); k_dflt (refine ListComp_tup (by k_asm) (by rfl) (by decide) (by rfl) (by decide) (by rfl) ?_)))
local macro_rules | `(tactic| lcg_src) => `(tactic| ((with_reducible show TupHere _ _ _ _); unfold TupHere; k_mem))
local macro_rules | `(tactic| walk_at "TupSrc") => `(tactic| (k_here; k_dflt (refine ⟨_, _, _, _, rfl, by rfl, by k_asm, by k_asm, by (unfold TupHere; k_mem), by first | size_fits | decide, ?_⟩; intro g')))
local macro_rules | `(tactic| walk_at "m stepsT") => `(tactic| repeat' ((fail_if_success (with_reducible show LCt.CompRestT _ _ _ _ _ _ _ _ _ _ _ _ _ _ _ _ _ _ _ _)); walk_at "m step"))
local macro_rules | `(tactic| walk_at "m stepsR") => `(tactic| repeat' ((fail_if_success (with_reducible show wpAny _ _ (exec (Stmt.Return _ _) _) _ _ _)); walk_at "m step"))
theorem law_tail {w : World} {p : Program} {loose : List Str} {mean : ExcName → Option Value} {mg mb : Str → Option Value} {h₀ : Heap} {L fa : Addr} {cd : Value} {m : Str → Option Value} {s : Shared} {Q : Flow → Shared → Prop} {E : Value → Shared → Prop}
    {sc : Scope} {body : List Stmt} {d l : Addr} {nd nl : Nat} {us : List Value} {xs : List Int} {seed number : Int} {t1 tn : Tok} {oR oV oD : Obj} {vR vV : Option Value}
    (hS : defScope (topStmt "law") = some sc) (hBd : (defBody (topStmt "law")).drop 15 = body)
    (B : Below callerA h₀ [] h₀) (F : Fr h₀ L s.heap m) (X : (Mine.hd.heap_39 w.params).In h₀) (T : Top p loose mean mg mb h₀)
    (N : News h₀ L s.heap [(d, listOf #[.ref l, .int seed t1] nd), (l, listOf us.toArray nl), (L + 1 + 1 + 1, oR), (L + 1 + 1, oV), (L + 1, oD)])
    (hoR : oR.data = .cell vR) (hoV : oV.data = .cell vV) (hoD : oD.data = .cell (some (.ref d))) (hlt : @LT.lt Nat _ l d) (hlt2 : @LT.lt Nat _ (L + 1 + 1 + 1) l)
    (hI : IntsAre us xs) (D : DrawOk xs seed) (hm : m (Str.ofString "number") = some (.int number tn)) (h0 : 0 ≤ number) (h1 : number < 2 ^ 70)
    {hX : Heap} {cX pX : Addr} (hCH : CodeHd hX cX pX)
    (hQ : ∀ m' h' tk', Fr h₀ L h' m' → Q (.ret (.bool true)) { s with heap := h', toks := tk' }) :
    wpAny (model PySem.Challenge.rw_au6043_01.row.toRowW.prog w) (callerA.deeper (envOfC (Str.ofString "law") sc L fa cd)) (execs body (envOfC (Str.ofString "law") sc L fa cd)) Q E s := by
  have em : m = fun y => if y = Str.ofString "number" then some (.int number tn) else m y := by
    funext y
    by_cases e : y = Str.ofString "number"
    · simp [e, hm]
    · simp [e]
  rw [em] at F
  clear em
  w_top off
  revert X; k_fill; intro X
  conv at hS => lhs; whnf
  cases hS
  conv at hBd => lhs; whnf
  subst hBd
  walk_at "m steps"
  refine rest_inv (RInv d l [(L + 1 + 1 + 1, oR), (L + 1 + 1, oV), (L + 1, oD)]) ?step ?fin _ 0 [] _ (Nat.zero_add _) ⟨[], us, xs, seed, t1, nd, nl, .nil, rfl, by simp, hI, D, rfl⟩
  case step =>
    rintro i ys news hi ⟨ms, us₂, xs₂, sd₂, td₂, nd₂, nl₂, hms, hml, hmr, hI₂, D₂, rfl⟩ v I oI C oC D m₂ h9 tk9 E9 hv hC hx F9 N9 off9 ne9
    obtain ⟨t9, rfl⟩ := hv
    simp only [LCg.Off3, and_true] at off9
    walk_at "m steps"
    exact rinv_next hms hml hmr (by assumption) (by assumption) (by assumption) (by assumption)
  case fin =>
    rintro ys news ⟨ms, us₂, xs₂, sd₂, td₂, nd₂, nl₂, hms, hml, hmr, hI₂, D₂, rfl⟩
    have hIn : KBa.In ms := hmr
    have hrow : KBw.bInts (byteArr ms) = ms := KBa.ints_make hIn
    walk_at "m steps"
    refine rest_inv (CInv _ fun ts => ts = (List.range ts.length).map (octAt 2 ms)) ?step2 ?fin2 _ 0 [] _ (Nat.zero_add _) ⟨rfl, [], .nil, rfl, rfl⟩
    case step2 =>
      rintro i ys news hi ⟨rfl, ts, hts, htl, hP⟩ v I oI C oC D m₂ h9 tk9 E9 hv hC hx F9 N9 off9 ne9
      obtain ⟨t9, rfl⟩ := hv
      simp only [LCg.Off3, and_true] at off9
      simp only [Int.zero_add] at hx
      obtain ⟨bv, hbv⟩ : ∃ bv, ms[((2 : Int) + (i : Int)).toNat]? = some bv := ⟨_, List.getElem?_eq_getElem (by omega)⟩
      obtain ⟨hb0, hb1⟩ := hmr _ (List.mem_of_getElem? hbv)
      walk_at "m steps"
      refine ⟨rfl, _, ints_snoc hts _ _, by simp [htl], map_next _ hP htl ?_⟩
      unfold octAt
      rw [show ((2 : Int) + (i : Int)).toNat = 2 + i by omega, show (8 * (i : Int)).toNat = 8 * i by omega]
    case fin2 =>
      rintro ys news ⟨rfl, ts, hts, htl, hP⟩
      have hw64 : KFB.value ((ms.drop 2).take 8).reverse = ts.sum := by rw [hP, htl]; exact w64 hml
      have hts0 : 0 ≤ ts.sum ∧ ts.sum < 2 ^ 64 := by rw [hP, htl]; exact w64_in hml hmr
      have hw32 : KFB.value ((ms.drop 2).take 4).reverse = ts.sum.fmod 4294967296 := by rw [Int.fmod_eq_emod_of_nonneg _ (by decide), hP, htl]; exact w32 hml hmr
      walk_at "m stepsR"
      walk_at "m stepsT"
      refine restT_inv (TInv _) ?step3 ?fin3 _ 0 [] _ (Nat.zero_add _) ⟨rfl, rfl⟩
      case step3 =>
        rintro i ys news hi ⟨rfl, rfl⟩ v I oI C oC D m₂ h9 tk9 E9 hv hC hx F9 N9 off9 ne9
        have hi5 : i < 5 := hi
        obtain ⟨k, t9, rfl, hk0, hk1⟩ : ∃ k t, v = .int k t ∧ 0 ≤ k ∧ k < 2 ^ 70 := by
          have hi6 : i = 0 ∨ i = 1 ∨ i = 2 ∨ i = 3 ∨ i = 4 := by omega
          rcases hi6 with rfl | rfl | rfl | rfl | rfl <;> obtain rfl := Option.some.inj hv
          · exact ⟨_, _, rfl, edge_in (by assumption) (by assumption) (by assumption) (by assumption)⟩
          · exact ⟨_, _, rfl, h0, h1⟩
          · exact ⟨_, _, rfl, by decide, by decide⟩
          · exact ⟨_, _, rfl, by decide, by decide⟩
          · exact ⟨_, _, rfl, by decide, by decide⟩
        have off10 := off9
        simp only [LCg.Off3, and_true] at off9
        cases hz9 : sizeOf7 k
        · iterate 24 (walk_at "m step")
          exact LCg.CompEnd.intro (by assumption) (by assumption) _ (fun _ hp => hp) off10 (List.Mem.head _) ⟨rfl, rfl⟩
        · iterate 22 (walk_at "m step")
          simp only [bne_self_eq_false]
          iterate 2 (walk_at "m step")
          exact LCg.CompEnd.intro (by assumption) (by assumption) _ (fun _ hp => hp) off10 (List.Mem.head _) ⟨rfl, rfl⟩
      case fin3 =>
        rintro ys news ⟨rfl, rfl⟩
        walk_at "m steps"
        exact hQ _ _ _ (by assumption)
end LawTailPart

end PartLawTail

section PartLawMid2
local macro_rules | `(tactic| walk_at "m enter") => `(tactic| (refine' code_defS ?k1 ?k2 ?k3 ?k4 ?k5 ?kA ?kF ?kK ?k6 ?k7 ?k8 ?k9 ?kB ?_ ?c2 ?c3 ?c4 ?c5; (case kA => exact rfl); (case kF => exact rfl); (case kK => assumption); (case k1 => k_asm); (case k2 => k_asm); (case k3 => k_asm); (case k4 => k_asm); (case k5 => k_asm); (case k6 => k_is); (case k7 => k_is); (case k8 => ktr_room); (case k9 => exact BindsTo.of_eq rfl); (case c5 => decide); (case kB => exact locs rfl); (case c2 => exact rfl); (case c3 => exact rfl); (case c4 => exact rfl); k_whole; intro g' L' h' FG' F' N' B' X' T'; (try dsimp only); (try k_lift B'); (try k_fold)))
local macro_rules | `(tactic| units_room) => `(tactic| (have hcL' := cLine_is; simp only [units_in1, units_deeper, Around.mark_units]; (try dsimp only [ktrTop]); omega))
local macro_rules | `(tactic| ktr_room) => `(tactic| ((try simp only [depth_in1, depth_deeper]); (try dsimp only [ktrTop]); (try simp only [recursionLimit]); omega))
local macro_rules | `(tactic| k_room) => `(tactic| ktr_room)
local macro_rules | `(tactic| walk_at "eval ListComp") => `(tactic| (k_here; k_dflt (refine LCg.ListComp_U (F₀ := by k_asm) (by rfl) (by decide) (by rfl) (by decide) (by rfl) ?_)))
local macro_rules | `(tactic| walk_at "CompSrc") => `(tactic| (k_here; k_dflt (first
  | (refine LCg.CompSrc.base (by rfl) (by k_asm) (by k_asm) (by assumption) ?hz ?_; (case hz => ((have hL9 := IntsAre.length (by assumption)); simp only [List.size_toArray, sizeLine_eq]; omega)); intro g')
  | (refine LCg.CompSrc.range (by rfl) (by k_asm) (by k_asm) (by assumption) ?sm (rangeSize_up _) ?hz ?_; (case sm => exact small_one (by omega) (by omega) (by omega) (by omega)); (case hz => (simp only [sizeLine_eq]; omega)); intro g'))))
local macro_rules | `(tactic| walk_at "call type:range") => `(tactic| (k_here; k_dflt (refine' range1_rows ?kF ?kN ?_; (case kF => k_asm); (case kN => k_asm); intro h' tk' t1' u1' v1' hR' F' N' hk')))
local macro_rules | `(tactic| walk_at "execs nil") => `(tactic| (with_reducible refine wpAny_execs_nil ?_))
local macro_rules | `(tactic| walk_at "m enterC") => `(tactic| (refine' code_defCS ?k1 ?k2 ?k3 ?k4 ?k5 ?kA ?kF ?kK ?k6 ?k7 ?k8 ?k9 ?kB ?kD ?_ ?c2 ?c3 ?c4; (case kA => exact rfl); (case kF => exact rfl); (case kK => assumption); (case k1 => k_asm); (case k2 => k_asm); (case k3 => k_asm); (case k4 => k_asm); (case k5 => k_asm); (case k6 => k_is); (case k7 => k_is); (case k8 => ktr_room); (case k9 => exact BindsTo.of_eq rfl); (case kB => exact rfl); (case kD => decide +kernel); (case c2 => exact rfl); (case c3 => exact rfl); (case c4 => exact rfl); k_whole; intro g' L' h' tk' cells' FG' F' N' Y' B' X' T' l1; (try k_lt l1); k_cells Y'; (try simp only [List.cons_append, List.nil_append] at N'); (try dsimp only); (try k_lift B'); (try k_fold)))
local macro_rules | `(tactic| walk_at "m step") => `(tactic| ((fail_if_success (with_reducible show wpAny _ _ (exec (Stmt.While _ _ _ _) _) _ _ _)); (fail_if_success (with_reducible show LCg.CompRest _ _ _ _ _ _ _ _ _ _ _ _ _ _ _ _ _ _ _)); (first | (k_unfold; (try dsimp only)) | (k_end; kc_close) | walk1 | (dsimp only; walk1) | (leave1; walk_say "STEP leave1"; (try dsimp only)) | fail "no step")))
local macro_rules | `(tactic| walk_at "m steps") => `(tactic| repeat' ((fail_if_success (with_reducible show wpAny _ _ (exec (Stmt.While _ _ _ _) _) _ _ _)); (fail_if_success (with_reducible show LCg.CompRest _ _ _ _ _ _ _ _ _ _ _ _ _ _ _ _ _ _ _)); (first | (k_unfold; (try dsimp only)) | (k_end; kc_close) | walk1 | (dsimp only; walk1) | (leave1; walk_say "STEP leave1"; (try dsimp only)) | fail "no step")))
local macro_rules | `(tactic| walk_at "m room") => `(tactic| ((try simp only [depth_in1, depth_deeper, units_in1, units_deeper, depth_caller, units_caller]); (try dsimp only [ktrTop]); omega))
local macro_rules | `(tactic| walk_at "binaryOp LShift int int") => `(tactic| (k_here; k_dflt ((refine' lshift_K ?ka ?kb ?kc ?ke ?_); (case ka => first | decide | omega); (case kb => first | decide | omega); (case kc => first | decide | omega); (case ke => ((try simp only [Int.reduceSub, Int.reduceAdd, Int.reduceToNat, Int.reducePow, Int.reduceMul, Int.one_mul]); exact rfl)); k_whole)))
local macro_rules | `(tactic| walk_at "callWith ref") => `(tactic| (k_here; k_dflt (refine' callWith_K ?k1 ?k2 ?_; (case k1 => k_asm); (case k2 => k_is); k_whole)))
local macro_rules | `(tactic| walk_at "m enterT") => `(tactic| (refine' code_defX0 ?k1 ?k2 ?k3 ?k4 ?k5 ?kA ?kF ?kK ?k6 ?k7 ?k8 ?k9 ?kB ?_ ?c2 ?c3 ?c4 ?c5; (case kA => exact rfl); (case kF => exact rfl); (case kK => assumption); (case k1 => k_asm); (case k2 => k_asm); (case k3 => k_asm); (case k4 => k_asm); (case k5 => k_asm); (case k6 => k_is); (case k7 => k_is); (case k8 => ktr_room); (case k9 => exact BindsTo.of_eq rfl); (case c5 => decide); (case kB => exact locs rfl); (case c2 => exact rfl); (case c3 => exact rfl); (case c4 => exact rfl); k_whole; intro g' L' h' FG' F' N' B' X' T' D'; (try dsimp only); (try k_lift B'); (try k_fold)))
local macro_rules | `(tactic| walk_at "call ref") => `(tactic| (k_here; k_dflt ((show wpAny _ _ (call (Value.ref 132) [Value.ref _, Value.int _ _]) _ _ _); refine' take_use ?kB ?kF ?kX ?kT ?kk ?kN ?kd ?kl ?lt ?kI ?kD ?km ?kdp ?kun ?kU ?kV ?_; (case kB => k_asm); (case kF => k_asm); (case kX => k_asm); (case kT => k_asm); (case kk => first | exact rfl | assumption); (case kN => k_asm); (case kd => k_mem); (case kl => k_mem); (case lt => omega); (case kI => assumption); (case kD => assumption); (case km => first | decide | assumption | omega | exact Int.pow_pos (by decide)); (case kdp => walk_at "m room"); (case kun => walk_at "m room"); (case kU => (intro _ _ _; k_upd)); (case kV => (intro _ _ _ _ _; k_upd)); k_whole; intro r' tr' us' xs' sd' td' nd' nl' h' tk' F' N' hI' D' hr0' hr1'; (try dsimp only at N'); (try k_fold))))
local macro_rules | `(tactic| walk_at "eval Name") => `(tactic| (k_here; (with_reducible show wpAny _ _ (eval (Expr.Name _ _) (compEnvC _ _ _ _)) _ _ _); k_dflt (refine ld_cell (by k_asm) (by rfl) (by k_mem) (by assumption) ?_)))
local macro_rules | `(tactic| walk_at "call ref") => `(tactic| (k_here; k_dflt ((show wpAny _ _ (call (Value.ref 125) [Value.ref _]) _ _ _); refine' draw_use ?kB ?kF ?kX ?kT ?kk ?kl ?ki ?kn ?kN ?kdp ?kun ?_; (case kB => k_asm); (case kF => k_asm); (case kX => k_asm); (case kT => k_asm); (case kk => first | exact rfl | assumption); (case kl => assumption); (case ki => assumption); (case kn => first | assumption | omega); (case kN => k_asm); (case kdp => walk_at "m room"); (case kun => walk_at "m room"); k_whole; intro d' l' us' xs' sd' td' nd' nl' h' tk' F' N' l1' l2' hI' D'; (try k_fold))))
local macro_rules | `(tactic| walk_at "call ref") => `(tactic| (k_here; k_dflt ((show wpAny _ _ (call (Value.ref 137) [Value.ref _]) _ _ _); refine' groups_use ?kB ?kF ?kX ?kT ?kk ?kN ?kd ?kl ?lt ?kI ?kD ?kdp ?kun ?kU ?kV ?_; (case kB => k_asm); (case kF => k_asm); (case kX => k_asm); (case kT => k_asm); (case kk => first | exact rfl | assumption); (case kN => k_asm); (case kd => k_mem); (case kl => k_mem); (case lt => omega); (case kI => assumption); (case kD => assumption); (case kdp => walk_at "m room"); (case kun => walk_at "m room"); (case kU => (intro _ _ _; k_upd)); (case kV => (intro _ _ _ _ _; k_upd)); k_whole; intro tp' number' tn' b' tb' gs' us' xs' sd' td' nd' nl' h' tk' F' N' l1' hI' D' hg1' hg2' hg3' hg4' hg5' hg6'; (try dsimp only at N'); (try k_fold))))
local macro_rules | `(tactic| walk_at "CompSrc") => `(tactic| (k_here; k_dflt (first
  | (refine LCg.CompSrc.range (n := 12) (by rfl) (by k_asm) (by k_asm) (by assumption) ?sm (rangeSize_up 12) ?hz ?_; (case hz => (simp only [sizeLine_eq]; omega)); (case sm => exact small_one (by omega) (by omega) (by omega) (by omega)); intro g')
  | (refine LCg.CompSrc.range (n := 8) (by rfl) (by k_asm) (by k_asm) (by assumption) ?sm (rangeSize_up 8) ?hz ?_; (case hz => (simp only [sizeLine_eq]; omega)); (case sm => exact small_one (by omega) (by omega) (by omega) (by omega)); intro g')
  | (refine LCg.CompSrc.range (n := 4) (by rfl) (by k_asm) (by k_asm) (by assumption) ?sm (rangeSize_up 4) ?hz ?_; (case hz => (simp only [sizeLine_eq]; omega)); (case sm => exact small_one (by omega) (by omega) (by omega) (by omega)); intro g'))))
section LawMid2Part
local macro_rules | `(tactic| walk_at "call builtin:len") => `(tactic| (k_here; (with_reducible show wpAny _ _ (call (Value.builtin "len") [Value.bytes _ _]) _ _ _); k_dflt (refine KBw.len_K (by assumption) (by omega) ?_)))
local macro_rules | `(tactic| walk_at "binaryOp Add bytes bytes") => `(tactic| (k_here; (with_reducible show wpAny _ _ (binaryOp Operator.Add (Value.bytes _ _) (Value.bytes _ _)) _ _ _); k_dflt (refine addB_K (by assumption) (by assumption) (by simp only [List.length_append, List.length_cons, List.length_nil]; omega) ?_; intro b9' t9' tk9' hb9')))
local macro_rules | `(tactic| walk_at "subscriptTail") => `(tactic| (k_here; (with_reducible show wpAny _ _ (subscriptTail _ (PySem.Expr.Slice none (some _) none _) (Value.bytes _ _) (Value.ref _)) _ _ _); k_dflt ((refine' bsliceTo_K (s := ⟨_, _, _, _, _⟩) ?kF ?kN ?kb ?ky ?kz ?_ ?hs ?ht); (case kF => k_asm); (case kN => k_asm); (case kb => assumption); (case ky => exact rfl); (case kz => omega); (case hs => with_unfolding_all rfl); (case ht => (intro _; with_unfolding_all rfl)); (intro b9' h' t9' tk9' F' N' hb9'))))
local macro_rules | `(tactic| walk_at "call ref") => `(tactic| (k_here; k_dflt ((with_reducible show wpAny _ _ (call (Value.ref 144) [Value.ref _, Value.bytes _ _, Value.int _ _]) _ _ _); refine' plain_end (B := ?kB) (F := ?kF) (X := ?kX) (T := ?kT) (hk := ?kk) (N := ?kN) (hfm := ?kfm) (hcm := ?kcm) (hMm := ?kMm) (hf := ?kf) (hM := ?kM) (hb := ?kb) (hks := ?kks) (hi0 := ?ki) (hx := ?kx) (hCH := ?kC) (hdp := ?kdp) (hun := ?kun) (hdec := ?kd) ?_; (case kf => assumption); (case kB => k_asm); (case kF => k_asm); (case kX => k_asm); (case kT => k_asm); (case kk => exact rfl); (case kN => k_asm); (case kfm => k_mem); (case kcm => k_mem); (case kMm => k_mem); (case kM => assumption); (case kb => assumption); (case kd => assumption); (case kks => (simp only [List.length_take, List.length_append, List.length_cons, List.length_nil]; omega)); (case kx => exact rfl); (case ki => omega); (case kC => assumption); (case kdp => walk_at "m room"); (case kun => walk_at "m room"); k_whole; intro t9' h' tk' F' N'; (try k_fold))))
local macro_rules | `(tactic| walk_at "call ref") => `(tactic| (k_here; k_dflt ((with_reducible show wpAny _ _ (call (Value.ref 144) [Value.ref _, Value.bytes _ _, Value.int _ _]) _ _ _); refine' sign_end (B := ?kB) (F := ?kF) (X := ?kX) (T := ?kT) (hk := ?kk) (N := ?kN) (hfm := ?kfm) (hcm := ?kcm) (hMm := ?kMm) (hSm := ?kSm) (hS9 := ?kS9) (hf := ?kf) (hM := ?kM) (hb := ?kb) (hks := ?kks) (hi0 := ?ki) (hx := ?kx) (hCH := ?kC) (hdp := ?kdp) (hun := ?kun) (hdec := ?kd) ?_; (case kf => assumption); (case kB => k_asm); (case kF => k_asm); (case kX => k_asm); (case kT => k_asm); (case kk => exact rfl); (case kN => k_asm); (case kfm => k_mem); (case kcm => k_mem); (case kMm => k_mem); (case kSm => k_mem); (case kS9 => assumption); (case kM => assumption); (case kb => assumption); (case kd => assumption); (case kks => (simp only [List.length_take, List.length_append, List.length_cons, List.length_nil]; omega)); (case kx => exact rfl); (case ki => omega); (case kC => assumption); (case kdp => walk_at "m room"); (case kun => walk_at "m room"); k_whole; intro t9' h' tk' F' N'; (try k_fold))))
local macro_rules | `(tactic| walk_at "call ref") => `(tactic| (k_here; k_dflt ((with_reducible show wpAny _ _ (call (Value.ref 144) [Value.ref _, Value.bytes _ _, Value.int _ _]) _ _ _); refine' plain_many (B := ?kB) (F := ?kF) (X := ?kX) (T := ?kT) (hk := ?kk) (N := ?kN) (hfm := ?kfm) (hcm := ?kcm) (hMm := ?kMm) (hf := ?kf) (hM := ?kM) (hb := ?kb) (hks := ?kks) (hi0 := ?ki) (hx := ?kx) (hCH := ?kC) (hdp := ?kdp) (hun := ?kun) (hdec := ?kd) ?_; (case kf => assumption); (case kB => k_asm); (case kF => k_asm); (case kX => k_asm); (case kT => k_asm); (case kk => exact rfl); (case kN => k_asm); (case kfm => k_mem); (case kcm => k_mem); (case kMm => k_mem); (case kM => assumption); (case kb => assumption); (case kd => assumption); (case kks => (simp only [List.length_take, List.length_append, List.length_cons, List.length_nil]; omega)); (case kx => exact rfl); (case ki => omega); (case kC => assumption); (case kdp => walk_at "m room"); (case kun => walk_at "m room"); k_whole; intro t9' h' tk' F' N'; (try k_fold))))
local macro_rules | `(tactic| walk_at "call ref") => `(tactic| (k_here; k_dflt ((with_reducible show wpAny _ _ (call (Value.ref 144) [Value.ref _, Value.bytes _ _, Value.int _ _]) _ _ _); refine' sign_many (B := ?kB) (F := ?kF) (X := ?kX) (T := ?kT) (hk := ?kk) (N := ?kN) (hfm := ?kfm) (hcm := ?kcm) (hMm := ?kMm) (hSm := ?kSm) (hS9 := ?kS9) (hf := ?kf) (hM := ?kM) (hb := ?kb) (hks := ?kks) (hi0 := ?ki) (hx := ?kx) (hCH := ?kC) (hdp := ?kdp) (hun := ?kun) (hdec := ?kd) ?_; (case kf => assumption); (case kB => k_asm); (case kF => k_asm); (case kX => k_asm); (case kT => k_asm); (case kk => exact rfl); (case kN => k_asm); (case kfm => k_mem); (case kcm => k_mem); (case kMm => k_mem); (case kSm => k_mem); (case kS9 => assumption); (case kM => assumption); (case kb => assumption); (case kd => assumption); (case kks => (simp only [List.length_take, List.length_append, List.length_cons, List.length_nil]; omega)); (case kx => exact rfl); (case ki => omega); (case kC => assumption); (case kdp => walk_at "m room"); (case kun => walk_at "m room"); k_whole; intro t9' h' tk' F' N'; (try k_fold))))
local macro_rules | `(tactic| walk_at "m stepsF") => `(tactic| repeat' ((fail_if_success (with_reducible show wpAny _ _ (exec (Stmt.For _ _ _ _ _) _) _ _ _)); walk_at "m step"))
theorem law_mid2 {w : World} {p : Program} {loose : List Str} {mean : ExcName → Option Value} {mg mb : Str → Option Value} {h₀ : Heap} {L fa : Addr} {cd : Value} {m : Str → Option Value} {s : Shared} {Q : Flow → Shared → Prop} {E : Value → Shared → Prop}
    {sc : Scope} {body : List Stmt} {d l fS cS cSb cSm fP cP cPm : Addr} {nd nl : Nat} {us : List Value} {xs gs : List Int} {seed number mask bits : Int} {t1 tn to tm tsb tsm : Tok} {oR oV oD oS ocS oSb oSm oP ocP oPm : Obj} {vR vV : Option Value} {bo : Array UInt8}
    (hS : defScope (topStmt "law") = some sc) (hBd : (defBody (topStmt "law")).drop 11 = body)
    (B : Below callerA h₀ [] h₀) (F : Fr h₀ L s.heap m) (X : (Mine.hd.heap_39 w.params).In h₀) (T : Top p loose mean mg mb h₀)
    (N : News h₀ L s.heap [(fS, oS), (cS, ocS), (cSb, oSb), (cSm, oSm), (fP, oP), (cP, ocP), (cPm, oPm), (d, listOf #[.ref l, .int seed t1] nd), (l, listOf us.toArray nl), (L + 1 + 1 + 1, oR), (L + 1 + 1, oV), (L + 1, oD)])
    (hoR : oR.data = .cell vR) (hoV : oV.data = .cell vV) (hoD : oD.data = .cell (some (.ref d))) (hlt : @LT.lt Nat _ l d) (hlt2 : @LT.lt Nat _ (L + 1 + 1 + 1) l)
    (h6 : @LT.lt Nat _ d cPm) (h5 : @LT.lt Nat _ cPm cP) (h4 : @LT.lt Nat _ cP fP) (h3 : @LT.lt Nat _ fP cSm) (h2 : @LT.lt Nat _ cSm cSb) (h1 : @LT.lt Nat _ cSb cS) (h0 : @LT.lt Nat _ cS fS)
    (hfP : FnOk oP plainDef [(Str.ofString "mask", cPm)] cP ocP) (hfS : FnOk oS signedDef [(Str.ofString "signbit", cSb), (Str.ofString "mask", cSm)] cS ocS)
    (hPm : oPm.data = .cell (some (.int mask tm))) (hSm : oSm.data = .cell (some (.int (2 ^ bits.toNat - 1) tsm))) (hSb : oSb.data = .cell (some (.int (2 ^ (bits - 1).toNat) tsb)))
    (hI : IntsAre us xs) (D : DrawOk xs seed)
    (hm1 : m (Str.ofString "number") = some (.int number tn)) (hm2 : m (Str.ofString "octets") = some (.bytes bo to)) (hm3 : m (Str.ofString "plain") = some (.ref fP)) (hm4 : m (Str.ofString "signed") = some (.ref fS))
    (hbo : KBw.bInts bo = enc gs) (hgs : ∀ g ∈ gs, 0 ≤ g ∧ g < 128) (hg1 : 1 ≤ gs.length) (hg2 : gs.length ≤ 10) (hn : number = gval gs) (hn2 : number < 2 ^ 70)
    {hX : Heap} {cX pX : Addr} (hCH : CodeHd hX cX pX)
    (hQ : ∀ m' h' tk', Fr h₀ L h' m' → Q (.ret (.bool true)) { s with heap := h', toks := tk' }) :
    wpAny (model PySem.Challenge.rw_au6043_01.row.toRowW.prog w) (callerA.deeper (envOfC (Str.ofString "law") sc L fa cd)) (execs body (envOfC (Str.ofString "law") sc L fa cd)) Q E s := by
  have em : m = fun y => if y = Str.ofString "number" then some (.int number tn) else if y = Str.ofString "octets" then some (.bytes bo to) else if y = Str.ofString "plain" then some (.ref fP) else if y = Str.ofString "signed" then some (.ref fS) else m y := by
    funext y
    (repeat' split) <;> first | (subst_vars; assumption) | rfl
  rw [em] at F
  clear em hm1 hm2 hm3 hm4
  have X₀ := X
  have hS0 := hS
  have hl9 := enc_len gs
  have hn0 : 0 ≤ number := by rw [hn]; exact gval_pos gs hgs
  have hSt : (defBody (topStmt "law"))[14]? = (defBody (topStmt "law"))[14]? := rfl
  conv at hSt => rhs; whnf
  have hTl : (defBody (topStmt "law")).drop 15 = (defBody (topStmt "law")).drop 15 := rfl
  conv at hTl => rhs; whnf
  w_top off
  revert X; k_fill; intro X
  conv at hS => lhs; whnf
  cases hS
  conv at hBd => lhs; whnf
  subst hBd
  iterate 24 (walk_at "m step")
  rename (_ < ((enc gs).length : Int)) => hr1
  rename (0 ≤ _) => hr0
  obtain ⟨c9, hc9⟩ := Int.eq_ofNat_of_zero_le hr0
  have hdc : dec 0 0 (((enc gs).take c9).drop 0) = .ended := by
    rw [List.drop_zero]
    exact dec_cut gs _ 0 0 hgs (by omega) (by omega)
  subst hc9
  have hl1 : KBw.bInts #[128, 128, 128, 128, 128, 128, 128, 128, 128, 128, 0] = [128, 128, 128, 128, 128, 128, 128, 128, 128, 128, 0] := by decide
  have hl2 : KBw.bInts #[255, 255, 255, 255, 255, 255, 255, 255, 255, 255, 255] = [255, 255, 255, 255, 255, 255, 255, 255, 255, 255, 255] := by decide
  have hd1 : dec 0 0 (([128, 128, 128, 128, 128, 128, 128, 128, 128, 128, 0] : List Int).drop 0) = .many := dec_many1
  have hd2 : dec 0 0 (([255, 255, 255, 255, 255, 255, 255, 255, 255, 255, 255] : List Int).drop 0) = .many := dec_many2
  iterate 102 (walk_at "m step")
  rw [if_neg (by decide)]
  walk_at "m step"
  rw [if_neg (by decide)]
  refine wpAny_execs_nil ?_
  show wpAny _ _ _ _ _ _
  refine wpAny_execs_cons ?_
  rename News _ _ _ _ => N9
  rename Fr _ _ _ _ => F9
  have hN := cb_drop (news := [(d, _), (l, _), (L + 1 + 1 + 1, oR), (L + 1 + 1, oV), (L + 1, oD)]) N9 fun p hp => .tail _ (.tail _ (.tail _ (.tail _ (.tail _ (.tail _ (.tail _ hp))))))
  refine' law_for (hSt := ?hSt1) (N := ?hN1) (F := ?hF1) (hS := ?hS1) (B := ?hB1) (X := ?hX1) (T := ?hT1) (hoV := ?hoV1) (hoR := ?hoR1) (hoD := ?hoD1) (hlt := ?hlt1) (hlt2 := ?hlt3) (hI := ?hI1) (D := ?hD1) (hm := ?hm1) (hCH := ?hCH1) (hQ := ?_)
  case hS1 => exact hS0
  case hN1 => exact hN
  case hF1 => exact F9
  case hB1 => exact B
  case hX1 => exact X₀
  case hT1 => exact T
  case hoV1 => exact hoV
  case hoR1 => exact hoR
  case hoD1 => exact hoD
  case hlt1 => exact hlt
  case hlt3 => exact hlt2
  case hI1 => assumption
  case hD1 => assumption
  case hm1 => exact rfl
  case hCH1 => exact hCH
  case hSt1 => exact hSt
  intro m' us' xs' seed' t1' nd' nl' oV' vV' h' tk' hm' F' N' hoV' hI' D'
  show wpAny _ _ _ _ _ _
  exact law_tail (N := N') (F := F') (hS := hS0) (hBd := hTl) (B := B) (X := X₀) (T := T) (hoV := hoV') (hoR := hoR) (hoD := hoD) (hlt := hlt) (hlt2 := hlt2) (hI := hI') (D := D') (hm := hm') (h0 := hn0) (h1 := hn2) (hCH := hCH) (hQ := fun _ _ _ F => hQ _ _ _ F)
end LawMid2Part

end PartLawMid2

section PartLawMid1
local macro_rules | `(tactic| walk_at "m enter") => `(tactic| (refine' code_defS ?k1 ?k2 ?k3 ?k4 ?k5 ?kA ?kF ?kK ?k6 ?k7 ?k8 ?k9 ?kB ?_ ?c2 ?c3 ?c4 ?c5; (case kA => exact rfl); (case kF => exact rfl); (case kK => assumption); (case k1 => k_asm); (case k2 => k_asm); (case k3 => k_asm); (case k4 => k_asm); (case k5 => k_asm); (case k6 => k_is); (case k7 => k_is); (case k8 => ktr_room); (case k9 => exact BindsTo.of_eq rfl); (case c5 => decide); (case kB => exact locs rfl); (case c2 => exact rfl); (case c3 => exact rfl); (case c4 => exact rfl); k_whole; intro g' L' h' FG' F' N' B' X' T'; (try dsimp only); (try k_lift B'); (try k_fold)))
local macro_rules | `(tactic| units_room) => `(tactic| (have hcL' := cLine_is; simp only [units_in1, units_deeper, Around.mark_units]; (try dsimp only [ktrTop]); omega))
local macro_rules | `(tactic| ktr_room) => `(tactic| ((try simp only [depth_in1, depth_deeper]); (try dsimp only [ktrTop]); (try simp only [recursionLimit]); omega))
local macro_rules | `(tactic| k_room) => `(tactic| ktr_room)
local macro_rules | `(tactic| walk_at "eval ListComp") => `(tactic| (k_here; k_dflt (refine LCg.ListComp_U (F₀ := by k_asm) (by rfl) (by decide) (by rfl) (by decide) (by rfl) ?_)))
local macro_rules | `(tactic| walk_at "CompSrc") => `(tactic| (k_here; k_dflt (first
  | (refine LCg.CompSrc.base (by rfl) (by k_asm) (by k_asm) (by assumption) ?hz ?_; (case hz => ((have hL9 := IntsAre.length (by assumption)); simp only [List.size_toArray, sizeLine_eq]; omega)); intro g')
  | (refine LCg.CompSrc.range (by rfl) (by k_asm) (by k_asm) (by assumption) ?sm (rangeSize_up _) ?hz ?_; (case sm => exact small_one (by omega) (by omega) (by omega) (by omega)); (case hz => (simp only [sizeLine_eq]; omega)); intro g'))))
local macro_rules | `(tactic| walk_at "call type:range") => `(tactic| (k_here; k_dflt (refine' range1_rows ?kF ?kN ?_; (case kF => k_asm); (case kN => k_asm); intro h' tk' t1' u1' v1' hR' F' N' hk')))
local macro_rules | `(tactic| walk_at "execs nil") => `(tactic| (with_reducible refine wpAny_execs_nil ?_))
local macro_rules | `(tactic| walk_at "m enterC") => `(tactic| (refine' code_defCS ?k1 ?k2 ?k3 ?k4 ?k5 ?kA ?kF ?kK ?k6 ?k7 ?k8 ?k9 ?kB ?kD ?_ ?c2 ?c3 ?c4; (case kA => exact rfl); (case kF => exact rfl); (case kK => assumption); (case k1 => k_asm); (case k2 => k_asm); (case k3 => k_asm); (case k4 => k_asm); (case k5 => k_asm); (case k6 => k_is); (case k7 => k_is); (case k8 => ktr_room); (case k9 => exact BindsTo.of_eq rfl); (case kB => exact rfl); (case kD => decide +kernel); (case c2 => exact rfl); (case c3 => exact rfl); (case c4 => exact rfl); k_whole; intro g' L' h' tk' cells' FG' F' N' Y' B' X' T' l1; (try k_lt l1); k_cells Y'; (try simp only [List.cons_append, List.nil_append] at N'); (try dsimp only); (try k_lift B'); (try k_fold)))
local macro_rules | `(tactic| walk_at "m step") => `(tactic| ((fail_if_success (with_reducible show wpAny _ _ (exec (Stmt.While _ _ _ _) _) _ _ _)); (fail_if_success (with_reducible show LCg.CompRest _ _ _ _ _ _ _ _ _ _ _ _ _ _ _ _ _ _ _)); (first | (k_unfold; (try dsimp only)) | (k_end; kc_close) | walk1 | (dsimp only; walk1) | (leave1; walk_say "STEP leave1"; (try dsimp only)) | fail "no step")))
local macro_rules | `(tactic| walk_at "m steps") => `(tactic| repeat' ((fail_if_success (with_reducible show wpAny _ _ (exec (Stmt.While _ _ _ _) _) _ _ _)); (fail_if_success (with_reducible show LCg.CompRest _ _ _ _ _ _ _ _ _ _ _ _ _ _ _ _ _ _ _)); (first | (k_unfold; (try dsimp only)) | (k_end; kc_close) | walk1 | (dsimp only; walk1) | (leave1; walk_say "STEP leave1"; (try dsimp only)) | fail "no step")))
local macro_rules | `(tactic| walk_at "m room") => `(tactic| ((try simp only [depth_in1, depth_deeper, units_in1, units_deeper, depth_caller, units_caller]); (try dsimp only [ktrTop]); omega))
local macro_rules | `(tactic| walk_at "binaryOp LShift int int") => `(tactic| (k_here; k_dflt ((refine' lshift_K ?ka ?kb ?kc ?ke ?_); (case ka => first | decide | omega); (case kb => first | decide | omega); (case kc => first | decide | omega); (case ke => ((try simp only [Int.reduceSub, Int.reduceAdd, Int.reduceToNat, Int.reducePow, Int.reduceMul, Int.one_mul]); exact rfl)); k_whole)))
local macro_rules | `(tactic| walk_at "callWith ref") => `(tactic| (k_here; k_dflt (refine' callWith_K ?k1 ?k2 ?_; (case k1 => k_asm); (case k2 => k_is); k_whole)))
local macro_rules | `(tactic| walk_at "m enterT") => `(tactic| (refine' code_defX0 ?k1 ?k2 ?k3 ?k4 ?k5 ?kA ?kF ?kK ?k6 ?k7 ?k8 ?k9 ?kB ?_ ?c2 ?c3 ?c4 ?c5; (case kA => exact rfl); (case kF => exact rfl); (case kK => assumption); (case k1 => k_asm); (case k2 => k_asm); (case k3 => k_asm); (case k4 => k_asm); (case k5 => k_asm); (case k6 => k_is); (case k7 => k_is); (case k8 => ktr_room); (case k9 => exact BindsTo.of_eq rfl); (case c5 => decide); (case kB => exact locs rfl); (case c2 => exact rfl); (case c3 => exact rfl); (case c4 => exact rfl); k_whole; intro g' L' h' FG' F' N' B' X' T' D'; (try dsimp only); (try k_lift B'); (try k_fold)))
local macro_rules | `(tactic| walk_at "call ref") => `(tactic| (k_here; k_dflt ((show wpAny _ _ (call (Value.ref 132) [Value.ref _, Value.int _ _]) _ _ _); refine' take_use ?kB ?kF ?kX ?kT ?kk ?kN ?kd ?kl ?lt ?kI ?kD ?km ?kdp ?kun ?kU ?kV ?_; (case kB => k_asm); (case kF => k_asm); (case kX => k_asm); (case kT => k_asm); (case kk => first | exact rfl | assumption); (case kN => k_asm); (case kd => k_mem); (case kl => k_mem); (case lt => omega); (case kI => assumption); (case kD => assumption); (case km => first | decide | assumption | omega | exact Int.pow_pos (by decide)); (case kdp => walk_at "m room"); (case kun => walk_at "m room"); (case kU => (intro _ _ _; k_upd)); (case kV => (intro _ _ _ _ _; k_upd)); k_whole; intro r' tr' us' xs' sd' td' nd' nl' h' tk' F' N' hI' D' hr0' hr1'; (try dsimp only at N'); (try k_fold))))
local macro_rules | `(tactic| walk_at "eval Name") => `(tactic| (k_here; (with_reducible show wpAny _ _ (eval (Expr.Name _ _) (compEnvC _ _ _ _)) _ _ _); k_dflt (refine ld_cell (by k_asm) (by rfl) (by k_mem) (by assumption) ?_)))
local macro_rules | `(tactic| walk_at "call ref") => `(tactic| (k_here; k_dflt ((show wpAny _ _ (call (Value.ref 125) [Value.ref _]) _ _ _); refine' draw_use ?kB ?kF ?kX ?kT ?kk ?kl ?ki ?kn ?kN ?kdp ?kun ?_; (case kB => k_asm); (case kF => k_asm); (case kX => k_asm); (case kT => k_asm); (case kk => first | exact rfl | assumption); (case kl => assumption); (case ki => assumption); (case kn => first | assumption | omega); (case kN => k_asm); (case kdp => walk_at "m room"); (case kun => walk_at "m room"); k_whole; intro d' l' us' xs' sd' td' nd' nl' h' tk' F' N' l1' l2' hI' D'; (try k_fold))))
local macro_rules | `(tactic| walk_at "call ref") => `(tactic| (k_here; k_dflt ((show wpAny _ _ (call (Value.ref 137) [Value.ref _]) _ _ _); refine' groups_use ?kB ?kF ?kX ?kT ?kk ?kN ?kd ?kl ?lt ?kI ?kD ?kdp ?kun ?kU ?kV ?_; (case kB => k_asm); (case kF => k_asm); (case kX => k_asm); (case kT => k_asm); (case kk => first | exact rfl | assumption); (case kN => k_asm); (case kd => k_mem); (case kl => k_mem); (case lt => omega); (case kI => assumption); (case kD => assumption); (case kdp => walk_at "m room"); (case kun => walk_at "m room"); (case kU => (intro _ _ _; k_upd)); (case kV => (intro _ _ _ _ _; k_upd)); k_whole; intro tp' number' tn' b' tb' gs' us' xs' sd' td' nd' nl' h' tk' F' N' l1' hI' D' hg1' hg2' hg3' hg4' hg5' hg6'; (try dsimp only at N'); (try k_fold))))
local macro_rules | `(tactic| walk_at "CompSrc") => `(tactic| (k_here; k_dflt (first
  | (refine LCg.CompSrc.range (n := 12) (by rfl) (by k_asm) (by k_asm) (by assumption) ?sm (rangeSize_up 12) ?hz ?_; (case hz => (simp only [sizeLine_eq]; omega)); (case sm => exact small_one (by omega) (by omega) (by omega) (by omega)); intro g')
  | (refine LCg.CompSrc.range (n := 8) (by rfl) (by k_asm) (by k_asm) (by assumption) ?sm (rangeSize_up 8) ?hz ?_; (case hz => (simp only [sizeLine_eq]; omega)); (case sm => exact small_one (by omega) (by omega) (by omega) (by omega)); intro g')
  | (refine LCg.CompSrc.range (n := 4) (by rfl) (by k_asm) (by k_asm) (by assumption) ?sm (rangeSize_up 4) ?hz ?_; (case hz => (simp only [sizeLine_eq]; omega)); (case sm => exact small_one (by omega) (by omega) (by omega) (by omega)); intro g'))))
section LawMid1Part
local macro_rules | `(tactic| walk_at "call builtin:len") => `(tactic| (k_here; (with_reducible show wpAny _ _ (call (Value.builtin "len") [Value.bytes _ _]) _ _ _); k_dflt (refine KBw.len_K (by assumption) (by omega) ?_)))
local macro_rules | `(tactic| walk_at "binaryOp Add bytes bytes") => `(tactic| (k_here; (with_reducible show wpAny _ _ (binaryOp Operator.Add (Value.bytes _ _) (Value.bytes _ _)) _ _ _); k_dflt (refine addB_K (by assumption) (by assumption) (by simp only [List.length_append, List.length_cons, List.length_nil]; omega) ?_; intro b9' t9' tk9' hb9')))
local macro_rules | `(tactic| walk_at "binaryOp RShift int int") => `(tactic| (k_here; (with_reducible show wpAny _ _ (binaryOp Operator.RShift (Value.int _ _) (Value.int _ _)) _ _ _); k_dflt (refine rshift_int (by omega) ?_)))
local macro_rules | `(tactic| walk_at "binaryOp BitAnd int int") => `(tactic| (k_here; (with_reducible show wpAny _ _ (binaryOp Operator.BitAnd (Value.int _ _) (Value.int _ _)) _ _ _); k_dflt (refine and_int ?_)))
local macro_rules | `(tactic| walk_at "call ref") => `(tactic| (k_here; k_dflt ((with_reducible show wpAny _ _ (call (Value.ref 144) [Value.ref _, Value.bytes _ _, Value.int _ _]) _ _ _); refine' plain_ok (B := ?kB) (F := ?kF) (X := ?kX) (T := ?kT) (hk := ?kk) (N := ?kN) (hfm := ?kfm) (hcm := ?kcm) (hMm := ?kMm) (hf := ?kf) (hM := ?kM) (hb := ?kb) (hks := ?kks) (hi0 := ?ki) (hx := ?kx) (hCH := ?kC) (hdp := ?kdp) (hun := ?kun) (hdec := ?kd) (hV := ?kV) ?_; (case kf => assumption); (case kB => k_asm); (case kF => k_asm); (case kX => k_asm); (case kT => k_asm); (case kk => exact rfl); (case kN => k_asm); (case kfm => k_mem); (case kcm => k_mem); (case kMm => k_mem); (case kM => assumption); (case kb => assumption); (case kd => assumption); (case kks => (simp only [List.length_take, List.length_append, List.length_cons, List.length_nil]; omega)); (case kx => exact rfl); (case ki => omega); (case kC => assumption); (case kV => first | assumption | exact rfl); (case kdp => walk_at "m room"); (case kun => walk_at "m room"); k_whole; intro tp' t1' t2' h' tk' F' N' l9'; k_lt l9'; (try k_fold))))
local macro_rules | `(tactic| walk_at "call ref") => `(tactic| (k_here; k_dflt ((with_reducible show wpAny _ _ (call (Value.ref 144) [Value.ref _, Value.bytes _ _, Value.int _ _]) _ _ _); refine' sign_ok (B := ?kB) (F := ?kF) (X := ?kX) (T := ?kT) (hk := ?kk) (N := ?kN) (hfm := ?kfm) (hcm := ?kcm) (hMm := ?kMm) (hSm := ?kSm) (hS9 := ?kS9) (hf := ?kf) (hM := ?kM) (hb := ?kb) (hks := ?kks) (hi0 := ?ki) (hx := ?kx) (hCH := ?kC) (hdp := ?kdp) (hun := ?kun) (hdec := ?kd) (hV := ?kV) ?_; (case kf => assumption); (case kB => k_asm); (case kF => k_asm); (case kX => k_asm); (case kT => k_asm); (case kk => exact rfl); (case kN => k_asm); (case kfm => k_mem); (case kcm => k_mem); (case kMm => k_mem); (case kSm => k_mem); (case kS9 => assumption); (case kM => assumption); (case kb => assumption); (case kd => assumption); (case kks => (simp only [List.length_take, List.length_append, List.length_cons, List.length_nil]; omega)); (case kx => exact rfl); (case ki => omega); (case kC => assumption); (case kV => first | assumption | exact rfl); (case kdp => walk_at "m room"); (case kun => walk_at "m room"); k_whole; intro tp' t1' t2' h' tk' F' N' l9'; k_lt l9'; (try k_fold))))
local macro_rules | `(tactic| walk_at "m stepsK") => `(tactic| repeat' ((fail_if_success (with_reducible show wpAny _ _ (execs (Stmt.Assign [Expr.Name (Str.ofString "cut") _] _ _ :: _) _) _ _ _)); walk_at "m step"))
theorem law_mid1 {w : World} {p : Program} {loose : List Str} {mean : ExcName → Option Value} {mg mb : Str → Option Value} {h₀ : Heap} {L fa : Addr} {cd : Value} {m : Str → Option Value} {s : Shared} {Q : Flow → Shared → Prop} {E : Value → Shared → Prop}
    {sc : Scope} {body : List Stmt} {d l fS cS cSb cSm fP cP cPm : Addr} {nd nl : Nat} {us : List Value} {xs gs : List Int} {seed number mask bits : Int} {t1 tn to tm tsb tsm : Tok} {oR oV oD oS ocS oSb oSm oP ocP oPm : Obj} {vR vV : Option Value} {bo ba : Array UInt8} {A : List Int} {ta tmk tbt : Tok}
    (hS : defScope (topStmt "law") = some sc) (hBd : (defBody (topStmt "law")).drop 7 = body)
    (B : Below callerA h₀ [] h₀) (F : Fr h₀ L s.heap m) (X : (Mine.hd.heap_39 w.params).In h₀) (T : Top p loose mean mg mb h₀)
    (N : News h₀ L s.heap [(fS, oS), (cS, ocS), (cSb, oSb), (cSm, oSm), (fP, oP), (cP, ocP), (cPm, oPm), (d, listOf #[.ref l, .int seed t1] nd), (l, listOf us.toArray nl), (L + 1 + 1 + 1, oR), (L + 1 + 1, oV), (L + 1, oD)])
    (hoR : oR.data = .cell vR) (hoV : oV.data = .cell vV) (hoD : oD.data = .cell (some (.ref d))) (hlt : @LT.lt Nat _ l d) (hlt2 : @LT.lt Nat _ (L + 1 + 1 + 1) l)
    (h6 : @LT.lt Nat _ d cPm) (h5 : @LT.lt Nat _ cPm cP) (h4 : @LT.lt Nat _ cP fP) (h3 : @LT.lt Nat _ fP cSm) (h2 : @LT.lt Nat _ cSm cSb) (h1 : @LT.lt Nat _ cSb cS) (h0 : @LT.lt Nat _ cS fS)
    (hfP : FnOk oP plainDef [(Str.ofString "mask", cPm)] cP ocP) (hfS : FnOk oS signedDef [(Str.ofString "signbit", cSb), (Str.ofString "mask", cSm)] cS ocS)
    (hPm : oPm.data = .cell (some (.int mask tm))) (hSm : oSm.data = .cell (some (.int (2 ^ bits.toNat - 1) tsm))) (hSb : oSb.data = .cell (some (.int (2 ^ (bits - 1).toNat) tsb)))
    (hI : IntsAre us xs) (D : DrawOk xs seed)
    (hm1 : m (Str.ofString "number") = some (.int number tn)) (hm2 : m (Str.ofString "octets") = some (.bytes bo to)) (hm3 : m (Str.ofString "plain") = some (.ref fP)) (hm4 : m (Str.ofString "signed") = some (.ref fS))
    (hm5 : m (Str.ofString "ahead") = some (.bytes ba ta)) (hm6 : m (Str.ofString "mask") = some (.int mask tmk)) (hm7 : m (Str.ofString "bits") = some (.int bits tbt)) (hbt1 : 1 ≤ bits) (hbt2 : bits ≤ 64) (hba : KBw.bInts ba = A) (hA : A.length ≤ 2)
    (hbo : KBw.bInts bo = enc gs) (hgs : ∀ g ∈ gs, 0 ≤ g ∧ g < 128) (hg1 : 1 ≤ gs.length) (hg2 : gs.length ≤ 10) (hn : number = gval gs) (hn2 : number < 2 ^ 70)
    {hX : Heap} {cX pX : Addr} (hCH : CodeHd hX cX pX)
    (hQ : ∀ m' h' tk', Fr h₀ L h' m' → Q (.ret (.bool true)) { s with heap := h', toks := tk' }) :
    wpAny (model PySem.Challenge.rw_au6043_01.row.toRowW.prog w) (callerA.deeper (envOfC (Str.ofString "law") sc L fa cd)) (execs body (envOfC (Str.ofString "law") sc L fa cd)) Q E s := by
  have em : m = fun y => if y = Str.ofString "number" then some (.int number tn) else if y = Str.ofString "octets" then some (.bytes bo to) else if y = Str.ofString "plain" then some (.ref fP) else if y = Str.ofString "signed" then some (.ref fS) else if y = Str.ofString "ahead" then some (.bytes ba ta) else if y = Str.ofString "mask" then some (.int mask tmk) else if y = Str.ofString "bits" then some (.int bits tbt) else m y := by
    funext y
    (repeat' split) <;> first | (subst_vars; assumption) | rfl
  rw [em] at F
  clear em hm1 hm2 hm3 hm4 hm5 hm6 hm7
  have X₀ := X
  have hS0 := hS
  have hl9 := enc_len gs
  have hp9 : (0 : Int) < 2 ^ bits.toNat := Int.pow_pos (by decide)
  have hB2 := congrArg (List.drop 4) hBd
  rw [List.drop_drop] at hB2
  w_top off
  revert X; k_fill; intro X
  conv at hS => lhs; whnf
  cases hS
  conv at hBd => lhs; whnf
  subst hBd
  have hl5 : KBw.bInts #[5] = [5] := by decide
  have hd1 : dec 0 0 (((A ++ enc gs) ++ [5]).drop A.length) = .ok number (enc gs).length := by
    rw [List.append_assoc, List.drop_left, hl9, dec_enc [5] gs 0 0 hgs hg1 (by omega), hn]
    simp
  have hV := sgn_law (number := number) hbt1
  iterate 70 (walk_at "m step")
  by_cases hc9 : (number.fmod (2 ^ bits.toNat)).fdiv (2 ^ (bits - 1).toNat) = 1
  · rw [if_pos hc9] at hV
    walk_at "m stepsK"
    all_goals first
      | (exfalso; contradiction)
      | (show wpAny _ _ _ _ _ _
         rename News _ _ _ _ => N9
         rename Fr _ _ _ _ => F9
         exact law_mid2 (N := cb_drop N9 fun p hp => .tail _ (.tail _ (.tail _ (.tail _ hp)))) (F := F9) (hS := hS0) (hBd := hB2) (B := B) (X := X₀) (T := T) (hoV := hoV) (hoR := hoR) (hoD := hoD) (hlt := hlt) (hlt2 := hlt2) (h6 := h6) (h5 := h5) (h4 := h4) (h3 := h3) (h2 := h2) (h1 := h1) (h0 := h0) (hfP := hfP) (hfS := hfS) (hPm := hPm) (hSm := hSm) (hSb := hSb) (hI := hI) (D := D) (hm1 := rfl) (hm2 := rfl) (hm3 := rfl) (hm4 := rfl) (hbo := hbo) (hgs := hgs) (hg1 := hg1) (hg2 := hg2) (hn := hn) (hn2 := hn2) (hCH := hCH) (hQ := fun _ _ _ F => hQ _ _ _ F))
  · rw [if_neg hc9] at hV
    walk_at "m stepsK"
    all_goals first
      | (exfalso; contradiction)
      | (show wpAny _ _ _ _ _ _
         rename News _ _ _ _ => N9
         rename Fr _ _ _ _ => F9
         exact law_mid2 (N := cb_drop N9 fun p hp => .tail _ (.tail _ (.tail _ (.tail _ hp)))) (F := F9) (hS := hS0) (hBd := hB2) (B := B) (X := X₀) (T := T) (hoV := hoV) (hoR := hoR) (hoD := hoD) (hlt := hlt) (hlt2 := hlt2) (h6 := h6) (h5 := h5) (h4 := h4) (h3 := h3) (h2 := h2) (h1 := h1) (h0 := h0) (hfP := hfP) (hfS := hfS) (hPm := hPm) (hSm := hSm) (hSb := hSb) (hI := hI) (D := D) (hm1 := rfl) (hm2 := rfl) (hm3 := rfl) (hm4 := rfl) (hbo := hbo) (hgs := hgs) (hg1 := hg1) (hg2 := hg2) (hn := hn) (hn2 := hn2) (hCH := hCH) (hQ := fun _ _ _ F => hQ _ _ _ F))
end LawMid1Part

end PartLawMid1

section PartLawJoin
local macro_rules | `(tactic| walk_at "m enter") => `(tactic| (refine' code_defS ?k1 ?k2 ?k3 ?k4 ?k5 ?kA ?kF ?kK ?k6 ?k7 ?k8 ?k9 ?kB ?_ ?c2 ?c3 ?c4 ?c5; (case kA => exact rfl); (case kF => exact rfl); (case kK => assumption); (case k1 => k_asm); (case k2 => k_asm); (case k3 => k_asm); (case k4 => k_asm); (case k5 => k_asm); (case k6 => k_is); (case k7 => k_is); (case k8 => ktr_room); (case k9 => exact BindsTo.of_eq rfl); (case c5 => decide); (case kB => exact locs rfl); (case c2 => exact rfl); (case c3 => exact rfl); (case c4 => exact rfl); k_whole; intro g' L' h' FG' F' N' B' X' T'; (try dsimp only); (try k_lift B'); (try k_fold)))
local macro_rules | `(tactic| units_room) => `(tactic| (have hcL' := cLine_is; simp only [units_in1, units_deeper, Around.mark_units]; (try dsimp only [ktrTop]); omega))
local macro_rules | `(tactic| ktr_room) => `(tactic| ((try simp only [depth_in1, depth_deeper]); (try dsimp only [ktrTop]); (try simp only [recursionLimit]); omega))
local macro_rules | `(tactic| k_room) => `(tactic| ktr_room)
local macro_rules | `(tactic| walk_at "eval ListComp") => `(tactic| (k_here; k_dflt (refine LCg.ListComp_U (F₀ := by k_asm) (by rfl) (by decide) (by rfl) (by decide) (by rfl) ?_)))
local macro_rules | `(tactic| walk_at "CompSrc") => `(tactic| (k_here; k_dflt (first
  | (refine LCg.CompSrc.base (by rfl) (by k_asm) (by k_asm) (by assumption) ?hz ?_; (case hz => ((have hL9 := IntsAre.length (by assumption)); simp only [List.size_toArray, sizeLine_eq]; omega)); intro g')
  | (refine LCg.CompSrc.range (by rfl) (by k_asm) (by k_asm) (by assumption) ?sm (rangeSize_up _) ?hz ?_; (case sm => exact small_one (by omega) (by omega) (by omega) (by omega)); (case hz => (simp only [sizeLine_eq]; omega)); intro g'))))
local macro_rules | `(tactic| walk_at "call type:range") => `(tactic| (k_here; k_dflt (refine' range1_rows ?kF ?kN ?_; (case kF => k_asm); (case kN => k_asm); intro h' tk' t1' u1' v1' hR' F' N' hk')))
local macro_rules | `(tactic| walk_at "execs nil") => `(tactic| (with_reducible refine wpAny_execs_nil ?_))
local macro_rules | `(tactic| walk_at "m enterC") => `(tactic| (refine' code_defCS ?k1 ?k2 ?k3 ?k4 ?k5 ?kA ?kF ?kK ?k6 ?k7 ?k8 ?k9 ?kB ?kD ?_ ?c2 ?c3 ?c4; (case kA => exact rfl); (case kF => exact rfl); (case kK => assumption); (case k1 => k_asm); (case k2 => k_asm); (case k3 => k_asm); (case k4 => k_asm); (case k5 => k_asm); (case k6 => k_is); (case k7 => k_is); (case k8 => ktr_room); (case k9 => exact BindsTo.of_eq rfl); (case kB => exact rfl); (case kD => decide +kernel); (case c2 => exact rfl); (case c3 => exact rfl); (case c4 => exact rfl); k_whole; intro g' L' h' tk' cells' FG' F' N' Y' B' X' T' l1; (try k_lt l1); k_cells Y'; (try simp only [List.cons_append, List.nil_append] at N'); (try dsimp only); (try k_lift B'); (try k_fold)))
local macro_rules | `(tactic| walk_at "m step") => `(tactic| ((fail_if_success (with_reducible show wpAny _ _ (exec (Stmt.While _ _ _ _) _) _ _ _)); (fail_if_success (with_reducible show LCg.CompRest _ _ _ _ _ _ _ _ _ _ _ _ _ _ _ _ _ _ _)); (first | (k_unfold; (try dsimp only)) | (k_end; kc_close) | walk1 | (dsimp only; walk1) | (leave1; walk_say "STEP leave1"; (try dsimp only)) | fail "no step")))
local macro_rules | `(tactic| walk_at "m steps") => `(tactic| repeat' ((fail_if_success (with_reducible show wpAny _ _ (exec (Stmt.While _ _ _ _) _) _ _ _)); (fail_if_success (with_reducible show LCg.CompRest _ _ _ _ _ _ _ _ _ _ _ _ _ _ _ _ _ _ _)); (first | (k_unfold; (try dsimp only)) | (k_end; kc_close) | walk1 | (dsimp only; walk1) | (leave1; walk_say "STEP leave1"; (try dsimp only)) | fail "no step")))
local macro_rules | `(tactic| walk_at "m room") => `(tactic| ((try simp only [depth_in1, depth_deeper, units_in1, units_deeper, depth_caller, units_caller]); (try dsimp only [ktrTop]); omega))
local macro_rules | `(tactic| walk_at "binaryOp LShift int int") => `(tactic| (k_here; k_dflt ((refine' lshift_K ?ka ?kb ?kc ?ke ?_); (case ka => first | decide | omega); (case kb => first | decide | omega); (case kc => first | decide | omega); (case ke => ((try simp only [Int.reduceSub, Int.reduceAdd, Int.reduceToNat, Int.reducePow, Int.reduceMul, Int.one_mul]); exact rfl)); k_whole)))
local macro_rules | `(tactic| walk_at "callWith ref") => `(tactic| (k_here; k_dflt (refine' callWith_K ?k1 ?k2 ?_; (case k1 => k_asm); (case k2 => k_is); k_whole)))
local macro_rules | `(tactic| walk_at "m enterT") => `(tactic| (refine' code_defX0 ?k1 ?k2 ?k3 ?k4 ?k5 ?kA ?kF ?kK ?k6 ?k7 ?k8 ?k9 ?kB ?_ ?c2 ?c3 ?c4 ?c5; (case kA => exact rfl); (case kF => exact rfl); (case kK => assumption); (case k1 => k_asm); (case k2 => k_asm); (case k3 => k_asm); (case k4 => k_asm); (case k5 => k_asm); (case k6 => k_is); (case k7 => k_is); (case k8 => ktr_room); (case k9 => exact BindsTo.of_eq rfl); (case c5 => decide); (case kB => exact locs rfl); (case c2 => exact rfl); (case c3 => exact rfl); (case c4 => exact rfl); k_whole; intro g' L' h' FG' F' N' B' X' T' D'; (try dsimp only); (try k_lift B'); (try k_fold)))
local macro_rules | `(tactic| walk_at "call ref") => `(tactic| (k_here; k_dflt ((show wpAny _ _ (call (Value.ref 132) [Value.ref _, Value.int _ _]) _ _ _); refine' take_use ?kB ?kF ?kX ?kT ?kk ?kN ?kd ?kl ?lt ?kI ?kD ?km ?kdp ?kun ?kU ?kV ?_; (case kB => k_asm); (case kF => k_asm); (case kX => k_asm); (case kT => k_asm); (case kk => first | exact rfl | assumption); (case kN => k_asm); (case kd => k_mem); (case kl => k_mem); (case lt => omega); (case kI => assumption); (case kD => assumption); (case km => first | decide | assumption | omega | exact Int.pow_pos (by decide)); (case kdp => walk_at "m room"); (case kun => walk_at "m room"); (case kU => (intro _ _ _; k_upd)); (case kV => (intro _ _ _ _ _; k_upd)); k_whole; intro r' tr' us' xs' sd' td' nd' nl' h' tk' F' N' hI' D' hr0' hr1'; (try dsimp only at N'); (try k_fold))))
local macro_rules | `(tactic| walk_at "eval Name") => `(tactic| (k_here; (with_reducible show wpAny _ _ (eval (Expr.Name _ _) (compEnvC _ _ _ _)) _ _ _); k_dflt (refine ld_cell (by k_asm) (by rfl) (by k_mem) (by assumption) ?_)))
local macro_rules | `(tactic| walk_at "call ref") => `(tactic| (k_here; k_dflt ((show wpAny _ _ (call (Value.ref 125) [Value.ref _]) _ _ _); refine' draw_use ?kB ?kF ?kX ?kT ?kk ?kl ?ki ?kn ?kN ?kdp ?kun ?_; (case kB => k_asm); (case kF => k_asm); (case kX => k_asm); (case kT => k_asm); (case kk => first | exact rfl | assumption); (case kl => assumption); (case ki => assumption); (case kn => first | assumption | omega); (case kN => k_asm); (case kdp => walk_at "m room"); (case kun => walk_at "m room"); k_whole; intro d' l' us' xs' sd' td' nd' nl' h' tk' F' N' l1' l2' hI' D'; (try k_fold))))
local macro_rules | `(tactic| walk_at "call ref") => `(tactic| (k_here; k_dflt ((show wpAny _ _ (call (Value.ref 137) [Value.ref _]) _ _ _); refine' groups_use ?kB ?kF ?kX ?kT ?kk ?kN ?kd ?kl ?lt ?kI ?kD ?kdp ?kun ?kU ?kV ?_; (case kB => k_asm); (case kF => k_asm); (case kX => k_asm); (case kT => k_asm); (case kk => first | exact rfl | assumption); (case kN => k_asm); (case kd => k_mem); (case kl => k_mem); (case lt => omega); (case kI => assumption); (case kD => assumption); (case kdp => walk_at "m room"); (case kun => walk_at "m room"); (case kU => (intro _ _ _; k_upd)); (case kV => (intro _ _ _ _ _; k_upd)); k_whole; intro tp' number' tn' b' tb' gs' us' xs' sd' td' nd' nl' h' tk' F' N' l1' hI' D' hg1' hg2' hg3' hg4' hg5' hg6'; (try dsimp only at N'); (try k_fold))))
local macro_rules | `(tactic| walk_at "CompSrc") => `(tactic| (k_here; k_dflt (first
  | (refine LCg.CompSrc.range (n := 12) (by rfl) (by k_asm) (by k_asm) (by assumption) ?sm (rangeSize_up 12) ?hz ?_; (case hz => (simp only [sizeLine_eq]; omega)); (case sm => exact small_one (by omega) (by omega) (by omega) (by omega)); intro g')
  | (refine LCg.CompSrc.range (n := 8) (by rfl) (by k_asm) (by k_asm) (by assumption) ?sm (rangeSize_up 8) ?hz ?_; (case hz => (simp only [sizeLine_eq]; omega)); (case sm => exact small_one (by omega) (by omega) (by omega) (by omega)); intro g')
  | (refine LCg.CompSrc.range (n := 4) (by rfl) (by k_asm) (by k_asm) (by assumption) ?sm (rangeSize_up 4) ?hz ?_; (case hz => (simp only [sizeLine_eq]; omega)); (case sm => exact small_one (by omega) (by omega) (by omega) (by omega)); intro g'))))
section LawJoinPart
/-- the heap's first L objects -/
def cutHeap (h : Heap) (L : Nat) : Heap := ⟨h.objs.extract 0 L, h.life⟩
theorem ext_get (xs : Array Obj) (L a : Nat) : (xs.extract 0 L)[a]? = if a < L then xs[a]? else none := by
  rw [Array.getElem?_extract]
  simp only [Nat.zero_add, Nat.sub_zero]
  by_cases h1 : a < L
  · by_cases h2 : a < xs.size
    · have h3 : a < min L xs.size := by omega
      rw [if_pos h3, if_pos h1]
    · have h3 : ¬ a < min L xs.size := by omega
      rw [if_neg h3, if_pos h1, Array.getElem?_eq_none (by omega)]
  · have h3 : ¬ a < min L xs.size := by omega
    rw [if_neg h3, if_neg h1]
theorem cut_get {h : Heap} {L : Nat} {a : Addr} {o : Obj} : (cutHeap h L).get? a = some o ↔ @LT.lt Nat _ a L ∧ h.get? a = some o := by
  unfold Heap.get? cutHeap
  dsimp only
  rw [ext_get]
  by_cases hl : @LT.lt Nat _ a L
  · rw [if_pos hl]
    exact ⟨fun e => ⟨hl, e⟩, fun e => e.2⟩
  · rw [if_neg hl]
    exact ⟨fun e => (by cases e), fun e => absurd e.1 hl⟩
theorem cut_base {h₀ h : Heap} {L : Addr} {m : Str → Option Value} (F : Fr h₀ L h m) : Fr (cutHeap h L) L h m ∧ h₀.StaysIn (cutHeap h L) :=
  ⟨⟨F.ns, fun b o e => (cut_get.mp e).2, by show (h.objs.extract 0 L).size ≤ L; rw [Array.size_extract]; omega⟩,
   fun b o e => cut_get.mpr ⟨Nat.lt_of_lt_of_le (Heap.lt_size e) F.above, F.keep b o e⟩⟩
theorem cut_none {h : Heap} {L a : Addr} (l : @LT.lt Nat _ L a) : (cutHeap h L).get? a = none := by
  cases q : (cutHeap h L).get? a with
  | none => rfl
  | some o => exact absurd (cut_get.mp q).1 (Nat.not_lt_of_gt l)
theorem law_join {w : World} {p : Program} {loose : List Str} {mean : ExcName → Option Value} {mg mb : Str → Option Value} {h₀ : Heap} {L fa : Addr} {cd : Value} {m : Str → Option Value} {s : Shared} {Q : Flow → Shared → Prop} {E : Value → Shared → Prop}
    {sc : Scope} {body : List Stmt} {d l fS cS cSb cSm fP cP cPm : Addr} {nd nl : Nat} {us : List Value} {xs gs : List Int} {seed number mask bits : Int} {t1 tn to tm tsb tsm : Tok} {oR oV oD oS ocS oSb oSm oP ocP oPm : Obj} {vR vV : Option Value} {bo ba : Array UInt8} {A : List Int} {ta tmk tbt : Tok} {p1 p2 : Addr} {q1 q2 : Array Value}
    (hS : defScope (topStmt "law") = some sc) (hBd : (defBody (topStmt "law")).drop 7 = body)
    (F : Fr h₀ L s.heap m) (X : (Mine.hd.heap_39 w.params).In h₀) (T : Top p loose mean mg mb h₀)
    (N : News h₀ L s.heap [(fS, oS), (cS, ocS), (cSb, oSb), (cSm, oSm), (fP, oP), (cP, ocP), (cPm, oPm), (d, listOf #[.ref l, .int seed t1] nd), (l, listOf us.toArray nl), (L + 1 + 1 + 1, oR), (L + 1 + 1, oV), (L + 1, oD), (p1, tabObj q1), (p2, tabObj q2)]) (hp1 : @LT.lt Nat _ p1 L) (hp2 : @LT.lt Nat _ p2 L)
    (hoR : oR.data = .cell vR) (hoV : oV.data = .cell vV) (hoD : oD.data = .cell (some (.ref d))) (hlt : @LT.lt Nat _ l d) (hlt2 : @LT.lt Nat _ (L + 1 + 1 + 1) l)
    (h6 : @LT.lt Nat _ d cPm) (h5 : @LT.lt Nat _ cPm cP) (h4 : @LT.lt Nat _ cP fP) (h3 : @LT.lt Nat _ fP cSm) (h2 : @LT.lt Nat _ cSm cSb) (h1 : @LT.lt Nat _ cSb cS) (h0 : @LT.lt Nat _ cS fS)
    (hfP : FnOk oP plainDef [(Str.ofString "mask", cPm)] cP ocP) (hfS : FnOk oS signedDef [(Str.ofString "signbit", cSb), (Str.ofString "mask", cSm)] cS ocS)
    (hPm : oPm.data = .cell (some (.int mask tm))) (hSm : oSm.data = .cell (some (.int (2 ^ bits.toNat - 1) tsm))) (hSb : oSb.data = .cell (some (.int (2 ^ (bits - 1).toNat) tsb)))
    (hI : IntsAre us xs) (D : DrawOk xs seed)
    (hm1 : m (Str.ofString "number") = some (.int number tn)) (hm2 : m (Str.ofString "octets") = some (.bytes bo to)) (hm3 : m (Str.ofString "plain") = some (.ref fP)) (hm4 : m (Str.ofString "signed") = some (.ref fS))
    (hm5 : m (Str.ofString "ahead") = some (.bytes ba ta)) (hm6 : m (Str.ofString "mask") = some (.int mask tmk)) (hm7 : m (Str.ofString "bits") = some (.int bits tbt)) (hbt1 : 1 ≤ bits) (hbt2 : bits ≤ 64) (hba : KBw.bInts ba = A) (hA : A.length ≤ 2)
    (hbo : KBw.bInts bo = enc gs) (hgs : ∀ g ∈ gs, 0 ≤ g ∧ g < 128) (hg1 : 1 ≤ gs.length) (hg2 : gs.length ≤ 10) (hn : number = gval gs) (hn2 : number < 2 ^ 70)
    {hX : Heap} {cX pX : Addr} (hCH : CodeHd hX cX pX)
    (hQ : ∀ m' h' tk', Fr h₀ L h' m' → News h₀ L h' [(p1, tabObj q1), (p2, tabObj q2)] → Q (.ret (.bool true)) { s with heap := h', toks := tk' }) :
    wpAny (model PySem.Challenge.rw_au6043_01.row.toRowW.prog w) (callerA.deeper (envOfC (Str.ofString "law") sc L fa cd)) (execs body (envOfC (Str.ofString "law") sc L fa cd)) Q E s := by
  obtain ⟨F9, st⟩ := cut_base F
  refine law_mid1 (h₀ := cutHeap s.heap L) (seed := seed) (t1 := t1) (nd := nd) (nl := nl) (B := below_caller _) (F := F9) (X := X.keeps st) (T := T.keeps st) (N := ?_) (hS := hS) (hBd := hBd) (hoV := hoV) (hoR := hoR) (hoD := hoD) (hlt := hlt) (hlt2 := hlt2) (h6 := h6) (h5 := h5) (h4 := h4) (h3 := h3) (h2 := h2) (h1 := h1) (h0 := h0) (hfP := hfP) (hfS := hfS) (hPm := hPm) (hSm := hSm) (hSb := hSb) (hI := hI) (D := D) (hm1 := hm1) (hm2 := hm2) (hm3 := hm3) (hm4 := hm4) (hm5 := hm5) (hm6 := hm6) (hm7 := hm7) (hbt1 := hbt1) (hbt2 := hbt2) (hba := hba) (hA := hA) (hbo := hbo) (hgs := hgs) (hg1 := hg1) (hg2 := hg2) (hn := hn) (hn2 := hn2) (hCH := hCH)
    (hQ := fun m' h' tk' F' => hQ m' h' tk' ⟨F'.ns, fun b o e => F'.keep b o (st b o e), F.above⟩ ?_)
  · have sub : ∀ p ∈ [(fS, oS), (cS, ocS), (cSb, oSb), (cSm, oSm), (fP, oP), (cP, ocP), (cPm, oPm), (d, listOf #[.ref l, .int seed t1] nd), (l, listOf us.toArray nl), (L + 1 + 1 + 1, oR), (L + 1 + 1, oV), (L + 1, oD)], @LT.lt Nat _ L p.1 := by
      intro p hp
      (iterate 12 (rcases hp with _ | ⟨_, hp⟩; (focus (show @LT.lt Nat _ L _; dsimp only; omega))))
      cases hp
    intro p hp
    have q := N p (List.mem_append_left [(p1, tabObj q1), (p2, tabObj q2)] hp)
    exact ⟨q.1, q.2.1, cut_none (sub p hp)⟩
  · intro p hp
    have q := N p (List.mem_append_right [(fS, oS), (cS, ocS), (cSb, oSb), (cSm, oSm), (fP, oP), (cP, ocP), (cPm, oPm), (d, listOf #[.ref l, .int seed t1] nd), (l, listOf us.toArray nl), (L + 1 + 1 + 1, oR), (L + 1 + 1, oV), (L + 1, oD)] hp)
    refine ⟨F'.keep _ _ (cut_get.mpr ⟨?_, q.1⟩), q.2⟩
    rcases hp with _ | ⟨_, hp⟩
    · exact hp1
    · rcases hp with _ | ⟨_, hp⟩
      · exact hp2
      · cases hp
theorem ahead_len {r : Int} (h1 : r < 3) (c : UInt8) : (KBw.bInts ((List.replicate r.toNat [c]).flatten.toArray)).length ≤ 2 := by
  rw [KBw.ints_length]
  simp
  omega
end LawJoinPart

end PartLawJoin

section PartLawHead
local macro_rules | `(tactic| walk_at "m enter") => `(tactic| (refine' code_defS ?k1 ?k2 ?k3 ?k4 ?k5 ?kA ?kF ?kK ?k6 ?k7 ?k8 ?k9 ?kB ?_ ?c2 ?c3 ?c4 ?c5; (case kA => exact rfl); (case kF => exact rfl); (case kK => assumption); (case k1 => k_asm); (case k2 => k_asm); (case k3 => k_asm); (case k4 => k_asm); (case k5 => k_asm); (case k6 => k_is); (case k7 => k_is); (case k8 => ktr_room); (case k9 => exact BindsTo.of_eq rfl); (case c5 => decide); (case kB => exact locs rfl); (case c2 => exact rfl); (case c3 => exact rfl); (case c4 => exact rfl); k_whole; intro g' L' h' FG' F' N' B' X' T'; (try dsimp only); (try k_lift B'); (try k_fold)))
local macro_rules | `(tactic| units_room) => `(tactic| (have hcL' := cLine_is; simp only [units_in1, units_deeper, Around.mark_units]; (try dsimp only [ktrTop]); omega))
local macro_rules | `(tactic| ktr_room) => `(tactic| ((try simp only [depth_in1, depth_deeper]); (try dsimp only [ktrTop]); (try simp only [recursionLimit]); omega))
local macro_rules | `(tactic| k_room) => `(tactic| ktr_room)
local macro_rules | `(tactic| walk_at "eval ListComp") => `(tactic| (k_here; k_dflt (refine LCg.ListComp_U (F₀ := by k_asm) (by rfl) (by decide) (by rfl) (by decide) (by rfl) ?_)))
local macro_rules | `(tactic| walk_at "CompSrc") => `(tactic| (k_here; k_dflt (first
  | (refine LCg.CompSrc.base (by rfl) (by k_asm) (by k_asm) (by assumption) ?hz ?_; (case hz => ((have hL9 := IntsAre.length (by assumption)); simp only [List.size_toArray, sizeLine_eq]; omega)); intro g')
  | (refine LCg.CompSrc.range (by rfl) (by k_asm) (by k_asm) (by assumption) ?sm (rangeSize_up _) ?hz ?_; (case sm => exact small_one (by omega) (by omega) (by omega) (by omega)); (case hz => (simp only [sizeLine_eq]; omega)); intro g'))))
local macro_rules | `(tactic| walk_at "call type:range") => `(tactic| (k_here; k_dflt (refine' range1_rows ?kF ?kN ?_; (case kF => k_asm); (case kN => k_asm); intro h' tk' t1' u1' v1' hR' F' N' hk')))
local macro_rules | `(tactic| walk_at "execs nil") => `(tactic| (with_reducible refine wpAny_execs_nil ?_))
local macro_rules | `(tactic| walk_at "m enterC") => `(tactic| (refine' code_defCS ?k1 ?k2 ?k3 ?k4 ?k5 ?kA ?kF ?kK ?k6 ?k7 ?k8 ?k9 ?kB ?kD ?_ ?c2 ?c3 ?c4; (case kA => exact rfl); (case kF => exact rfl); (case kK => assumption); (case k1 => k_asm); (case k2 => k_asm); (case k3 => k_asm); (case k4 => k_asm); (case k5 => k_asm); (case k6 => k_is); (case k7 => k_is); (case k8 => ktr_room); (case k9 => exact BindsTo.of_eq rfl); (case kB => exact rfl); (case kD => decide +kernel); (case c2 => exact rfl); (case c3 => exact rfl); (case c4 => exact rfl); k_whole; intro g' L' h' tk' cells' FG' F' N' Y' B' X' T' l1; (try k_lt l1); k_cells Y'; (try simp only [List.cons_append, List.nil_append] at N'); (try dsimp only); (try k_lift B'); (try k_fold)))
local macro_rules | `(tactic| walk_at "m step") => `(tactic| ((fail_if_success (with_reducible show wpAny _ _ (exec (Stmt.While _ _ _ _) _) _ _ _)); (fail_if_success (with_reducible show LCg.CompRest _ _ _ _ _ _ _ _ _ _ _ _ _ _ _ _ _ _ _)); (first | (k_unfold; (try dsimp only)) | (k_end; kc_close) | walk1 | (dsimp only; walk1) | (leave1; walk_say "STEP leave1"; (try dsimp only)) | fail "no step")))
local macro_rules | `(tactic| walk_at "m steps") => `(tactic| repeat' ((fail_if_success (with_reducible show wpAny _ _ (exec (Stmt.While _ _ _ _) _) _ _ _)); (fail_if_success (with_reducible show LCg.CompRest _ _ _ _ _ _ _ _ _ _ _ _ _ _ _ _ _ _ _)); (first | (k_unfold; (try dsimp only)) | (k_end; kc_close) | walk1 | (dsimp only; walk1) | (leave1; walk_say "STEP leave1"; (try dsimp only)) | fail "no step")))
local macro_rules | `(tactic| walk_at "m room") => `(tactic| ((try simp only [depth_in1, depth_deeper, units_in1, units_deeper, depth_caller, units_caller]); (try dsimp only [ktrTop]); omega))
local macro_rules | `(tactic| walk_at "binaryOp LShift int int") => `(tactic| (k_here; k_dflt ((refine' lshift_K ?ka ?kb ?kc ?ke ?_); (case ka => first | decide | omega); (case kb => first | decide | omega); (case kc => first | decide | omega); (case ke => ((try simp only [Int.reduceSub, Int.reduceAdd, Int.reduceToNat, Int.reducePow, Int.reduceMul, Int.one_mul]); exact rfl)); k_whole)))
local macro_rules | `(tactic| walk_at "callWith ref") => `(tactic| (k_here; k_dflt (refine' callWith_K ?k1 ?k2 ?_; (case k1 => k_asm); (case k2 => k_is); k_whole)))
local macro_rules | `(tactic| walk_at "m enterT") => `(tactic| (refine' code_defX0 ?k1 ?k2 ?k3 ?k4 ?k5 ?kA ?kF ?kK ?k6 ?k7 ?k8 ?k9 ?kB ?_ ?c2 ?c3 ?c4 ?c5; (case kA => exact rfl); (case kF => exact rfl); (case kK => assumption); (case k1 => k_asm); (case k2 => k_asm); (case k3 => k_asm); (case k4 => k_asm); (case k5 => k_asm); (case k6 => k_is); (case k7 => k_is); (case k8 => ktr_room); (case k9 => exact BindsTo.of_eq rfl); (case c5 => decide); (case kB => exact locs rfl); (case c2 => exact rfl); (case c3 => exact rfl); (case c4 => exact rfl); k_whole; intro g' L' h' FG' F' N' B' X' T' D'; (try dsimp only); (try k_lift B'); (try k_fold)))
local macro_rules | `(tactic| walk_at "call ref") => `(tactic| (k_here; k_dflt ((show wpAny _ _ (call (Value.ref 132) [Value.ref _, Value.int _ _]) _ _ _); refine' take_use ?kB ?kF ?kX ?kT ?kk ?kN ?kd ?kl ?lt ?kI ?kD ?km ?kdp ?kun ?kU ?kV ?_; (case kB => k_asm); (case kF => k_asm); (case kX => k_asm); (case kT => k_asm); (case kk => first | exact rfl | assumption); (case kN => k_asm); (case kd => k_mem); (case kl => k_mem); (case lt => omega); (case kI => assumption); (case kD => assumption); (case km => first | decide | assumption | omega | exact Int.pow_pos (by decide)); (case kdp => walk_at "m room"); (case kun => walk_at "m room"); (case kU => (intro _ _ _; k_upd)); (case kV => (intro _ _ _ _ _; k_upd)); k_whole; intro r' tr' us' xs' sd' td' nd' nl' h' tk' F' N' hI' D' hr0' hr1'; (try dsimp only at N'); (try k_fold))))
local macro_rules | `(tactic| walk_at "eval Name") => `(tactic| (k_here; (with_reducible show wpAny _ _ (eval (Expr.Name _ _) (compEnvC _ _ _ _)) _ _ _); k_dflt (refine ld_cell (by k_asm) (by rfl) (by k_mem) (by assumption) ?_)))
local macro_rules | `(tactic| walk_at "call ref") => `(tactic| (k_here; k_dflt ((show wpAny _ _ (call (Value.ref 125) [Value.ref _]) _ _ _); refine' draw_use ?kB ?kF ?kX ?kT ?kk ?kl ?ki ?kn ?kN ?kdp ?kun ?_; (case kB => k_asm); (case kF => k_asm); (case kX => k_asm); (case kT => k_asm); (case kk => first | exact rfl | assumption); (case kl => assumption); (case ki => assumption); (case kn => first | assumption | omega); (case kN => k_asm); (case kdp => walk_at "m room"); (case kun => walk_at "m room"); k_whole; intro d' l' us' xs' sd' td' nd' nl' h' tk' F' N' l1' l2' hI' D'; (try k_fold))))
local macro_rules | `(tactic| walk_at "call ref") => `(tactic| (k_here; k_dflt ((show wpAny _ _ (call (Value.ref 137) [Value.ref _]) _ _ _); refine' groups_use ?kB ?kF ?kX ?kT ?kk ?kN ?kd ?kl ?lt ?kI ?kD ?kdp ?kun ?kU ?kV ?_; (case kB => k_asm); (case kF => k_asm); (case kX => k_asm); (case kT => k_asm); (case kk => first | exact rfl | assumption); (case kN => k_asm); (case kd => k_mem); (case kl => k_mem); (case lt => omega); (case kI => assumption); (case kD => assumption); (case kdp => walk_at "m room"); (case kun => walk_at "m room"); (case kU => (intro _ _ _; k_upd)); (case kV => (intro _ _ _ _ _; k_upd)); k_whole; intro tp' number' tn' b' tb' gs' us' xs' sd' td' nd' nl' h' tk' F' N' l1' hI' D' hg1' hg2' hg3' hg4' hg5' hg6'; (try dsimp only at N'); (try k_fold))))
local macro_rules | `(tactic| walk_at "CompSrc") => `(tactic| (k_here; k_dflt (first
  | (refine LCg.CompSrc.range (n := 12) (by rfl) (by k_asm) (by k_asm) (by assumption) ?sm (rangeSize_up 12) ?hz ?_; (case hz => (simp only [sizeLine_eq]; omega)); (case sm => exact small_one (by omega) (by omega) (by omega) (by omega)); intro g')
  | (refine LCg.CompSrc.range (n := 8) (by rfl) (by k_asm) (by k_asm) (by assumption) ?sm (rangeSize_up 8) ?hz ?_; (case hz => (simp only [sizeLine_eq]; omega)); (case sm => exact small_one (by omega) (by omega) (by omega) (by omega)); intro g')
  | (refine LCg.CompSrc.range (n := 4) (by rfl) (by k_asm) (by k_asm) (by assumption) ?sm (rangeSize_up 4) ?hz ?_; (case hz => (simp only [sizeLine_eq]; omega)); (case sm => exact small_one (by omega) (by omega) (by omega) (by omega)); intro g'))))
section LawHeadPart
set_option rowWalk.seconds 0
theorem drop8 {h₀ h : Heap} {L : Addr} {a0 a1 a2 a3 a4 a5 a6 x : Addr × Obj} {rest : List (Addr × Obj)} (N : News h₀ L h (a0 :: a1 :: a2 :: a3 :: a4 :: a5 :: a6 :: x :: rest)) : News h₀ L h (a0 :: a1 :: a2 :: a3 :: a4 :: a5 :: a6 :: rest) := by
  refine cb_drop N fun p hp => ?_
  (iterate 7 (rcases hp with _ | ⟨_, hp⟩; (focus simp)))
  exact List.Mem.tail _ (List.Mem.tail _ (List.Mem.tail _ (List.Mem.tail _ (List.Mem.tail _ (List.Mem.tail _ (List.Mem.tail _ (List.Mem.tail _ hp)))))))
local macro_rules | `(tactic| walk_at "m stepsL") => `(tactic| repeat' ((fail_if_success (with_reducible show wpAny _ _ (execs (Stmt.Assign [Expr.Name (Str.ofString "last") _] _ _ :: _) _) _ _ _)); walk_at "m step"))
theorem law_holds : PySem.Challenge.rw_au6043_01.Holds := Mine.hd (by
  w_strict (
    w_top off
    k_go0
    (all_goals try k_fold)
    walk_at "m stepsL"
    rename Fr _ _ _ _ => F9
    rename News _ _ _ _ => N9
    refine' law_join (N := drop8 N9) (F := F9) (X := ?hX) (T := ?hT) (hS := ?hS) (hBd := ?hBd) (hoV := ?hoV) (hoR := ?hoR) (hoD := ?hoD) (hlt := ?hlt) (hlt2 := ?hlt2) (h6 := ?h6) (h5 := ?h5) (h4 := ?h4) (h3 := ?h3) (h2 := ?h2) (h1 := ?h1) (h0 := ?h0) (hfP := ?hfP) (hfS := ?hfS) (hPm := ?hPm) (hSm := ?hSm) (hSb := ?hSb) (hI := ?hI) (D := ?D) (hm1 := ?hm1) (hm2 := ?hm2) (hm3 := ?hm3) (hm4 := ?hm4) (hm5 := ?hm5) (hm6 := ?hm6) (hm7 := ?hm7) (hbt1 := ?hbt1) (hbt2 := ?hbt2) (hba := ?hba) (hA := ?hA) (hbo := ?hbo) (hgs := ?hgs) (hg1 := ?hg1) (hg2 := ?hg2) (hn := ?hn) (hn2 := ?hn2) (hCH := ?hCH) (hp1 := ?hp1) (hp2 := ?hp2) (hQ := ?hQ)
    (case hX => assumption)
    (case hT => assumption)
    (case hoV => assumption)
    (case hoR => assumption)
    (case hoD => assumption)
    (case hlt => omega)
    (case hlt2 => omega)
    (case h6 => omega)
    (case h5 => omega)
    (case h4 => omega)
    (case h3 => omega)
    (case h2 => exact Nat.lt_succ_self _)
    (case h1 => omega)
    (case h0 => omega)
    (case hI => assumption)
    (case D => assumption)
    (case hm1 => exact rfl)
    (case hm2 => exact rfl)
    (case hm3 => exact rfl)
    (case hm4 => exact rfl)
    (case hm5 => exact rfl)
    (case hm6 => exact rfl)
    (case hm7 => exact rfl)
    (case hPm => assumption)
    (case hSm => assumption)
    (case hSb => assumption)
    (case hbt1 => omega)
    (case hbt2 => omega)
    (case hba => exact rfl)
    (case hA => exact ahead_len (by assumption) _)
    (case hbo => assumption)
    (case hgs => assumption)
    (case hg1 => assumption)
    (case hg2 => assumption)
    (case hn => assumption)
    (case hn2 => assumption)
    (case hCH => assumption)
    (case hp1 => omega)
    (case hp2 => omega)
    (case hS => exact rfl)
    (case hBd => exact rfl)
    (case hfP => (refine' ⟨_, _, _, _, _, _, _, _, _, ?hA, ?hSc, ?ho, by assumption, by assumption⟩; (case ho => exact rfl); (case hA => exact rfl); (case hSc => exact rfl)))
    (case hfS => (refine' ⟨_, _, _, _, _, _, _, _, _, ?hA, ?hSc, ?ho, by assumption, by assumption⟩; (case ho => exact rfl); (case hA => exact rfl); (case hSc => exact rfl)))
    (case hQ => (intro m' h' tk' F' N'; (walk_at "m steps")))))
end LawHeadPart

end PartLawHead
end Mine
theorem PySem.Challenge.cw_au6043_01_holds : PySem.Challenge.rw_au6043_01.Holds := by
  exact Mine.law_holds
