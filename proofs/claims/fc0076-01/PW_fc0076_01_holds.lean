import PyProof.Rows.All
import Wide.All
import OpenK.AllK
import Wide.FinOn
import PySem.Challenge.RW_fc0076_01
set_option Elab.async false

section
open PySem PySem.W PyProof.Rows
namespace Mine
def Q0 : Prop := True
def Q1 : Prop := True
theorem q0 (_ : PySem.Challenge.rw_fc0076_01.Holds) : Q0 = True := by unfold Q0; rfl
theorem q1 : Q1 = True := by unfold Q1; rfl
set_option maxRecDepth 100000 in
set_option maxHeartbeats 8000000 in
/-- lays the part of the heap and the view as constants, by trying the head; what it shows is nothing -/
theorem hd : Q0 ∧ Q1 := by
  simp (disch := (w_on; o_law; x_head; (case hw => w_witness2))) only [q0, q1]
  exact ⟨True.intro, True.intro⟩
end Mine
end

section
open PySem PySem.W PyProof.Rows PySem.Calls
namespace Mine
theorem fresh_Base : True := by
  w_top off
  trivial
/-- the program of the row, as the walk writes it -/
abbrev PG : Program := RowW.prog (OpenRow.toRowW (OpenLaw.row PySem.Challenge.rw_fc0076_01))
/-- a call's contract, for a caller that is a def: whatever frames and ledger stand -/
def Claim (K : Frag) (p : Program) (loose : List Str) (w : World) (mean : ExcName → Option Value) (mg mb : Str → Option Value) (dp un : Nat) (f : Value) (vs : List Value)
    (pre : Heap → Addr → Heap → List (Addr × Obj) → Prop)
    (ret : Heap → Addr → (Str → Option Value) → List (Addr × Obj) → Shared → (Value → Shared → Prop) → Prop) (err : Heap → List Env → Heap → Addr → (Str → Option Value) → List (Addr × Obj) → Shared → (Value → Shared → Prop) → Prop) : Prop :=
  ∀ (gd : Option (List Code)) (cn : Str) (cs : Scope) (a : Addr) (ccd : Value) (cl : List (Str × Addr)) (outer : List Env) (A₀ : Around) (base h₀ : Heap) (L : Addr) (m : Str → Option Value) (news : List (Addr × Obj)) (s : Shared) (Q E : Value → Shared → Prop),
    Below A₀ base outer h₀ → Fr h₀ L s.heap m → K.In h₀ → News h₀ L s.heap news → Top p loose mean mg mb h₀ → cs.kind = .function → pre h₀ L s.heap news → ret h₀ L m news s Q → err base (envX cn cs L a ccd cl :: outer) h₀ L m news s E →
    codeAny (model (RowW.prog (OpenRow.toRowW (OpenLaw.row PySem.Challenge.rw_fc0076_01))) w) (ktrTop dp un gd cn cs L a ccd cl outer) (.call f ⟨vs, []⟩) (fun r s' => match r with | .ok (.ret v) => Q v s' | .ok _ => False | .error e => E e s') s
abbrev noPre (_ : Heap) (_ : Addr) (_ : Heap) (_ : List (Addr × Obj)) : Prop := True
abbrev noErr (_ : Heap) (_ : List Env) (_ : Heap) (_ : Addr) (_ : Str → Option Value) (_ : List (Addr × Obj)) (_ : Shared) (_ : Value → Shared → Prop) : Prop := True
abbrev ErrV (base : Heap) (fr : List Env) (h₀ : Heap) (L : Addr) (m : Str → Option Value) (news : List (Addr × Obj)) (s : Shared) (E : Value → Shared → Prop) : Prop :=
  ∀ G e t vs h' tk', Fr h₀ L G m → RaisedS base G fr e (.type "ValueError") t vs news h' → G.UpToSlots h' → E (.ref e) { s with heap := h', toks := tk' }
theorem Claim.use {K : Frag} {p : Program} {loose : List Str} {w : World} {mean : ExcName → Option Value} {mg mb : Str → Option Value} {dp un : Nat} {f : Value} {vs : List Value} {pre ret err}
    (c : Claim K p loose w mean mg mb dp un f vs pre ret err) {A : Around} {cn : Str} {cs : Scope} {a : Addr} {ccd : Value} {cl : List (Str × Addr)} {outer : List Env} {A₀ : Around} {base h₀ : Heap} {L : Addr} {m : Str → Option Value} {news : List (Addr × Obj)} {s : Shared} {Q E : Value → Shared → Prop}
    (hA : A.frames = some (envX cn cs L a ccd cl :: outer)) (hh : A.handled = none) (hd : A.depth ≤ dp) (hu : A.units ≤ un) (B : Below A₀ base outer h₀) (F : Fr h₀ L s.heap m) (X : K.In h₀) (N : News h₀ L s.heap news) (T : Top p loose mean mg mb h₀) (hk : cs.kind = .function)
    (hpre : pre h₀ L s.heap news) (hret : ret h₀ L m news s Q) (herr : err base (envX cn cs L a ccd cl :: outer) h₀ L m news s E) :
    codeAny (model (RowW.prog (OpenRow.toRowW (OpenLaw.row PySem.Challenge.rw_fc0076_01))) w) A (.call f ⟨vs, []⟩) (fun r s' => match r with | .ok (.ret v) => Q v s' | .ok _ => False | .error e => E e s') s := by
  intro Γ q e hΓ
  exact c A.guards cn cs a ccd cl outer A₀ base h₀ L m news s Q E B F X N T hk hpre hret herr Γ q e ⟨hΓ.1.trans hh, Nat.le_trans hΓ.2.1 hd, fun l z => hΓ.2.2.1 l (hA.trans z), fun l z => hΓ.2.2.2.1 l z, Nat.le_trans hΓ.2.2.2.2 hu⟩
end Mine
end

section
open PySem PySem.W PyProof.Rows PySem.Calls
set_option maxRecDepth 100000
set_option maxHeartbeats 4000000
namespace Mine
theorem fresh_L1 : True := by
  w_top off
  trivial
abbrev dict0 : Obj := { cls := .type "dict", data := .dict #[] }
abbrev tup (vs : List Value) : Obj := { cls := .type "tuple", data := .seq vs.toArray }

section
variable {prog : Program} {w : World} {A₀ A : Around} {E : Value → Shared → Prop} {s : Shared} {base h₀ : Heap} {outer : List Env} {L : Addr} {m mg mb : Str → Option Value} {env : Env} {news : List (Addr × Obj)} {K : Frag} {p : Program} {loose : List Str} {mean : ExcName → Option Value}
  {R : Result → Shared → Prop} {name qual : Str} {params : Arguments} {body : List Stmt} {scope : Scope} {dV kV doc pm cdv ct oc : Value} {an od : Option Addr} {osl : Array (Option Value)} {f cc x : Addr} {extra : List Value} {n1 n2 n3 : Str}

theorem bind_star {M : Model} {fd : FuncData} {Q : List (Str × Value) → Shared → Prop} (F : Fr h₀ L s.heap m) (N : News h₀ L s.heap news) (hz : extra.length ≤ 1000)
    (hb : bindArgs fd ⟨.ref x :: extra, []⟩ = (newTuple extra >>= fun t => alloc dict0 >>= fun d => pure [(n1, .ref x), (n2, t), (n3, .ref d)]))
    (h : ∀ T D h', Fr h₀ L h' m → News h₀ L h' ((D, dict0) :: (T, tup extra) :: news) → (∀ p ∈ news, p.1 < T) → T < D → Q [(n1, .ref x), (n2, .ref T), (n3, .ref D)] { s with heap := h' }) :
    wpAny M A (bindArgs fd ⟨.ref x :: extra, []⟩) Q E s := by
  rw [hb]
  refine wpAny_bind (newTuple_N F N (fun h1 F1 N1 => ?_) (by rw [sizeLine_eq]; omega))
  refine wpAny_bind (wpAny_alloc (wpAny_pure ?_))
  refine h s.heap.objs.size h1.objs.size _ (F1.push _) (N1.push F1 _) (fun p hp => Heap.lt_size (N p hp).1) ?_
  exact Heap.lt_size (N1 _ (.head _)).1

/-- a def with *args and **kwargs that closes over __class__, called with places alone; no cells of its own -/
theorem code_star0 (B : Below A₀ base outer h₀) (F : Fr h₀ L s.heap m) (X₀ : K.In h₀) (N : News h₀ L s.heap news) (T : Top p loose mean mg mb h₀) (hA : A.frames = some (env :: outer)) (hf : env.frame = some L) (hke : env.scope.kind = .function)
    (ho : K.lookup f = some ⟨oc, od, .func (ksFn name qual params body scope dV kV doc pm an cdv ct cc), osl⟩) (hcd : codeIn K cdv qual = true) (hroom : A.depth < recursionLimit) (hz : extra.length ≤ 1000)
    (hb : bindArgs (ksFn name qual params body scope dV kV doc pm an cdv ct cc) ⟨.ref x :: extra, []⟩ = (newTuple extra >>= fun t => alloc dict0 >>= fun d => pure [(n1, .ref x), (n2, t), (n3, .ref d)]))
    (hl1 : scope.names.lookup n1 = some .local) (hl2 : scope.names.lookup n2 = some .local) (hl3 : scope.names.lookup n3 = some .local)
    (h : ∀ TT D g L' h₁, Fr h₀ L g m → Fr g L' h₁ (fun y => [(n1, .ref x), (n2, .ref TT), (n3, .ref D)].reverse.lookup y) → News g L' h₁ ((D, dict0) :: (TT, tup extra) :: news) → Below A base (env :: outer) g → K.In g → Top p loose mean mg mb g → (∀ p ∈ news, p.1 < TT) → TT < D → D < L' →
      _root_.PySem.wpAt (model prog w) (A.deeper (ksEnv qual scope L' f cdv cc)) (.func body (ksEnv qual scope L' f cdv cc)) (execs body (ksEnv qual scope L' f cdv cc))
        (fun fl s' => LeaveK h₀ L m g R (match fl with | .ret v => v | _ => .none) s')
        (fun e s' => wpAny (model prog w) (A.deeper (ksEnv qual scope L' f cdv cc)) (leaving (ksEnv qual scope L' f cdv cc) e) (fun _ s'' => R (.error e) s'') (fun e' s'' => R (.error e') s'') s')
        { s with heap := h₁, toks := s.toks + 3 })
    (hcell : ∀ x ∈ scope.names, x.2 ≠ .cell := by decide) (hco : scope.isCoroutine = false := by rfl) (hgen : scope.isGenerator = false := by rfl) (hk : scope.kind = .function := by rfl) : codeAny (model prog w) A (.call (.ref f) ⟨.ref x :: extra, []⟩) R s := by
  refine codeAny_call_function hroom ((X₀.keeps F.keep) _ _ ho) rfl hco hgen rfl (codeRec_of (X₀.keeps F.keep) hcd) ?_
  refine bind_star F N hz hb fun TT D h1 F1 N1 l1 l2 => ?_
  obtain ⟨FG, BG, st, lv⟩ := groundX (R := R) (s := { s with heap := h1 }) B F1 N1 hA hf hke
  refine wpAny_newFunctionEnv (s := { s with heap := h1 }) hcell (fun y hy => ?_) (fun h₁ hns hsb => ⟨(T.nolimit.keeps F1.keep).fresh _ hsb, ks_codeAny_funcAt ?_⟩) hk
  · simp only [List.mem_cons, List.not_mem_nil, or_false] at hy
    rcases hy with rfl | rfl | rfl <;> assumption
  have hk₁ : ∀ b o, h1.get? b = some o → h₁.get? b = some o := fun b o e => hsb.extBut b o (Nat.ne_of_lt (Heap.lt_size e)) (Heap.get?_push_of_some _ e)
  refine ks_wpAt_mono (h TT D _ h1.objs.size h₁ FG ⟨hns, fun b o e => hk₁ b o (of_hideAll _ e), Nat.le_of_eq (hideAll_size _ _)⟩
    (fun p hp => ⟨hk₁ _ _ (N1 p hp).1, Nat.ne_of_lt (Heap.lt_size (N1 p hp).1), hideAll_none _ (List.mem_map_of_mem hp)⟩) BG (X₀.keeps st) (T.keeps st) l1 l2 (Heap.lt_size (N1 _ (.head _)).1)) (fun fl s' hl => lv _ _ hl) fun _ _ y => y

abbrev frame0 : Obj := { cls := .type "frame", data := .dict #[] }
abbrev cell0 : Obj := { cls := .type "cell", data := .cell none }
abbrev starEnv (name : Str) (scope : Scope) (L a : Addr) (cd : Value) (n3 : Str) (c cc : Addr) : Env := envX name scope L a cd [(n3, c), ("__class__", cc)]
/-- the same where the name of **kwargs is a cell -/
theorem code_star1 (B : Below A₀ base outer h₀) (F : Fr h₀ L s.heap m) (X₀ : K.In h₀) (N : News h₀ L s.heap news) (T : Top p loose mean mg mb h₀) (hA : A.frames = some (env :: outer)) (hf : env.frame = some L) (hke : env.scope.kind = .function)
    (ho : K.lookup f = some ⟨oc, od, .func (ksFn name qual params body scope dV kV doc pm an cdv ct cc), osl⟩) (hcd : codeIn K cdv qual = true) (hroom : A.depth < recursionLimit) (hz : extra.length ≤ 1000)
    (hb : bindArgs (ksFn name qual params body scope dV kV doc pm an cdv ct cc) ⟨.ref x :: extra, []⟩ = (newTuple extra >>= fun t => alloc dict0 >>= fun d => pure [(n1, .ref x), (n2, t), (n3, .ref d)]))
    (hn : ∀ v1 v2 v3 : Value, newFunctionEnv scope mainGlobals [("__class__", cc)] [(n1, v1), (n2, v2), (n3, v3)] (qual ++ ".<locals>.") (some f) cdv none builtinsNs =
      (alloc frame0 >>= fun l => alloc cell0 >>= fun c => storeName (starEnv qual scope l f cdv n3 c cc) n1 v1 >>= fun _ => storeName (starEnv qual scope l f cdv n3 c cc) n2 v2 >>= fun _ => storeName (starEnv qual scope l f cdv n3 c cc) n3 v3 >>= fun _ => pure (starEnv qual scope l f cdv n3 c cc)))
    (hl1 : scope.names.lookup n1 = some .local) (hl2 : scope.names.lookup n2 = some .local) (hl3 : scope.names.lookup n3 = some .cell)
    (h : ∀ TT D c g L' h₁ oc', Fr h₀ L g m → Fr g L' h₁ (fun y => if y = n2 then some (.ref TT) else if y = n1 then some (.ref x) else none) → News g L' h₁ ((c, oc') :: (D, dict0) :: (TT, tup extra) :: news) → oc'.data = .cell (some (.ref D)) → Below A base (env :: outer) g → K.In g → Top p loose mean mg mb g → (∀ p ∈ news, p.1 < TT) → TT < D → D < L' → L' < c →
      _root_.PySem.wpAt (model prog w) (A.deeper (starEnv qual scope L' f cdv n3 c cc)) (.func body (starEnv qual scope L' f cdv n3 c cc)) (execs body (starEnv qual scope L' f cdv n3 c cc))
        (fun fl s' => LeaveK h₀ L m g R (match fl with | .ret v => v | _ => .none) s')
        (fun e s' => wpAny (model prog w) (A.deeper (starEnv qual scope L' f cdv n3 c cc)) (leaving (starEnv qual scope L' f cdv n3 c cc) e) (fun _ s'' => R (.error e) s'') (fun e' s'' => R (.error e') s'') s')
        { s with heap := h₁, toks := s.toks + 1 + 1 })
    (hn3 : (n3 == n3) = true := by simp) (hco : scope.isCoroutine = false := by rfl) (hgen : scope.isGenerator = false := by rfl) (hk : scope.kind = .function := by rfl) : codeAny (model prog w) A (.call (.ref f) ⟨.ref x :: extra, []⟩) R s := by
  refine codeAny_call_function hroom ((X₀.keeps F.keep) _ _ ho) rfl hco hgen rfl (codeRec_of (X₀.keeps F.keep) hcd) ?_
  refine bind_star F N hz hb fun TT D h1 F1 N1 l1 l2 => ?_
  obtain ⟨FG, BG, st, lv⟩ := groundX (R := R) (s := { s with heap := h1 }) B F1 N1 hA hf hke
  show wpAny _ _ (newFunctionEnv scope mainGlobals [("__class__", cc)] _ _ _ _ _ _) _ _ _
  rw [hn]
  refine wpAny_bind (wpAny_alloc (wpAny_bind (wpAny_alloc ?_)))
  have hk1 : ∀ b o, h1.get? b = some o → (h1.push frame0).get? b = some o := fun b o e => Heap.get?_push_of_some _ e
  have F2 : Fr (hideAll h1 (((D, dict0) :: (TT, tup extra) :: news).map (·.1))) h1.objs.size (h1.push frame0) (fun _ => none) :=
    ⟨Heap.Ns.new h1 (.type "frame"), fun b o e => hk1 b o (of_hideAll _ e), Nat.le_of_eq (hideAll_size _ _)⟩
  have N2 : News (hideAll h1 (((D, dict0) :: (TT, tup extra) :: news).map (·.1))) h1.objs.size (h1.push frame0) ((D, dict0) :: (TT, tup extra) :: news) :=
    fun p hp => ⟨hk1 _ _ (N1 p hp).1, Nat.ne_of_lt (Heap.lt_size (N1 p hp).1), hideAll_none _ (List.mem_map_of_mem hp)⟩
  have F3 := F2.push cell0
  have N3 := N2.push F2 cell0
  refine wpAny_bind (storeX_L F3 N3 (fun h4 F4 N4 => wpAny_bind (storeX_L F4 N4 (fun h5 F5 N5 => ?_) hk hl2)) hk hl1)
  have ne : ∀ q ∈ (D, dict0) :: (TT, tup extra) :: news, q.1 ≠ (h1.push frame0).objs.size := fun q hq => Nat.ne_of_lt (Heap.lt_size (N2 q hq).1)
  refine wpAny_bind (storeX_C (g := fun o => ((h1.push frame0).objs.size, o) :: (D, dict0) :: (TT, tup extra) :: news) F5 N5 (by simp [List.lookup]) (.head ne) rfl (fun h6 o6 F6 N6 e6 => ?_) hk hl3)
  refine wpAny_pure ⟨(T.nolimit.keeps st).keeps F6.keep, ks_codeAny_funcAt ?_⟩
  refine ks_wpAt_mono (h TT D _ _ h1.objs.size h6 o6 FG F6 N6 e6 BG (X₀.keeps st) (T.keeps st) l1 l2 (Heap.lt_size (N1 _ (.head _)).1) (by rw [Heap.size_push]; exact Nat.lt_succ_self _)) (fun fl s' hl => lv _ _ hl) fun _ _ y => y
end
end Mine
end

section
open PySem PySem.W PyProof.Rows PySem.Calls
set_option maxRecDepth 100000
set_option maxHeartbeats 4000000
namespace Mine
theorem fresh_L2 : True := by
  w_top off
  trivial
/-- behind the making of an object: it is one of C's, and its class's `__init__` (`ini`) gives nothing back -/
def Back (M : Model) (A : Around) (K : Frag) (C : Addr) (ini : Value) (pos : List Value) (Q E : Value → Shared → Prop) (v : Value) (z : Shared) : Prop :=
  ∃ x ox, v = .ref x ∧ K.In z.heap ∧ z.heap.get? x = some ox ∧ ox.cls = .ref C ∧ wpAny M A (call ini (.ref x :: pos)) (fun r y => r = .none ∧ Q (.ref x) y) E z
/-- what stands in a class's slot 4 -/
def maker : Option String → Value
  | some i => .builtin i
  | none => .none
/-- what the part K knows of a class that is called: `mk` is the built-in that makes its objects, or none where a `__new__` of its own does -/
structure Called (K : Frag) (C : Addr) (mk : Option String) (ini : Value) : Prop where
  it : ∃ o cd, K.lookup C = some o ∧ o.data = .cls cd ∧ cd.mro.isEmpty = false ∧ (o.slots.toList[4]?).join = some (maker mk)
  own : mroIn K C (.ref C) = some true
  calls : specialIn K (.ref C) "__call__" = some (some (.builtin "type.__call__"))
  isType : instIn K (.ref C) (.type "type") = some true
  init : findIn K (.ref C) "__init__" = some (some ini)
abbrev inT (A : Around) (C : Addr) (pos : List Value) : Around := A.under (.builtin "type.__call__" ⟨.ref C :: pos, []⟩)
theorem madeBy_slot {M : Model} {hh : Heap} {C : Addr} {o : Obj} {l : List Value} {mk : Option String} (e : hh.get? C = some o) (l1 : Looks M hh (mroOf (.ref C)) l) (e1 : l.isEmpty = false)
    (e2 : (o.slots.toList[4]?).join = some (maker mk)) : Looks M hh (Bind.madeBy (.ref C)) mk := by
  have l2 : Looks M hh (slotAt C 4) (some (maker mk)) :=
    (Looks.ld e).andThen (.of_pure (congrArg pure (by rw [← Array.getElem?_toList]; exact e2)))
  unfold Bind.madeBy
  refine l1.andThen ?_
  rcases l with _ | ⟨c, r⟩
  · cases e1
  · rw [List.forIn_cons]
    refine Looks.andThen (a := (some mk, .ref C)) (Looks.andThen (a := ForInStep.done (some mk, Value.ref C)) (l2.andThen ?_) .now) .now
    cases mk <;> exact .now
theorem Called.runs {prog : Program} {w : World} {A : Around} {Q E : Value → Shared → Prop} {s s1 : Shared} {K : Frag} {C : Addr} {mk : Option String} {ini new : Value} {pos : List Value} (W : Called K C mk ini) (X : K.In s.heap)
    (b : ∀ h v, K.In h → Looks (model prog w) h (bindSpecial ini v) (ini, [v]))
    (look : ∀ (R : Value → Shared → Prop), R new s1 → wpAny (model prog w) (inT A C pos) (match mk with | some i => pure (.builtin i) | none => getAttr (.ref C) "__new__") R E s)
    (k : wpAny (model prog w) (inT A C pos) (call new (.ref C :: pos)) (Back (model prog w) (inT A C pos) K C ini pos Q E) E s1) : wpAny (model prog w) A (call (.ref C) pos) Q E s := by
  obtain ⟨⟨⟨oc, od, odt, sl⟩, cd, w1, w2, w3, w4⟩, w5, w6, w7, w8⟩ := W
  have it := X _ _ w1
  dsimp only at w2 w4
  subst w2
  have l1 := looks_specialIn (M := model prog w) X w6
  have l2 := looks_instIn (M := model prog w) X w7
  have l3 : Looks (model prog w) s.heap (mroOf (.ref C)) cd.mro := ((Looks.ld (part := none) it).andThen .now).andThen .now
  have l4 := madeBy_slot it l3 w3 w4
  obtain ⟨hh, g, d, tk, os⟩ := s
  refine wpAny_call (codeAny_of_tree (nd_load it ?_))
  show wpAny _ _ (callAny.viaDunder (.ref C) _) _ _ _
  unfold callAny.viaDunder
  repeat ((fail_if_success (with_reducible show wpAny _ _ (again _) _ _ _)); first | rw [tc_bind] | lk)
  refine wpAny_pure ⟨rfl, codeAny_call_builtin_at (Code.quiet_builtin _ (by decide +kernel)) entry_typeCall (check_slot tc_kind tc_split l2 (tc_args _ _ _) ?_)⟩
  unfold Builtin.«type.__call__»
  repeat ((fail_if_success (with_reducible show wpAny _ _ (Bind.madeBy _) _ _ _)); first | simp only [w3, Bool.false_eq_true, if_false] | lk)
  rcases mk with _ | i
  all_goals
    refine l4.at (wpAny_bind (look _ (wpAny_bind (wpAny_holding (wpAny_mono k (fun v z q => ?_) fun _ _ q => q)))))
    obtain ⟨x, ox, rfl, X1, hx, hc, q⟩ := q
    have i1 : Looks (model prog w) z.heap (typeOf (.ref x)) (.ref C) := hc ▸ (Looks.ld hx).andThen .now
    have i2 : Looks (model prog w) z.heap (isInstance (.ref x) (.ref C)) true := i1.andThen (looks_mroIn X1 w5)
    have i3 := looks_findIn (M := model prog w) X1 w8
    have i4 := b z.heap (.ref x) X1
    obtain ⟨h1, g1, d1, t1, o1⟩ := z
    unfold callSpecial? specialOf
    repeat ((fail_if_success (with_reducible show wpAny _ _ (call _ _ _) _ _ _)); first | simp only [Bool.not_true, Bool.false_eq_true, if_false] | lk)
    exact wpAny_mono q (fun r y e => by rw [e.1]; exact wpAny_pure (wpAny_pure e.2)) fun _ _ q => q
end Mine
end

section
open PySem PySem.W PyProof.Rows PySem.Calls
set_option maxRecDepth 100000
set_option maxHeartbeats 4000000
namespace Mine
theorem fresh_L3 : True := by
  w_top off
  trivial
section
variable {M : Model} {A : Around} {E : Value → Shared → Prop} {hh : Heap} {g : Array GenState} {d : Drawn} {tk : Nat} {os : OsState}
/-- an attribute that a built-in under another name than object's reads -/
theorem read_by {o t : Value} {ga : String} {nm : Str} {ex : Bool} {R : Value → Shared → Prop} (l1 : Looks M hh (typeOf o) t) (l2 : Looks M hh (typeLookup t "__getattribute__") (some (.builtin ga))) (l3 : Looks M hh (hookBefore t) none)
    (b1 : (Value.builtin ga == .builtin "object.__getattribute__") = false) (b2 : bindSpecial (.builtin ga) o = pure (.builtin ga, [o]))
    (k : wpAny M A (call (.builtin ga) [o, .str nm tk]) (fun v z => handedOut v = pure v ∧ R v z) (fun _ _ => False) ⟨hh, g, d, tk + 1, os⟩) :
    wpAny M A (getAttr o nm ex) R E ⟨hh, g, d, tk, os⟩ := by
  have b3 : (ex && onTheHeap (.builtin ga)) = false := Bool.and_false _
  unfold getAttr getAttrBy getAttrByItsOwn
  repeat ((fail_if_success (with_reducible show wpAny _ _ (Sem.attempt _) _ _ _)); first | with_reducible refine wpAny_mkText ?_ | simp only [b1, Bool.and_false, Bool.false_eq_true, if_false] | lk)
  refine wpAny_attempt (wpAny_holding ?_)
  unfold callGetattribute boundAndCalled
  rw [b3, b2]
  exact wpAny_bind (wpAny_pure (wpAny_mono k (fun v z q => by show wpAny _ _ (handedOut v) _ _ _; rw [q.1]; exact wpAny_pure q.2) fun _ _ q => q.elim))
/-- super's own object: the class behind which to look, the object, its class -/
abbrev sob (D x C : Addr) : Obj := { cls := .type "super", dict := none, data := .fields #[.ref D, .ref x, .ref C], slots := #[] }
theorem sob_part {so D x C : Addr} {i : Nat} {v : Value} (e : hh.get? so = some (sob D x C)) (hv : (#[.ref D, .ref x, .ref C] : Array Value)[i]? = some v) : Looks M hh (field (.ref so) i) v :=
  fun _ _ _ _ k q => wpAny_field (k _ _ e) rfl hv q
/-- the descriptor's call, or the value itself -/
def GetThen (M : Model) (A : Around) (gt : Option Value) (a : Value) (x C : Addr) (R : Value → Shared → Prop) (s : Shared) : Prop := match gt with
  | some gg => wpAny M A (call gg [a, if (Value.ref x == Value.ref C) = true then .none else .ref x, .ref C]) (fun v s' => handedOut v = pure v ∧ R v s') (fun _ _ => False) s
  | none => handedOut a = pure a ∧ R a s
/-- what super() finds under a name: `a` in a class behind D, and `a`'s own `__get__` -/
structure Found (M : Model) (K : Frag) (hh : Heap) (so D x C : Addr) (nm : Str) (a : Value) (gt : Option Value) : Prop where
  it : hh.get? so = some (sob D x C)
  clear_ : Looks M hh (opaqueClassAbove (.ref C)) none
  line : ∃ l, Looks M hh (mroOf (.ref C)) l ∧ alongIn K nm ((l.dropWhile (· != .ref D)).drop 1) = some (some a)
  part : K.In hh
  desc : ∃ T, Looks M hh (typeOf a) T ∧ Looks M hh (typeLookup T "__get__") gt
  plain : (nm == ("__class__" : Str)) = false
theorem Found.runs {prog : Program} {w : World} {K : Frag} {so D x C : Addr} {nm : Str} {a : Value} {gt : Option Value} {t1 : Tok} {R : Value → Shared → Prop} (W : Found (model prog w) K hh so D x C nm a gt) (k : GetThen (model prog w) A gt a x C R ⟨hh, g, d, tk, os⟩) :
    wpAny (model prog w) A (Builtin.«super.__getattribute__» ⟨[.ref so, .str nm t1], []⟩) (fun f z => ∃ v, f = .done (.ret v) ∧ handedOut v = pure v ∧ R v z) (fun _ _ => False) ⟨hh, g, d, tk, os⟩ := by
  obtain ⟨it, cl, ⟨l, l1, l2⟩, part, ⟨T, l3, l4⟩, pl⟩ := W
  have p0 : Looks (model prog w) hh (field (.ref so) 0) (.ref D) := sob_part it rfl
  have p1 : Looks (model prog w) hh (field (.ref so) 1) (.ref x) := sob_part it rfl
  have p2 : Looks (model prog w) hh (field (.ref so) 2) (.ref C) := sob_part it rfl
  unfold Builtin.«super.__getattribute__»
  repeat ((fail_if_success (with_reducible show wpAny _ _ (forIn _ _ _) _ _ _)); first | with_reducible refine ks_wpAny_notOpaque cl ?_ | simp only [pl, Bool.or_false] | lk)
  refine ks_forIn_along part (fun _ _ => rfl) rfl ?_ l2
  refine wpAny_bind (l3.at (wpAny_bind (l4.at ?_)))
  rcases gt with _ | gg
  · show wpAny _ _ (handedOut a >>= _) _ _ _
    rw [k.1]
    exact wpAny_bind (wpAny_pure (wpAny_bind (wpAny_pure (wpAny_pure (wpAny_pure ⟨a, rfl, k⟩)))))
  · exact wpAny_bind (wpAny_holding (wpAny_mono k (fun v z q => wpAny_bind (wpAny_pure (wpAny_pure (wpAny_pure ⟨v, rfl, q⟩)))) fun _ _ q => q.elim))
theorem found_in {prog : Program} {w : World} {K : Frag} {so D x C : Addr} {nm : Str} {a T : Value} {gt : Option Value} (X : K.In hh) (it : hh.get? so = some (sob D x C)) (c : nsIn K cStatics "thirdparty.any" = some none)
    (e : ks_superIn K C D nm = some (some a)) (l3 : Looks (model prog w) hh (typeOf a) T) (l4 : Looks (model prog w) hh (typeLookup T "__get__") gt) (pl : (nm == ("__class__" : Str)) = false) : Found (model prog w) K hh so D x C nm a gt := by
  obtain ⟨cd, e1, e2⟩ := Option.bind_eq_some_iff.mp e
  exact ⟨it, looks_opaque X c, ⟨cd.mro, (looks_clsIn X e1).andThen .now, e2⟩, X, ⟨T, l3, l4⟩, pl⟩
/-- an attribute of super() -/
theorem Found.attr {prog : Program} {w : World} {K : Frag} {so D x C : Addr} {nm : Str} {a : Value} {gt : Option Value} {ex : Bool} {R : Value → Shared → Prop} (W : Found (model prog w) K hh so D x C nm a gt) (k : GetThen (model prog w) A.in1 gt a x C R ⟨hh, g, d, tk + 1, os⟩) :
    wpAny (model prog w) A (getAttr (.ref so) nm ex) R E ⟨hh, g, d, tk, os⟩ :=
  read_by (t := .type "super") ((Looks.ld W.it).andThen .now) (.of_pure F.ks_slot_super_ga.lookup) (.of_pure rfl) (by decide +kernel) (F.ks_slot_super_ga.bind _)
    (wpAny_call_entry F.ks_slot_super_ga ⟨_, W.it, rfl⟩ F.ks_entry_super_ga (W.runs k) (F.ks_gaArgs_super _ _))
/-- super().name(..): the name is read as an attribute -/
theorem Found.meth {prog : Program} {w : World} {K : Frag} {so D x C : Addr} {nm : Str} {a : Value} {gt : Option Value} {pl : Sem Bool} {R : Value × List Value → Shared → Prop} (W : Found (model prog w) K hh so D x C nm a gt) (k : GetThen (model prog w) A.in1 gt a x C (fun v => R (v, [])) ⟨hh, g, d, tk + 1, os⟩) :
    wpAny (model prog w) A (getMethod (.ref so) nm pl) R E ⟨hh, g, d, tk, os⟩ := by
  have l1 : Looks (model prog w) hh (typeOf (.ref so)) (.type "super") := (Looks.ld W.it).andThen .now
  have l2 : Looks (model prog w) hh (typeLookup (.type "super") "__getattribute__") _ := .of_pure F.ks_slot_super_ga.lookup
  unfold getMethod specialOf
  repeat ((fail_if_success (with_reducible show wpAny _ _ (ite _ _ _) _ _ _)); lk)
  dsimp only
  rw [if_pos F.ks_canon_super_ga]
  exact wpAny_bind (wpAny_mono (W.attr k) (fun _ _ q => wpAny_pure q) fun _ _ q => q)
end
end Mine
end

section
open PySem PySem.W PyProof.Rows PySem.Calls
set_option maxRecDepth 100000
set_option maxHeartbeats 4000000
namespace Mine
theorem fresh_L4 : True := by
  w_top off
  trivial
section
variable {prog : Program} {w : World} {A : Around} {E : Value → Shared → Prop} {s : Shared} {K : Frag} {h₀ : Heap} {L : Addr} {m : Str → Option Value} {news : List (Addr × Obj)}
/-- an attribute of an object whose class inherits a built-in `__getattribute__` under another name than object's -/
theorem getAttr_ga {x C : Addr} {ox : Obj} {od : Option Obj} {ga : String} {name : Str} {expr : Bool} {Q : Value → Shared → Prop} (X : K.In s.heap) (I : InstAt s.heap x ox C od)
    (hga : findIn K (.ref C) "__getattribute__" = some (some (.builtin ga))) (hne : (Value.builtin ga == .builtin "object.__getattribute__") = false) (hb : ∀ self, bindSpecial (.builtin ga) self = pure (.builtin ga, [self])) (hgt : findIn K (.ref C) "__getattr__" = some none)
    (h : wpAny (model prog w) A (call (.builtin ga) [.ref x, .str name s.toks]) (fun v s' => handedOut v = pure v ∧ Q v s') (fun _ _ => False) { s with toks := s.toks + 1 }) :
    wpAny (model prog w) A (getAttr (.ref x) name expr) Q E s := by
  obtain ⟨hh, g, d, t, os⟩ := s
  exact read_by I.type (looks_findIn X hga) (looks_findIn X hgt) hne (hb _) h

/-- o.name(*args, **kwargs): the attribute, then the call -/
theorem starCall {o : Expr} {name : Str} {apos pos : Pos} {env : Env} {args : List Expr} {kws : List Keyword} {Q : Value → Shared → Prop} {c : Code}
    (hf : methodCallForm (args.length + kws.length) (backTo pos (starEach args env)) (backToKw pos (keywordEach kws env)) = false)
    (h : _root_.PySem.wpAt (model prog w) A c (attributeBase o name env (eval o env)) (fun ov s₁ => wpAny (model prog w) A (getAttr ov name true) (fun f s₂ => wpAny (model prog w) A (callWith pos f [] (backTo pos (starEach args env)) (backToKw pos (keywordEach kws env))) Q E s₂) E s₁) E s)
    (he : eval (.Call (.Attribute o name apos) args kws pos) env = (do
      let ov ← attributeBase o name env (eval o env)
      standAt apos.atName
      methodCall o name apos pos env ov (args.length + kws.length) (backTo pos (starEach args env)) (backToKw pos (keywordEach kws env))) := by rfl) :
    _root_.PySem.wpAt (model prog w) A c (eval (.Call (.Attribute o name apos) args kws pos) env) Q E s := by
  rw [he]
  refine _root_.PySem.wpAt_bind (ks_wpAt_mono h (fun ov s₁ h₁ => ?_) fun _ _ z => z)
  refine wpAt_of_wpAny (wpAny_bind (wpAny_standAt ?_))
  unfold methodCall calleeOf methodCallPos
  rw [hf]
  simp only [Bool.false_eq_true, if_false, Bool.not_false, Bool.true_or, if_true]
  refine wpAny_bind (wpAny_holding (wpAny_bind (wpAny_mono h₁ (fun f s₂ h₂ => ?_) fun _ _ z => z)))
  exact wpAny_pure (wpAny_bind (wpAny_pure h₂))

theorem starCall_any {o : Expr} {name : Str} {apos pos : Pos} {env : Env} {args : List Expr} {kws : List Keyword} {Q : Value → Shared → Prop}
    (hf : methodCallForm (args.length + kws.length) (backTo pos (starEach args env)) (backToKw pos (keywordEach kws env)) = false)
    (h : wpAny (model prog w) A (eval o env) (fun ov s₁ => wpAny (model prog w) A (getAttr ov name true) (fun f s₂ => wpAny (model prog w) A (callWith pos f [] (backTo pos (starEach args env)) (backToKw pos (keywordEach kws env))) Q E s₂) E s₁) E s)
    (he : eval (.Call (.Attribute o name apos) args kws pos) env = (do
      let ov ← eval o env
      standAt apos.atName
      methodCall o name apos pos env ov (args.length + kws.length) (backTo pos (starEach args env)) (backToKw pos (keywordEach kws env))) := by rfl) :
    wpAny (model prog w) A (eval (.Call (.Attribute o name apos) args kws pos) env) Q E s := by
  rw [he]
  refine wpAny_bind (wpAny_mono h (fun ov s₁ h₁ => ?_) fun _ _ z => z)
  refine wpAny_bind (wpAny_standAt ?_)
  unfold methodCall calleeOf methodCallPos
  rw [hf]
  simp only [Bool.false_eq_true, if_false, Bool.not_false, Bool.true_or, if_true]
  refine wpAny_bind (wpAny_holding (wpAny_bind (wpAny_mono h₁ (fun f s₂ h₂ => ?_) fun _ _ z => z)))
  exact wpAny_pure (wpAny_bind (wpAny_pure h₂))

theorem callWith_sk {f : Value} {first : List Value} {T D : Addr} {xA xK : Sem Value} {p1 p2 pos : Pos} {Q : Value → Shared → Prop} (F : Fr h₀ L s.heap m) (N : News h₀ L s.heap news) (hT : (T, tup []) ∈ news) (hD : (D, dict0) ∈ news) (hDs : (D == sysModules) = false)
    (hA : ∀ (Q : Value → Shared → Prop) E, Q (.ref T) s → wpAny (model prog w) A xA Q E s)
    (hK : ∀ h' (Q : Value → Shared → Prop) E, Fr h₀ L h' m → News h₀ L h' news → Q (.ref D) { s with heap := h' } → wpAny (model prog w) A xK Q E { s with heap := h' })
    (hk : ∀ h', Fr h₀ L h' m → News h₀ L h' news → ∃ k, (k = Keeper.frame ∨ k = Keeper.machine ∨ k = Keeper.boundFrame) ∧ Looks (model prog w) h' (keeperOf f) k)
    (h : ∀ h' tk, Fr h₀ L h' m → News h₀ L h' news → wpAny (model prog w) A (call f first) Q E { s with heap := h', toks := tk }) :
    wpAny (model prog w) A (callWith pos f first [(true, (do let v ← xA; standAt p1; pure v))] [(none, (do let v ← xK; standAt p2; pure v))]) Q E s := by
  unfold callWith evalArgs
  refine wpAny_bind (wpAny_holding ?_)
  dsimp only
  refine wpAny_bind (wpAny_bind (hA _ _ (wpAny_bind (wpAny_standAt (wpAny_pure (wpAny_bind (wpAny_pure ?_)))))))
  refine wpAny_holding ?_
  simp only [List.all_cons, List.all_nil, Option.isSome_none, Bool.and_true, Bool.false_eq_true, if_false]
  unfold mergedKeywords
  refine wpAny_bind (wpAny_bind (wpAny_alloc ?_))
  have F1 := F.push dict0
  have N1 := N.push F dict0
  obtain ⟨hh, g, d, t, os⟩ := s
  dsimp only at *
  lk
  lk
  lk
  rw [List.forIn_cons]
  have F1' : Fr h₀ L (hh.push dict0) m := F1
  have N1' : News h₀ L (hh.push dict0) news := fun p hp => N1 p (.tail _ hp)
  have hD1 : (hh.push dict0).get? D = some dict0 := (N1' _ hD).1
  have hd1 : (hh.push dict0).get? hh.objs.size = some dict0 := (N1 _ (.head _)).1
  have hDn : ¬ ((D == sysModules) = true) := by rw [hDs]; decide
  have tD : Looks (model prog w) (hh.push dict0) (isInstance (.ref D) (.type "dict")) true := ((Looks.ld hD1).andThen .now).andThen (Looks.of_pure (by kernel_rfl))
  have iD : Looks (model prog w) (hh.push dict0) (specialOf (.ref D) "__iter__") (some (.builtin "dict.__iter__")) := ((Looks.ld hD1).andThen .now).andThen (Looks.of_pure PySem.F.slot_dict_iter.lookup)
  have hT1 : (hh.push dict0).get? T = some (tup []) := (N1' _ hT).1
  have iT : Looks (model prog w) (hh.push dict0) (specialOf (.ref T) "__iter__") (some (.builtin "tuple.__iter__")) := ((Looks.ld hT1).andThen .now).andThen (Looks.of_pure PySem.F.slot_tuple_iter.lookup)
  repeat ((fail_if_success (with_reducible show wpAny _ _ (collect _) _ _ _)); first | with_reducible refine wpAny_standAt ?_ | ((with_reducible show wpAny _ _ (Sem.tryCatch _ _) _ _ _); refine wpAny_tryCatch ?_) | with_reducible refine hK _ _ _ F1' N1' ?_ | rw [if_neg hDn] | lk)
  refine wpAny_collect_seq (T := "tuple") T (.inr rfl) hT1 rfl rfl (fun h2 hk2 => ?_) (by size_fits)
  have F2 := F1'.keptAll hk2
  have N2 := N1'.grown hk2
  have hd2 := hk2 _ _ hd1
  have hT2 := hk2 _ _ hT1
  obtain ⟨k, hk', LK⟩ := hk h2 F2 N2
  have fin : ∀ tk, wpAny (model prog w) A (call f first) Q E { heap := h2, gens := g, drawn := d, toks := tk, os := os } := fun tk => h h2 tk F2 N2
  dsimp only
  refine wpAny_bind (wpAny_holding ?_)
  unfold keywordsIn
  refine wpAny_bind (wpAny_dictEntries hd2 rfl ?_)
  repeat ((fail_if_success (with_reducible show wpAny _ _ (keeperOf _) _ _ _)); first | with_reducible refine wpAny_standAt ?_ | lk)
  refine LK.at ?_
  have tail : ∀ {t' : Sem Value}, wpAny (model prog w) A t' Q E { heap := h2, gens := g, drawn := d, toks := t, os := os } → wpAny (model prog w) A (t' >>= fun r => holding [r] point >>= fun _ => pure r) Q E { heap := h2, gens := g, drawn := d, toks := t, os := os } :=
    fun ht => wpAny_bind (wpAny_mono ht (fun r s₂ hr => wpAny_bind (wpAny_holding (wpAny_point (wpAny_pure hr)))) fun _ _ x => x)
  have fin' : wpAny (model prog w) A (call f (first ++ []) []) Q E { heap := h2, gens := g, drawn := d, toks := t, os := os } := by rw [List.append_nil]; exact fin t
  have marked (mk : Value) : wpAny (model prog w) A (callMarked mk f (first ++ []) []) Q E { heap := h2, gens := g, drawn := d, toks := t, os := os } := by unfold callMarked; exact Calls.wpAny_keep fin'
  rcases hk' with rfl | rfl | rfl <;> dsimp only [List.any_cons, List.any_nil, Bool.true_or] <;> first | exact tail (marked _) | exact tail (wpAny_operating fin')
end
end Mine
end

section
open PySem PySem.W PyProof.Rows PySem.Calls
set_option maxRecDepth 100000
set_option maxHeartbeats 4000000
namespace Mine
theorem fresh_L5 : True := by
  w_top off
  trivial
theorem ne_K {K : Frag} {h₀ h : Heap} {L x C : Addr} {o : Obj} {t : Value} {news : List (Addr × Obj)} (X₀ : K.In h₀) (N : News h₀ L h news) (hx : (x, o) ∈ news) (h1 : typeIn K (.ref C) = some t) : (Value.ref x == Value.ref C) = false := by
  obtain ⟨o1, e1, _⟩ := Option.map_eq_some_iff.mp (show (K.lookup C).map (·.cls) = some t from h1)
  cases q : (Value.ref x == Value.ref C) with
  | false => rfl
  | true =>
    have : x = C := Value.ref.inj (eq_of_beq q)
    subst this
    have z := (N _ hx).2.2
    rw [X₀ _ _ e1] at z
    cases z
/-- super().name where name is a def of a class behind: a bound method -/
theorem super_attr_fn {prog : Program} {w : World} {A : Around} {E : Value → Shared → Prop} {s : Shared} {h₀ : Heap} {L : Addr} {m : Str → Option Value} {news : List (Addr × Obj)} {K : Frag} {so D x C f2 : Addr} {ox : Obj} {tC : Value} {name : Str} {expr : Bool} {Q : Value → Shared → Prop}
    (F : Fr h₀ L s.heap m) (X₀ : K.In h₀) (N : News h₀ L s.heap news) (hso : (so, sob D x C) ∈ news) (hx : (x, ox) ∈ news) (ho : nsIn K cStatics "thirdparty.any" = some none) (hC : typeIn K (.ref C) = some tC)
    (hm : ks_superIn K C D name = some (some (.ref f2))) (hT : typeIn K (.ref f2) = some (.type "function")) (hn : (name == ("__class__" : Str)) = false)
    (h : ∀ q h', Fr h₀ L h' m → News h₀ L h' ((q, methodObj (.ref f2) (.ref x)) :: news) → Q (.ref q) { s with heap := h', toks := s.toks + 1 }) :
    wpAny (model prog w) A (getAttr (.ref so) name expr) Q E s := by
  have X := X₀.keeps F.keep
  obtain ⟨hh, g, d, t, os⟩ := s
  refine Found.attr (found_in X (N _ hso).1 ho hm (looks_typeIn X hT) (.of_pure PySem.F.ks_slot_function_get.lookup) hn) ?_
  show wpAny _ _ (call _ [_, ite _ _ _, _]) _ _ _
  rw [if_neg (by rw [ne_K X₀ N hx hC]; decide)]
  exact wpAny_call (fn_get X hT ⟨rfl, h _ _ (F.push _) (N.push F _)⟩)
end Mine
end

section
open PySem PySem.W PyProof.Rows PySem.Calls
set_option maxRecDepth 100000
set_option maxHeartbeats 4000000
namespace Mine
theorem fresh_L6 : True := by
  w_top off
  trivial
section
variable {prog : Program} {w : World} {A : Around} {E : Value → Shared → Prop} {s : Shared} {h₀ : Heap} {L : Addr} {m : Str → Option Value} {news : List (Addr × Obj)}
/-- (None,)[1:] -/
theorem tup_from1 {value slice : Expr} {T : Addr} {v0 : Value} {u : Tok} {Q : Value → Shared → Prop}
    (F : Fr h₀ L s.heap m) (N : News h₀ L s.heap news) (hT : (T, tup [v0]) ∈ news)
    (h : ∀ T2 h', Fr h₀ L h' m → News h₀ L h' ((T2, tup []) :: news) → Q (.ref T2) { s with heap := h' })
    (hs : subscripted slice false (.ref T) (.ref s.heap.objs.size) = operate [.ref s.heap.objs.size, .ref T] (getItem (.ref T) (.ref s.heap.objs.size)))
    (ht : ∀ r, letTemporaryGo value (.ref T) r = pure ()) :
    wpAny (model prog w) A (subscriptTail value slice (.ref T) (.ref s.heap.objs.size)) Q E { s with heap := s.heap.push { cls := .type "slice", data := .fields #[.int 1 u, .none, .none] } } := by
  obtain ⟨hh, g, d, t, os⟩ := s
  dsimp only at *
  generalize hsl : ({ cls := .type "slice", data := .fields #[.int 1 u, .none, .none] } : Obj) = sl
  have hT1 : (hh.push sl).get? T = some (tup [v0]) := Heap.get?_push_of_some _ (N _ hT).1
  have hS1 : (hh.push sl).get? hh.objs.size = some sl := by subst hsl; exact Heap.get?_push_size _ rfl
  have F1 : Fr h₀ L (hh.push sl) m := F.push sl
  have N1 : News h₀ L (hh.push sl) news := N.grown fun _ _ e => Heap.get?_push_of_some _ e
  generalize hh.objs.size = S at *
  generalize hh.push sl = h1 at *
  subst hsl
  have tT : (⟨h1, g, d, t, os⟩ : Shared).TypeIs (.ref T) "tuple" := ⟨_, hT1, rfl⟩
  refine subscriptTail_ops tT PySem.F.slot_tuple_getitem.lookup ?_ hs ht
  unfold getItem
  refine wpAny_holding ?_
  refine wpAny_bind (wpAny_sequenceKey tT (by decide) ?_)
  refine wpAny_bind (wpAny_callSpecial?_slot (name := Str.ofString "__getitem__") tT PySem.F.slot_tuple_getitem
    (wpAny_call_entry PySem.F.slot_tuple_getitem tT PySem.F.entry_tuple_getitem ?_ (PySem.F.args_tuple_getitem_2 _ _)))
  unfold Builtin.«tuple.__getitem__»
  repeat lk
  exact ⟨_, rfl, wpAny_pure (h _ _ (F1.push _) (N1.push F1 (tup [])))⟩

/-- an assigned dict comprehension over an empty list -/
theorem Assign_DictComp_nil {env : Env} {kx vx iter : Expr} {x y : Str} {px py : Pos} {ifs : List Expr} {scope : Scope} {cl : List (Str × Addr)} {pos spos : Pos} {Q : Flow → Shared → Prop}
    (hsw : swapsWith (.DictComp kx vx [⟨.Name x px, iter, ifs, 0⟩] scope pos) (some (.Name y py)) spos.line env = pure true) (hL : env.locals = L)
    (hh : A.handled = none) (hclos : closureFor scope env = pure cl) (hcell : ∀ z ∈ scope.names, z.2 ≠ .cell) (hkind : scope.kind = .function)
    (hnames : ∀ z ∈ scope.names, z.2 = .local → scope.names.lookup z.1 = some .local) (hx : scope.names.lookup x = some .local)
    (hy : env.kindOf y = some .local) (hp : (env.scope.kind == .class || (env.scope.kind == .module && env.locals != env.globals)) = false)
    (hs : ∀ x, foldedSetIterable iter env x = pure x)
    (F₀ : Fr h₀ L s.heap m) (N₀ : News h₀ L s.heap news)
    (h : wpAny (model prog w) A (eval iter env) (fun xv s₁ => ∃ ax, xv = .ref ax ∧ s₁.heap.IsList ax #[] ∧ Fr h₀ L s₁.heap m ∧ News h₀ L s₁.heap news ∧
      ∀ D ep h' tk, Fr h₀ L h' (fun z => if z = y then some (.ref D) else m z) → News h₀ L h' ((D, ({ cls := .type "dict", data := .dict #[] ep } : Obj)) :: news) → Q .next { s₁ with heap := h', toks := tk }) E s) :
    wpAny (model prog w) A (exec (.Assign [.Name y py] (.DictComp kx vx [⟨.Name x px, iter, ifs, 0⟩] scope pos) spos) env) Q E s := by
  refine Assign_DictComp_DCx (α := Int) (K := ItemKind.int) (m := m) (h₀ := h₀) (news := news) hsw hL hh hclos hcell hkind hnames hx hy hp (wpAny_mono h (fun xv s₁ z => ?_) fun _ _ z => z) hs
  obtain ⟨ax, rfl, hl, F1, N1, hq⟩ := z
  refine ⟨ax, [], [], rfl, hl, .nil, by decide, F1, N1, .mk (Kk := Int) (intKind prog w) (enc := PyData.int) PyProof.V.same_int (pz := fun _ => true) (kf := fun n => n) (d := fun n => PyData.int n) ?_ ?_ ?_ ?_⟩
  · intro C a v s2 m2 E' hm; cases hm
  · intro C a v s2 m2 E' hm; cases hm
  · intro C a v s2 m2 E' hm; cases hm
  · intro D kvs h' tk F2 N2 hD hd fp
    have fp' : PyProof.V.FlatPairs PyData.int kvs [] := fp
    cases fp'
    obtain ⟨o, es, ep, ho, hx, hda, _, hp, _⟩ := hd
    have e0 : es.toList = [] := by cases q : es.toList with | nil => rfl | cons a b => rw [q] at hp; cases hp
    have e1 : es = #[] := by rw [← Array.toArray_toList (xs := es), e0]
    subst e1
    obtain ⟨oc, od, odt, osl⟩ := o
    obtain ⟨x1, x2, x3⟩ := hx
    dsimp only at x1 x2 x3 hda
    subst x1; subst x2; subst x3; subst hda
    refine hq D ep h' tk F2 (fun p hp => ?_)
    rcases List.mem_cons.mp hp with rfl | hp
    · refine ⟨ho, fun e => ?_, hD⟩
      obtain ⟨oL, es, ep', h1, h2, _, h4⟩ := F2.ns
      have e' : D = L := e
      subst e'
      rw [ho] at h1
      cases h1
      cases h2
      have h5 := h4 y
      dsimp only at h5
      rw [if_pos rfl] at h5
      cases h5
    · exact N2 p hp
end
section
variable {prog : Program} {w : World} {A : Around} {E : Value → Shared → Prop} {s : Shared} {h₀ : Heap} {L : Addr} {m mg mb : Str → Option Value} {news : List (Addr × Obj)} {K : Frag} {p : Program} {loose : List Str} {mean : ExcName → Option Value} {x C D f f2 cc cda so : Addr} {ox : Obj} {odx : Option Obj} {cells : List (Str × Addr)}
/-- what the part K knows of a def that closes over `__class__`: its first parameter, its file, the class in its cell -/
def Closes (K : Frag) (fl : Str) (f cda cc D : Addr) (a : Str) : Prop :=
  (∃ o fd r, K.lookup f = some o ∧ o.data = .func fd ∧ (fd.params.posonlyargs ++ fd.params.args).head? = some r ∧ r.arg = a) ∧ (∃ o vs g t, K.lookup cda = some o ∧ o.data = .fields vs ∧ vs[2]? = some (.str g t) ∧ (fl == g) = true) ∧
    (∃ o, K.lookup cc = some o ∧ o.data = .cell (some (.ref D))) ∧ ∃ o cd, K.lookup D = some o ∧ o.data = .cls cd
/-- how its names stand -/
def Named (scope : Scope) (a : Str) : Prop := scope.kind = .function ∧ scope.names.lookup ("super" : Str) = some .globalImplicit ∧ scope.names.lookup ("__class__" : Str) = some .free ∧ scope.names.lookup a = some .local
/-- no name «super» of the text's own -/
def Bare (K : Frag) (pr : Program) : Prop := nsIn K mainGlobals "super" = some none ∧ (pr.main.scope.names.lookup ("super" : Str)).isSome = false
/-- super() in such a def, whatever its other cells and whatever its first argument: as far as super's own call -/
theorem super_base {v : Value} {a : Str} {body : List Stmt} {q : Str} {scope : Scope} {p0 p1 : Pos} {attr : Str} {whole : Sem Value} {R : Value → Shared → Prop} (W : Closes K prog.main.file f cda cc D a) (U : Named scope a) (Z : Bare K prog)
    (F : Fr h₀ L s.heap m) (X₀ : K.In h₀) (T : Top p loose mean mg mb h₀) (e1 : m a = some v) (e2 : cells.lookup ("__class__" : Str) = some cc) (e3 : (attr == ("__class__" : Str)) = false) (e4 : bootBuiltins "super" = some (.type "super"))
    (k : wpAny (model prog w) A (call (.type "super") [.ref D, v]) R E s) :
    _root_.PySem.wpAt (model prog w) A (.func body (envX q scope L f (.ref cda) cells)) (attributeBase (.Call (.Name "super" p0) [] [] p1) attr (envX q scope L f (.ref cda) cells) whole) R E s := by
  obtain ⟨⟨o1, fd, r, w1, w2, w3, rfl⟩, ⟨o2, vs, g, t, w4, w5, w6, w7⟩, ⟨o3, w8, w9⟩, o4, cd, w10, w11⟩ := W
  obtain ⟨u1, u2, u3, u4⟩ := U
  have at_ : ∀ b o, K.lookup b = some o → s.heap.get? b = some o := fun b o e => F.keep _ _ (X₀ b o e)
  have glob {Y : Value → Shared → Prop} := loadGlobal_builtin (M := model prog w) (A := A) (E := E) (Q := Y) (env := envX q scope L f (.ref cda) cells) (T.g.keeps F.keep) (mg_none_of X₀ T.g Z.1) (T.b.keeps F.keep) ((T.builtins _ (by decide +kernel)).trans e4)
  refine ks_wpAt_super_base u2 u3 e3 rfl (at_ _ _ w1) w2 w3 rfl (at_ _ _ w4) w5 w6 w7 Z.2 (ks_loadName_global u1 u2 (glob ⟨rfl, ?_⟩))
  exact wpAny_loadName_free u1 u3 e2 ⟨_, at_ _ _ w8, w9⟩ (wpAny_loadName_local u1 u4 F.ns e1 (ks_wpAny_isType_cls (at_ _ _ w10) w11 ⟨rfl, k⟩))
/-- the same where the first argument is an object of the class: the new super object -/
theorem super_made {a : Str} {body : List Stmt} {q : Str} {scope : Scope} {p0 p1 : Pos} {attr : Str} {whole : Sem Value} {R : Value → Shared → Prop} (W : Closes K prog.main.file f cda cc D a) (U : Named scope a) (Z : Bare K prog)
    (F : Fr h₀ L s.heap m) (X₀ : K.In h₀) (T : Top p loose mean mg mb h₀) (N : News h₀ L s.heap news) (I : InstAt s.heap x ox C odx) (sub : mroIn K C (.ref D) = some true) (e1 : m a = some (.ref x)) (e2 : cells.lookup ("__class__" : Str) = some cc) (e3 : (attr == ("__class__" : Str)) = false) (e4 : bootBuiltins "super" = some (.type "super"))
    (k : ∀ so h', Fr h₀ L h' m → News h₀ L h' ((so, ks_superObj D x C) :: news) → (∀ p ∈ news, p.1 < so) → R (.ref so) { s with heap := h' }) :
    _root_.PySem.wpAt (model prog w) A (.func body (envX q scope L f (.ref cda) cells)) (attributeBase (.Call (.Name "super" p0) [] [] p1) attr (envX q scope L f (.ref cda) cells) whole) R E s := by
  refine super_base W U Z F X₀ T e1 e2 e3 e4 ?_
  obtain ⟨-, -, -, o, cd, w1, w2⟩ := W
  obtain ⟨hh, g, d, tk, os⟩ := s
  have X := X₀.keeps F.keep
  refine ks_wpAny_call_super (X _ _ w1) w2 I.at_ I.cls (fun c e => ?_) (looks_mroIn X sub) fun h' e l => ?_
  · exact Bool.noConfusion ((show notCls ox = false by unfold notCls; rw [e]).symm.trans I.no)
  · have y := ks_newsPush (s := ⟨hh, g, d, tk, os⟩) F N rfl e l
    exact k _ _ y.1 y.2.1 y.2.2
end
end Mine
end

section
open PySem PySem.W PyProof.Rows PySem.Calls PySem.Builtin PySem.Builtin.ObjectAttr
set_option maxRecDepth 100000
set_option maxHeartbeats 4000000
namespace Mine
theorem fresh_L7 : True := by
  w_top off
  trivial
/-- object's own `__setattr__` passes over this class's line -/
def Over (K : Frag) (C : Addr) : Prop := ∃ cd, clsIn K C = some cd ∧ mroIn K C (.type "object") = some true ∧ ∀ self, refuseLoop self "__setattr__" cd.mro = pure ()
/-- how the instances of C take a store under a name: by object's own `__setattr__`; `r` is what stands there and takes stores -/
structure Sets (K : Frag) (C : Addr) (nm : Str) (r : Option Value) : Prop where
  how : findIn K (.ref C) "__setattr__" = some (some (.builtin "object.__setattr__"))
  line : Over K C
  taker : takerIn K C nm = some r
section
variable {prog : Program} {w : World} {A : Around} {s : Shared} {K : Frag} {x C : Addr} {ox : Obj} {od : Option Obj} {nm : Str} {v : Value} {Q : Unit → Shared → Prop} {E : Value → Shared → Prop}
theorem Sets.opens {r : Option Value} (S : Sets K C nm r) (X : K.In s.heap) (I : InstAt s.heap x ox C od)
    (k : ∀ b, wpAny (model prog w) A.in1 (match r with | some a => setByDescriptor a (.ref x) v | none => storeInOwnDict (.ref x) (.ref C) (.str nm s.toks) nm v b) (fun f z => f = .done (.ret .none) ∧ Q () z) E { s with toks := s.toks + 1 }) :
    wpAny (model prog w) A (setAttr (.ref x) nm v) Q E s := by
  obtain ⟨cd, c1, c2, c3⟩ := S.line
  obtain ⟨t, a1, a2⟩ := Option.bind_eq_some_iff.mp S.taker
  have l1 := I.type (M := model prog w)
  have l2 : Looks (model prog w) s.heap (mroOf (.ref C)) cd.mro := (looks_clsIn X c1).andThen .now
  have l3 := looks_findIn (M := model prog w) X a1
  have l4 : Looks (model prog w) s.heap (storeTaker? t) r := by
    rcases t with _ | a
    · exact Option.some.inj a2 ▸ .now
    · obtain ⟨b, b1, b2⟩ := Option.map_eq_some_iff.mp a2
      exact (looks_takesIn X b1).andThen (by cases b <;> exact b2 ▸ .now)
  refine set_plain X I S.how (codeAny_call_builtin PySem.F.store_object.slot.plain PySem.F.store_object.entry ?_)
  refine check_slot (i := "object.__setattr__") (owner := "object") (n := "__setattr__") (self := .ref x) (rest := [.str nm s.toks, v]) PySem.F.store_object.kind PySem.F.store_object.split (l1.andThen (looks_mroIn X c2)) (PySem.F.store_object.args _ _ _) ?_
  obtain ⟨hh, g, d, tk, os⟩ := s
  rw [osa_eq, refuse_eq]
  repeat ((fail_if_success (with_reducible show wpAny _ _ (setByDescriptor _ _ _) _ _ _)); (fail_if_success (with_reducible show wpAny _ _ (storeInOwnDict _ _ _ _ _ _) _ _ _)); first | rw [c3] | lk)
  exact wpAny_mono (k _) (fun f z q => by rw [q.1]; exact q.2) fun _ _ q => q
/-- a property: its setter's call -/
theorem Sets.prop {p fs : Addr} {a : Value} {rest : List Value} (S : Sets K C nm (some (.ref p))) (X : K.In s.heap) (I : InstAt s.heap x ox C od) (hT : typeIn K (.ref p) = some (.type "property")) (hr : recIn K p "property" = some (a :: .ref fs :: rest))
    (k : codeAny (model prog w) A.in1.in1 (.call (.ref fs) ⟨[.ref x, v], []⟩) (fun r z => match r with | .ok (.ret _) => Q () z | .ok _ => False | .error e => E e z) { s with toks := s.toks + 1 }) : wpAny (model prog w) A (setAttr (.ref x) nm v) Q E s := by
  refine S.opens X I fun _ => ?_
  have l1 := looks_typeIn (M := model prog w) X hT
  have l2 : Looks (model prog w) s.heap (typeLookup (.type "property") "__set__") _ := .of_pure KF.slot_pset.lookup
  obtain ⟨hh, g, d, tk, os⟩ := s
  dsimp only at *
  unfold setByDescriptor callSpecial? specialOf
  repeat ((fail_if_success (with_reducible show wpAny _ _ (call _ _) _ _ _)); first | rw [KF.slot_pset.bind] | lk)
  exact wpAny_call (prop_set X hr (codeAny_mono k fun r z q => by rcases r with e | (u | _ | _ | _) <;> first | exact q | exact q.elim | exact wpAny_pure (wpAny_pure ⟨rfl, q⟩)))
/-- in a dict where a look at the name comes to something, no key but the name's own need be asked -/
theorem getL_clear {es : List DictEntry} (hl : (getL nm es).isSome = true) : aRefKeyMayBeTheName nm es.toArray = false := by
  rw [aRefKeyMayBeTheName_at, ← Array.any_toList, ← Array.any_toList]
  cases e : es.any (·.refKey) with
  | false => exact Bool.and_false _
  | true =>
    cases e2 : es.find? (·.key.isStr nm) with
    | none => unfold getL at hl; rw [e2, e] at hl; cases hl
    | some y => rw [List.any_eq_true.mpr ⟨y, List.mem_of_find?_eq_some e2, List.find?_some e2⟩]; rfl
/-- nothing: the object's own dict -/
theorem Sets.dict {h₀ : Heap} {L dx : Addr} {m : Str → Option Value} {news news' : List (Addr × Obj)} {es es' : List DictEntry} {n n' : Nat} (S : Sets K C nm none) (F : Fr h₀ L s.heap m) (X₀ : K.In h₀) (N : News h₀ L s.heap news) (I : InstAt s.heap x ox C (some (dictOf es n))) (hd : ox.dict = some dx)
    (hh : hasDictIn K C = true) (hl : (getL nm es).isSome = true) (e : (putL nm (PyData.keyHash w.params nm) (.str nm (s.toks + 1)) v es, putN nm es n) = (es', n')) (U : Upd dx (dictOf es n) (dictOf es' n') news news') (hz : es'.length ≤ 1000)
    (k : ∀ h', Fr h₀ L h' m → News h₀ L h' news' → Q () { s with heap := h', toks := s.toks + 2 }) : wpAny (model prog w) A (setAttr (.ref x) nm v) Q E s := by
  have X := X₀.keeps F.keep
  refine S.opens X I fun b => ?_
  obtain ⟨cd, c1, c2⟩ := any_some hh
  obtain ⟨pre, post, rfl, rfl, u1, u2⟩ := U.split
  have at1 := (N (dx, dictOf es n) (List.mem_append_right _ (.head _))).1
  obtain ⟨G1, G2⟩ := news_upd (o' := dictOf es' n') (f := Obj.putName nm (PyData.keyHash w.params nm) (.str nm (s.toks + 1)) v) F N u1 u2 ((putName_dict ..).trans (by rw [← (Prod.mk.inj e).1, ← (Prod.mk.inj e).2])) rfl
  have at2 := (G2 (dx, dictOf es' n') (List.mem_append_right _ (.head _))).1
  have l1 : Looks (model prog w) s.heap (ownDictForStores (.ref x)) (some dx) := by
    obtain ⟨i1, i2, -, -⟩ := I
    obtain ⟨_, _, _, _⟩ := ox
    dsimp only at i2 hd
    subst i2 hd
    refine (Looks.ld i1).andThen ((looks_clsIn X c1).andThen ?_)
    rw [c2]
    exact .now
  have l2 : Looks (model prog w) s.heap (strHash nm) (PyData.keyHash w.params nm) := fun _ _ _ _ _ q => wpAny_bind (wpAny_askSetting (wpAny_pure q))
  obtain ⟨hp, g, d, tk, os⟩ := s
  dsimp only at *
  unfold storeInOwnDict storeInDict nsSet
  repeat ((fail_if_success (with_reducible show wpAny _ _ (lookBehind _ _) _ _ _)); first | with_reducible refine wpAny_mkText ?_ | with_reducible refine wpAny_loadPart at1 ?_ | rw [getL_clear hl] | with_reducible refine wpAny_updatePart at1 ?_ | lk)
  refine wpAny_lookBehind at2 (pastItsLine_dict (by rw [List.size_toArray, sizeLine_eq]; omega)) ?_
  exact wpAny_pure ⟨rfl, k _ G1 G2⟩
end
end Mine
end

section
open PySem PySem.W PyProof.Rows PySem.Calls
set_option maxRecDepth 100000
set_option maxHeartbeats 4000000
namespace Mine
theorem fresh_L8 : True := by
  w_top off
  trivial
/-- a fresh exception leaves the frame that raised it, whatever cells that frame has -/
theorem leave_raiseX {M : Model} {A : Around} {E : Value → Shared → Prop} {z : Shared} {base g h : Heap} {outer : List Env} {env : Env} {L e : Addr} {m : Str → Option Value} {Q : Unit → Shared → Prop} {news : List (Addr × Obj)} {cls : Value} {vs : List Value}
    (K : Below A base outer g) (made : Heap.MadeExcOf h z.heap e cls vs) (F : Fr g L h m) (N : News g L h news) (e1 : env.frame = some L) (e2 : env.scope.kind = .function)
    (k : ∀ h' t, RaisedS base g outer e cls t vs news h' → g.UpToSlots h' → Q () { z with heap := h' }) : wpAny M (A.deeper env) (leaving env (.ref e)) Q E z := by
  have two : ∀ b, b ∈ (env :: outer).filterMap (·.frame) → b = L ∨ b ∈ outer.filterMap (·.frame) := fun b hm => by simpa [List.filterMap_cons, e1] using hm
  have seen : ∀ b o, h.get? b = some o → b ≠ L → b ∉ outer.filterMap (·.frame) → (hideAll h ((env :: outer).filterMap (·.frame))).get? b = some o := fun b o q n1 n2 => hideAll_get _ q fun hm => (two b hm).elim n1 n2
  have notL : ∀ b o, g.get? b = some o → b ≠ L := fun b o q n => nomatch (n ▸ q).symm.trans (kts_self F)
  refine wpAny_leaves_madeW (Around.frames_deeper K.stack) e1 (fun b o q => of_hideAll _ q) (funFrames_hide (pushX K F e1 e2).frames fun y hy b hb => List.mem_filterMap.mpr ⟨y, hy, hb⟩) made fun h' t x1 x2 x3 x4 => ?_
  refine k h' t ⟨⟨_, fun b o q => ?_, fun b o q n => seen b o (F.keep b o q) (notL b o q) n, fun q hq => ⟨seen _ _ (N q hq).1 (N q hq).2.1 fun hm => ?_, (N q hq).2.2, fresh_of_stays K.stays (N q hq).2.2⟩, x1, x3⟩, x2⟩ (((Heap.UpToSlots.of_keeps F.keep).trans (Heap.UpToSlots.of_keeps made.keeps)).trans x4)
  · exact seen b o (F.keep b o (K.stays b o q)) (notL b o (K.stays b o q)) fun hm => nomatch q.symm.trans (K.frames.mem hm).1
  · obtain ⟨o, ho, -⟩ := (K.frames.mem hm).2
    exact nomatch ho.symm.trans (N q hq).2.2
end Mine
end

section
open PySem PySem.W PyProof.Rows PySem.Calls
set_option maxRecDepth 100000
set_option maxHeartbeats 4000000
namespace Mine
theorem fresh_L9 : True := by
  w_top off
  trivial
/-- a name that the own dict lacks -/
theorem dict_lacks {M : Model} {hh : Heap} {dx : Addr} {es : List DictEntry} {n : Nat} {nm : Str} (e : hh.get? dx = some (dictOf es n)) (hl : getL nm es = some none) : Looks M hh (nsGet dx nm) none :=
  (Looks.ld e).andThen (.of_pure (nsLook_of (by rw [lookIn_dict, hl])))
/-- a def of the class called on one of its objects, whichever built-in it is that reads its attributes -/
theorem method_fnI {prog : Program} {w : World} {A : Around} {E : Value → Shared → Prop} {s : Shared} {K : Frag} {x C f : Addr} {ox : Obj} {es : List DictEntry} {n : Nat} {ga : String} {name : Str} {pl : Sem Bool} {Q : Value × List Value → Shared → Prop}
    (X : K.In s.heap) (I : InstAt s.heap x ox C (some (dictOf es n)))
    (r1 : findIn K (.ref C) "__getattribute__" = some (some (.builtin ga))) (r2 : (Manifest.canonical ga != "object.__getattribute__") = false) (r3 : findIn K (.ref C) "__getattr__" = some none)
    (r4 : findIn K (.ref C) name = some (some (.ref f))) (r5 : isFn K (.ref f) = true) (r6 : getL name es = some none) (h : Q (.ref f, [.ref x]) s) :
    wpAny (model prog w) A (getMethod (.ref x) name pl) Q E s := by
  have l1 := I.type (M := model prog w)
  have l2 := looks_findIn (M := model prog w) X r1
  have l3 := looks_findIn (M := model prog w) X r3
  have l4 := looks_findIn (M := model prog w) X r4
  have l5 := looks_typeIn (M := model prog w) X (beq_iff_eq.mp r5)
  have hx := I.at_
  have hd := I.dict
  obtain ⟨hh, g, d, t, os⟩ := s
  obtain ⟨_, _ | dx, _, _⟩ := ox
  · cases hd
  have l6 := dict_lacks (M := model prog w) hd r6
  dsimp only at *
  unfold getMethod specialOf
  repeat ((fail_if_success (with_reducible show Q _ _)); first | simp only [r2, Bool.false_eq_true, if_false] | lk)
  exact h
end Mine
end

section
open PySem PySem.W PyProof.Rows PySem.W.X
set_option maxRecDepth 100000
set_option maxHeartbeats 8000000
set_option linter.unusedVariables false
namespace Mine
theorem fresh_XL1 : True := by
  w_top off
  trivial
theorem wpAny_room {α : Type} {M : Model} {A A' : Around} {t : Sem α} {Q : α → Shared → Prop} {E : Value → Shared → Prop} {s : Shared} (hh : A.handled = A'.handled) (hf : A'.frames = none) (hg : A'.guards = none) (hd : A.depth ≤ A'.depth) (hu : A.units ≤ A'.units)
    (h : wpAny M A' t Q E s) : wpAny M A t Q E s := fun Γ p hΓ =>
  h Γ p ⟨hΓ.1.trans hh, Nat.le_trans hΓ.2.1 hd, (fun l e => by rw [hf] at e; cases e), (fun l e => by rw [hg] at e; cases e), Nat.le_trans hΓ.2.2.2.2 hu⟩
abbrev XA : Around := ⟨none, 600, none, none, 5000⟩
theorem mem_K {h₀ : Heap} {L : Addr} {m : Str → Option Value} {h h' : Heap} {news nw : List (Addr × Obj)} (F : Fr h₀ L h m) (N : News h₀ L h news) (D : Mem h h' [] nw) : Fr h₀ L h' m ∧ News h₀ L h' (nw ++ news) := by
  have k : ∀ b o, h.get? b = some o → h'.get? b = some o := fun b o e => D.keep b o e (by simp [away])
  refine ⟨F.keptAll k, fun p hp => ?_⟩
  rcases List.mem_append.mp hp with hp | hp
  · obtain ⟨a, b⟩ := D.nw p hp
    obtain ⟨oL, _, _, hL, _⟩ := F.ns
    refine ⟨a, fun e => ?_, ?_⟩
    · rw [e, hL] at b; cases b
    · cases q : h₀.get? p.1 with
      | none => rfl
      | some o => rw [F.keep _ _ q] at b; cases b
  · exact ⟨k _ _ (N p hp).1, (N p hp).2⟩
set_option hygiene false in
local macro_rules | `(tactic| x_close) => `(tactic| (refine hQ _ _ ?_; assumption))
section
variable {w : World} {s : Shared} {n : Int} {x dx p so a : Addr} {t tk t1 t2 : Tok} {b b' : Bool} {es : Array DictEntry} {k : Nat} {Q E : Value → Shared → Prop} 
theorem xW1 (KX : (hd.heap_39 w.params).In s.heap) (h1 : s.heap.get? x = some ⟨.ref 296, some dx, .dict #[] 0, #[]⟩)
  (hQ : ∀ a h', Mem s.heap h' [] [(a, ({ cls := .type "method-wrapper", data := .fields #[.builtin "dict.__init__", .ref x] } : Obj))] → Q (.ref a) ⟨h', s.gens, s.drawn, s.toks, s.os⟩) :
  wpAny (model Mine.PG w) XA (call (.builtin "wrapper_descriptor.__get__") [.builtin "dict.__init__", .ref x, .ref 296]) Q E s := by
  x_run
end
section
variable {w : World} {s : Shared} {n : Int} {x dx p so a : Addr} {t tk t1 t2 : Tok} {b b' : Bool} {es : Array DictEntry} {k : Nat} {Q E : Value → Shared → Prop} 
set_option hygiene false in
local macro_rules | `(tactic| x_close) => `(tactic| (first | exact hQ _ _ (by assumption) | exact hQ _ _ (Mem.start _)))
theorem xW2 (KX : (hd.heap_39 w.params).In s.heap) (h1 : s.heap.get? x = some ⟨.ref 296, some dx, .dict #[] 0, #[]⟩) (h2 : s.heap.get? a = some ({ cls := .type "method-wrapper", data := .fields #[.builtin "dict.__init__", .ref x] } : Obj))
  (hQ : ∀ h' tk', Mem s.heap h' [] [] → Q .none ⟨h', s.gens, s.drawn, tk', s.os⟩) :
  wpAny (model Mine.PG w) XA (call (.ref a) []) Q E s := by
  x_run
end
end Mine
end

section
open PySem PySem.W PyProof.Rows PySem.W.X
set_option maxRecDepth 100000
set_option maxHeartbeats 8000000
set_option linter.unusedVariables false
namespace Mine
theorem fresh_XL2 : True := by
  w_top off
  trivial
set_option hygiene false in
local macro_rules | `(tactic| x_close) => `(tactic| (first | exact hQ _ _ (by assumption) | exact hQ _ _ (Mem.start _) | exact hQ _ _ _ (by assumption) | exact hQ _ _ _ (Mem.start _)))
section
variable {w : World} {s : Shared} {n : Int} {x dx p so a q : Addr} {t tk t1 t2 : Tok} {b b' : Bool} {es : Array DictEntry} {k : Nat} {Q E : Value → Shared → Prop} 
theorem xU1 (KX : (hd.heap_39 w.params).In s.heap) (h1 : s.heap.get? x = some ⟨.ref 296, some dx, .dict #[] 0, #[]⟩) (h2 : s.heap.get? dx = some (⟨.type "dict", none, .dict #[] 0, #[]⟩ : Obj))
  (hQ : ∀ a h' tk', Mem s.heap h' [] [(a, ({ cls := .type "method", data := .fields #[.ref 143, .ref x] } : Obj))] → Q (.ref a) ⟨h', s.gens, s.drawn, tk', s.os⟩) :
  wpAny (model Mine.PG w) XA (call (.builtin "dict.__getattribute__") [.ref x, .str (Str.ofString "update") tk]) Q E s := by
  x_run
end
end Mine
end

section
open PySem PySem.W PyProof.Rows PySem.W.X
set_option maxRecDepth 100000
set_option maxHeartbeats 8000000
set_option linter.unusedVariables false
namespace Mine
theorem fresh_XL3 : True := by
  w_top off
  trivial
theorem mem_less {h h' : Heap} {nw nw' : List (Addr × Obj)} (D : Mem h h' [] nw) (hs : List.Sublist nw' nw) : Mem h h' [] nw' := ⟨D.keep, D.ch, D.cd, fun p hp => D.nw p (hs.subset hp), D.ord.sublist (hs.map _)⟩
theorem mem_none {h h' : Heap} {nw : List (Addr × Obj)} (D : Mem h h' [] nw) : Mem h h' [] [] := mem_less D (List.nil_sublist _)
set_option hygiene false in
local macro_rules | `(tactic| x_close) => `(tactic| (exact hQ _ _ (mem_none (by assumption))))
section
variable {w : World} {s : Shared} {n : Int} {x dx p so a q : Addr} {t tk t1 t2 : Tok} {b b' : Bool} {es : Array DictEntry} {k : Nat} {Q E : Value → Shared → Prop} 
theorem xU2 (KX : (hd.heap_39 w.params).In s.heap) (h1 : s.heap.get? x = some ⟨.ref 296, some dx, .dict #[] 0, #[]⟩) (h2 : s.heap.get? dx = some (⟨.type "dict", none, .dict #[] 0, #[]⟩ : Obj)) (h3 : s.heap.get? q = some ({ cls := .type "method", data := .fields #[.ref 143, .ref x] } : Obj))
  (hQ : ∀ h' tk', Mem s.heap h' [] [] → Q .none ⟨h', s.gens, s.drawn, tk', s.os⟩) :
  wpAny (model Mine.PG w) XA (call (.ref q) []) Q E s := by
  x_run
end
end Mine
end

section
open PySem PySem.W PyProof.Rows PySem.W.X
set_option maxRecDepth 100000
set_option maxHeartbeats 8000000
set_option linter.unusedVariables false
namespace Mine
theorem fresh_XL4 : True := by
  w_top off
  trivial
set_option hygiene false in
local macro_rules | `(tactic| x_close) => `(tactic| (first | exact hQ _ _ (mem_none (by assumption)) | exact hQ _ (by assumption) | exact hQ _ _ (by assumption) | exact hQ _ _ _ (by assumption) | exact hQ _ _ _ _ (by assumption) | exact hQ | exact hQ _ | exact hQ _ _ | exact hQ _ (Mem.start _) | exact hQ _ _ (Mem.start _) | exact hQ _ _ _ (Mem.start _) | ((have hb1 : b = true := by assumption); rw [hb1] at hQ; exact hQ _ _ (mem_none (by assumption))) | ((have hb1 : b = false := by first | assumption | (rename_i hb2; simpa using hb2)); rw [hb1] at hQ; exact hQ _ _ (mem_none (by assumption)))))
section
variable {w : World} {s : Shared} {n : Int} {x dx p so a q : Addr} {t tk t1 t2 : Tok} {b b' : Bool} {es : Array DictEntry} {k : Nat} {Q E : Value → Shared → Prop} {v : Value} {y : Str}
theorem xN1 (KX : (hd.heap_39 w.params).In s.heap)
  (hQ : ∀ dx x h', Mem s.heap h' [] [(x, (⟨.ref 296, some dx, .dict #[] 0, #[]⟩ : Obj)), (dx, ({ cls := .type "dict", data := .dict #[] } : Obj))] → Q (.ref x) ⟨h', s.gens, s.drawn, s.toks, s.os⟩) :
  wpAny (model Mine.PG w) XA (call (.builtin "dict.__new__") [.ref 296, .none]) Q E s := by
  x_run
theorem xI1 (KX : (hd.heap_39 w.params).In s.heap)
  (hQ : ∀ dx x h', Mem s.heap h' [] [(x, (⟨.ref 373, some dx, .prim (.int n s.toks), #[]⟩ : Obj)), (dx, ({ cls := .type "dict", data := .dict #[] } : Obj))] → Q (.ref x) ⟨h', s.gens, s.drawn, s.toks + 1, s.os⟩) :
  wpAny (model Mine.PG w) XA (call (.builtin "int.__new__") [.ref 373, .int n t]) Q E s := by
  x_run
theorem xS1 (KX : (hd.heap_39 w.params).In s.heap)
  (hQ : ∀ so h', Mem s.heap h' [] [(so, ({ cls := .type "super", data := .fields #[.ref 373, .ref 373, .ref 373] } : Obj))] → Q (.ref so) ⟨h', s.gens, s.drawn, s.toks, s.os⟩) :
  wpAny (model Mine.PG w) XA (call (.type "super") [.ref 373, .ref 373]) Q E s := by
  x_run
theorem xO1 (KX : (hd.heap_39 w.params).In s.heap) (h1 : s.heap.get? x = some ⟨.ref 373, some dx, .prim (.int n t), #[]⟩) (hQ : Q .none s) : wpAny (model Mine.PG w) XA (call (.builtin "object.__init__") [.ref x, .str y t1]) Q E s := by
  x_run
theorem xO2 (KX : (hd.heap_39 w.params).In s.heap) (h1 : s.heap.get? x = some ⟨.ref 373, some dx, .prim (.int n t), #[]⟩) (hQ : Q .none s) : wpAny (model Mine.PG w) XA (call (.builtin "object.__init__") [.ref x, .int k t1]) Q E s := by
  x_run
theorem xO3 (KX : (hd.heap_39 w.params).In s.heap) (h1 : s.heap.get? x = some ⟨.ref 373, some dx, .prim (.int n t), #[]⟩) (hQ : Q .none s) : wpAny (model Mine.PG w) XA (call (.builtin "object.__init__") [.ref x, .ref a]) Q E s := by
  x_run
theorem xI2 (KX : (hd.heap_39 w.params).In s.heap) (h1 : s.heap.get? x = some ⟨.ref 373, some dx, .prim (.int n t), #[]⟩) (hQ : ∀ tk, Q (.int n tk) { s with toks := s.toks + 1 }) : wpAny (model Mine.PG w) XA (call (.type "int") [.ref x]) Q E s := by
  x_run
theorem xG1 (KX : (hd.heap_39 w.params).In s.heap) (h1 : s.heap.get? x = some ⟨.ref 373, some dx, .prim (.int n t), #[]⟩) (h2 : s.heap.get? dx = some (⟨.type "dict", none, .dict #[⟨PyData.keyHash w.params (Str.ofString "_leap"), .str (Str.ofString "_leap") t1, .bool b⟩, ⟨PyData.keyHash w.params (Str.ofString "params"), .str (Str.ofString "params") t2, .ref p⟩] k, #[]⟩ : Obj))
  (hQ : ∀ h' tk', Mem s.heap h' [] [] → Q (.bool b) ⟨h', s.gens, s.drawn, tk', s.os⟩) : wpAny (model Mine.PG w) XA (call (.builtin "int.__getattribute__") [.ref x, .str (Str.ofString "leap") tk]) Q E s := by
  x_run
end
end Mine
end

section
open PySem PySem.W PyProof.Rows PySem.W.X
set_option maxRecDepth 100000
set_option maxHeartbeats 8000000
set_option linter.unusedVariables false
namespace Mine
theorem fresh_XL6 : True := by
  w_top off
  trivial
set_option hygiene false in
local macro_rules | `(tactic| x_close) => `(tactic| exact hQ)
theorem xO4 {w : World} {s : Shared} {n j : Int} {x dx : Addr} {t t1 : Tok} {Q E : Value → Shared → Prop} (KX : (hd.heap_39 w.params).In s.heap) (h1 : s.heap.get? x = some ⟨.ref 373, some dx, .prim (.int n t), #[]⟩) (hQ : Q .none s) : wpAny (model Mine.PG w) XA (call (.builtin "object.__init__") [.ref x, .int j t1]) Q E s := by
  x_run
end Mine
end

section
open PySem PySem.W PyProof.Rows PySem.W.X
set_option maxRecDepth 100000
set_option maxHeartbeats 8000000
set_option linter.unusedVariables false
namespace Mine
theorem fresh_XL7 : True := by
  w_top off
  trivial
set_option hygiene false in
local macro_rules | `(tactic| x_close) => `(tactic| (first | exact hQ _ _ (mem_none (by assumption)) | exact hQ _ (by assumption) | exact hQ _ _ (by assumption) | exact hQ _ _ _ (by assumption) | exact hQ _ _ _ _ (by assumption)))
section
variable {w : World} {s : Shared} {n : Int} {x dx p so a q : Addr} {t tk t1 t2 : Tok} {b b' : Bool} {es : Array DictEntry} {k : Nat} {Q E : Value → Shared → Prop} {v : Value} {y : Str}
theorem xG2 (KX : (hd.heap_39 w.params).In s.heap) (h1 : s.heap.get? x = some ⟨.ref 373, some dx, .prim (.int n t), #[]⟩) (h2 : s.heap.get? dx = some (⟨.type "dict", none, .dict #[⟨PyData.keyHash w.params (Str.ofString "_leap"), .str (Str.ofString "_leap") t1, .bool b⟩, ⟨PyData.keyHash w.params (Str.ofString "params"), .str (Str.ofString "params") t2, .ref p⟩] k, #[]⟩ : Obj))
  (hQ : ∀ bm h' tk', Mem s.heap h' [] [(bm, ({ cls := .type "method", data := .fields #[.ref 336, .ref x] } : Obj))] → Q (.ref bm) ⟨h', s.gens, s.drawn, tk', s.os⟩) : wpAny (model Mine.PG w) XA (call (.builtin "int.__getattribute__") [.ref x, .str (Str.ofString "to_ical") tk]) Q E s := by
  x_run
end
end Mine
end

section
open PySem PySem.W PyProof.Rows PySem.Calls
set_option maxRecDepth 100000
set_option maxHeartbeats 8000000
namespace Mine
theorem fresh_P1 : True := by
  w_top off
  trivial
theorem InstAt.ofNewsAny {h₀ h : Heap} {L x C dx : Addr} {news : List (Addr × Obj)} {od : Obj} {dt : Data} {sl : Array (Option Value)} (N : News h₀ L h news) (h1 : (x, (⟨.ref C, some dx, dt, sl⟩ : Obj)) ∈ news) (h2 : (dx, od) ∈ news) (hn : notCls ⟨.ref C, some dx, dt, sl⟩ = true) :
    InstAt h x ⟨.ref C, some dx, dt, sl⟩ C (some od) := ⟨(N _ h1).1, rfl, hn, (N _ h2).1⟩
local macro_rules | `(tactic| k_mem) => `(tactic| (show (_ : Addr × Obj) ∈ (_ : List (Addr × Obj)); ktr_member))
local macro_rules | `(tactic| k_inst) => `(tactic| (refine' InstAt.ofNewsAny ?N ?h1 ?h2 ?h3; (case N => k_asm); (case h1 => k_mem); (case h2 => k_mem); (case h3 => rfl)))

abbrev mwob (id : String) (x : Addr) : Obj := { cls := .type "method-wrapper", data := .fields #[.builtin id, .ref x] }
theorem super_meth_wrap {prog : Program} {w : World} {A : Around} {E : Value → Shared → Prop} {s : Shared} {h₀ : Heap} {L : Addr} {m : Str → Option Value} {news : List (Addr × Obj)} {K : Frag} {so D x C : Addr} {T : String} {a : Value} {gt : Option Value} {name : Str} {pl : Sem Bool} {Q : Value × List Value → Shared → Prop}
    (F : Fr h₀ L s.heap m) (X₀ : K.In h₀) (N : News h₀ L s.heap news) (hso : (so, sob D x C) ∈ news) (ho : nsIn K cStatics "thirdparty.any" = some none)
    (hm : ks_superIn K C D name = some (some a)) (hT : typeOf a = pure (.type T)) (hg : typeLookup (.type T) "__get__" = pure gt) (hn : (name == ("__class__" : Str)) = false)
    (h : GetThen (model prog w) A.in1 gt a x C (fun v => Q (v, [])) { s with toks := s.toks + 1 }) :
    wpAny (model prog w) A (getMethod (.ref so) name pl) Q E s := by
  obtain ⟨hh, g, d, t, os⟩ := s
  exact Found.meth (found_in (X₀.keeps F.keep) (N _ hso).1 ho hm (.of_pure hT) (.of_pure hg) hn) h
theorem super_dinit {w : World} {A : Around} {E : Value → Shared → Prop} {s : Shared} {h₀ : Heap} {L : Addr} {m : Str → Option Value} {news : List (Addr × Obj)} {so x dx : Addr} {pl : Sem Bool} {Q : Value × List Value → Shared → Prop}
    (F : Fr h₀ L s.heap m) (X₀ : (hd.heap_39 w.params).In h₀) (N : News h₀ L s.heap news) (hso : (so, sob 174 x 296) ∈ news) (hx : (x, (⟨.ref 296, some dx, .dict #[] 0, #[]⟩ : Obj)) ∈ news) (hh : A.handled = none) (hd : A.depth ≤ 600) (hu : A.units ≤ 4900)
    (ho : nsIn (Mine.hd.heap_39 w.params) cStatics "thirdparty.any" = some none) (hm : ks_superIn (Mine.hd.heap_39 w.params) 296 174 "__init__" = some (some (.builtin "dict.__init__"))) (h296 : typeIn (Mine.hd.heap_39 w.params) (.ref 296) = some (.type "type"))
    (h : ∀ q h', Fr h₀ L h' m → News h₀ L h' ((q, mwob "dict.__init__" x) :: news) → Q (.ref q, []) { s with heap := h', toks := s.toks + 1 }) :
    wpAny (model (RowW.prog (OpenRow.toRowW (OpenLaw.row PySem.Challenge.rw_fc0076_01))) w) A (getMethod (.ref so) "__init__" pl) Q E s := by
  have X := X₀.keeps F.keep
  have hx' := (N _ hx).1
  obtain ⟨o, ho1, ho2⟩ := Option.map_eq_some_iff.mp (show ((Mine.hd.heap_39 w.params).lookup 296).map (·.cls) = some (.type "type") from h296)
  have ne : (Value.ref x == Value.ref 296) = false := by
    cases q : (Value.ref x == Value.ref 296) with
    | false => rfl
    | true =>
      have : x = 296 := Value.ref.inj (eq_of_beq q)
      subst this
      rw [X _ _ ho1] at hx'
      cases hx'
      cases ho2
  refine super_meth_wrap F X₀ N hso ho hm (T := "wrapper_descriptor") (gt := some (.builtin "wrapper_descriptor.__get__")) (by kernel_rfl) (by kernel_rfl) (by decide) ?_
  dsimp only [GetThen]
  rw [ne]
  simp only [Bool.false_eq_true, if_false]
  refine wpAny_room (A' := XA) hh rfl rfl hd (Nat.le_trans (Nat.succ_le_succ hu) (by decide)) (xW1 (s := { s with toks := s.toks + 1 }) X hx' fun q h' D => ?_)
  obtain ⟨F', N'⟩ := mem_K F N D
  exact ⟨rfl, h q h' F' N'⟩
theorem callWith_mw0 {M : Model} {A : Around} {E : Value → Shared → Prop} {s : Shared} {h₀ : Heap} {L : Addr} {news : List (Addr × Obj)} {q x : Addr} {id : String} {pos : Pos} {first : List Value} {env : Env} {Q : Value → Shared → Prop} (N : News h₀ L s.heap news) (hq : (q, mwob id x) ∈ news) (h : wpAny M A (call (.ref q) (first ++ [])) Q E s) :
    wpAny M A (callWith pos (.ref q) first (backTo pos (starEach [] env)) []) Q E s :=
  callWith_of rfl (fun hh (X : hh.get? q = some (mwob id x)) => ⟨.machine, .inr (.inl rfl), (Looks.ld (part := none) X).andThen (Looks.of_pure (by kernel_rfl))⟩) (evalArgs_nil3 ⟨(N _ hq).1, h⟩)
theorem mw_dinit {w : World} {A : Around} {E : Value → Shared → Prop} {s : Shared} {h₀ : Heap} {L : Addr} {m : Str → Option Value} {news : List (Addr × Obj)} {q x dx : Addr} {Q : Value → Shared → Prop}
    (F : Fr h₀ L s.heap m) (X₀ : (hd.heap_39 w.params).In h₀) (N : News h₀ L s.heap news) (hq : (q, mwob "dict.__init__" x) ∈ news) (hx : (x, (⟨.ref 296, some dx, .dict #[] 0, #[]⟩ : Obj)) ∈ news) (hh : A.handled = none) (hd : A.depth ≤ 600) (hu : A.units ≤ 4900)
    (h : ∀ h' tk', Fr h₀ L h' m → News h₀ L h' news → Q .none { s with heap := h', toks := tk' }) :
    wpAny (model (RowW.prog (OpenRow.toRowW (OpenLaw.row PySem.Challenge.rw_fc0076_01))) w) A (call (.ref q) []) Q E s := by
  refine wpAny_room (A' := XA) hh rfl rfl hd (Nat.le_trans hu (by decide)) (xW2 (X₀.keeps F.keep) (N _ hx).1 (N _ hq).1 fun h' tk' D => ?_)
  obtain ⟨F', N'⟩ := mem_K F N D
  exact h h' tk' F' N'
local macro_rules | `(tactic| walk_at "getMethod ref") => `(tactic| (k_here; k_dflt (refine' super_dinit ?k1 ?k2 ?k3 ?k4 ?k5 ?k6 ?k7 ?k8 ?k9 ?k10 ?k11 ?_; (case k1 => k_asm); (case k2 => k_asm); (case k3 => k_asm); (case k4 => k_mem); (case k5 => k_mem); (case k6 => rfl); (case k7 => exact Nat.le_of_ble_eq_true rfl); (case k8 => exact Nat.le_of_ble_eq_true rfl); (case k9 => k_is); (case k10 => ks_is); (case k11 => k_is); k_whole; intro q' h' F' N')))
local macro_rules | `(tactic| walk_at "callWith ref") => `(tactic| (k_here; k_dflt (refine' callWith_mw0 ?k1 ?k2 ?_; (case k1 => k_asm); (case k2 => k_mem); k_whole)))
local macro_rules | `(tactic| walk_at "call ref") => `(tactic| (k_here; k_dflt (refine' mw_dinit ?k1 ?k2 ?k3 ?k4 ?k5 ?k6 ?k7 ?k8 ?_; (case k1 => k_asm); (case k2 => k_asm); (case k3 => k_asm); (case k4 => k_mem); (case k5 => k_mem); (case k6 => rfl); (case k7 => exact Nat.le_of_ble_eq_true rfl); (case k8 => exact Nat.le_of_ble_eq_true rfl); k_whole; intro h' tk' F' N')))
theorem upd_attr {w : World} {A : Around} {E : Value → Shared → Prop} {s : Shared} {h₀ : Heap} {L : Addr} {m : Str → Option Value} {news : List (Addr × Obj)} {x dx : Addr} {expr : Bool} {Q : Value → Shared → Prop}
    (F : Fr h₀ L s.heap m) (X₀ : (hd.heap_39 w.params).In h₀) (N : News h₀ L s.heap news) (hx : (x, (⟨.ref 296, some dx, .dict #[] 0, #[]⟩ : Obj)) ∈ news) (hdx : (dx, dict0) ∈ news) (hh : A.handled = none) (hd : A.depth ≤ 600) (hu : A.units ≤ 4900)
    (hga : findIn (Mine.hd.heap_39 w.params) (.ref 296) "__getattribute__" = some (some (.builtin "dict.__getattribute__"))) (hgt : findIn (Mine.hd.heap_39 w.params) (.ref 296) "__getattr__" = some none)
    (h : ∀ q h' tk', Fr h₀ L h' m → News h₀ L h' ((q, methodObj (.ref 143) (.ref x)) :: news) → Q (.ref q) { s with heap := h', toks := tk' }) :
    wpAny (model (RowW.prog (OpenRow.toRowW (OpenLaw.row PySem.Challenge.rw_fc0076_01))) w) A (getAttr (.ref x) "update" expr) Q E s := by
  have X := X₀.keeps F.keep
  refine getAttr_ga X (InstAt.ofNewsAny N hx hdx rfl) hga (by decide +kernel) (fun self => by kernel_rfl) hgt ?_
  refine wpAny_room (A' := XA) hh rfl rfl hd (Nat.le_trans hu (by decide)) (xU1 (s := { s with toks := s.toks + 1 }) X (N _ hx).1 (N _ hdx).1 fun q h' tk' D => ?_)
  obtain ⟨F', N'⟩ := mem_K F N D
  exact ⟨rfl, h q h' tk' F' N'⟩
theorem upd_call {w : World} {A : Around} {E : Value → Shared → Prop} {s : Shared} {h₀ : Heap} {L : Addr} {m : Str → Option Value} {news : List (Addr × Obj)} {x dx q : Addr} {Q : Value → Shared → Prop}
    (F : Fr h₀ L s.heap m) (X₀ : (hd.heap_39 w.params).In h₀) (N : News h₀ L s.heap news) (hx : (x, (⟨.ref 296, some dx, .dict #[] 0, #[]⟩ : Obj)) ∈ news) (hdx : (dx, dict0) ∈ news) (hq : (q, methodObj (.ref 143) (.ref x)) ∈ news) (hh : A.handled = none) (hd : A.depth ≤ 600) (hu : A.units ≤ 4900)
    (h : ∀ h' tk', Fr h₀ L h' m → News h₀ L h' news → Q .none { s with heap := h', toks := tk' }) :
    wpAny (model (RowW.prog (OpenRow.toRowW (OpenLaw.row PySem.Challenge.rw_fc0076_01))) w) A (call (.ref q) []) Q E s := by
  refine wpAny_room (A' := XA) hh rfl rfl hd (Nat.le_trans hu (by decide)) (xU2 (X₀.keeps F.keep) (N _ hx).1 (N _ hdx).1 (N _ hq).1 fun h' tk' D => ?_)
  obtain ⟨F', N'⟩ := mem_K F N D
  exact h h' tk' F' N'
local macro_rules | `(tactic| walk_at "eval Call Attribute") => `(tactic| (k_here; refine' starCall_any ?k1 ?_ ?k2; (case k1 => rfl); (case k2 => rfl)))
local macro_rules | `(tactic| walk_at "getAttr ref") => `(tactic| (k_here; k_dflt (refine' upd_attr ?k1 ?k2 ?k3 ?k4 ?k5 ?k6 ?k7 ?k8 ?k9 ?k10 ?_; (case k1 => k_asm); (case k2 => k_asm); (case k3 => k_asm); (case k4 => k_mem); (case k5 => k_mem); (case k6 => rfl); (case k7 => exact Nat.le_of_ble_eq_true rfl); (case k8 => exact Nat.le_of_ble_eq_true rfl); (case k9 => k_is); (case k10 => k_is); k_whole; intro q' h' tk' F' N')))
local macro_rules | `(tactic| walk_at "call ref") => `(tactic| (k_here; k_dflt (refine' upd_call ?k1 ?k2 ?k3 ?k4 ?k5 ?k9 ?k6 ?k7 ?k8 ?_; (case k1 => k_asm); (case k2 => k_asm); (case k3 => k_asm); (case k4 => k_mem); (case k5 => k_mem); (case k9 => k_mem); (case k6 => rfl); (case k7 => exact Nat.le_of_ble_eq_true rfl); (case k8 => exact Nat.le_of_ble_eq_true rfl); k_whole; intro h' tk' F' N')))
theorem ne_sysmods {K : Frag} {h₀ h : Heap} {L D : Addr} {o : Obj} {t : Value} {news : List (Addr × Obj)} (X₀ : K.In h₀) (N : News h₀ L h news) (hD : (D, o) ∈ news) (h1 : typeIn K (.ref sysModules) = some t) : (D == sysModules) = false := by
  obtain ⟨o1, e1, _⟩ := Option.map_eq_some_iff.mp (show (K.lookup sysModules).map (·.cls) = some t from h1)
  cases q : (D == sysModules) with
  | false => rfl
  | true =>
    have := eq_of_beq q
    subst this
    have z := (N _ hD).2.2
    rw [X₀ _ _ e1] at z
    cases z
theorem keeps_bound {M : Model} {K : Frag} {h₀ h : Heap} {L : Addr} {m : Str → Option Value} {news : List (Addr × Obj)} {q g : Addr} {x : Value} (X₀ : K.In h₀) (hq : (q, methodObj (.ref g) x) ∈ news) (hf : fnIn K g = true) (F : Fr h₀ L h m) (N : News h₀ L h news) :
    ∃ k, (k = Keeper.frame ∨ k = Keeper.machine ∨ k = Keeper.boundFrame) ∧ Looks M h (keeperOf (.ref q)) k := keeps_M hf h ⟨(N _ hq).1, X₀.keeps F.keep⟩
local macro_rules | `(tactic| walk_at "callWith ref") => `(tactic| (k_here; k_dflt (refine' callWith_sk ?kF ?kN ?kT ?kD ?kDs ?kA ?kK ?kk ?_; (case kF => k_asm); (case kN => k_asm); (case kA => intro Q1 E1 h1; refine' nameX_L ?kG ?kv h1; (case kG => k_asm); (case kv => rfl)); (case kK => intro hp Q1 E1 F1 N1 h1; first | (refine' nameX_L F1 ?kv h1; (case kv => rfl)) | (refine' nameX_C N1 ?kc ?km ?kd h1; (case kc => rfl); (case km => k_mem); (case kd => assumption))); (case kT => k_mem); (case kD => k_mem); (case kDs => refine' ne_sysmods ?k1 ?k2 ?k3 ?k4; (case k1 => k_asm); (case k2 => k_asm); (case k3 => k_mem); (case k4 => k_is)); (case kk => intro hp F1 N1; refine' keeps_bound ?k1 ?k2 ?k3 F1 N1; (case k1 => k_asm); (case k2 => k_mem); (case k3 => k_is)); k_whole; intro h' tk' F' N')))
theorem ctr_cinit : ∀ (w : World) (mean : ExcName → Option Value) (mg mb : Str → Option Value) (x dx : Addr),
    Claim (hd.heap_39 w.params) hd.view_39 (looseW hd.view_39 [Str.ofString "SEQUENCE_TYPES", Str.ofString "to_unicode", Str.ofString "CaselessDict", Str.ofString "NAME", Str.ofString "param_value", Str.ofString "UNSAFE_CHAR", Str.ofString "QUNSAFE_CHAR", Str.ofString "validate_param_value", Str.ofString "QUOTABLE", Str.ofString "dquote", Str.ofString "q_split", Str.ofString "q_join", Str.ofString "Parameters", Str.ofString "vMonth"]) w mean mg mb 400 1000 (.ref 63) [.ref x] (fun h₀ L h news => (x, (⟨.ref 296, some dx, .dict #[] 0, #[]⟩ : Obj)) ∈ news ∧ (dx, dict0) ∈ news)
      (fun h₀ L m news s Q => ∀ h' tk', Fr h₀ L h' m → News h₀ L h' news → Q .none { s with heap := h', toks := tk' }) noErr := by
  delta Claim
  k_fill
  intro w mean mg mb x dx gd cn cs a ccd cl outer A₀ base h₀ L m news s Q E B F X N T hk hp hret _
  obtain ⟨hm1, hm2⟩ := hp
  refine' code_star0 (n1 := "self") (n2 := "args") (n3 := "kwargs") B F X N T rfl rfl hk ?ho ?hcd ?hroom ?hz ?hb ?l1 ?l2 ?l3 ?_ ?c1 ?c2 ?c3 ?c4
  (case ho => k_is); (case hcd => k_is); (case hroom => exact (by decide : (400 : Nat) < recursionLimit)); (case hz => decide); (case hb => kernel_rfl); (case l1 => rfl); (case l2 => rfl); (case l3 => rfl); (case c1 => decide); (case c2 => rfl); (case c3 => rfl); (case c4 => rfl)
  intro TT D g' L' h' FG' F' N' B' X' T' l1 l2 l3
  have hm1' := List.mem_cons_of_mem (D, dict0) (List.mem_cons_of_mem (TT, tup []) hm1)
  have hm2' := List.mem_cons_of_mem (D, dict0) (List.mem_cons_of_mem (TT, tup []) hm2)
  k_steps
  all_goals (refine hret _ _ (by assumption) (cb_drop (by assumption) ?_); intro p hp; simp only [List.mem_cons, hp, or_true])
end Mine
end

section
open PySem PySem.W PyProof.Rows PySem.Calls
set_option maxRecDepth 100000
set_option maxHeartbeats 8000000
namespace Mine
theorem fresh_P2 : True := by
  w_top off
  trivial
local macro_rules | `(tactic| k_mem) => `(tactic| (show (_ : Addr × Obj) ∈ (_ : List (Addr × Obj)); ktr_member))
local macro_rules | `(tactic| k_inst) => `(tactic| (refine' InstAt.ofNewsAny ?N ?h1 ?h2 ?h3; (case N => k_asm); (case h1 => k_mem); (case h2 => k_mem); (case h3 => rfl)))
local macro_rules | `(tactic| walk_at "subscriptTail") => `(tactic| (k_here; (with_reducible show wpAny _ _ (subscriptTail _ (PySem.Expr.Slice _ _ none _) (Value.ref _) (Value.ref _)) _ _ _); k_dflt (refine' tup_from1 ?F ?N ?l ?_ ?s ?t; (case F => k_asm); (case N => k_asm); (case l => k_mem); (case s => with_unfolding_all rfl); (case t => kmk_pure)); intro D' h' F' N'))
local macro_rules | `(tactic| walk_at "exec Assign cons DictComp") => `(tactic| (k_here; k_dflt (refine' Assign_DictComp_nil ?hsw ?hL ?hh ?hclos ?hcell ?hkind ?hnames ?hx ?hy ?hp ?hs ?hF ?hN ?_; (case hF => k_asm); (case hN => k_asm); (case hsw => with_unfolding_all rfl); (case hL => with_unfolding_all rfl); (case hh => with_unfolding_all rfl); (case hclos => with_unfolding_all rfl); (case hcell => decide); (case hkind => with_unfolding_all rfl); (case hnames => decide); (case hx => with_unfolding_all rfl); (case hy => with_unfolding_all rfl); (case hp => with_unfolding_all rfl); (case hs => intro _; with_unfolding_all rfl))))
theorem bare (w : World) : Bare (Mine.hd.heap_39 w.params) (RowW.prog (OpenRow.toRowW (OpenLaw.row PySem.Challenge.rw_fc0076_01))) := by
  k_fill
  exact ⟨by k_is, by decide +kernel⟩
theorem closes257 (w : World) : Closes (Mine.hd.heap_39 w.params) (RowW.prog (OpenRow.toRowW (OpenLaw.row PySem.Challenge.rw_fc0076_01))).main.file 257 256 247 296 "self" := by
  k_fill
  exact ⟨⟨_, _, _, by k_is, rfl, rfl, rfl⟩, ⟨_, _, _, _, by k_is, rfl, rfl, by first | rfl | decide +kernel⟩, ⟨_, by k_is, rfl⟩, _, _, by k_is, rfl⟩
theorem closes329 (w : World) : Closes (Mine.hd.heap_39 w.params) (RowW.prog (OpenRow.toRowW (OpenLaw.row PySem.Challenge.rw_fc0076_01))).main.file 329 328 316 373 "cls" := by
  k_fill
  exact ⟨⟨_, _, _, by k_is, rfl, rfl, rfl⟩, ⟨_, _, _, _, by k_is, rfl, rfl, by first | rfl | decide +kernel⟩, ⟨_, by k_is, rfl⟩, _, _, by k_is, rfl⟩
theorem empty_is {prog : Program} {w : World} (ep : Nat) : PySem.Obj.IsDictOf (PySem.strKind prog w) ({ cls := .type "dict", data := .dict #[] ep } : Obj) [] := by
  refine ⟨#[], ep, ⟨rfl, rfl, rfl⟩, rfl, ?_, .nil, List.nodup_nil⟩
  intro e he
  simp at he
local macro_rules | `(tactic| walk_at "getMethod ref") => `(tactic| (k_here; k_dflt (first
  | ((with_reducible show wpAny _ _ (getMethod (Value.ref _) (Str.ofString "keys") _) _ _ _); refine kdl_method (knd := PySem.strKind _ _) PySem.F.slot_dict_keys PySem.F.type_dict_keys (by k_asm) (by k_mem) (empty_is _) ?_))))
local macro_rules | `(tactic| walk_at "call builtin:dict.keys") => `(tactic| (k_here; k_dflt (refine kdl_view_keys (knd := PySem.strKind _ _) (by k_asm) (by k_asm) (by k_mem) (empty_is _) (by assumption) ?_); intro D' h' F' N' l1; (try k_lt l1)))
local macro_rules | `(tactic| walk_at "call type:list") => `(tactic| (k_here; k_dflt (refine kdl_list_viewS (by rfl) (by k_asm) (by k_asm) (by k_mem) (by k_mem) (empty_is _) (by decide) ?_); intro D' c' h' tk'; kdl_open))
local macro_rules | `(tactic| walk_at "wpAt") => `(tactic| (dsimp only; ks_step "execs cons"; refine ks_wpAt_execs_cons ?_))
local macro_rules | `(tactic| walk_at "wpAt") => `(tactic| (ks_step "exec Expr"; refine ks_wpAt_Expr_any ?_ (by first | rfl | kernel_rfl | (simp [interactive]; done)) (by first | rfl | kernel_rfl)))
local macro_rules | `(tactic| walk_at "wpAt") => `(tactic| (ks_step "eval Call"; refine' starCall ?k1 ?_ ?k2; (case k1 => first | rfl | kernel_rfl); (case k2 => first | rfl | kernel_rfl)))
local macro_rules | `(tactic| walk_at "wpAt") => `(tactic| (ks_step "attributeBase Call"; k_here; k_dflt (refine super_made (closes257 _) ⟨rfl, rfl, rfl, rfl⟩ (bare _) (by k_asm) (by k_asm) (by k_asm) (by k_asm) (by k_inst) (by k_is) (by rfl) (by rfl) (by decide) (by first | boot_by_name | rfl | kernel_rfl) ?_; intro so' h' F' N' l1; (try k_lt l1))))
local macro_rules | `(tactic| walk_at "getAttr ref") => `(tactic| (k_here; k_dflt (refine' super_attr_fn (f2 := 63) ?k1 ?k2 ?k3 ?k4 ?k5 ?k6 ?k7 ?k8 ?k9 ?k10 ?_; (case k1 => k_asm); (case k2 => k_asm); (case k3 => k_asm); (case k4 => k_mem); (case k5 => k_mem); (case k6 => k_is); (case k7 => k_is); (case k8 => ks_is); (case k9 => k_is); (case k10 => decide); k_whole; intro q' h' F' N')))
local macro_rules | `(tactic| walk_at "callWith ref") => `(tactic| (k_here; k_dflt (refine' callWith_sk ?kF ?kN ?kT ?kD ?kDs ?kA ?kK ?kk ?_; (case kF => k_asm); (case kN => k_asm); (case kA => intro Q1 E1 h1; refine' nameX_L ?kG ?kv h1; (case kG => k_asm); (case kv => rfl)); (case kK => intro hp Q1 E1 F1 N1 h1; first | (refine' nameX_L F1 ?kv h1; (case kv => rfl)) | (refine' nameX_C N1 ?kc ?km ?kd h1; (case kc => rfl); (case km => k_mem); (case kd => assumption))); (case kT => k_mem); (case kD => k_mem); (case kDs => refine' ne_sysmods ?k1 ?k2 ?k3 ?k4; (case k1 => k_asm); (case k2 => k_asm); (case k3 => k_mem); (case k4 => k_is)); (case kk => intro hp F1 N1; refine' keeps_bound ?k1 ?k2 ?k3 F1 N1; (case k1 => k_asm); (case k2 => k_mem); (case k3 => k_is)); k_whole; intro h' tk' F' N')))
set_option hygiene false in
local macro_rules | `(tactic| walk_at "call ref") => `(tactic| (k_here; k_dflt (refine' call_meth ?kN ?kq (Claim.use (ctr_cinit _ _ _ _ x dx) ?kA ?kh ?kd ?ku ?kB ?kF ?kX ?kN2 ?kT ?kk ?kp ?_ trivial); (case kN => k_asm); (case kq => k_mem); (case kA => rfl); (case kh => rfl); (case kd => exact Nat.le_of_ble_eq_true rfl); (case ku => exact Nat.le_of_ble_eq_true rfl); (case kB => k_asm); (case kF => k_asm); (case kX => k_asm); (case kN2 => k_asm); (case kT => k_asm); (case kk => rfl); (case kp => refine ⟨?kp1, ?kp2⟩; (case kp1 => k_mem); (case kp2 => k_mem)); k_whole; intro h' tk' F' N')))
local macro_rules | `(tactic| walk_at "exec For") => `(tactic| (k_here; (rename Fr _ _ _ _ => lF'); (rename News _ _ _ _ => lN'); (with_unfolding_all (refine' For_turns lF' ?_)); k_whole; (refine MethodCall_ ?_); (refine' nameX_L lF' ?v ?_ ?a ?b; (case a => rfl); (case b => rfl); (case v => rfl)); (refine kdl_method (knd := PySem.strKind _ _) PySem.F.slot_dict_items PySem.F.type_dict_items lN' (by k_mem) (empty_is _) ?_); (refine callWith_method0 ?_); (refine kta_callItems (knd := PySem.strKind _ _) lF' lN' (by k_mem) (empty_is _) (by (refine' ne_sysmods ?k1 ?k2 ?k3 ?k4; (case k1 => k_asm); (case k2 => k_asm); (case k3 => k_mem); (case k4 => k_is))) ?_); (intro h' hv' F' N'; (with_unfolding_all refine kta_items (knd := PySem.strKind _ _) (enc := PyData.str) (xs := []) (by rfl) F' N' hv' (by k_mem) (empty_is _) (fun _ _ h => Value.isStrOf_shape h) (by rfl) ?_)); clear lF' lN'; intro i' l1; (refine ItemsRest.zero ?_); intro h' tk' F' N'))
theorem ctr_pinit : ∀ (w : World) (mean : ExcName → Option Value) (mg mb : Str → Option Value) (x dx : Addr),
    Claim (Mine.hd.heap_39 w.params) hd.view_39 (looseW hd.view_39 [Str.ofString "SEQUENCE_TYPES", Str.ofString "to_unicode", Str.ofString "CaselessDict", Str.ofString "NAME", Str.ofString "param_value", Str.ofString "UNSAFE_CHAR", Str.ofString "QUNSAFE_CHAR", Str.ofString "validate_param_value", Str.ofString "QUOTABLE", Str.ofString "dquote", Str.ofString "q_split", Str.ofString "q_join", Str.ofString "Parameters", Str.ofString "vMonth"]) w mean mg mb 360 800 (.ref 257) [.ref x, .none] (fun h₀ L h news => (x, (⟨.ref 296, some dx, .dict #[] 0, #[]⟩ : Obj)) ∈ news ∧ (dx, dict0) ∈ news)
      (fun h₀ L m news s Q => ∀ h' tk', Fr h₀ L h' m → News h₀ L h' news → Q .none { s with heap := h', toks := tk' }) noErr := by
  delta Claim
  k_fill
  intro w mean mg mb x dx gd cn cs a ccd cl outer A₀ base h₀ L m news s Q E B F X N T hk hp hret _
  obtain ⟨hm1, hm2⟩ := hp
  refine' code_star1 (n1 := "self") (n2 := "args") (n3 := "kwargs") B F X N T rfl rfl hk ?ho ?hcd ?hroom ?hz ?hb ?hn ?l1 ?l2 ?l3 ?_ ?c1 ?c2 ?c3 ?c4
  (case ho => k_is); (case hcd => k_is); (case hroom => exact (by decide : (360 : Nat) < recursionLimit)); (case hz => decide); (case hb => kernel_rfl); (case hn => intro v1 v2 v3; simp [newFunctionEnv]); (case l1 => rfl); (case l2 => rfl); (case l3 => rfl); (case c1 => rfl); (case c2 => rfl); (case c3 => rfl); (case c4 => rfl)
  intro TT D c g' L' h' oc' FG' F' N' hoc B' X' T' l1 l2 l3 l4
  have hm1' := List.mem_cons_of_mem (c, oc') (List.mem_cons_of_mem (D, dict0) (List.mem_cons_of_mem (TT, tup [.none]) hm1))
  have hm2' := List.mem_cons_of_mem (c, oc') (List.mem_cons_of_mem (D, dict0) (List.mem_cons_of_mem (TT, tup [.none]) hm2))
  have hlo := ne_sysmods X' N' (D := D) (o := dict0) (by simp) (t := .type "dict") (by k_is)
  k_steps
  all_goals first
    | exact News.isList (by k_asm) (.head _)
    | (with_reducible show Fr _ _ _ _; k_asm)
    | ((with_reducible show News _ _ _ _); refine cb_drop (by assumption) ?_; intro p hp; simp only [List.mem_cons, hp, or_true]; done)
    | ((with_reducible show News _ _ _ _); refine cb_drop (by assumption) ?_; exact fun p hp => List.mem_cons_of_mem _ (List.mem_cons_of_mem _ hp))
    | (refine hret _ _ (by assumption) (cb_drop (by assumption) ?_); intro p hp; simp only [List.mem_cons, hp, or_true])
end Mine
end

section
open PySem PySem.W PyProof.Rows PySem.Calls
set_option maxRecDepth 100000
set_option maxHeartbeats 8000000
namespace Mine
theorem fresh_P3 : True := by
  w_top off
  trivial
theorem called296 (w : World) : Called (hd.heap_39 w.params) 296 (some "dict.__new__") (.ref 257) := by
  suffices k : (RowW.prog (OpenRow.toRowW (OpenLaw.row PySem.Challenge.rw_fc0076_01))) = PG → Called (hd.heap_39 w.params) 296 (some "dict.__new__") (.ref 257) from k rfl
  k_fill
  intro _
  exact ⟨⟨_, _, by k_is, rfl, rfl, rfl⟩, by k_is, by k_is, by k_is, by k_is⟩
abbrev pobj (dp : Addr) : Obj := ⟨.ref 296, some dp, .dict #[] 0, #[]⟩
theorem call_params {w : World} {mean : ExcName → Option Value} {mg mb : Str → Option Value} {A : Around} {cn : Str} {cs : Scope} {a : Addr} {ccd : Value} {cl : List (Str × Addr)} {outer : List Env} {A₀ : Around} {base h₀ : Heap} {L : Addr} {m : Str → Option Value} {news : List (Addr × Obj)} {s : Shared} {Q E : Value → Shared → Prop}
    (hA : A.frames = some (envX cn cs L a ccd cl :: outer)) (hh : A.handled = none) (hdp : A.depth ≤ 350) (hu : A.units ≤ 700) (B : Below A₀ base outer h₀) (F : Fr h₀ L s.heap m) (X : (hd.heap_39 w.params).In h₀) (N : News h₀ L s.heap news) (T : Top hd.view_39 (looseW hd.view_39 [Str.ofString "SEQUENCE_TYPES", Str.ofString "to_unicode", Str.ofString "CaselessDict", Str.ofString "NAME", Str.ofString "param_value", Str.ofString "UNSAFE_CHAR", Str.ofString "QUNSAFE_CHAR", Str.ofString "validate_param_value", Str.ofString "QUOTABLE", Str.ofString "dquote", Str.ofString "q_split", Str.ofString "q_join", Str.ofString "Parameters", Str.ofString "vMonth"]) mean mg mb h₀) (hk : cs.kind = .function)
    (h : ∀ p dp h' tk', Fr h₀ L h' m → News h₀ L h' ((p, pobj dp) :: (dp, dict0) :: news) → Q (.ref p) { s with heap := h', toks := tk' }) :
    wpAny (model (RowW.prog (OpenRow.toRowW (OpenLaw.row PySem.Challenge.rw_fc0076_01))) w) A (call (.ref 296) [.none]) Q E s := by
  revert h T X
  k_fill
  intro X T h
  refine Called.runs (called296 w) (X.keeps F.keep) (fun _ v Y => bind_fn Y v (by k_is)) (fun _ q => wpAny_pure q) ?_
  refine wpAny_room (A' := XA) hh rfl rfl (Nat.le_trans (Nat.succ_le_succ hdp) (by decide)) (Nat.le_trans (Nat.succ_le_succ hu) (by decide)) (xN1 (X.keeps F.keep) fun dx x h' D => ?_)
  obtain ⟨F', N'⟩ := mem_K F N D
  refine ⟨x, _, rfl, X.keeps F'.keep, (N' (x, pobj dx) (.head _)).1, rfl, ?_⟩
  refine wpAny_call (Claim.use (cn := cn) (a := a) (ccd := ccd) (cl := cl) (ctr_pinit w mean mg mb x dx) ?_ hh ?_ ?_ B F' X N' T hk ⟨.head _, .tail _ (.head _)⟩ ?_ trivial)
  · simp [Around.under, hA]; rfl
  · exact Nat.le_trans (Nat.succ_le_succ hdp) (by decide)
  · exact Nat.le_trans (Nat.succ_le_succ hu) (by decide)
  · intro h2 tk2 F2 N2
    exact ⟨rfl, h x dx h2 tk2 F2 N2⟩
end Mine
end

section
open PySem PySem.W PyProof.Rows PySem.NumText
set_option maxRecDepth 100000
namespace Mine
theorem fresh_D1 : True := by
  w_top off
  trivial
theorem ascii_digit : ∀ c : Nat, c < 128 → Unicode.isDigit c = true → 48 ≤ c ∧ c ≤ 57 := by decide +kernel
theorem all_digits {z : Str} (h1 : Txt.isascii z = true) (h2 : Txt.isdigit z = true) : AllDigits z.cps.toList ∧ z.cps.toList ≠ [] := by
  unfold Txt.isascii at h1
  unfold Txt.isdigit at h2
  simp only [Bool.and_eq_true, decide_eq_true_eq] at h2
  rw [Array.all_eq_true_iff_forall_mem] at h1 h2
  refine ⟨fun c hc => ascii_digit c (by simpa using h1 c (by simpa using hc)) (h2.2 c (by simpa using hc)), fun e => ?_⟩
  have : z.length = 0 := by show z.cps.size = 0; rw [← Array.length_toList, e]; rfl
  omega
theorem int_digits {z : Str} (h1 : Txt.isascii z = true) (h2 : Txt.isdigit z = true) (h3 : z.length ≤ 20) : PySem.intText? z = some ((digitsVal z.cps.toList : Nat) : Int) := by
  obtain ⟨a, b⟩ := all_digits h1 h2
  exact intText_digits a b (Nat.le_trans h3 (by decide))
end Mine
end

section
open PySem PySem.W PyProof.Rows PySem.Calls
set_option maxRecDepth 100000
set_option maxHeartbeats 4000000
namespace Mine
theorem fresh_V1 : True := by
  w_top off
  trivial
local macro_rules | `(tactic| k_mem) => `(tactic| (show (_ : Addr × Obj) ∈ (_ : List (Addr × Obj)); ktr_member))
local macro_rules | `(tactic| k_inst) => `(tactic| (refine' InstAt.ofNewsAny ?N ?h1 ?h2 ?h3; (case N => k_asm); (case h1 => k_mem); (case h2 => k_mem); (case h3 => rfl)))
local macro_rules | `(tactic| walk_at "exec Raise some none") => `(tactic| (k_here; k_dflt ((refine' Raise_madeB PySem.F.excCall_ValueError PySem.F.excRaise_ValueError ?hh ?_ ?he ?hp; (case hh => rfl); (case he => rfl); (case hp => rfl); (refine' nameX_B ?F ?X ?T ?e ?v ?n ?_ ?a ?b; (case F => k_asm); (case X => k_asm); (case T => k_asm); (case a => rfl); (case b => rfl); (case e => k_is); (case v => boot_fast); (case n => decide); k_whole); refine ⟨rfl, ?_⟩))))

def mread (y : Str) : Option (Int × Bool) :=
  if (Txt.isascii y && Txt.isdigit y) = true then (PySem.intText? y).map (·, false)
  else if y.length = 0 then none else if (Txt.item y (-1) != Str.ofString "L") = true then none
  else if (Txt.isascii (Txt.slice y none (some (-1))) && Txt.isdigit (Txt.slice y none (some (-1)))) = true then (PySem.intText? (Txt.slice y none (some (-1)))).map (·, true) else none
theorem call_int {prog : Program} {w : World} {A : Around} {E : Value → Shared → Prop} {s : Shared} {Q : Value → Shared → Prop} {z : Str} {t : Tok} (h1 : Txt.isascii z = true) (h2 : Txt.isdigit z = true) (h3 : z.length ≤ 20)
    (h : ∀ n, PySem.intText? z = some n → Q (.int n s.toks) { s with toks := s.toks + 1 }) : wpAny (model prog w) A (call (.type "int") [.str z t]) Q E s := by
  have hn := int_digits h1 h2 h3
  exact KIN.call_text hn (by omega) (h _ hn)
local macro_rules | `(tactic| walk_at "call type:int") => `(tactic| (k_here; k_dflt (refine' call_int ?h1 ?h2 ?h3 ?_; (case h1 => assumption); (case h2 => assumption); (case h3 => first | assumption | omega)); intro n' hn'))
local macro_rules | `(tactic| walk_at "wpAt") => `(tactic| (dsimp only; ks_step "execs cons"; refine ks_wpAt_execs_cons ?_))
theorem fmt_repr {prog : Program} {w : World} {A : Around} {E : Value → Shared → Prop} {s : Shared} {env : Env} {value : Expr} {pos : Pos} {y : Str} {t : Tok} {Q : Value → Shared → Prop} (hr : (reprText y).length ≤ 1000)
    (h : wpAny (model prog w) A (eval value env) (fun v s₁ => v = .str y t ∧ ∀ tk tk', Q (.str (reprText y) tk) { s₁ with toks := tk' }) E s) : wpAny (model prog w) A (eval (.FormattedValue value 114 none pos) env) Q E s := by
  have hz : (reprText y).length ≤ sizeLine := by rw [sizeLine_eq]; omega
  refine wpAny_FormattedValue_repr (wpAny_mono h (fun v s₁ z => ?_) fun _ _ z => z)
  obtain ⟨rfl, z⟩ := z
  exact pyReprObj_str (wpAny_formatField_str (z _ _) (z _ _) hz) hz
local macro_rules | `(tactic| walk_at "eval FormattedValue") => `(tactic| (k_here; k_dflt (refine' fmt_repr ?hr ?_; (case hr => assumption); refine' nameX_L ?F ?v ?_ ?a ?b; (case F => k_asm); (case a => rfl); (case b => rfl); (case v => rfl); k_whole; refine ⟨rfl, ?_⟩; intro tk' tk'')))
set_option hygiene false in
local macro_rules | `(tactic| walk_at "leaving ref") => `(tactic| (k_here; k_dflt (refine' leave_raiseX ?K ?hx ?F ?N ?hf ?hk ?_; (case hf => rfl); (case hk => rfl); (case K => exact B'); (case hx => exact Heap.MadeExc.of (by assumption)); (case F => k_asm); (case N => k_asm)); intro he te hR hU; refine herr ?_ _ _ _ _ _ _ FG' hR hU; (unfold mread; simp_all)))
theorem to_room {α : Type} {M : Model} {A : Around} {t : Sem α} {Q : α → Shared → Prop} {E : Value → Shared → Prop} {s : Shared} (hh : A.handled = none) (hdp : A.depth ≤ 600) (hu : A.units ≤ 4900) (h : wpAny M XA t Q E s) : wpAny M A t Q E s :=
  wpAny_room (A' := XA) hh rfl rfl hdp (Nat.le_trans hu (by decide)) h
theorem super_cls {w : World} {A : Around} {E : Value → Shared → Prop} {s : Shared} {h₀ : Heap} {L : Addr} {m : Str → Option Value} {news : List (Addr × Obj)} {Q : Value → Shared → Prop} (hh : A.handled = none) (hdp : A.depth ≤ 600) (hu : A.units ≤ 4900)
    (F : Fr h₀ L s.heap m) (X₀ : (hd.heap_39 w.params).In h₀) (N : News h₀ L s.heap news)
    (h : ∀ so h', Fr h₀ L h' m → News h₀ L h' ((so, sob 373 373 373) :: news) → Q (.ref so) { s with heap := h' }) :
    wpAny (model (RowW.prog (OpenRow.toRowW (OpenLaw.row PySem.Challenge.rw_fc0076_01))) w) A (call (.type "super") [.ref 373, .ref 373]) Q E s :=
  to_room hh hdp hu (xS1 (X₀.keeps F.keep) fun so h' D => h so h' (mem_K F N D).1 (mem_K F N D).2)
theorem int_new {w : World} {A : Around} {E : Value → Shared → Prop} {s : Shared} {h₀ : Heap} {L : Addr} {m : Str → Option Value} {news : List (Addr × Obj)} {Q : Value → Shared → Prop} {n : Int} {t : Tok} (hh : A.handled = none) (hdp : A.depth ≤ 600) (hu : A.units ≤ 4900)
    (F : Fr h₀ L s.heap m) (X₀ : (hd.heap_39 w.params).In h₀) (N : News h₀ L s.heap news)
    (h : ∀ x dx h' t', x ≠ dx → (∀ p ∈ news, p.1 ≠ dx) → Fr h₀ L h' m → News h₀ L h' ((x, (⟨.ref 373, some dx, .prim (.int n t'), #[]⟩ : Obj)) :: (dx, dict0) :: news) → Q (.ref x) { s with heap := h', toks := s.toks + 1 }) :
    wpAny (model (RowW.prog (OpenRow.toRowW (OpenLaw.row PySem.Challenge.rw_fc0076_01))) w) A (call (.builtin "int.__new__") [.ref 373, .int n t]) Q E s :=
  to_room hh hdp hu (xI1 (X₀.keeps F.keep) fun dx x h' D => h x dx h' _ (fun e => by have h1 := (D.nw _ (.head _)).1; have h2 := (D.nw _ (.tail _ (.head _))).1; dsimp only at h1 h2; rw [e, h2] at h1; cases h1) (fun p hp e => by have h2 := (D.nw _ (.tail _ (.head _))).2; have h1 := (N p hp).1; dsimp only at h2; rw [e, h2] at h1; cases h1) (mem_K F N D).1 (mem_K F N D).2)
local macro_rules | `(tactic| walk_at "wpAt") => `(tactic| (ks_step "exec Assign"; k_dflt (refine ks_wpAt_Assign_Name ?_ (by rfl))))
local macro_rules | `(tactic| walk_at "wpAt") => `(tactic| (ks_step "eval Call"; k_dflt (refine ks_wpAt_MethodCall ?_ (by rfl))))
local macro_rules | `(tactic| walk_at "wpAt") => `(tactic| (ks_step "attributeBase Call"; k_here; k_dflt (refine super_base (closes329 _) ⟨rfl, rfl, rfl, rfl⟩ (bare _) (by k_asm) (by k_asm) (by k_asm) (by rfl) (by rfl) (by decide) (by first | boot_by_name | rfl | kernel_rfl) ?_); k_dflt (refine' super_cls ?k1 ?k2 ?k3 ?k4 ?k5 ?k6 ?_; (case k1 => rfl); (case k2 => exact Nat.le_of_ble_eq_true rfl); (case k3 => exact Nat.le_of_ble_eq_true rfl); (case k4 => k_asm); (case k5 => k_asm); (case k6 => k_asm); k_whole; intro so' h' F' N')))
local macro_rules | `(tactic| walk_at "getMethod ref") => `(tactic| (k_here; k_dflt (refine' super_meth_wrap (T := "builtin_function_or_method") (gt := none) ?k1 ?k2 ?k3 ?k4 ?k5 ?k6 ?k7 ?k8 ?k9 ?_; (case k1 => k_asm); (case k2 => k_asm); (case k3 => k_asm); (case k4 => k_mem); (case k5 => k_is); (case k6 => ks_is); (case k7 => kernel_rfl); (case k8 => kernel_rfl); (case k9 => decide); k_whole; refine ⟨rfl, ?_⟩)))
local macro_rules | `(tactic| walk_at "call builtin:int.__new__") => `(tactic| (k_here; k_dflt (refine' int_new ?k1 ?k2 ?k3 ?k4 ?k5 ?k6 ?_; (case k1 => rfl); (case k2 => exact Nat.le_of_ble_eq_true rfl); (case k3 => exact Nat.le_of_ble_eq_true rfl); (case k4 => k_asm); (case k5 => k_asm); (case k6 => k_asm); k_whole; intro x' dx' h' t' hxd' hnd' F' N')))
theorem over373 (w : World) : Over (hd.heap_39 w.params) 373 := by
  obtain ⟨cd, hc, hm⟩ := Option.map_eq_some_iff.mp (show (clsIn (hd.heap_39 w.params) 373).map (·.mro) = some [.ref 373, .type "int", .type "object"] by kernel_rfl)
  exact ⟨cd, hc, by kernel_rfl, fun self => by rw [hm]; kernel_rfl⟩
theorem ne_news {h₀ h : Heap} {L a b : Addr} {o o' : Obj} {news : List (Addr × Obj)} (N : News h₀ L h news) (ha : (a, o) ∈ news) (hb : (b, o') ∈ news) (hne : o.data ≠ o'.data) : a ≠ b := by
  rintro rfl
  have := (N _ ha).1.symm.trans (N _ hb).1
  injection this with e
  dsimp only at e
  exact hne (by rw [e])
local macro_rules | `(tactic| walk_at "setAttr ref") => `(tactic| (k_here; k_dflt (refine' Sets.prop (p := 363) (fs := 362) ?k1 ?k2 ?k3 ?k4 ?k5 ?_; (case k2 => exact Frag.In.keeps (by k_asm) (Fr.keep (by k_asm))); (case k3 => k_inst); (case k1 => exact ⟨by k_is, over373 _, by k_is⟩); (case k4 => k_is); (case k5 => k_is); k_whole; k_enter)))
local macro_rules | `(tactic| walk_at "setAttr ref") => `(tactic| (k_here; k_dflt (refine' Sets.dict ?s1 ?k1 ?k2 ?k3 ?k4 ?k5 ?k9 ?k10 ?k11 ?k12 ?k13 ?_; (case k1 => k_asm); (case k2 => k_asm); (case k3 => k_asm); (case k4 => k_inst); (case k5 => exact rfl); (case s1 => exact ⟨by k_is, over373 _, by k_is⟩); (case k9 => k_is); (case k10 => k_get); (case k11 => k_put); (case k12 => exact Upd.tail (by assumption) (Upd.head (by assumption))); (case k13 => exact Nat.le_of_ble_eq_true rfl); k_whole; intro h' F' N')))
local macro_rules | `(tactic| walk_at "setAttr ref") => `(tactic| (k_here; k_dflt (refine' Sets.dict ?s1 ?k1 ?k2 ?k3 ?k4 ?k5 ?k9 ?k10 ?k11 ?k12 ?k13 ?_; (case k1 => k_asm); (case k2 => k_asm); (case k3 => k_asm); (case k4 => k_inst); (case k5 => exact rfl); (case s1 => exact ⟨by k_is, over373 _, by k_is⟩); (case k9 => k_is); (case k10 => k_get); (case k11 => k_put); (case k12 => exact Upd.tail (ne_news (by assumption) (.head _) (.tail _ (.tail _ (.tail _ (.head _)))) (by intro h; cases h)) (Upd.tail (ne_news (by assumption) (.tail _ (.head _)) (.tail _ (.tail _ (.tail _ (.head _)))) (by intro h; cases h)) (Upd.tail (by assumption) (Upd.head (by assumption))))); (case k13 => exact Nat.le_of_ble_eq_true rfl); k_whole; intro h' F' N')))
local macro_rules | `(tactic| walk_at "call ref") => `(tactic| (k_here; k_dflt (refine' call_params ?kA ?kh ?kd ?ku ?kB ?kF ?kX ?kN ?kT ?kk ?_; (case kA => rfl); (case kh => rfl); (case kd => exact Nat.le_of_ble_eq_true rfl); (case ku => exact Nat.le_of_ble_eq_true rfl); (case kB => k_asm); (case kF => k_asm); (case kX => k_asm); (case kN => k_asm); (case kT => k_asm); (case kk => rfl); k_whole; intro p' dp' h' tk' F' N')))
abbrev minst (dx : Addr) (n : Int) (t : Tok) : Obj := ⟨.ref 373, some dx, .prim (.int n t), #[]⟩
abbrev mdict (w : World) (t1 t2 : Tok) (b : Bool) (p : Addr) (k : Nat) : Obj := dictOf [⟨PyData.keyHash w.params (Str.ofString "_leap"), .str (Str.ofString "_leap") t1, .bool b⟩, ⟨PyData.keyHash w.params (Str.ofString "params"), .str (Str.ofString "params") t2, .ref p⟩] k
/-- what a made month is handed on as -/
abbrev Made (w : World) (n : Int) (b : Bool) (h₀ : Heap) (L : Addr) (m : Str → Option Value) (news : List (Addr × Obj)) (s : Shared) (Q : Value → Shared → Prop) : Prop :=
  ∀ x dx p dp t' t1 t2 k h' tk', x ≠ dx → p ≠ dx → dp ≠ dx → (∀ q ∈ news, q.1 ≠ dx) → Fr h₀ L h' m → News h₀ L h' ((x, minst dx n t') :: (dx, mdict w t1 t2 b p k) :: (p, pobj dp) :: (dp, dict0) :: news) → Q (.ref x) { s with heap := h', toks := tk' }
theorem fin_new {w : World} {n : Int} {b : Bool} {y : Str} {h₀ h' : Heap} {L x dx p dp : Addr} {so : Addr × Obj} {t' t1 t2 : Tok} {k tk' : Nat} {m : Str → Option Value} {news : List (Addr × Obj)} {s : Shared} {Q : Value → Shared → Prop}
    (kF : Fr h₀ L h' m) (kN : News h₀ L h' ((p, pobj dp) :: (dp, dict0) :: (x, minst dx n t') :: (dx, mdict w t1 t2 b p k) :: so :: news)) (hxd : x ≠ dx) (hnd : ∀ q ∈ so :: news, q.1 ≠ dx) (hm : mread y = some (n, b))
    (hret : ∀ n b, mread y = some (n, b) → Made w n b h₀ L m news s Q) : Q (.ref x) { s with heap := h', toks := tk' } := by
  refine hret n b hm x dx p dp t' t1 t2 k h' tk' hxd (ne_news kN (.head _) (.tail _ (.tail _ (.tail _ (.head _)))) (by intro h; cases h)) (ne_news kN (.tail _ (.head _)) (.tail _ (.tail _ (.tail _ (.head _)))) (by intro h; cases h)) (fun q hq => hnd q (.tail _ hq)) kF (fun q hq => ?_)
  simp only [List.mem_cons] at hq
  refine kN q ?_
  simp only [List.mem_cons]
  rcases hq with h | h | h | h | h <;> simp [h]
theorem ctr_new : ∀ (w : World) (mean : ExcName → Option Value) (mg mb : Str → Option Value) (y : Str) (ty : Tok), y.length ≤ 20 → (reprText y).length ≤ 1000 →
    Claim (hd.heap_39 w.params) hd.view_39 (looseW hd.view_39 [Str.ofString "SEQUENCE_TYPES", Str.ofString "to_unicode", Str.ofString "CaselessDict", Str.ofString "NAME", Str.ofString "param_value", Str.ofString "UNSAFE_CHAR", Str.ofString "QUNSAFE_CHAR", Str.ofString "validate_param_value", Str.ofString "QUOTABLE", Str.ofString "dquote", Str.ofString "q_split", Str.ofString "q_join", Str.ofString "Parameters", Str.ofString "vMonth"]) w mean mg mb 330 500 (.ref 329) [.ref 373, .str y ty] noPre
      (fun h₀ L m news s Q => ∀ n b, mread y = some (n, b) → Made w n b h₀ L m news s Q) (fun base fr h₀ L m news s E => mread y = none → ErrV base fr h₀ L m news s E) := by
  delta Claim
  k_fill
  intro w mean mg mb y ty hy hrep gd cn cs a ccd cl outer A₀ base h₀ L m news s Q E B F X N T hk hp hret herr
  refine' ks_code_super B F X N T rfl rfl hk ?ho ?hcd ?hroom ?hb ?hl ?_ ?c1 ?c2 ?c3 ?c4
  (case ho => k_is); (case hcd => k_is); (case hroom => exact (by decide : (330 : Nat) < recursionLimit)); (case hb => first | exact BindsTo.of_eq rfl | exact binds_K (by k_in) rfl (by k_is) rfl rfl rfl); (case hl => exact locs rfl); (case c1 => decide); (case c2 => rfl); (case c3 => rfl); (case c4 => rfl)
  intro g' L' h' FG' F' N' B' X' T' l1
  k_steps
  all_goals (first | exact fin_new (by assumption) (by assumption) (by assumption) (by assumption) (by unfold mread; simp_all) hret)
end Mine
end

section
open PySem PySem.W PyProof.Rows PySem.Calls
set_option maxRecDepth 100000
set_option maxHeartbeats 4000000
namespace Mine
theorem fresh_V2 : True := by
  w_top off
  trivial
theorem called373 (w : World) : Called (hd.heap_39 w.params) 373 none (.builtin "object.__init__") := by
  suffices k : (RowW.prog (OpenRow.toRowW (OpenLaw.row PySem.Challenge.rw_fc0076_01))) = PG → Called (hd.heap_39 w.params) 373 none (.builtin "object.__init__") from k rfl
  k_fill
  intro _
  exact ⟨⟨_, _, by k_is, rfl, rfl, rfl⟩, by k_is, by k_is, by k_is, by k_is⟩
theorem new373 {w : World} {A : Around} {E R : Value → Shared → Prop} {s : Shared} {h₀ : Heap} {L : Addr} {m : Str → Option Value} (F : Fr h₀ L s.heap m) (X : (hd.heap_39 w.params).In h₀) (q : R (.ref 329) { s with toks := s.toks + 1 }) :
    wpAny (model (RowW.prog (OpenRow.toRowW (OpenLaw.row PySem.Challenge.rw_fc0076_01))) w) A (getAttr (.ref 373) "__new__") R E s := by
  revert X
  k_fill
  intro X
  exact cls_sm (mc := .type "type") (p := 374) F X (by k_is) (by k_is) (by k_is) (by k_is) rfl q
theorem call_month {w : World} {mean : ExcName → Option Value} {mg mb : Str → Option Value} {A : Around} {cn : Str} {cs : Scope} {a : Addr} {ccd : Value} {cl : List (Str × Addr)} {outer : List Env} {A₀ : Around} {base h₀ : Heap} {L : Addr} {m : Str → Option Value} {news : List (Addr × Obj)} {s : Shared} {Q E : Value → Shared → Prop} {y : Str} {t : Tok}
    (hA : A.frames = some (envX cn cs L a ccd cl :: outer)) (hh : A.handled = none) (hdp : A.depth ≤ 320) (hu : A.units ≤ 490) (B : Below A₀ base outer h₀) (F : Fr h₀ L s.heap m) (X : (hd.heap_39 w.params).In h₀) (N : News h₀ L s.heap news) (T : Top hd.view_39 (looseW hd.view_39 [Str.ofString "SEQUENCE_TYPES", Str.ofString "to_unicode", Str.ofString "CaselessDict", Str.ofString "NAME", Str.ofString "param_value", Str.ofString "UNSAFE_CHAR", Str.ofString "QUNSAFE_CHAR", Str.ofString "validate_param_value", Str.ofString "QUOTABLE", Str.ofString "dquote", Str.ofString "q_split", Str.ofString "q_join", Str.ofString "Parameters", Str.ofString "vMonth"]) mean mg mb h₀) (hk : cs.kind = .function)
    (hy : y.length ≤ 20) (hrep : (reprText y).length ≤ 1000) (hret : ∀ n b, mread y = some (n, b) → Made w n b h₀ L m news s Q) (herr : mread y = none → ErrV base (envX cn cs L a ccd cl :: outer) h₀ L m news s E) :
    wpAny (model (RowW.prog (OpenRow.toRowW (OpenLaw.row PySem.Challenge.rw_fc0076_01))) w) A (call (.ref 373) [.str y t]) Q E s := by
  revert hret T X
  k_fill
  intro X T hret
  refine Called.runs (called373 w) (X.keeps F.keep) (fun _ v _ => .of_pure (oi_bind v)) (fun _ q => new373 F X q) ?_
  refine wpAny_call (Claim.use (cn := cn) (a := a) (ccd := ccd) (cl := cl) (s := { s with toks := s.toks + 1 }) (ctr_new w mean mg mb y t hy hrep) ?_ hh ?_ ?_ B F X N T hk trivial ?_ ?_)
  · simp [Around.under, hA]; rfl
  · exact Nat.le_trans (Nat.succ_le_succ hdp) (by decide)
  · exact Nat.le_trans (Nat.succ_le_succ hu) (by decide)
  · intro n b hm x dx p dp t' t1 t2 k h' tk' e1 e2 e3 e4 F' N'
    refine ⟨x, minst dx n t', rfl, X.keeps F'.keep, (N' _ (.head _)).1, rfl, ?_⟩
    refine to_room hh (Nat.le_trans (Nat.succ_le_succ hdp) (by decide)) (Nat.le_trans (Nat.succ_le_succ hu) (by decide)) (xO1 (s := { s with heap := h', toks := tk' }) (X.keeps F'.keep) (N' _ (.head _)).1 ?_)
    exact ⟨rfl, hret n b hm x dx p dp t' t1 t2 k h' tk' e1 e2 e3 e4 F' N'⟩
  · intro hm G e te vs h' tk' FG R U
    exact herr hm G e te vs h' tk' FG R U
end Mine
end

section
open PySem PySem.W PyProof.Rows PySem.Calls
set_option maxRecDepth 100000
set_option maxHeartbeats 4000000
namespace Mine
theorem fresh_V3 : True := by
  w_top off
  trivial
local macro_rules | `(tactic| k_mem) => `(tactic| (show (_ : Addr × Obj) ∈ (_ : List (Addr × Obj)); ktr_member))
theorem int_of {w : World} {A : Around} {E : Value → Shared → Prop} {s : Shared} {h₀ : Heap} {L : Addr} {m : Str → Option Value} {news : List (Addr × Obj)} {Q : Value → Shared → Prop} {x dx : Addr} {n : Int} {t : Tok} (hh : A.handled = none) (hdp : A.depth ≤ 600) (hu : A.units ≤ 4900)
    (F : Fr h₀ L s.heap m) (X₀ : (hd.heap_39 w.params).In h₀) (N : News h₀ L s.heap news) (hx : (x, minst dx n t) ∈ news)
    (h : ∀ tk, Q (.int n tk) { s with toks := s.toks + 1 }) :
    wpAny (model (RowW.prog (OpenRow.toRowW (OpenLaw.row PySem.Challenge.rw_fc0076_01))) w) A (call (.type "int") [.ref x]) Q E s :=
  to_room hh hdp hu (xI2 (X₀.keeps F.keep) (N _ hx).1 h)
theorem leap_of {w : World} {A : Around} {E : Value → Shared → Prop} {s : Shared} {h₀ : Heap} {L : Addr} {m : Str → Option Value} {news : List (Addr × Obj)} {Q : Value → Shared → Prop} {x dx p : Addr} {n : Int} {t t1 t2 : Tok} {b : Bool} {k : Nat} {expr : Bool} (hh : A.handled = none) (hdp : A.depth ≤ 600) (hu : A.units ≤ 4900)
    (F : Fr h₀ L s.heap m) (X₀ : (hd.heap_39 w.params).In h₀) (N : News h₀ L s.heap news) (hx : (x, minst dx n t) ∈ news) (hdx : (dx, mdict w t1 t2 b p k) ∈ news)
    (hga : findIn (Mine.hd.heap_39 w.params) (.ref 373) "__getattribute__" = some (some (.builtin "int.__getattribute__"))) (hgt : findIn (Mine.hd.heap_39 w.params) (.ref 373) "__getattr__" = some none)
    (h : ∀ h' tk', Fr h₀ L h' m → News h₀ L h' news → Q (.bool b) { s with heap := h', toks := tk' }) :
    wpAny (model (RowW.prog (OpenRow.toRowW (OpenLaw.row PySem.Challenge.rw_fc0076_01))) w) A (getAttr (.ref x) "leap" expr) Q E s := by
  have X := X₀.keeps F.keep
  refine getAttr_ga X (InstAt.ofNewsAny N hx hdx rfl) hga (by decide +kernel) (fun self => by kernel_rfl) hgt ?_
  refine to_room hh hdp hu (xG1 (s := { s with toks := s.toks + 1 }) X (N _ hx).1 (N _ hdx).1 fun h' tk' D => ?_)
  obtain ⟨F', N'⟩ := mem_K F N D
  exact ⟨rfl, h h' tk' F' N'⟩
local macro_rules | `(tactic| walk_at "call type:int") => `(tactic| (k_here; k_dflt (refine' int_of ?k1 ?k2 ?k3 ?k4 ?k5 ?k6 ?k7 ?_; (case k1 => rfl); (case k2 => exact Nat.le_of_ble_eq_true rfl); (case k3 => exact Nat.le_of_ble_eq_true rfl); (case k4 => k_asm); (case k5 => k_asm); (case k6 => k_asm); (case k7 => k_mem); k_whole; intro tk')))
local macro_rules | `(tactic| walk_at "getAttr ref") => `(tactic| (k_here; k_dflt (refine' leap_of ?k1 ?k2 ?k3 ?k4 ?k5 ?k6 ?k7 ?k8 ?k9 ?k10 ?_; (case k1 => rfl); (case k2 => exact Nat.le_of_ble_eq_true rfl); (case k3 => exact Nat.le_of_ble_eq_true rfl); (case k4 => k_asm); (case k5 => k_asm); (case k6 => k_asm); (case k7 => k_mem); (case k8 => k_mem); (case k9 => k_is); (case k10 => k_is); k_whole; intro h' tk' F' N')))
theorem ctr_str : ∀ (w : World) (mean : ExcName → Option Value) (mg mb : Str → Option Value) (x dx p : Addr) (n : Int) (b : Bool) (t t1 t2 : Tok) (k : Nat), 0 ≤ n → n < 10 ^ 11 →
    Claim (hd.heap_39 w.params) hd.view_39 (looseW hd.view_39 [Str.ofString "SEQUENCE_TYPES", Str.ofString "to_unicode", Str.ofString "CaselessDict", Str.ofString "NAME", Str.ofString "param_value", Str.ofString "UNSAFE_CHAR", Str.ofString "QUNSAFE_CHAR", Str.ofString "validate_param_value", Str.ofString "QUOTABLE", Str.ofString "dquote", Str.ofString "q_split", Str.ofString "q_join", Str.ofString "Parameters", Str.ofString "vMonth"]) w mean mg mb 330 500 (.ref 370) [.ref x] (fun h₀ L h news => (x, minst dx n t) ∈ news ∧ (dx, mdict w t1 t2 b p k) ∈ news)
      (fun h₀ L m news s Q => ∀ tk h' tk', Fr h₀ L h' m → News h₀ L h' news → Q (.str (Str.ofString (toString n) ++ Str.ofString (if b then "L" else "")) tk) { s with heap := h', toks := tk' }) noErr := by
  delta Claim
  k_fill
  intro w mean mg mb x dx p n b t t1 t2 k hn0 hn1 gd cn cs a ccd cl outer A₀ base h₀ L m news s Q E B F X N T hk hp hret _
  obtain ⟨hm1, hm2⟩ := hp
  k_dflt (refine' code_def ?k1 ?k2 ?k3 ?k4 ?k5 ?kA ?kF ?kK ?k6 ?k7 ?k8 ?k9 ?kB ?_ ?c2 ?c3 ?c4 ?c5; (case kA => exact rfl); (case kF => exact rfl); (case kK => assumption); (case k1 => k_asm); (case k2 => k_asm); (case k3 => k_asm); (case k4 => k_asm); (case k5 => k_asm); (case k6 => k_is); (case k7 => k_is); (case k8 => ktr_room); (case k9 => exact BindsTo.of_eq rfl); (case c5 => decide); (case kB => exact locs rfl); (case c2 => exact rfl); (case c3 => exact rfl); (case c4 => exact rfl); k_whole; intro g' L' h' FG' F' N' B' X' T'; (try dsimp only); (try k_lift B'); (try k_fold))
  k_steps
  all_goals rw [PySem.Str.empty_append]
  all_goals first
    | ((have e : b = true := by assumption); subst e; exact hret _ _ _ (by assumption) (by assumption))
    | ((have e : b = false := by assumption); subst e; exact hret _ _ _ (by assumption) (by assumption))
end Mine
end

section
open PySem PySem.Builtin._codecs
set_option maxRecDepth 100000
set_option maxHeartbeats 1000000
namespace Mine
theorem fresh_E1 : True := by
  w_top off
  trivial
theorem encode_clean {id : String} {self : Value} {x : Str} (hc : ∀ c ∈ x.cps.toList, Str.isSurrogate c = false) (hz : (Array.map (fun y => (Str.utf8Of y).toArray) x.cps).flatten.size ≤ sizeLine) : encodeNarrow id utf8Codec none self x = pure (Array.map (fun y => (Str.utf8Of y).toArray) x.cps).flatten := by
  unfold encodeNarrow
  simp only [Std.Legacy.Range.forIn_eq_forIn_range', Std.Legacy.Range.size]
  have hl : x.cps.size = x.length := rfl
  have hnone : Array.findIdx? utf8Codec.bad x.cps = none := by
    rw [Array.findIdx?_eq_none_iff]
    intro c hcm
    exact hc c (by simpa using hcm)
  cases hx : x.length with
  | zero =>
    have : x.cps = #[] := by rw [← Array.size_eq_zero_iff]; omega
    simp [this]
  | succ n =>
    have h0 : ∃ a, x.cps[0]? = some a := ⟨x.cps[0]'(by omega), by rw [Array.getElem?_eq_getElem]⟩
    obtain ⟨a, ha⟩ := h0
    have hbad : utf8Codec.bad a = false := hc a (by
      have := Array.mem_of_getElem? ha
      simpa using this)
    have hout : x.cps[x.cps.size]? = none := by simp
    simp only [Nat.sub_zero, Nat.add_sub_cancel, Nat.div_one, List.range'_succ, List.forIn_cons]
    simp [ha, hbad, hnone]
    cases n with
    | zero => simp; rfl
    | succ k =>
      have hz' : ¬ sizeLine < (Array.map (fun y => (utf8Codec.bytesOf y).toArray) x.cps).flatten.size := Nat.not_lt.mpr hz
      rw [List.range'_succ, List.forIn_cons]
      simp only [hz', if_false, hout]
      simp
      rfl
end Mine
end

section
open PySem PySem.W PyProof.Rows PySem.Calls PySem.Builtin._codecs
set_option maxRecDepth 100000
set_option maxHeartbeats 2000000
namespace Mine
theorem fresh_E2 : True := by
  w_top off
  trivial
theorem encode2_tree (x : Str) (t u : Tok) : Builtin.«str.encode» ⟨[.str x t, .str (Str.ofString "utf-8") u], []⟩ = (do ret (← encodeRoad "str.encode" (.str x t) x (Str.ofString "utf-8") none)) := by kernel_rfl
abbrev u8 (x : Str) : Array UInt8 := (Array.map (fun y => (Str.utf8Of y).toArray) x.cps).flatten
theorem call_encode {prog : Program} {w : World} {A : Around} {E : Value → Shared → Prop} {s : Shared} {x : Str} {t u : Tok} {Q : Value → Shared → Prop} (hc : ∀ c ∈ x.cps.toList, Str.isSurrogate c = false) (hz : (u8 x).size ≤ sizeLine)
    (h : Q (.bytes (u8 x) s.toks) { s with toks := s.toks + 1 }) : wpAny (model prog w) A (call (.builtin "str.encode") [.str x t, .str (Str.ofString "utf-8") u]) Q E s := by
  refine wpAny_call_entry PySem.F.slot_str_encode (typeIs_str s x t) PySem.F.entry_str_encode ?_ (PySem.F.args_str_encode_2 _ _)
  rw [encode2_tree, PySem.encodeRoad_utf8, encode_clean hc hz]
  exact wpAny_bind (wpAny_bind (wpAny_pure (wpAny_mkBytes (wpAny_pure ⟨_, rfl, h⟩) hz)))
theorem method_encode {M : Model} {A : Around} {E : Value → Shared → Prop} {s : Shared} {x : Str} {t : Tok} {pl : Sem Bool} {Q : Value × List Value → Shared → Prop} (h : Q (.builtin "str.encode", [.str x t]) s) : wpAny M A (getMethod (.str x t) "encode" pl) Q E s :=
  getMethod_builtin (typeIs_str s x t) PySem.F.plainAttrs_str PySem.F.slot_str_encode PySem.F.type_str_encode (fun _ e => nomatch e) h
end Mine
end

section
open PySem PySem.Builtin._codecs
set_option maxRecDepth 100000
set_option maxHeartbeats 1000000
namespace Mine
theorem fresh_E3 : True := by
  w_top off
  trivial
abbrev accA (b : Array UInt8) (j : Nat) : Array Nat := ((b.toList.take j).map (·.toNat)).toArray
theorem accA_succ {b : Array UInt8} {j : Nat} (hj : j < b.size) : accA b j ++ [(b[j]).toNat].toArray = accA b (j + 1) := by
  unfold accA
  rw [List.append_toArray]
  congr 1
  have : b.toList.take (j + 1) = b.toList.take j ++ [b[j]] := by
    rw [List.take_succ_eq_append_getElem (by simpa using hj)]
    simp
  rw [this, List.map_append]
  rfl
theorem loopA {b : Array UInt8} {σ : Type} {st : σ} {f : Nat → Nat × Array Nat × σ → Sem (ForInStep (Nat × Array Nat × σ))} (hf : ∀ i j, j < b.size → f i (j, accA b j, st) = pure (.yield (j + 1, accA b (j + 1), st))) :
    ∀ k j i, j + k = b.size → forIn (List.range' i k) (j, accA b j, st) f = pure (b.size, accA b b.size, st)
  | 0, j, i, h => by
    have : j = b.size := by omega
    subst this
    rfl
  | k + 1, j, i, h => by
    rw [List.range'_succ, List.forIn_cons, hf i j (by omega), pure_bind]
    exact loopA hf k (j + 1) (i + 1) (by omega)
theorem decode_ascii {id : String} {b : Array UInt8} (ha : ∀ c ∈ b.toList, c.toNat < 128) (hz : b.size ≤ sizeLine) : runDecoder id utf8Decoder none true b 0 [] = pure (b.map (·.toNat), b.size) := by
  unfold runDecoder
  simp only [Std.Legacy.Range.forIn_eq_forIn_range', Std.Legacy.Range.size]
  simp
  have e0 : (0, (#[] : Array Nat), ({} : Faults)) = (0, accA b 0, ({} : Faults)) := rfl
  rw [e0, loopA (b := b) ?_ b.size 0 0 (by omega)]
  · have e1 : accA b b.size = b.map (·.toNat) := by
      apply Array.ext'
      simp
      exact List.take_of_length_le (by simp)
    rw [e1]
    rfl
  · intro i j hj
    have h1 : ¬ sizeLine < (accA b j).size := by
      have : (accA b j).size ≤ b.size := by simp [accA]; omega
      omega
    have h2 : ¬ b.size ≤ j := by omega
    have hb : b[j].toNat < 128 := ha _ (by simp)
    dsimp only
    rw [if_neg h1, if_neg h2]
    have hg : b.getD j 0 = b[j] := by simp [Array.getD, hj]
    have hf : utf8Decoder.find true b j = .text [b[j].toNat] (j + 1) := by
      show (match PySem.Builtin.Bytes.utf8At b j with
        | (.char c, next) => Found.char c next
        | (.bad _ stop reason, _) => _) = _
      have hu : PySem.Builtin.Bytes.utf8At b j = (.char b[j].toNat, j + 1) := by
        unfold PySem.Builtin.Bytes.utf8At
        rw [hg]
        exact if_pos hb
      rw [hu]
      rfl
    rw [hf]
    dsimp only
    rw [accA_succ hj]
end Mine
end

section
open PySem PySem.W PyProof.Rows PySem.Calls PySem.Builtin._codecs
set_option maxRecDepth 100000
set_option maxHeartbeats 2000000
namespace Mine
theorem fresh_E4 : True := by
  w_top off
  trivial
theorem args_dec2 (a b : Value) : argsOk "bytes.decode" ⟨[a, b], []⟩ := by
  unfold argsOk; rw [signature?_of (id := "bytes.decode") (n := ['e', 'd', 'o', 'c', 'e', 'd']) (o := ['s', 'e', 't', 'y', 'b']) (by kernel_rfl) FB.owner_bytes]; kernel_rfl
theorem decode2_tree (c : UInt8) (cs : List UInt8) (t u : Tok) : Builtin.«bytes.decode» ⟨[.bytes (c :: cs).toArray t, .str (Str.ofString "utf-8") u], []⟩ = (mkStr (PySem.Str.ofString "utf-8") >>= fun _ => mkStr (PySem.Str.ofString "utf-8") >>= fun e => mkStr (PySem.Str.ofString "bytes.decode") >>= fun d =>
    call (.builtin "_codecs.decode.text") [.bytes (c :: cs).toArray t, e, .none, d] >>= fun v => ret v) := by kernel_rfl
theorem call_decode {prog : Program} {w : World} {A : Around} {E : Value → Shared → Prop} {s : Shared} {b : Array UInt8} {t u : Tok} {Q : Value → Shared → Prop} (ha : ∀ c ∈ b.toList, c.toNat < 128) (hne : b ≠ #[]) (hz : b.size ≤ sizeLine)
    (h : ∀ t' k, Q (.str ⟨b.map (·.toNat)⟩ t') { s with toks := k }) : wpAny (model prog w) A (call (.builtin "bytes.decode") [.bytes b t, .str (Str.ofString "utf-8") u]) Q E s := by
  obtain ⟨l⟩ := b
  cases l with
  | nil => exact absurd rfl hne
  | cons c cs =>
    refine wpAny_call_entry FB.slot_bytes_decode (typeIs_bytes _ _ _) FB.entry_bytes_decode ?_ (args_dec2 _ _)
    rw [decode2_tree]
    refine wpAny_bind (wpAny_mkStr ?_ (by rw [sizeLine_eq]; decide))
    refine wpAny_bind (wpAny_mkStr ?_ (by rw [sizeLine_eq]; decide))
    refine wpAny_bind (wpAny_mkStr ?_ (by rw [sizeLine_eq]; decide))
    exact wpAny_bind (call_function_meets KBd.kind_text KBd.plain_text KBd.entry_text (KBd.args_text _ _ _ _) (KBd.meets_text (x := ⟨(c :: cs).toArray.map (·.toNat)⟩) (n := (c :: cs).toArray.size) fun id => decode_ascii (id := id) ha hz) ⟨by simpa [Str.length] using hz, wpAny_pure ⟨_, rfl, h _ _⟩⟩)
end Mine
end

section
open PySem PySem.W PyProof.Rows PySem.Calls
set_option maxRecDepth 100000
set_option maxHeartbeats 4000000
namespace Mine
theorem fresh_V4 : True := by
  w_top off
  trivial
local macro_rules | `(tactic| k_mem) => `(tactic| (show (_ : Addr × Obj) ∈ (_ : List (Addr × Obj)); ktr_member))
local macro_rules | `(tactic| k_inst) => `(tactic| (refine' InstAt.ofNewsAny ?N ?h1 ?h2 ?h3; (case N => k_asm); (case h1 => k_mem); (case h2 => k_mem); (case h3 => rfl)))
set_option hygiene false in
local macro_rules | `(tactic| walk_at "call ref") => `(tactic| (k_here; k_dflt (refine' wpAny_call (Claim.use (ctr_str _ _ _ _ x dx p n b t t1 t2 k hn0 hn1) ?kA ?kh ?kd ?ku ?kB ?kF ?kX ?kN2 ?kT ?kk ?kp ?_ trivial); (case kA => rfl); (case kh => rfl); (case kd => exact Nat.le_of_ble_eq_true rfl); (case ku => exact Nat.le_of_ble_eq_true rfl); (case kB => k_asm); (case kF => k_asm); (case kX => k_asm); (case kN2 => k_asm); (case kT => k_asm); (case kk => rfl); (case kp => exact ⟨hm1, hm2⟩); k_whole; intro tk' h' tk'' F' N')))
local macro_rules | `(tactic| walk_at "StrBack") => `(tactic| (dsimp only [StrBack]))
local macro_rules | `(tactic| walk_at "getMethod str") => `(tactic| (k_here; k_dflt (refine method_encode ?_)))
local macro_rules | `(tactic| walk_at "call builtin:str.encode") => `(tactic| (k_here; k_dflt (refine' call_encode ?h1 ?h2 ?_; (case h1 => assumption); (case h2 => assumption))))
abbrev shown (n : Int) (b : Bool) : Str := Str.ofString (toString n) ++ Str.ofString (if b then "L" else "")
theorem ctr_ical : ∀ (w : World) (mean : ExcName → Option Value) (mg mb : Str → Option Value) (x dx p : Addr) (n : Int) (b : Bool) (t t1 t2 : Tok) (k : Nat), 0 ≤ n → n < 10 ^ 11 → (∀ c ∈ (shown n b).cps.toList, Str.isSurrogate c = false) → (u8 (shown n b)).size ≤ sizeLine →
    Claim (hd.heap_39 w.params) hd.view_39 (looseW hd.view_39 [Str.ofString "SEQUENCE_TYPES", Str.ofString "to_unicode", Str.ofString "CaselessDict", Str.ofString "NAME", Str.ofString "param_value", Str.ofString "UNSAFE_CHAR", Str.ofString "QUNSAFE_CHAR", Str.ofString "validate_param_value", Str.ofString "QUOTABLE", Str.ofString "dquote", Str.ofString "q_split", Str.ofString "q_join", Str.ofString "Parameters", Str.ofString "vMonth"]) w mean mg mb 325 450 (.ref 336) [.ref x] (fun h₀ L h news => (x, minst dx n t) ∈ news ∧ (dx, mdict w t1 t2 b p k) ∈ news)
      (fun h₀ L m news s Q => ∀ tk h' tk', Fr h₀ L h' m → News h₀ L h' news → Q (.bytes (u8 (shown n b)) tk) { s with heap := h', toks := tk' }) noErr := by
  delta Claim
  k_fill
  intro w mean mg mb x dx p n b t t1 t2 k hn0 hn1 hsur hsz gd cn cs a ccd cl outer A₀ base h₀ L m news s Q E B F X N T hk hp hret _
  obtain ⟨hm1, hm2⟩ := hp
  k_dflt (refine' code_def ?k1 ?k2 ?k3 ?k4 ?k5 ?kA ?kF ?kK ?k6 ?k7 ?k8 ?k9 ?kB ?_ ?c2 ?c3 ?c4 ?c5; (case kA => exact rfl); (case kF => exact rfl); (case kK => assumption); (case k1 => k_asm); (case k2 => k_asm); (case k3 => k_asm); (case k4 => k_asm); (case k5 => k_asm); (case k6 => k_is); (case k7 => k_is); (case k8 => ktr_room); (case k9 => exact BindsTo.of_eq rfl); (case c5 => decide); (case kB => exact locs rfl); (case c2 => exact rfl); (case c3 => exact rfl); (case c4 => exact rfl); k_whole; intro g' L' h' FG' F' N' B' X' T'; (try dsimp only); (try k_lift B'); (try k_fold))
  k_steps
  all_goals first | exact hret _ _ _ (by assumption) (by assumption)
end Mine
end

section
open PySem PySem.W PyProof.Rows PySem.Calls
set_option maxRecDepth 100000
set_option maxHeartbeats 4000000
namespace Mine
theorem fresh_V5 : True := by
  w_top off
  trivial
local macro_rules | `(tactic| k_mem) => `(tactic| (show (_ : Addr × Obj) ∈ (_ : List (Addr × Obj)); ktr_member))
local macro_rules | `(tactic| k_inst) => `(tactic| (refine' InstAt.ofNewsAny ?N ?h1 ?h2 ?h3; (case N => k_asm); (case h1 => k_mem); (case h2 => k_mem); (case h3 => rfl)))
local macro_rules | `(tactic| walk_at "wpAt") => `(tactic| (dsimp only; ks_step "execs cons"; refine ks_wpAt_execs_cons ?_))
local macro_rules | `(tactic| walk_at "wpAt") => `(tactic| (ks_step "exec Assign"; k_dflt (refine ks_wpAt_Assign_Name ?_ (by rfl))))
local macro_rules | `(tactic| walk_at "wpAt") => `(tactic| (ks_step "eval Call"; k_dflt (refine ks_wpAt_MethodCall ?_ (by rfl))))
local macro_rules | `(tactic| walk_at "wpAt") => `(tactic| (ks_step "attributeBase Call"; k_here; k_dflt (refine super_base (closes329 _) ⟨rfl, rfl, rfl, rfl⟩ (bare _) (by k_asm) (by k_asm) (by k_asm) (by rfl) (by rfl) (by decide) (by first | boot_by_name | rfl | kernel_rfl) ?_); k_dflt (refine' super_cls ?k1 ?k2 ?k3 ?k4 ?k5 ?k6 ?_; (case k1 => rfl); (case k2 => exact Nat.le_of_ble_eq_true rfl); (case k3 => exact Nat.le_of_ble_eq_true rfl); (case k4 => k_asm); (case k5 => k_asm); (case k6 => k_asm); k_whole; intro so' h' F' N')))
local macro_rules | `(tactic| walk_at "getMethod ref") => `(tactic| (k_here; k_dflt (refine' super_meth_wrap (T := "builtin_function_or_method") (gt := none) ?k1 ?k2 ?k3 ?k4 ?k5 ?k6 ?k7 ?k8 ?k9 ?_; (case k1 => k_asm); (case k2 => k_asm); (case k3 => k_asm); (case k4 => k_mem); (case k5 => k_is); (case k6 => ks_is); (case k7 => kernel_rfl); (case k8 => kernel_rfl); (case k9 => decide); k_whole; refine ⟨rfl, ?_⟩)))
local macro_rules | `(tactic| walk_at "call builtin:int.__new__") => `(tactic| (k_here; k_dflt (refine' int_new ?k1 ?k2 ?k3 ?k4 ?k5 ?k6 ?_; (case k1 => rfl); (case k2 => exact Nat.le_of_ble_eq_true rfl); (case k3 => exact Nat.le_of_ble_eq_true rfl); (case k4 => k_asm); (case k5 => k_asm); (case k6 => k_asm); k_whole; intro x' dx' h' t' hxd' hnd' F' N')))
local macro_rules | `(tactic| walk_at "setAttr ref") => `(tactic| (k_here; k_dflt (refine' Sets.prop (p := 363) (fs := 362) ?k1 ?k2 ?k3 ?k4 ?k5 ?_; (case k2 => exact Frag.In.keeps (by k_asm) (Fr.keep (by k_asm))); (case k3 => k_inst); (case k1 => exact ⟨by k_is, over373 _, by k_is⟩); (case k4 => k_is); (case k5 => k_is); k_whole; k_enter)))
local macro_rules | `(tactic| walk_at "setAttr ref") => `(tactic| (k_here; k_dflt (refine' Sets.dict ?s1 ?k1 ?k2 ?k3 ?k4 ?k5 ?k9 ?k10 ?k11 ?k12 ?k13 ?_; (case k1 => k_asm); (case k2 => k_asm); (case k3 => k_asm); (case k4 => k_inst); (case k5 => exact rfl); (case s1 => exact ⟨by k_is, over373 _, by k_is⟩); (case k9 => k_is); (case k10 => k_get); (case k11 => k_put); (case k12 => exact Upd.tail (by assumption) (Upd.head (by assumption))); (case k13 => exact Nat.le_of_ble_eq_true rfl); k_whole; intro h' F' N')))
local macro_rules | `(tactic| walk_at "setAttr ref") => `(tactic| (k_here; k_dflt (refine' Sets.dict ?s1 ?k1 ?k2 ?k3 ?k4 ?k5 ?k9 ?k10 ?k11 ?k12 ?k13 ?_; (case k1 => k_asm); (case k2 => k_asm); (case k3 => k_asm); (case k4 => k_inst); (case k5 => exact rfl); (case s1 => exact ⟨by k_is, over373 _, by k_is⟩); (case k9 => k_is); (case k10 => k_get); (case k11 => k_put); (case k12 => exact Upd.tail (ne_news (by assumption) (.head _) (.tail _ (.tail _ (.tail _ (.head _)))) (by intro h; cases h)) (Upd.tail (ne_news (by assumption) (.tail _ (.head _)) (.tail _ (.tail _ (.tail _ (.head _)))) (by intro h; cases h)) (Upd.tail (by assumption) (Upd.head (by assumption))))); (case k13 => exact Nat.le_of_ble_eq_true rfl); k_whole; intro h' F' N')))
local macro_rules | `(tactic| walk_at "call ref") => `(tactic| (k_here; k_dflt (refine' call_params ?kA ?kh ?kd ?ku ?kB ?kF ?kX ?kN ?kT ?kk ?_; (case kA => rfl); (case kh => rfl); (case kd => exact Nat.le_of_ble_eq_true rfl); (case ku => exact Nat.le_of_ble_eq_true rfl); (case kB => k_asm); (case kF => k_asm); (case kX => k_asm); (case kN => k_asm); (case kT => k_asm); (case kk => rfl); k_whole; intro p' dp' h' tk' F' N')))
theorem fin_newi {w : World} {n : Int} {b : Bool} {h₀ h' : Heap} {L x dx p dp : Addr} {so : Addr × Obj} {t' t1 t2 : Tok} {k tk' : Nat} {m : Str → Option Value} {news : List (Addr × Obj)} {s : Shared} {Q : Value → Shared → Prop}
    (kF : Fr h₀ L h' m) (kN : News h₀ L h' ((p, pobj dp) :: (dp, dict0) :: (x, minst dx n t') :: (dx, mdict w t1 t2 b p k) :: so :: news)) (hxd : x ≠ dx) (hnd : ∀ q ∈ so :: news, q.1 ≠ dx)
    (hret : Made w n b h₀ L m news s Q) : Q (.ref x) { s with heap := h', toks := tk' } := by
  refine hret x dx p dp t' t1 t2 k h' tk' hxd (ne_news kN (.head _) (.tail _ (.tail _ (.tail _ (.head _)))) (by intro h; cases h)) (ne_news kN (.tail _ (.head _)) (.tail _ (.tail _ (.tail _ (.head _)))) (by intro h; cases h)) (fun q hq => hnd q (.tail _ hq)) kF (fun q hq => ?_)
  simp only [List.mem_cons] at hq
  refine kN q ?_
  simp only [List.mem_cons]
  rcases hq with h | h | h | h | h <;> simp [h]
theorem ctr_newi : ∀ (w : World) (mean : ExcName → Option Value) (mg mb : Str → Option Value) (v : Int) (ty : Tok),
    Claim (hd.heap_39 w.params) hd.view_39 (looseW hd.view_39 [Str.ofString "SEQUENCE_TYPES", Str.ofString "to_unicode", Str.ofString "CaselessDict", Str.ofString "NAME", Str.ofString "param_value", Str.ofString "UNSAFE_CHAR", Str.ofString "QUNSAFE_CHAR", Str.ofString "validate_param_value", Str.ofString "QUOTABLE", Str.ofString "dquote", Str.ofString "q_split", Str.ofString "q_join", Str.ofString "Parameters", Str.ofString "vMonth"]) w mean mg mb 330 500 (.ref 329) [.ref 373, .int v ty] noPre
      (fun h₀ L m news s Q => Made w v false h₀ L m news s Q) noErr := by
  delta Claim
  k_fill
  intro w mean mg mb v ty gd cn cs a ccd cl outer A₀ base h₀ L m news s Q E B F X N T hk hp hret herr
  refine' ks_code_super B F X N T rfl rfl hk ?ho ?hcd ?hroom ?hb ?hl ?_ ?c1 ?c2 ?c3 ?c4
  (case ho => k_is); (case hcd => k_is); (case hroom => exact (by decide : (330 : Nat) < recursionLimit)); (case hb => first | exact BindsTo.of_eq rfl | exact binds_K (by k_in) rfl (by k_is) rfl rfl rfl); (case hl => exact locs rfl); (case c1 => decide); (case c2 => rfl); (case c3 => rfl); (case c4 => rfl)
  intro g' L' h' FG' F' N' B' X' T' l1
  k_steps
  all_goals (first | exact fin_newi (by assumption) (by assumption) (by assumption) (by assumption) hret)
end Mine
end

section
open PySem PySem.W PyProof.Rows PySem.Calls
set_option maxRecDepth 100000
set_option maxHeartbeats 4000000
namespace Mine
theorem fresh_V6 : True := by
  w_top off
  trivial
theorem call_monthi {w : World} {mean : ExcName → Option Value} {mg mb : Str → Option Value} {A : Around} {cn : Str} {cs : Scope} {a : Addr} {ccd : Value} {cl : List (Str × Addr)} {outer : List Env} {A₀ : Around} {base h₀ : Heap} {L : Addr} {m : Str → Option Value} {news : List (Addr × Obj)} {s : Shared} {Q E : Value → Shared → Prop} {v : Int} {t : Tok}
    (hA : A.frames = some (envX cn cs L a ccd cl :: outer)) (hh : A.handled = none) (hdp : A.depth ≤ 320) (hu : A.units ≤ 490) (B : Below A₀ base outer h₀) (F : Fr h₀ L s.heap m) (X : (hd.heap_39 w.params).In h₀) (N : News h₀ L s.heap news) (T : Top hd.view_39 (looseW hd.view_39 [Str.ofString "SEQUENCE_TYPES", Str.ofString "to_unicode", Str.ofString "CaselessDict", Str.ofString "NAME", Str.ofString "param_value", Str.ofString "UNSAFE_CHAR", Str.ofString "QUNSAFE_CHAR", Str.ofString "validate_param_value", Str.ofString "QUOTABLE", Str.ofString "dquote", Str.ofString "q_split", Str.ofString "q_join", Str.ofString "Parameters", Str.ofString "vMonth"]) mean mg mb h₀) (hk : cs.kind = .function)
    (hret : Made w v false h₀ L m news s Q) :
    wpAny (model (RowW.prog (OpenRow.toRowW (OpenLaw.row PySem.Challenge.rw_fc0076_01))) w) A (call (.ref 373) [.int v t]) Q E s := by
  revert hret T X
  k_fill
  intro X T hret
  refine Called.runs (called373 w) (X.keeps F.keep) (fun _ v _ => .of_pure (oi_bind v)) (fun _ q => new373 F X q) ?_
  refine wpAny_call (Claim.use (cn := cn) (a := a) (ccd := ccd) (cl := cl) (s := { s with toks := s.toks + 1 }) (ctr_newi w mean mg mb v t) ?_ hh ?_ ?_ B F X N T hk trivial ?_ trivial)
  · simp [Around.under, hA]; rfl
  · exact Nat.le_trans (Nat.succ_le_succ hdp) (by decide)
  · exact Nat.le_trans (Nat.succ_le_succ hu) (by decide)
  · intro x dx p dp t' t1 t2 k h' tk' e1 e2 e3 e4 F' N'
    refine ⟨x, minst dx v t', rfl, X.keeps F'.keep, (N' _ (.head _)).1, rfl, ?_⟩
    refine to_room hh (Nat.le_trans (Nat.succ_le_succ hdp) (by decide)) (Nat.le_trans (Nat.succ_le_succ hu) (by decide)) (xO4 (s := { s with heap := h', toks := tk' }) (X.keeps F'.keep) (N' _ (.head _)).1 ?_)
    exact ⟨rfl, hret x dx p dp t' t1 t2 k h' tk' e1 e2 e3 e4 F' N'⟩
end Mine
end

section
open PySem PySem.W PyProof.Rows PySem.Calls PySem.NumText
set_option maxRecDepth 100000
set_option maxHeartbeats 1000000
namespace Mine
theorem fresh_S1 : True := by
  w_top off
  trivial
/-- the reading, on lists -/
def lread (l : List Nat) : Option (Nat × Bool) :=
  if l.getLast? = some 76 then (if (l.dropLast.all fun c => decide (48 ≤ c) && decide (c ≤ 57)) = true ∧ l.dropLast ≠ [] then some (digitsVal l.dropLast, true) else none)
  else (if (l.all fun c => decide (48 ≤ c) && decide (c ≤ 57)) = true ∧ l ≠ [] then some (digitsVal l, false) else none)
theorem digit_ascii : ∀ c : Nat, 48 ≤ c → c ≤ 57 → c < 128 ∧ Unicode.isDigit c = true := by
  intro c h1 h2
  have : c < 58 := by omega
  have h : ∀ c : Nat, c < 58 → 48 ≤ c → (c < 128 ∧ Unicode.isDigit c = true) := by decide +kernel
  exact h c this h1
theorem asc_dig {z : Str} : (Txt.isascii z && Txt.isdigit z) = true ↔ ((z.cps.toList.all fun c => decide (48 ≤ c) && decide (c ≤ 57)) = true ∧ z.cps.toList ≠ []) := by
  constructor
  · intro h
    rw [Bool.and_eq_true] at h
    obtain ⟨a, b⟩ := all_digits h.1 h.2
    refine ⟨?_, b⟩
    rw [List.all_eq_true]
    intro c hc
    have := a c hc
    simp [this.1, this.2]
  · rintro ⟨a, b⟩
    rw [List.all_eq_true] at a
    have a' : ∀ c ∈ z.cps.toList, c < 128 ∧ Unicode.isDigit c = true := fun c hc => by
      have := a c hc
      rw [Bool.and_eq_true, decide_eq_true_eq, decide_eq_true_eq] at this
      exact digit_ascii c this.1 this.2
    rw [Bool.and_eq_true]
    constructor
    · unfold Txt.isascii
      rw [Array.all_eq_true_iff_forall_mem]
      intro c hc
      exact decide_eq_true (a' c (by simpa using hc)).1
    · unfold Txt.isdigit
      rw [Bool.and_eq_true]
      constructor
      · apply decide_eq_true
        show z.cps.size > 0
        rw [← Array.length_toList]
        exact List.length_pos_iff.mpr b
      · rw [Array.all_eq_true_iff_forall_mem]
        intro c hc
        exact (a' c (by simpa using hc)).2
theorem slice_init {y : Str} (h : y.length ≠ 0) : (Txt.slice y none (some (-1))).cps.toList = y.cps.toList.dropLast := by
  have e := StrLaws.sliceText_to_neg (x := y) (j := -1) (by omega) (by omega)
  show (StrLaws.sliceText y none (some (-1))).cps.toList = _
  rw [e]
  simp only [List.drop_zero]
  rw [List.dropLast_eq_take]
  congr 1
  have : y.cps.toList.length = y.length := Array.length_toList
  omega
theorem item_last {y : Str} (h : y.length ≠ 0) : Txt.item y (-1) = ⟨#[y.cps.toList.getLast?.getD 0]⟩ := by
  have e : Txt.charAt y (-1) = y.cps.toList.getLast? := by
    unfold Txt.charAt
    rw [StrLaws.seqIndex_neg (by omega) (by omega)]
    rw [List.getLast?_eq_getElem?]
    have : y.cps.toList.length = y.length := Array.length_toList
    show y.cps[(-1 + (y.length : Int)).toNat]? = _
    rw [this, ← Array.getElem?_toList]
    congr 1
    omega
  unfold Txt.item
  rw [e]
theorem item_L {y : Str} (h : y.length ≠ 0) : (Txt.item y (-1) != Str.ofString "L") = true ↔ y.cps.toList.getLast? ≠ some 76 := by
  rw [item_last h, bne_iff_ne]
  have hl : Str.ofString "L" = ⟨#[76]⟩ := by decide +kernel
  have hn : y.cps.toList ≠ [] := fun e => h (by show y.cps.size = 0; rw [← Array.length_toList, e]; rfl)
  rw [hl]
  obtain ⟨c, hc⟩ : ∃ c, y.cps.toList.getLast? = some c := ⟨_, List.getLast?_eq_some_getLast hn⟩
  rw [hc]
  simp
theorem last_not {l : List Nat} (h : l.getLast? = some 76) : ¬ (l.all fun c => decide (48 ≤ c) && decide (c ≤ 57)) = true := by
  rw [List.all_eq_true]
  intro a
  have := a 76 (List.mem_of_getLast? h)
  simp at this
end Mine
end

section
open PySem PySem.W PyProof.Rows PySem.Calls PySem.NumText
set_option maxRecDepth 100000
set_option maxHeartbeats 1000000
namespace Mine
theorem fresh_S2 : True := by
  w_top off
  trivial
theorem mread_eq {y : Str} (h : y.length ≤ 20) : mread y = (lread y.cps.toList).map fun q => ((q.1 : Int), q.2) := by
  unfold mread lread
  have hlen : y.cps.toList.length = y.length := Array.length_toList
  by_cases hL : y.cps.toList.getLast? = some 76
  · have hn : y.cps.toList ≠ [] := fun e => by rw [e] at hL; cases hL
    have h0 : y.length ≠ 0 := fun e => hn (List.length_eq_zero_iff.mp (hlen.trans e))
    rw [if_neg (fun q => last_not hL (asc_dig.mp q).1), if_neg h0, if_neg (fun q => (item_L h0).mp q hL), if_pos hL]
    by_cases hd : (Txt.isascii (Txt.slice y none (some (-1))) && Txt.isdigit (Txt.slice y none (some (-1)))) = true
    · have hd' := asc_dig.mp hd
      rw [if_pos hd]
      rw [Bool.and_eq_true] at hd
      rw [int_digits hd.1 hd.2 (Nat.le_trans (Txt.slice_le ..) h)]
      rw [slice_init h0] at hd' ⊢
      rw [if_pos hd']
      rfl
    · rw [if_neg hd, if_neg]
      · rfl
      · rw [← slice_init h0]
        exact fun q => hd (asc_dig.mpr q)
  · rw [if_neg hL]
    by_cases hd : (Txt.isascii y && Txt.isdigit y) = true
    · have hd' := asc_dig.mp hd
      rw [if_pos hd, if_pos hd']
      rw [Bool.and_eq_true] at hd
      rw [int_digits hd.1 hd.2 h]
      rfl
    · rw [if_neg hd, if_neg (fun q => hd (asc_dig.mpr q))]
      by_cases h0 : y.length = 0
      · rw [if_pos h0]; rfl
      · rw [if_neg h0, if_pos ((item_L h0).mpr hL)]; rfl
theorem digitsVal_lt : ∀ (r l : List Nat), l = r.reverse → AllDigits l → digitsVal l < 10 ^ l.length
  | [], l, e, _ => by subst e; show 0 < _; simp
  | c :: r, l, e, h => by
    rw [List.reverse_cons] at e
    subst e
    rw [digitsVal_snoc]
    have h1 := digitsVal_lt r r.reverse rfl (fun d hd => h d (List.mem_append_left _ hd))
    have h2 := h c (by simp)
    rw [List.length_append, List.length_singleton, Nat.pow_succ]
    omega
theorem all_of {l : List Nat} (h : (l.all fun c => decide (48 ≤ c) && decide (c ≤ 57)) = true) : AllDigits l := by
  rw [List.all_eq_true] at h
  intro c hc
  have := h c hc
  simpa using this
theorem lread_lt {l : List Nat} {k : Nat} {n : Nat} {b : Bool} (hl : l.length ≤ k) (h : lread l = some (n, b)) : n < 10 ^ k := by
  unfold lread at h
  have up : ∀ j, j ≤ k → 10 ^ j ≤ 10 ^ k := fun j hj => Nat.pow_le_pow_right (by decide) hj
  split at h
  · split at h
    · rename_i q
      cases h
      have := digitsVal_lt _ l.dropLast (List.reverse_reverse _).symm (all_of q.1)
      exact Nat.lt_of_lt_of_le this (up _ (by rw [List.length_dropLast]; omega))
    · cases h
  · split at h
    · rename_i q
      cases h
      exact Nat.lt_of_lt_of_le (digitsVal_lt _ l (List.reverse_reverse _).symm (all_of q.1)) (up _ hl)
    · cases h
/-- what is written: its signs -/
theorem shown_list (n : Nat) (b : Bool) : (shown (n : Int) b).cps.toList = (Nat.toDigits 10 n).map Char.toNat ++ (if b then [76] else []) := by
  show ((Str.ofString (toString (n : Int))).cps ++ (Str.ofString (if b then "L" else "")).cps).toList = _
  rw [Array.toList_append, KIN.signs_num]
  congr 1
  cases b <;> decide +kernel
theorem toDigits_digits (n : Nat) : AllDigits ((Nat.toDigits 10 n).map Char.toNat) := by
  intro c hc
  obtain ⟨ch, hch, e⟩ := List.mem_map.mp hc
  have r := digit_range (Nat.isDigit_of_mem_toDigits (by decide) (by decide) hch)
  rw [← e]
  exact r
theorem toDigits_ne (n : Nat) : (Nat.toDigits 10 n).map Char.toNat ≠ [] := by
  intro e
  have := KIN.val_back n
  have h : (Nat.toDigits 10 n).length = 0 := by rw [← List.length_map (f := Char.toNat), e]; rfl
  exact absurd h (Nat.ne_of_gt Nat.length_toDigits_pos)
theorem all_to {l : List Nat} (h : AllDigits l) : (l.all fun c => decide (48 ≤ c) && decide (c ≤ 57)) = true := by
  rw [List.all_eq_true]
  intro c hc
  have := h c hc
  simp [this.1, this.2]
theorem lread_shown (n : Nat) (b : Bool) : lread (shown (n : Int) b).cps.toList = some (n, b) := by
  rw [shown_list]
  unfold lread
  cases b with
  | true =>
    rw [if_pos rfl, if_pos (by simp), List.dropLast_concat, if_pos ⟨all_to (toDigits_digits n), toDigits_ne n⟩, KIN.val_back]
  | false =>
    have e : (Nat.toDigits 10 n).map Char.toNat ++ (if false = true then [76] else []) = (Nat.toDigits 10 n).map Char.toNat := by simp
    rw [e, if_neg, if_pos ⟨all_to (toDigits_digits n), toDigits_ne n⟩, KIN.val_back]
    intro q
    exact last_not q (all_to (toDigits_digits n))
theorem shown_len {n : Nat} {b : Bool} (h : n < 10 ^ 11) : (shown (n : Int) b).length ≤ 12 := by
  have h1 : (Str.ofString (toString (n : Int))).length ≤ 11 := toString_length_le (by omega) (by decide) (by omega)
  show ((Str.ofString (toString (n : Int))).cps ++ (Str.ofString (if b then "L" else "")).cps).size ≤ 12
  rw [Array.size_append]
  have h2 : (Str.ofString (if b then "L" else "")).cps.size ≤ 1 := by cases b <;> decide +kernel
  have h1' : (Str.ofString (toString (n : Int))).cps.size ≤ 11 := h1
  omega
theorem shown_ascii (n : Nat) (b : Bool) : ∀ c ∈ (shown (n : Int) b).cps.toList, c < 128 := by
  rw [shown_list]
  intro c hc
  rcases List.mem_append.mp hc with h | h
  · have := toDigits_digits n c h; omega
  · cases b with
    | true => simp at h; omega
    | false => simp at h
theorem ascii_clean {y : Str} (h : ∀ c ∈ y.cps.toList, c < 128) : ∀ c ∈ y.cps.toList, Str.isSurrogate c = false := by
  intro c hc
  have := h c hc
  unfold Str.isSurrogate
  rw [Bool.and_eq_false_iff]
  left
  exact decide_eq_false (by omega)
theorem u8_ascii {y : Str} (h : ∀ c ∈ y.cps.toList, c < 128) : u8 y = y.cps.map (fun c => c.toUInt8) := by
  apply Array.ext'
  unfold u8
  rw [Array.toList_flatten]
  simp only [Array.toList_map, List.map_map]
  have : ∀ l : List Nat, (∀ c ∈ l, c < 128) → (l.map (Array.toList ∘ fun y => (Str.utf8Of y).toArray)).flatten = l.map (fun c => c.toUInt8) := by
    intro l
    induction l with
    | nil => intro _; rfl
    | cons c l ih =>
      intro h
      have hc := h c (List.mem_cons_self ..)
      rw [List.map_cons, List.flatten_cons, ih fun d hd => h d (List.mem_cons_of_mem _ hd)]
      have : Str.utf8Of c = [c.toUInt8] := if_pos (by omega)
      simp [this]
  exact this _ h
theorem u8_size {y : Str} (h : ∀ c ∈ y.cps.toList, c < 128) : (u8 y).size = y.length := by rw [u8_ascii h, Array.size_map]; rfl
theorem u8_low {y : Str} (h : ∀ c ∈ y.cps.toList, c < 128) : ∀ c ∈ (u8 y).toList, c.toNat < 128 := by
  rw [u8_ascii h]
  intro c hc
  rw [Array.toList_map] at hc
  obtain ⟨d, hd, rfl⟩ := List.mem_map.mp hc
  have := h d hd
  show (UInt8.ofNat d).toNat < 128
  rw [UInt8.toNat_ofNat']
  omega
theorem u8_back {y : Str} (h : ∀ c ∈ y.cps.toList, c < 128) : (⟨(u8 y).map (·.toNat)⟩ : Str) = y := by
  rw [u8_ascii h]
  obtain ⟨⟨l⟩⟩ := y
  congr 1
  apply Array.ext'
  simp only [Array.toList_map, List.map_map]
  have : l.map (fun c => (c.toUInt8).toNat) = l.map id := List.map_congr_left fun c hc => by
    have := h c hc
    show (UInt8.ofNat c).toNat = c
    rw [UInt8.toNat_ofNat']
    omega
  rw [List.map_id] at this
  exact this
theorem shown_repr {n : Nat} {b : Bool} (h : n < 10 ^ 11) : (reprText (shown (n : Int) b)).length ≤ 1000 := by
  have h1 := StrLaws.reprText_len (shown (n : Int) b) fun c hc => by have := shown_ascii n b c hc; omega
  have h2 := shown_len (b := b) h
  omega
end Mine
end

section
open PySem PySem.W PyProof.Rows PySem.Calls
set_option maxRecDepth 100000
set_option maxHeartbeats 4000000
namespace Mine
theorem fresh_V7 : True := by
  w_top off
  trivial
theorem mread_shown {n : Nat} {b : Bool} (h : n < 10 ^ 11) : mread (shown (n : Int) b) = some ((n : Int), b) := by
  rw [mread_eq (Nat.le_trans (shown_len h) (by decide)), lread_shown]
  rfl
theorem call_decode_of {prog : Program} {w : World} {A : Around} {E : Value → Shared → Prop} {s : Shared} {n : Nat} {b : Bool} {t u : Tok} {Q : Value → Shared → Prop} (hn : n < 10 ^ 11)
    (h : ∀ t' k, Q (.str (shown (n : Int) b) t') { s with toks := k }) : wpAny (model prog w) A (call (.builtin "bytes.decode") [.bytes (u8 (shown (n : Int) b)) t, .str (Str.ofString "utf-8") u]) Q E s := by
  have ha := shown_ascii n b
  have hs := u8_size ha
  have hl := shown_len (b := b) hn
  refine call_decode (u8_low ha) (fun e => ?_) (by rw [hs, sizeLine_eq]; omega) ?_
  · have z : (u8 (shown (n : Int) b)).toList = [] := by rw [e]
    have y := u8_ascii ha
    rw [y, Array.toList_map, shown_list] at z
    have := List.map_eq_nil_iff.mp z
    exact toDigits_ne n (List.append_eq_nil_iff.mp this).1
  · rw [u8_back ha]; exact h
local macro_rules | `(tactic| k_mem) => `(tactic| (show (_ : Addr × Obj) ∈ (_ : List (Addr × Obj)); ktr_member))
local macro_rules | `(tactic| k_inst) => `(tactic| (refine' InstAt.ofNewsAny ?N ?h1 ?h2 ?h3; (case N => k_asm); (case h1 => k_mem); (case h2 => k_mem); (case h3 => rfl)))
local macro_rules | `(tactic| walk_at "wpAt") => `(tactic| (dsimp only; ks_step "execs cons"; refine ks_wpAt_execs_cons ?_))
local macro_rules | `(tactic| walk_at "wpAt") => `(tactic| (ks_step "exec Assign"; k_dflt (refine ks_wpAt_Assign_Name ?_ (by rfl))))
local macro_rules | `(tactic| walk_at "wpAt") => `(tactic| (ks_step "eval Call"; k_dflt (refine ks_wpAt_MethodCall ?_ (by rfl))))
local macro_rules | `(tactic| walk_at "getMethod ref") => `(tactic| (k_here; k_dflt (refine' method_fnI ?k1 ?k2 ?k3 ?k4 ?k5 ?k6 ?k7 ?k8 ?_; (case k1 => exact Frag.In.keeps (by k_asm) (Fr.keep (by k_asm))); (case k2 => k_inst); (case k3 => k_is); (case k4 => decide +kernel); (case k5 => k_is); (case k6 => k_is); (case k7 => k_is); (case k8 => k_get); k_whole)))
set_option hygiene false in
local macro_rules | `(tactic| walk_at "call ref") => `(tactic| (k_here; k_dflt (refine' wpAny_call (Claim.use (ctr_ical _ _ _ _ x dx p n b t t1 t2 k (Int.natCast_nonneg n) (by omega) (ascii_clean (shown_ascii n b)) (by rw [u8_size (shown_ascii n b), sizeLine_eq]; have := shown_len (b := b) hn; omega)) ?kA ?kh ?kd ?ku ?kB ?kF ?kX ?kN2 ?kT ?kk ?kp ?_ trivial); (case kA => rfl); (case kh => rfl); (case kd => exact Nat.le_of_ble_eq_true rfl); (case ku => exact Nat.le_of_ble_eq_true rfl); (case kB => k_asm); (case kF => k_asm); (case kX => k_asm); (case kN2 => k_asm); (case kT => k_asm); (case kk => rfl); (case kp => exact ⟨hm1, hm2⟩); k_whole; intro tk' h' tk'' F' N')))
set_option hygiene false in
local macro_rules | `(tactic| walk_at "call ref") => `(tactic| (k_here; k_dflt (refine' call_month ?kA ?kh ?kd ?ku ?kB ?kF ?kX ?kN ?kT ?kk (Nat.le_trans (shown_len hn) (by decide)) (shown_repr hn) ?_ (fun q => absurd ((mread_shown hn).symm.trans q) (by intro z; cases z)); (case kA => rfl); (case kh => rfl); (case kd => exact Nat.le_of_ble_eq_true rfl); (case ku => exact Nat.le_of_ble_eq_true rfl); (case kB => k_asm); (case kF => k_asm); (case kX => k_asm); (case kN => k_asm); (case kT => k_asm); (case kk => rfl); k_whole; intro n' b' hm x' dx' p' dp' t' t1' t2' k' h' tk' e1 e2 e3 e4 F' N')))
set_option hygiene false in
local macro_rules | `(tactic| walk_at "call builtin:bytes.decode") => `(tactic| (k_here; k_dflt (refine' call_decode_of hn ?_; intro tk' k')))
theorem fin_newm {w : World} {n : Nat} {n' : Int} {b b' : Bool} {h₀ h' : Heap} {L x dx p dp : Addr} {t' t1 t2 : Tok} {k tk' : Nat} {m : Str → Option Value} {news : List (Addr × Obj)} {s : Shared} {Q : Value → Shared → Prop}
    (kF : Fr h₀ L h' m) (kN : News h₀ L h' ((x, minst dx n' t') :: (dx, mdict w t1 t2 b' p k) :: (p, pobj dp) :: (dp, dict0) :: news)) (e1 : x ≠ dx) (e2 : p ≠ dx) (e3 : dp ≠ dx) (e4 : ∀ q ∈ news, q.1 ≠ dx) (hm : mread (shown (n : Int) b) = some (n', b')) (hn : n < 10 ^ 11)
    (hret : Made w n b h₀ L m news s Q) : Q (.ref x) { s with heap := h', toks := tk' } := by
  rw [mread_shown hn] at hm
  cases hm
  exact hret x dx p dp t' t1 t2 k h' tk' e1 e2 e3 e4 kF kN
theorem ctr_newm : ∀ (w : World) (mean : ExcName → Option Value) (mg mb : Str → Option Value) (x dx p : Addr) (n : Nat) (b : Bool) (t t1 t2 : Tok) (k : Nat), n < 10 ^ 11 →
    Claim (hd.heap_39 w.params) hd.view_39 (looseW hd.view_39 [Str.ofString "SEQUENCE_TYPES", Str.ofString "to_unicode", Str.ofString "CaselessDict", Str.ofString "NAME", Str.ofString "param_value", Str.ofString "UNSAFE_CHAR", Str.ofString "QUNSAFE_CHAR", Str.ofString "validate_param_value", Str.ofString "QUOTABLE", Str.ofString "dquote", Str.ofString "q_split", Str.ofString "q_join", Str.ofString "Parameters", Str.ofString "vMonth"]) w mean mg mb 318 440 (.ref 329) [.ref 373, .ref x] (fun h₀ L h news => (x, minst dx n t) ∈ news ∧ (dx, mdict w t1 t2 b p k) ∈ news)
      (fun h₀ L m news s Q => Made w n b h₀ L m news s Q) noErr := by
  delta Claim
  k_fill
  intro w mean mg mb x dx p n b t t1 t2 k hn gd cn cs a ccd cl outer A₀ base h₀ L m news s Q E B F X N T hk hp hret herr
  obtain ⟨hm1, hm2⟩ := hp
  refine' ks_code_super B F X N T rfl rfl hk ?ho ?hcd ?hroom ?hb ?hl ?_ ?c1 ?c2 ?c3 ?c4
  (case ho => k_is); (case hcd => k_is); (case hroom => exact (by decide : (318 : Nat) < recursionLimit)); (case hb => first | exact BindsTo.of_eq rfl | exact binds_K (by k_in) rfl (by k_is) rfl rfl rfl); (case hl => exact locs rfl); (case c1 => decide); (case c2 => rfl); (case c3 => rfl); (case c4 => rfl)
  intro g' L' h' FG' F' N' B' X' T' l1
  k_steps
  all_goals (first | exact fin_newm (by assumption) (by assumption) e1 e2 e3 e4 hm hn hret)
theorem call_monthm {w : World} {mean : ExcName → Option Value} {mg mb : Str → Option Value} {A : Around} {cn : Str} {cs : Scope} {a : Addr} {ccd : Value} {cl : List (Str × Addr)} {outer : List Env} {A₀ : Around} {base h₀ : Heap} {L : Addr} {m : Str → Option Value} {news : List (Addr × Obj)} {s : Shared} {Q E : Value → Shared → Prop} {x dx p : Addr} {n : Nat} {b : Bool} {t t1 t2 : Tok} {k : Nat}
    (hA : A.frames = some (envX cn cs L a ccd cl :: outer)) (hh : A.handled = none) (hdp : A.depth ≤ 310) (hu : A.units ≤ 430) (B : Below A₀ base outer h₀) (F : Fr h₀ L s.heap m) (X : (hd.heap_39 w.params).In h₀) (N : News h₀ L s.heap news) (T : Top hd.view_39 (looseW hd.view_39 [Str.ofString "SEQUENCE_TYPES", Str.ofString "to_unicode", Str.ofString "CaselessDict", Str.ofString "NAME", Str.ofString "param_value", Str.ofString "UNSAFE_CHAR", Str.ofString "QUNSAFE_CHAR", Str.ofString "validate_param_value", Str.ofString "QUOTABLE", Str.ofString "dquote", Str.ofString "q_split", Str.ofString "q_join", Str.ofString "Parameters", Str.ofString "vMonth"]) mean mg mb h₀) (hk : cs.kind = .function) (hn : n < 10 ^ 11) (hm1 : (x, minst dx n t) ∈ news) (hm2 : (dx, mdict w t1 t2 b p k) ∈ news)
    (hret : Made w n b h₀ L m news s Q) :
    wpAny (model (RowW.prog (OpenRow.toRowW (OpenLaw.row PySem.Challenge.rw_fc0076_01))) w) A (call (.ref 373) [.ref x]) Q E s := by
  revert hret T X
  k_fill
  intro X T hret
  refine Called.runs (called373 w) (X.keeps F.keep) (fun _ v _ => .of_pure (oi_bind v)) (fun _ q => new373 F X q) ?_
  refine wpAny_call (Claim.use (cn := cn) (a := a) (ccd := ccd) (cl := cl) (s := { s with toks := s.toks + 1 }) (ctr_newm w mean mg mb x dx p n b t t1 t2 k hn) ?_ hh ?_ ?_ B F X N T hk ⟨hm1, hm2⟩ ?_ trivial)
  · simp [Around.under, hA]; rfl
  · exact Nat.le_trans (Nat.succ_le_succ hdp) (by decide)
  · exact Nat.le_trans (Nat.succ_le_succ hu) (by decide)
  · intro x' dx' p' dp' t' t1' t2' k' h' tk' e1 e2 e3 e4 F' N'
    refine ⟨x', minst dx' n t', rfl, X.keeps F'.keep, (N' _ (.head _)).1, rfl, ?_⟩
    refine to_room hh (Nat.le_trans (Nat.succ_le_succ hdp) (by decide)) (Nat.le_trans (Nat.succ_le_succ hu) (by decide)) (xO3 (s := { s with heap := h', toks := tk' }) (X.keeps F'.keep) (N' _ (.head _)).1 ?_)
    exact ⟨rfl, hret x' dx' p' dp' t' t1' t2' k' h' tk' e1 e2 e3 e4 F' N'⟩
end Mine
end

section
open PySem PySem.W PyProof.Rows PySem.Calls
set_option maxRecDepth 100000
set_option maxHeartbeats 4000000
namespace Mine
theorem fresh_V8 : True := by
  w_top off
  trivial
local macro_rules | `(tactic| k_mem) => `(tactic| (show (_ : Addr × Obj) ∈ (_ : List (Addr × Obj)); ktr_member))
local macro_rules | `(tactic| k_inst) => `(tactic| (refine' InstAt.ofNewsAny ?N ?h1 ?h2 ?h3; (case N => k_asm); (case h1 => k_mem); (case h2 => k_mem); (case h3 => rfl)))
set_option hygiene false in
local macro_rules | `(tactic| walk_at "call ref") => `(tactic| (k_here; k_dflt (refine' call_month ?kA ?kh ?kd ?ku ?kB ?kF ?kX ?kN ?kT ?kk hy hrep ?_ ?_; (case kA => rfl); (case kh => rfl); (case kd => exact Nat.le_of_ble_eq_true rfl); (case ku => exact Nat.le_of_ble_eq_true rfl); (case kB => k_asm); (case kF => k_asm); (case kX => k_asm); (case kN => k_asm); (case kT => k_asm); (case kk => rfl); k_whole; (intro n' b' hm x' dx' p' dp' t' t1' t2' k' h' tk' e1 e2 e3 e4 F' N'); rotate_left; (intro hm G e te vs h' tk' FG R U); rotate_left)))
set_option hygiene false in
local macro_rules | `(tactic| walk_at "leaving ref") => `(tactic| (k_here; k_dflt (refine' leave_onS ?k1 ?k2 ?k3 ?k4 ?_; (case k3 => exact R); (case k2 => exact FG); (case k1 => exact B'); (case k4 => exact U); intro h' S' R' U'; exact herr hm _ _ _ _ _ _ FG' S' U')))
theorem ctr_from : ∀ (w : World) (mean : ExcName → Option Value) (mg mb : Str → Option Value) (y : Str) (ty : Tok), y.length ≤ 20 → (reprText y).length ≤ 1000 →
    Claim (hd.heap_39 w.params) hd.view_39 (looseW hd.view_39 [Str.ofString "SEQUENCE_TYPES", Str.ofString "to_unicode", Str.ofString "CaselessDict", Str.ofString "NAME", Str.ofString "param_value", Str.ofString "UNSAFE_CHAR", Str.ofString "QUNSAFE_CHAR", Str.ofString "validate_param_value", Str.ofString "QUOTABLE", Str.ofString "dquote", Str.ofString "q_split", Str.ofString "q_join", Str.ofString "Parameters", Str.ofString "vMonth"]) w mean mg mb 310 430 (.ref 343) [.ref 373, .str y ty] noPre
      (fun h₀ L m news s Q => ∀ n b, mread y = some (n, b) → Made w n b h₀ L m news s Q) (fun base fr h₀ L m news s E => mread y = none → ErrV base fr h₀ L m news s E) := by
  delta Claim
  k_fill
  intro w mean mg mb y ty hy hrep gd cn cs a ccd cl outer A₀ base h₀ L m news s Q E B F X N T hk hp hret herr
  k_dflt (refine' code_def ?k1 ?k2 ?k3 ?k4 ?k5 ?kA ?kF ?kK ?k6 ?k7 ?k8 ?k9 ?kB ?_ ?c2 ?c3 ?c4 ?c5; (case kA => exact rfl); (case kF => exact rfl); (case kK => assumption); (case k1 => k_asm); (case k2 => k_asm); (case k3 => k_asm); (case k4 => k_asm); (case k5 => k_asm); (case k6 => k_is); (case k7 => k_is); (case k8 => ktr_room); (case k9 => exact BindsTo.of_eq rfl); (case c5 => decide); (case kB => exact locs rfl); (case c2 => exact rfl); (case c3 => exact rfl); (case c4 => exact rfl); k_whole; intro g' L' h' FG' F' N' B' X' T'; (try dsimp only); (try k_lift B'); (try k_fold))
  k_steps
  all_goals (first | exact hret _ _ hm _ _ _ _ _ _ _ _ _ _ e1 e2 e3 e4 (by assumption) (by assumption))
end Mine
end

section
open PySem PySem.W PyProof.Rows PySem.Calls PySem.NumText
set_option maxRecDepth 100000
set_option maxHeartbeats 1000000
namespace Mine
theorem fresh_R0 : True := by
  w_top off
  trivial
abbrev occ (n : Nat) : Bool := (Builtin.Str.occurrences (Str.ofString "0123456789") { cps := #[n] } 0 (Str.ofString "0123456789").length 1).isEmpty
theorem occ_mem (n : Nat) : (!(occ n)) = decide (n ∈ [48, 49, 50, 51, 52, 53, 54, 55, 56, 57]) := by
  have h := StrLaws.found_one (Str.ofString "0123456789") n
  have e : (Str.ofString "0123456789").cps.toList = [48, 49, 50, 51, 52, 53, 54, 55, 56, 57] := by decide +kernel
  rw [e] at h
  exact h
theorem occ_true {n : Nat} (h : occ n = true) : ¬ (48 ≤ n ∧ n ≤ 57) := by
  have := occ_mem n
  rw [h] at this
  have := of_decide_eq_false this.symm
  simp only [List.mem_cons, List.not_mem_nil, or_false] at this
  omega
theorem occ_false {n : Nat} (h : occ n = false) : 48 ≤ n ∧ n ≤ 57 := by
  have := occ_mem n
  rw [h] at this
  have := of_decide_eq_true this.symm
  simp only [List.mem_cons, List.not_mem_nil, or_false] at this
  omega
theorem find_digit {n : Nat} (h : 48 ≤ n ∧ n ≤ 57) : Txt.find (Str.ofString "0123456789") { cps := #[n] } = ((n - 48 : Nat) : Int) := by
  have a : ∀ k : Nat, k < 10 → Txt.find (Str.ofString "0123456789") { cps := #[k + 48] } = ((k : Nat) : Int) := by decide +kernel
  have := a (n - 48) (by omega)
  rwa [Nat.sub_add_cancel h.1] at this
/-- the loop's word -/
def Tot (pre : List Int) (t : Int) : Prop := (∀ c ∈ pre, 48 ≤ c ∧ c ≤ 57) ∧ t = ((digitsVal (pre.map Int.toNat) : Nat) : Int)
theorem tot_nil : Tot [] 0 := ⟨fun c h => (by cases h), rfl⟩
theorem tot_snoc {pre : List Int} {t : Int} {n : Nat} (h : Tot pre t) (ho : occ n = false) : Tot (pre ++ [(n : Int)]) (10 * t + Txt.find (Str.ofString "0123456789") { cps := #[n] }) := by
  have hn := occ_false ho
  obtain ⟨h1, h2⟩ := h
  refine ⟨fun c hc => ?_, ?_⟩
  · rcases List.mem_append.mp hc with hc | hc
    · exact h1 c hc
    · rw [List.mem_singleton.mp hc]; omega
  · rw [find_digit hn, h2, List.map_append]
    show _ = ((digitsVal (pre.map Int.toNat ++ [n]) : Nat) : Int)
    rw [digitsVal_snoc]
    omega
theorem codes_nat (x : Str) : (KStt.codes x).map Int.toNat = x.cps.toList := by
  unfold KStt.codes
  rw [List.map_map]
  have : x.cps.toList.map (Int.toNat ∘ fun (c : Nat) => (c : Int)) = x.cps.toList.map id := List.map_congr_left fun c _ => Int.toNat_natCast c
  rw [this, List.map_id]
theorem tot_all {b : Str} {t : Int} (h : Tot (KStt.codes b) t) : (b.cps.toList.all fun c => decide (48 ≤ c) && decide (c ≤ 57)) = true ∧ t = ((digitsVal b.cps.toList : Nat) : Int) := by
  obtain ⟨h1, h2⟩ := h
  rw [codes_nat] at h2
  refine ⟨?_, h2⟩
  rw [List.all_eq_true]
  intro c hc
  have := h1 (c : Int) (List.mem_map.mpr ⟨c, hc, rfl⟩)
  rw [Bool.and_eq_true, decide_eq_true_eq, decide_eq_true_eq]
  omega
theorem not_all {b : Str} {pre post : List Int} {n : Nat} (h : KStt.codes b = pre ++ (n : Int) :: post) (ho : occ n = true) : ¬ (b.cps.toList.all fun c => decide (48 ≤ c) && decide (c ≤ 57)) = true := by
  intro a
  rw [List.all_eq_true] at a
  have hm : n ∈ b.cps.toList := by
    rw [← codes_nat, h]
    exact List.mem_map.mpr ⟨(n : Int), by simp, Int.toNat_natCast n⟩
  have := a n hm
  rw [Bool.and_eq_true, decide_eq_true_eq, decide_eq_true_eq] at this
  exact occ_true ho this
theorem drop_last {l : List Nat} (h : l ≠ []) : l.drop (l.length - 1) = [l.getLast h] := by
  have e := List.dropLast_concat_getLast h
  have h1 : (l.dropLast ++ [l.getLast h]).drop (l.length - 1) = [l.getLast h] := by
    rw [List.drop_append_of_le_length (by rw [List.length_dropLast]; exact Nat.le_refl _), List.drop_of_length_le (by rw [List.length_dropLast]; exact Nat.le_refl _)]
    rfl
  rwa [e] at h1
theorem slice_last {y : Str} (h : y.length ≠ 0) : (Txt.slice y (some (-1)) none).cps.toList = y.cps.toList.drop (y.length - 1) := by
  have e := StrLaws.sliceText_from_neg (x := y) (i := -1) (by omega) (by omega)
  show (StrLaws.sliceText y (some (-1)) none).cps.toList = _
  rw [e]
  have hl : y.cps.toList.length = y.length := Array.length_toList
  show List.take _ (List.drop _ _) = _
  have e1 : (-1 + (y.length : Int)).toNat = y.length - 1 := by omega
  rw [e1, List.take_of_length_le]
  rw [List.length_drop]
  omega
theorem last_is {y : Str} : (Txt.slice y (some (-1)) none == Str.ofString "L") = true ↔ y.cps.toList.getLast? = some 76 := by
  have hl : Str.ofString "L" = ⟨#[76]⟩ := by decide +kernel
  have hlen : y.cps.toList.length = y.length := Array.length_toList
  rw [beq_iff_eq, hl]
  by_cases h : y.length = 0
  · have hn : y.cps.toList = [] := List.length_eq_zero_iff.mp (hlen.trans h)
    have hle := Txt.slice_le y (some (-1)) none
    constructor
    · intro e
      rw [e, h] at hle
      exact absurd hle (by decide)
    · intro e
      rw [hn] at e
      cases e
  · have hs := slice_last h
    have hn : y.cps.toList ≠ [] := fun e => h (by rw [← hlen, e]; rfl)
    have hd : y.cps.toList.drop (y.length - 1) = [y.cps.toList.getLast hn] := by rw [← hlen, drop_last hn]
    rw [hd] at hs
    constructor
    · intro e
      rw [e] at hs
      have : [76] = [y.cps.toList.getLast hn] := hs
      rw [List.getLast?_eq_some_getLast hn, ← (List.cons.inj this).1]
    · intro e
      rw [List.getLast?_eq_some_getLast hn] at e
      rw [Option.some.inj e] at hs
      apply Str.ext'
      apply Array.ext'
      exact hs
theorem lread_L {y : Str} (hL : (Txt.slice y (some (-1)) none == Str.ofString "L") = true) (h : ¬ (((Txt.slice y none (some (-1))).cps.toList.all fun c => decide (48 ≤ c) && decide (c ≤ 57)) = true ∧ 0 < (((Txt.slice y none (some (-1))).length : Nat) : Int))) : lread y.cps.toList = none := by
  have h1 := last_is.mp hL
  have hlen : y.cps.toList.length = y.length := Array.length_toList
  have h0 : y.length ≠ 0 := fun e => by rw [List.length_eq_zero_iff.mp (hlen.trans e)] at h1; cases h1
  unfold lread
  rw [if_pos h1, if_neg]
  rintro ⟨a, b⟩
  refine h ⟨by rw [slice_init h0]; exact a, ?_⟩
  have : (Txt.slice y none (some (-1))).cps.toList.length = (Txt.slice y none (some (-1))).length := Array.length_toList
  rw [slice_init h0] at this
  have := List.length_pos_iff.mpr b
  omega
theorem lread_N {y : Str} (hL : (Txt.slice y (some (-1)) none == Str.ofString "L") = false) (h : ¬ ((y.cps.toList.all fun c => decide (48 ≤ c) && decide (c ≤ 57)) = true ∧ 0 < ((y.length : Nat) : Int))) : lread y.cps.toList = none := by
  have h1 : ¬ y.cps.toList.getLast? = some 76 := fun e => by rw [last_is.mpr e] at hL; cases hL
  have hlen : y.cps.toList.length = y.length := Array.length_toList
  unfold lread
  rw [if_neg h1, if_neg]
  rintro ⟨a, b⟩
  refine h ⟨a, ?_⟩
  have := List.length_pos_iff.mpr b
  omega
theorem lread_L' {y : Str} {t : Int} (hL : (Txt.slice y (some (-1)) none == Str.ofString "L") = true) (h : Tot (KStt.codes (Txt.slice y none (some (-1)))) t) (hp : 0 < (((Txt.slice y none (some (-1))).length : Nat) : Int)) : ∃ n : Nat, t = (n : Int) ∧ lread y.cps.toList = some (n, true) := by
  have h1 := last_is.mp hL
  have hlen : y.cps.toList.length = y.length := Array.length_toList
  have h0 : y.length ≠ 0 := fun e => by rw [List.length_eq_zero_iff.mp (hlen.trans e)] at h1; cases h1
  obtain ⟨a, b⟩ := tot_all h
  refine ⟨_, b, ?_⟩
  unfold lread
  have hl2 : (Txt.slice y none (some (-1))).cps.toList.length = (Txt.slice y none (some (-1))).length := Array.length_toList
  rw [slice_init h0] at a hl2 ⊢
  rw [if_pos h1, if_pos ⟨a, List.length_pos_iff.mp (by omega)⟩]
theorem lread_N' {y : Str} {t : Int} (hL : (Txt.slice y (some (-1)) none == Str.ofString "L") = false) (h : Tot (KStt.codes y) t) (hp : 0 < ((y.length : Nat) : Int)) : ∃ n : Nat, t = (n : Int) ∧ lread y.cps.toList = some (n, false) := by
  have h1 : ¬ y.cps.toList.getLast? = some 76 := fun e => by rw [last_is.mpr e] at hL; cases hL
  have hlen : y.cps.toList.length = y.length := Array.length_toList
  obtain ⟨a, b⟩ := tot_all h
  refine ⟨_, b, ?_⟩
  unfold lread
  rw [if_neg h1, if_pos ⟨a, List.length_pos_iff.mp (by omega)⟩]
end Mine
end

section
open PySem PySem.W PyProof.Rows PySem.Calls
set_option maxRecDepth 100000
set_option maxHeartbeats 4000000
namespace Mine
theorem fresh_R1 : True := by
  w_top off
  trivial
abbrev tupL (n : Nat) (b : Bool) (t : Tok) : Obj := { cls := .type "tuple", data := .seq #[.int (n : Int) t, .bool b] }
abbrev RetR (y : Str) (h₀ : Heap) (L : Addr) (m : Str → Option Value) (news : List (Addr × Obj)) (s : Shared) (Q : Value → Shared → Prop) : Prop :=
  (lread y.cps.toList = none → ∀ h' tk', Fr h₀ L h' m → News h₀ L h' news → Q .none { s with heap := h', toks := tk' }) ∧ ∀ n b, lread y.cps.toList = some (n, b) → ∀ D t h' tk', Fr h₀ L h' m → News h₀ L h' ((D, tupL n b t) :: news) → Q (.ref D) { s with heap := h', toks := tk' }
section
variable {y : Str} {h₀ h' : Heap} {L D : Addr} {m : Str → Option Value} {news own : List (Addr × Obj)} {s : Shared} {Q : Value → Shared → Prop} {pre post : List Int} {n tk' : Nat} {t : Int} {u : Tok}
theorem fin_r1 (hret : RetR y h₀ L m news s Q) (hL : (Txt.slice y (some (-1)) none == Str.ofString "L") = true) (hE : KStt.codes (Txt.slice y none (some (-1))) = pre ++ (n : Int) :: post) (ho : occ n = true) (F : Fr h₀ L h' m) (N : News h₀ L h' (news ++ own)) : Q .none { s with heap := h', toks := tk' } :=
  hret.1 (lread_L hL fun q => not_all hE ho q.1) h' tk' F fun q hq => N q (List.mem_append_left _ hq)
theorem fin_r1' (hret : RetR y h₀ L m news s Q) (hL : (Txt.slice y (some (-1)) none == Str.ofString "L") = false) (hE : KStt.codes y = pre ++ (n : Int) :: post) (ho : occ n = true) (F : Fr h₀ L h' m) (N : News h₀ L h' (news ++ own)) : Q .none { s with heap := h', toks := tk' } :=
  hret.1 (lread_N hL fun q => not_all hE ho q.1) h' tk' F fun q hq => N q (List.mem_append_left _ hq)
theorem fin_r2 (hret : RetR y h₀ L m news s Q) (hL : (Txt.slice y (some (-1)) none == Str.ofString "L") = true) (hp : ¬ 0 < (((Txt.slice y none (some (-1))).length : Nat) : Int)) (F : Fr h₀ L h' m) (N : News h₀ L h' news) : Q .none { s with heap := h', toks := tk' } :=
  hret.1 (lread_L hL fun q => hp q.2) h' tk' F N
theorem fin_r2' (hret : RetR y h₀ L m news s Q) (hL : (Txt.slice y (some (-1)) none == Str.ofString "L") = false) (hp : ¬ 0 < ((y.length : Nat) : Int)) (F : Fr h₀ L h' m) (N : News h₀ L h' news) : Q .none { s with heap := h', toks := tk' } :=
  hret.1 (lread_N hL fun q => hp q.2) h' tk' F N
theorem fin_r3 (hret : RetR y h₀ L m news s Q) (hL : (Txt.slice y (some (-1)) none == Str.ofString "L") = true) (h : Tot (KStt.codes (Txt.slice y none (some (-1)))) t) (hp : 0 < (((Txt.slice y none (some (-1))).length : Nat) : Int)) (F : Fr h₀ L h' m)
    (N : News h₀ L h' ((D, { cls := .type "tuple", data := .seq #[.int t u, .bool (Txt.slice y (some (-1)) none == Str.ofString "L")] }) :: news)) : Q (.ref D) { s with heap := h', toks := tk' } := by
  obtain ⟨n, rfl, e⟩ := lread_L' hL h hp
  rw [hL] at N
  exact hret.2 n true e D u h' tk' F N
theorem fin_r3' (hret : RetR y h₀ L m news s Q) (hL : (Txt.slice y (some (-1)) none == Str.ofString "L") = false) (h : Tot (KStt.codes y) t) (hp : 0 < ((y.length : Nat) : Int)) (F : Fr h₀ L h' m)
    (N : News h₀ L h' ((D, { cls := .type "tuple", data := .seq #[.int t u, .bool (Txt.slice y (some (-1)) none == Str.ofString "L")] }) :: news)) : Q (.ref D) { s with heap := h', toks := tk' } := by
  obtain ⟨n, rfl, e⟩ := lread_N' hL h hp
  rw [hL] at N
  exact hret.2 n false e D u h' tk' F N
end
theorem ctr_read : ∀ (w : World) (mean : ExcName → Option Value) (mg mb : Str → Option Value) (y : Str) (ty : Tok), y.length ≤ 20 →
    Claim (hd.heap_39 w.params) hd.view_39 (looseW hd.view_39 [Str.ofString "SEQUENCE_TYPES", Str.ofString "to_unicode", Str.ofString "CaselessDict", Str.ofString "NAME", Str.ofString "param_value", Str.ofString "UNSAFE_CHAR", Str.ofString "QUNSAFE_CHAR", Str.ofString "validate_param_value", Str.ofString "QUOTABLE", Str.ofString "dquote", Str.ofString "q_split", Str.ofString "q_join", Str.ofString "Parameters", Str.ofString "vMonth"]) w mean mg mb 310 60 (.ref 389) [.str y ty] noPre
      (fun h₀ L m news s Q => RetR y h₀ L m news s Q) noErr := by
  delta Claim
  k_fill
  intro w mean mg mb y ty hy gd cn cs a ccd cl outer A₀ base h₀ L m news s Q E B F X N T hk hp hret herr
  k_dflt (refine' code_def ?k1 ?k2 ?k3 ?k4 ?k5 ?kA ?kF ?kK ?k6 ?k7 ?k8 ?k9 ?kB ?_ ?c2 ?c3 ?c4 ?c5; (case kA => exact rfl); (case kF => exact rfl); (case kK => assumption); (case k1 => k_asm); (case k2 => k_asm); (case k3 => k_asm); (case k4 => k_asm); (case k5 => k_asm); (case k6 => k_is); (case k7 => k_is); (case k8 => ktr_room); (case k9 => exact BindsTo.of_eq rfl); (case c5 => decide); (case kB => exact locs rfl); (case c2 => exact rfl); (case c3 => exact rfl); (case c4 => exact rfl); k_whole; intro g' L' h' FG' F' N' B' X' T'; (try dsimp only); (try k_lift B'); (try k_fold))
  k_with "pyIter str" => k_state (fun pre total => Tot pre total) "total"
  k_with "state" => exact tot_snoc (by assumption) (by assumption)
  k_steps
  k_with_none
  all_goals (first
    | exact fin_r1 hret (by assumption) kEq (by assumption) (by assumption) (by assumption)
    | exact fin_r1' hret (by assumption) kEq (by assumption) (by assumption) (by assumption)
    | exact absurd ((show occ kN = true by assumption).symm.trans (show occ kN = false by assumption)) (by decide)
    | exact fin_r3 hret (by assumption) kInv (by assumption) (by assumption) (by assumption)
    | exact fin_r3' hret (by assumption) kInv (by assumption) (by assumption) (by assumption)
    | exact fin_r2 hret (by assumption) (by assumption) (by assumption) (by assumption)
    | exact fin_r2' hret (by assumption) (by assumption) (by assumption) (by assumption))
end Mine
end

section
open PySem PySem.W PyProof.Rows PySem.Calls
set_option maxRecDepth 100000
set_option maxHeartbeats 4000000
namespace Mine
theorem fresh_H0 : True := by
  w_top off
  trivial
theorem Claim.imp {K : Frag} {p : Program} {loose : List Str} {w : World} {mean : ExcName → Option Value} {mg mb : Str → Option Value} {dp un : Nat} {f : Value} {vs : List Value} {pre ret err ret' err'}
    (c : Claim K p loose w mean mg mb dp un f vs pre ret err) (h1 : ∀ h₀ L m news s Q, ret' h₀ L m news s Q → ret h₀ L m news s Q) (h2 : ∀ base fr h₀ L m news s E, err' base fr h₀ L m news s E → err base fr h₀ L m news s E) : Claim K p loose w mean mg mb dp un f vs pre ret' err' :=
  fun gd cn cs a ccd cl outer A₀ base h₀ L m news s Q E B F X N T hk hp hr he => c gd cn cs a ccd cl outer A₀ base h₀ L m news s Q E B F X N T hk hp (h1 _ _ _ _ _ _ hr) (h2 _ _ _ _ _ _ _ _ he)
section
variable (w : World) (mean : ExcName → Option Value) (mg mb : Str → Option Value) (y : Str) (ty : Tok)
theorem read_none (h1 : y.length ≤ 20) (h2 : lread y.cps.toList = none) : Claim (hd.heap_39 w.params) hd.view_39 (looseW hd.view_39 [Str.ofString "SEQUENCE_TYPES", Str.ofString "to_unicode", Str.ofString "CaselessDict", Str.ofString "NAME", Str.ofString "param_value", Str.ofString "UNSAFE_CHAR", Str.ofString "QUNSAFE_CHAR", Str.ofString "validate_param_value", Str.ofString "QUOTABLE", Str.ofString "dquote", Str.ofString "q_split", Str.ofString "q_join", Str.ofString "Parameters", Str.ofString "vMonth"]) w mean mg mb 310 60 (.ref 389) [.str y ty] noPre
    (fun h₀ L m news s Q => ∀ h' tk', Fr h₀ L h' m → News h₀ L h' news → Q .none { s with heap := h', toks := tk' }) noErr :=
  (ctr_read w mean mg mb y ty h1).imp (fun _ _ _ _ _ _ h => ⟨fun _ => h, fun n b e => by rw [h2] at e; cases e⟩) (fun _ _ _ _ _ _ _ _ h => h)
theorem read_some {n : Nat} {b : Bool} (h1 : y.length ≤ 20) (h2 : lread y.cps.toList = some (n, b)) : Claim (hd.heap_39 w.params) hd.view_39 (looseW hd.view_39 [Str.ofString "SEQUENCE_TYPES", Str.ofString "to_unicode", Str.ofString "CaselessDict", Str.ofString "NAME", Str.ofString "param_value", Str.ofString "UNSAFE_CHAR", Str.ofString "QUNSAFE_CHAR", Str.ofString "validate_param_value", Str.ofString "QUOTABLE", Str.ofString "dquote", Str.ofString "q_split", Str.ofString "q_join", Str.ofString "Parameters", Str.ofString "vMonth"]) w mean mg mb 310 60 (.ref 389) [.str y ty] noPre
    (fun h₀ L m news s Q => ∀ D t h' tk', Fr h₀ L h' m → News h₀ L h' ((D, tupL n b t) :: news) → Q (.ref D) { s with heap := h', toks := tk' }) noErr :=
  (ctr_read w mean mg mb y ty h1).imp (fun _ _ _ _ _ _ h => ⟨fun e => (by rw [h2] at e; cases e), fun n' b' e => by rw [h2] at e; cases e; exact h⟩) (fun _ _ _ _ _ _ _ _ h => h)
theorem from_none (h1 : y.length ≤ 20) (hr : (reprText y).length ≤ 1000) (h2 : lread y.cps.toList = none) : Claim (hd.heap_39 w.params) hd.view_39 (looseW hd.view_39 [Str.ofString "SEQUENCE_TYPES", Str.ofString "to_unicode", Str.ofString "CaselessDict", Str.ofString "NAME", Str.ofString "param_value", Str.ofString "UNSAFE_CHAR", Str.ofString "QUNSAFE_CHAR", Str.ofString "validate_param_value", Str.ofString "QUOTABLE", Str.ofString "dquote", Str.ofString "q_split", Str.ofString "q_join", Str.ofString "Parameters", Str.ofString "vMonth"]) w mean mg mb 310 430 (.ref 343) [.ref 373, .str y ty] noPre
    (fun _ _ _ _ _ _ => True) (fun base fr h₀ L m news s E => ErrV base fr h₀ L m news s E) :=
  have hm : mread y = none := by rw [mread_eq h1, h2]; rfl
  (ctr_from w mean mg mb y ty h1 hr).imp (fun _ _ _ _ _ _ _ n b e => by rw [hm] at e; cases e) (fun _ _ _ _ _ _ _ _ h _ => h)
theorem from_some {n : Nat} {b : Bool} (h1 : y.length ≤ 20) (hr : (reprText y).length ≤ 1000) (h2 : lread y.cps.toList = some (n, b)) : Claim (hd.heap_39 w.params) hd.view_39 (looseW hd.view_39 [Str.ofString "SEQUENCE_TYPES", Str.ofString "to_unicode", Str.ofString "CaselessDict", Str.ofString "NAME", Str.ofString "param_value", Str.ofString "UNSAFE_CHAR", Str.ofString "QUNSAFE_CHAR", Str.ofString "validate_param_value", Str.ofString "QUOTABLE", Str.ofString "dquote", Str.ofString "q_split", Str.ofString "q_join", Str.ofString "Parameters", Str.ofString "vMonth"]) w mean mg mb 310 430 (.ref 343) [.ref 373, .str y ty] noPre
    (fun h₀ L m news s Q => Made w n b h₀ L m news s Q) noErr :=
  have hm : mread y = some ((n : Int), b) := by rw [mread_eq h1, h2]; rfl
  (ctr_from w mean mg mb y ty h1 hr).imp (fun _ _ _ _ _ _ h n' b' e => by rw [hm] at e; cases e; exact h) (fun _ _ _ _ _ _ _ _ _ e => by rw [hm] at e; cases e)
theorem from_shown {n : Nat} {b : Bool} (hn : n < 10 ^ 11) : Claim (hd.heap_39 w.params) hd.view_39 (looseW hd.view_39 [Str.ofString "SEQUENCE_TYPES", Str.ofString "to_unicode", Str.ofString "CaselessDict", Str.ofString "NAME", Str.ofString "param_value", Str.ofString "UNSAFE_CHAR", Str.ofString "QUNSAFE_CHAR", Str.ofString "validate_param_value", Str.ofString "QUOTABLE", Str.ofString "dquote", Str.ofString "q_split", Str.ofString "q_join", Str.ofString "Parameters", Str.ofString "vMonth"]) w mean mg mb 310 430 (.ref 343) [.ref 373, .str (shown n b) ty] noPre
    (fun h₀ L m news s Q => Made w n b h₀ L m news s Q) noErr :=
  from_some w mean mg mb (shown n b) ty (Nat.le_trans (shown_len hn) (by decide)) (shown_repr hn) (lread_shown n b)
end
end Mine
end

section
open PySem PySem.W PyProof.Rows PySem.Calls
set_option maxRecDepth 100000
set_option maxHeartbeats 4000000
namespace Mine
theorem fresh_H1 : True := by
  w_top off
  trivial
local macro_rules | `(tactic| k_mem) => `(tactic| (show (_ : Addr × Obj) ∈ (_ : List (Addr × Obj)); ktr_member))
local macro_rules | `(tactic| k_inst) => `(tactic| (refine' InstAt.ofNewsAny ?N ?h1 ?h2 ?h3; (case N => k_asm); (case h1 => k_mem); (case h2 => k_mem); (case h3 => rfl)))
set_option hygiene false in
local macro_rules | `(tactic| walk_at "call ref") => `(tactic| (k_here; k_dflt (refine' call_meth ?kN ?kq ?_; (case kN => k_asm); (case kq => k_mem); refine' (Claim.use (from_none _ _ _ _ y ty hy hrep hr) ?kA ?kh ?kd ?ku ?kB ?kF ?kX ?kN2 ?kT ?kk trivial trivial ?_); (case kA => rfl); (case kh => rfl); (case kd => exact Nat.le_of_ble_eq_true rfl); (case ku => exact Nat.le_of_ble_eq_true rfl); (case kB => k_asm); (case kF => k_asm); (case kX => k_asm); (case kN2 => k_asm); (case kT => k_asm); (case kk => rfl); k_whole; intro G e te vs h' tk' FG R U)))
set_option hygiene false in
local macro_rules | `(tactic| walk_at "call ref") => `(tactic| (k_here; k_dflt (refine' wpAny_call (Claim.use (read_none _ _ _ _ y ty hy hr) ?kA ?kh ?kd ?ku ?kB ?kF ?kX ?kN2 ?kT ?kk trivial ?_ trivial); (case kA => rfl); (case kh => rfl); (case kd => exact Nat.le_of_ble_eq_true rfl); (case ku => exact Nat.le_of_ble_eq_true rfl); (case kB => k_asm); (case kF => k_asm); (case kX => k_asm); (case kN2 => k_asm); (case kT => k_asm); (case kk => rfl); k_whole; intro h' tk' F' N')))
theorem holds_none : ∀ (w : World) (mean : ExcName → Option Value) (mg mb : Str → Option Value) (y : Str) (ty : Tok), y.length ≤ 20 → (reprText y).length ≤ 1000 → lread y.cps.toList = none →
    ∀ (gd : Option (List Code)) (cn : Str) (cs : Scope) (a : Addr) (ccd : Value) (A₀ : Around) (base h₀ : Heap) (L : Addr) (m : Str → Option Value) (news : List (Addr × Obj)) (s : Shared) (Q E : Value → Shared → Prop),
    Below A₀ base [] h₀ → Fr h₀ L s.heap m → (hd.heap_39 w.params).In h₀ → News h₀ L s.heap news → Top hd.view_39 (looseW hd.view_39 [Str.ofString "SEQUENCE_TYPES", Str.ofString "to_unicode", Str.ofString "CaselessDict", Str.ofString "NAME", Str.ofString "param_value", Str.ofString "UNSAFE_CHAR", Str.ofString "QUNSAFE_CHAR", Str.ofString "validate_param_value", Str.ofString "QUOTABLE", Str.ofString "dquote", Str.ofString "q_split", Str.ofString "q_join", Str.ofString "Parameters", Str.ofString "vMonth"]) mean mg mb h₀ → cs.kind = .function → (hd.heap_39 w.params).In base → Top hd.view_39 (looseW hd.view_39 [Str.ofString "SEQUENCE_TYPES", Str.ofString "to_unicode", Str.ofString "CaselessDict", Str.ofString "NAME", Str.ofString "param_value", Str.ofString "UNSAFE_CHAR", Str.ofString "QUNSAFE_CHAR", Str.ofString "validate_param_value", Str.ofString "QUOTABLE", Str.ofString "dquote", Str.ofString "q_split", Str.ofString "q_join", Str.ofString "Parameters", Str.ofString "vMonth"]) mean mg mb base →
    (∀ h' tk', Fr h₀ L h' m → News h₀ L h' news → Q (.bool true) { s with heap := h', toks := tk' }) →
    codeAny (model (RowW.prog (OpenRow.toRowW (OpenLaw.row PySem.Challenge.rw_fc0076_01))) w) (ktrTop 303 8 gd cn cs L a ccd [] []) (.call (.ref 403) ⟨[.str y ty], []⟩) (fun r s' => match r with | .ok (.ret v) => Q v s' | .ok _ => False | .error e => E e s') s := by
  k_fill
  intro w mean mg mb y ty hy hrep hr gd cn cs a ccd A₀ base h₀ L m news s Q E B F X N T hk XB TB hret
  k_dflt (refine' code_defS0 ?k1 ?k2 ?k3 ?k4 ?k5 ?kA ?k6 ?k7 ?k8 ?k9 ?kB ?_ ?cK ?c2 ?c3 ?c4 ?c5; (case kA => exact rfl); (case k2 => k_asm); (case k1 => k_asm); (case k3 => k_asm); (case k4 => k_asm); (case k5 => k_asm); (case k6 => k_is); (case k7 => k_is); (case k8 => ktr_room); (case k9 => exact BindsTo.of_eq rfl); (case kB => exact locs rfl); (case cK => assumption); (case c2 => exact rfl); (case c3 => exact rfl); (case c4 => exact rfl); (case c5 => decide); k_whole; intro g' L' h' FG' F' N' B' X' T' D'; (try dsimp only); (try k_lift B'); (try k_fold))
  k_steps
  all_goals first | exact hret _ _ (by assumption) (News.tail' (by assumption))
end Mine
end

section
open PySem PySem.W PyProof.Rows PySem.Calls
set_option maxRecDepth 100000
set_option maxHeartbeats 4000000
namespace Mine
theorem fresh_G1 : True := by
  w_top off
  trivial
theorem Upd.old {d : Addr} {o o' : Obj} {l l' : List (Addr × Obj)} (U : Upd d o o' l l') : (d, o) ∈ l := by
  obtain ⟨pre, post, rfl, _⟩ := U.split
  simp
local macro_rules | `(tactic| k_mem) => `(tactic| (show (_ : Addr × Obj) ∈ (_ : List (Addr × Obj)); ktr_member))
local macro_rules | `(tactic| k_inst) => `(tactic| (refine' InstAt.ofNewsAny ?N ?h1 ?h2 ?h3; (case N => k_asm); (case h1 => k_mem); (case h2 => k_mem); (case h3 => rfl)))
local macro_rules | `(tactic| walk_at "setAttr ref") => `(tactic| (k_here; k_dflt (refine' Sets.dict ?s1 ?k1 ?k2 ?k3 ?k4 ?k5 ?k9 ?k10 ?k11 ?k12 ?k13 ?_; (case k1 => k_asm); (case k2 => k_asm); (case k3 => k_asm); (case k4 => k_inst); (case k5 => exact rfl); (case s1 => exact ⟨by k_is, over373 _, by k_is⟩); (case k9 => k_is); (case k12 => assumption); (case k10 => k_get); (case k11 => first | kernel_rfl | exact rfl); (case k13 => exact Nat.le_of_ble_eq_true rfl); k_whole; intro h' F' N')))
theorem ctr_setl : ∀ (w : World) (mean : ExcName → Option Value) (mg mb : Str → Option Value) (x dx p : Addr) (n : Int) (b v : Bool) (t t1 t2 : Tok) (k : Nat) (news' : List (Addr × Obj)),
    Claim (hd.heap_39 w.params) hd.view_39 (looseW hd.view_39 [Str.ofString "SEQUENCE_TYPES", Str.ofString "to_unicode", Str.ofString "CaselessDict", Str.ofString "NAME", Str.ofString "param_value", Str.ofString "UNSAFE_CHAR", Str.ofString "QUNSAFE_CHAR", Str.ofString "validate_param_value", Str.ofString "QUOTABLE", Str.ofString "dquote", Str.ofString "q_split", Str.ofString "q_join", Str.ofString "Parameters", Str.ofString "vMonth"]) w mean mg mb 320 460 (.ref 362) [.ref x, .bool v] (fun h₀ L h news => (x, minst dx n t) ∈ news ∧ Upd dx (mdict w t1 t2 b p k) (mdict w t1 t2 v p k) news news')
      (fun h₀ L m news s Q => ∀ v h' tk', Fr h₀ L h' m → News h₀ L h' news' → Q v { s with heap := h', toks := tk' }) noErr := by
  delta Claim
  k_fill
  intro w mean mg mb x dx p n b v t t1 t2 k news' gd cn cs a ccd cl outer A₀ base h₀ L m news s Q E B F X N T hk hp hret _
  obtain ⟨hm1, hU⟩ := hp
  have hm2 := Upd.old hU
  k_dflt (refine' code_def ?k1 ?k2 ?k3 ?k4 ?k5 ?kA ?kF ?kK ?k6 ?k7 ?k8 ?k9 ?kB ?_ ?c2 ?c3 ?c4 ?c5; (case kA => exact rfl); (case kF => exact rfl); (case kK => assumption); (case k1 => k_asm); (case k2 => k_asm); (case k3 => k_asm); (case k4 => k_asm); (case k5 => k_asm); (case k6 => k_is); (case k7 => k_is); (case k8 => ktr_room); (case k9 => exact BindsTo.of_eq rfl); (case c5 => decide); (case kB => exact locs rfl); (case c2 => exact rfl); (case c3 => exact rfl); (case c4 => exact rfl); k_whole; intro g' L' h' FG' F' N' B' X' T'; (try dsimp only); (try k_lift B'); (try k_fold))
  k_steps
  all_goals first | exact hret _ _ _ (by assumption) (by assumption)
theorem set_leap {w : World} {mean : ExcName → Option Value} {mg mb : Str → Option Value} {A : Around} {cn : Str} {cs : Scope} {a : Addr} {ccd : Value} {cl : List (Str × Addr)} {outer : List Env} {A₀ : Around} {base h₀ : Heap} {L : Addr} {m : Str → Option Value} {news news' : List (Addr × Obj)} {s : Shared} {Q : Unit → Shared → Prop} {E : Value → Shared → Prop} {x dx p : Addr} {n : Int} {b v : Bool} {t t1 t2 : Tok} {k : Nat}
    (hA : A.frames = some (envX cn cs L a ccd cl :: outer)) (hh : A.handled = none) (hdp : A.depth ≤ 316) (hu : A.units ≤ 450) (B : Below A₀ base outer h₀) (F : Fr h₀ L s.heap m) (X : (hd.heap_39 w.params).In h₀) (N : News h₀ L s.heap news) (T : Top hd.view_39 (looseW hd.view_39 [Str.ofString "SEQUENCE_TYPES", Str.ofString "to_unicode", Str.ofString "CaselessDict", Str.ofString "NAME", Str.ofString "param_value", Str.ofString "UNSAFE_CHAR", Str.ofString "QUNSAFE_CHAR", Str.ofString "validate_param_value", Str.ofString "QUOTABLE", Str.ofString "dquote", Str.ofString "q_split", Str.ofString "q_join", Str.ofString "Parameters", Str.ofString "vMonth"]) mean mg mb h₀) (hk : cs.kind = .function)
    (hm1 : (x, minst dx n t) ∈ news) (U : Upd dx (mdict w t1 t2 b p k) (mdict w t1 t2 v p k) news news')
    (h : ∀ h' tk', Fr h₀ L h' m → News h₀ L h' news' → Q () { s with heap := h', toks := tk' }) :
    wpAny (model (RowW.prog (OpenRow.toRowW (OpenLaw.row PySem.Challenge.rw_fc0076_01))) w) A (setAttr (.ref x) "leap" (.bool v)) Q E s := by
  revert T X
  k_fill
  intro X T
  k_dflt (refine' Sets.prop (p := 363) (fs := 362) ?k1 ?k2 ?k3 ?k4 ?k5 ?_; (case k2 => exact Frag.In.keeps X F.keep); (case k3 => exact InstAt.ofNewsAny N hm1 (Upd.old U) rfl); (case k1 => exact ⟨by k_is, over373 _, by k_is⟩); (case k4 => k_is); (case k5 => k_is); k_whole)
  refine codeAny_mono (Claim.use (cn := cn) (a := a) (ccd := ccd) (cl := cl) (s := { s with toks := s.toks + 1 }) (Q := fun _ => Q ()) (E := E) (ctr_setl w mean mg mb x dx p n b v t t1 t2 k news') hA hh ?_ ?_ B F X N T hk ⟨hm1, U⟩ ?_ trivial) ?_
  · exact Nat.le_trans (show A.depth ≤ 316 from hdp) (by decide)
  · exact Nat.le_trans (show A.units + 1 + 1 ≤ 450 + 2 from Nat.add_le_add_right hu 2) (by decide)
  · intro v h' tk' F' N'
    exact h h' tk' F' N'
  · intro r s' z
    rcases r with e | (v | _ | _ | _) <;> exact z
end Mine
end

section
open PySem PySem.W PyProof.Rows PySem.Calls
set_option maxRecDepth 100000
set_option maxHeartbeats 8000000
namespace Mine
theorem fresh_H2 : True := by
  w_top off
  trivial
section
variable {prog : Program} {w : World} {A : Around} {E : Value → Shared → Prop} {s : Shared} {Q : Value → Shared → Prop} {x : Str} {a : Int} {b : Array UInt8} {t u : Tok}
theorem ne_str_same (h : Q (.bool false) s) : wpAny (model prog w) A (compareOp .NotEq (.str x t) (.str x u)) Q E s := PySem.P.ne_str (by rw [bne_self_eq_false]; exact h)
theorem eq_str_same (h : Q (.bool true) s) : wpAny (model prog w) A (compareOp .Eq (.str x t) (.str x u)) Q E s := PySem.P.eq_str (by rw [beq_self_eq_true]; exact h)
theorem ne_int_same (h : Q (.bool false) s) : wpAny (model prog w) A (compareOp .NotEq (.int a t) (.int a u)) Q E s := PyProof.Rows.ne_int (by rw [bne_self_eq_false]; exact h)
theorem eq_int_same (h : Q (.bool true) s) : wpAny (model prog w) A (compareOp .Eq (.int a t) (.int a u)) Q E s := PyProof.Rows.eq_int (by rw [beq_self_eq_true]; exact h)
theorem ne_bytes_same (h : Q (.bool false) s) : wpAny (model prog w) A (compareOp .NotEq (.bytes b t) (.bytes b u)) Q E s := PySem.W.ne_bytes (by rw [bne_self_eq_false]; exact h)
end
structure Good (z : Str) (n : Nat) (b : Bool) : Prop where
  len : z.length ≤ 20
  rep : (reprText z).length ≤ 1000
  rd : lread z.cps.toList = some (n, b)
structure Enc (z : Str) : Prop where
  clean : ∀ c ∈ z.cps.toList, Str.isSurrogate c = false
  size : (u8 z).size ≤ sizeLine
theorem good_shown {n : Nat} {b : Bool} (hn : n < 10 ^ 11) : Good (shown n b) n b := ⟨Nat.le_trans (shown_len hn) (by decide), shown_repr hn, lread_shown n b⟩
theorem enc_shown {n : Nat} {b : Bool} (hn : n < 10 ^ 11) : Enc (shown n b) := ⟨ascii_clean (shown_ascii n b), by rw [u8_size (shown_ascii n b), sizeLine_eq]; have := shown_len (b := b) hn; omega⟩
theorem from_good (w : World) (mean : ExcName → Option Value) (mg mb : Str → Option Value) (y : Str) (ty : Tok) {n : Nat} {b : Bool} (g : Good y n b) : Claim (hd.heap_39 w.params) hd.view_39 (looseW hd.view_39 [Str.ofString "SEQUENCE_TYPES", Str.ofString "to_unicode", Str.ofString "CaselessDict", Str.ofString "NAME", Str.ofString "param_value", Str.ofString "UNSAFE_CHAR", Str.ofString "QUNSAFE_CHAR", Str.ofString "validate_param_value", Str.ofString "QUOTABLE", Str.ofString "dquote", Str.ofString "q_split", Str.ofString "q_join", Str.ofString "Parameters", Str.ofString "vMonth"]) w mean mg mb 310 430 (.ref 343) [.ref 373, .str y ty] noPre
    (fun h₀ L m news s Q => Made w n b h₀ L m news s Q) noErr :=
  from_some w mean mg mb y ty g.len g.rep g.rd
theorem call_encode_of {prog : Program} {w : World} {A : Around} {E : Value → Shared → Prop} {s : Shared} {z : Str} {t u : Tok} {Q : Value → Shared → Prop} (g : Enc z)
    (h : Q (.bytes (u8 z) s.toks) { s with toks := s.toks + 1 }) : wpAny (model prog w) A (call (.builtin "str.encode") [.str z t, .str (Str.ofString "utf-8") u]) Q E s :=
  call_encode g.clean g.size h
local macro_rules | `(tactic| walk_at "compareOp NotEq str str") => `(tactic| k_dflt (refine ne_str_same ?_))
local macro_rules | `(tactic| walk_at "compareOp Eq str str") => `(tactic| k_dflt (refine eq_str_same ?_))
local macro_rules | `(tactic| walk_at "compareOp NotEq int int") => `(tactic| k_dflt (refine ne_int_same ?_))
local macro_rules | `(tactic| walk_at "compareOp Eq int int") => `(tactic| k_dflt (refine eq_int_same ?_))
local macro_rules | `(tactic| walk_at "compareOp NotEq bytes bytes") => `(tactic| k_dflt (refine ne_bytes_same ?_))
local macro_rules | `(tactic| walk_at "call builtin:str.encode") => `(tactic| k_dflt (refine' call_encode_of ?g ?_; (case g => with_reducible assumption)))
local macro_rules | `(tactic| k_mem) => `(tactic| (show (_ : Addr × Obj) ∈ (_ : List (Addr × Obj)); ktr_member))
local macro_rules | `(tactic| k_inst) => `(tactic| (refine' InstAt.ofNewsAny ?N ?h1 ?h2 ?h3; (case N => k_asm); (case h1 => k_mem); (case h2 => k_mem); (case h3 => rfl)))
local macro_rules | `(tactic| walk_at "StrBack") => `(tactic| (dsimp only [StrBack]))
local macro_rules | `(tactic| walk_at "call type:int") => `(tactic| (k_here; k_dflt (refine' int_of ?k1 ?k2 ?k3 ?k4 ?k5 ?k6 ?k7 ?_; (case k1 => rfl); (case k2 => exact Nat.le_of_ble_eq_true rfl); (case k3 => exact Nat.le_of_ble_eq_true rfl); (case k4 => k_asm); (case k5 => k_asm); (case k6 => k_asm); (case k7 => k_mem); k_whole; intro tk')))
local macro_rules | `(tactic| walk_at "getAttr ref") => `(tactic| (k_here; (with_reducible show wpAny _ _ (getAttr (Value.ref _) (PySem.Str.ofString "leap") _) _ _ _); k_dflt (refine' leap_of ?k1 ?k2 ?k3 ?k4 ?k5 ?k6 ?k7 ?k8 ?k9 ?k10 ?_; (case k1 => rfl); (case k2 => exact Nat.le_of_ble_eq_true rfl); (case k3 => exact Nat.le_of_ble_eq_true rfl); (case k4 => k_asm); (case k5 => k_asm); (case k6 => k_asm); (case k7 => k_mem); (case k8 => k_mem); (case k9 => k_is); (case k10 => k_is); k_whole; intro h' tk' F' N')))
local macro_rules | `(tactic| walk_at "getMethod ref") => `(tactic| (k_here; k_dflt (refine' method_fnI ?k1 ?k2 ?k3 ?k4 ?k5 ?k6 ?k7 ?k8 ?_; (case k1 => exact Frag.In.keeps (by k_asm) (Fr.keep (by k_asm))); (case k2 => k_inst); (case k3 => k_is); (case k4 => decide +kernel); (case k5 => k_is); (case k6 => k_is); (case k7 => k_is); (case k8 => k_get); k_whole)))
local macro_rules | `(tactic| walk_at "getMethod str") => `(tactic| (k_here; k_dflt (refine method_encode ?_)))
set_option hygiene false in
local macro_rules | `(tactic| walk_at "call ref") => `(tactic| (k_here; k_dflt (refine' wpAny_call (Claim.use (ctr_str _ _ _ _ _ _ _ _ _ _ _ _ _ ?h0 ?h1) ?kA ?kh ?kd ?ku ?kB ?kF ?kX ?kN2 ?kT ?kk ?kp ?_ trivial); (case kA => rfl); (case kh => rfl); (case kd => exact Nat.le_of_ble_eq_true rfl); (case ku => exact Nat.le_of_ble_eq_true rfl); (case kB => k_asm); (case kF => k_asm); (case kX => k_asm); (case kN2 => k_asm); (case kT => k_asm); (case kk => rfl); (case kp => exact ⟨by k_mem, by k_mem⟩); (case h0 => exact Int.natCast_nonneg _); (case h1 => omega); k_whole; intro tk' h' tk'' F' N')))
set_option hygiene false in
local macro_rules | `(tactic| walk_at "call ref") => `(tactic| (k_here; k_dflt (refine' wpAny_call (Claim.use (ctr_ical _ _ _ _ _ _ _ _ _ _ _ _ _ ?h0 ?h1 ?h2 ?h3) ?kA ?kh ?kd ?ku ?kB ?kF ?kX ?kN2 ?kT ?kk ?kp ?_ trivial); (case kA => rfl); (case kh => rfl); (case kd => exact Nat.le_of_ble_eq_true rfl); (case ku => exact Nat.le_of_ble_eq_true rfl); (case kB => k_asm); (case kF => k_asm); (case kX => k_asm); (case kN2 => k_asm); (case kT => k_asm); (case kk => rfl); (case kp => exact ⟨by k_mem, by k_mem⟩); (case h0 => exact Int.natCast_nonneg _); (case h1 => omega); (case h2 => exact ascii_clean (shown_ascii _ _)); (case h3 => (rw [u8_size (shown_ascii _ _), sizeLine_eq]; have := shown_len (b := false) hn; have := shown_len (b := true) hn; omega)); k_whole; intro tk' h' tk'' F' N')))
set_option hygiene false in
local macro_rules | `(tactic| walk_at "call ref") => `(tactic| (k_here; k_dflt (refine' call_monthm ?kA ?kh ?kd ?ku ?kB ?kF ?kX ?kN ?kT ?kk hn ?m1 ?m2 ?_; (case kA => rfl); (case kh => rfl); (case kd => exact Nat.le_of_ble_eq_true rfl); (case ku => exact Nat.le_of_ble_eq_true rfl); (case kB => k_asm); (case kF => k_asm); (case kX => k_asm); (case kN => k_asm); (case kT => k_asm); (case kk => rfl); (case m1 => k_mem); (case m2 => k_mem); k_whole; intro x' dx' p' dp' t' t1' t2' k' h' tk' e1 e2 e3 e4 F' N')))
set_option hygiene false in
local macro_rules | `(tactic| walk_at "call ref") => `(tactic| (k_here; k_dflt (refine' call_meth ?kN ?kq ?_; (case kN => k_asm); (case kq => k_mem); refine' (Claim.use (from_good _ _ _ _ _ _ ?g) ?kA ?kh ?kd ?ku ?kB ?kF ?kX ?kN2 ?kT ?kk trivial ?_ trivial); (case g => with_reducible assumption); (case kA => rfl); (case kh => rfl); (case kd => exact Nat.le_of_ble_eq_true rfl); (case ku => exact Nat.le_of_ble_eq_true rfl); (case kB => k_asm); (case kF => k_asm); (case kX => k_asm); (case kN2 => k_asm); (case kT => k_asm); (case kk => rfl); k_whole; intro x' dx' p' dp' t' t1' t2' k' h' tk' e1 e2 e3 e4 F' N')))
set_option hygiene false in
local macro_rules | `(tactic| walk_at "call ref") => `(tactic| (k_here; k_dflt (refine' wpAny_call (Claim.use (read_some _ _ _ _ y ty hy hr) ?kA ?kh ?kd ?ku ?kB ?kF ?kX ?kN2 ?kT ?kk trivial ?_ trivial); (case kA => rfl); (case kh => rfl); (case kd => exact Nat.le_of_ble_eq_true rfl); (case ku => exact Nat.le_of_ble_eq_true rfl); (case kB => k_asm); (case kF => k_asm); (case kX => k_asm); (case kN2 => k_asm); (case kT => k_asm); (case kk => rfl); k_whole; intro D' t' h' tk' F' N')))
theorem News.sub {h₀ h : Heap} {L : Addr} {l news : List (Addr × Obj)} (N : News h₀ L h l) (hs : ∀ q ∈ news, q ∈ l) : News h₀ L h news := fun p hp => N p (hs p hp)
theorem head_rest {p dp d : Addr} {o1 o2 : Obj} {l : List (Addr × Obj)} (e2 : p ≠ d) (e3 : dp ≠ d) (e4 : ∀ q ∈ l, q.1 ≠ d) : ∀ q ∈ (p, o1) :: (dp, o2) :: l, q.1 ≠ d := by
  intro q hq
  rcases List.mem_cons.mp hq with rfl | hq
  · exact e2
  rcases List.mem_cons.mp hq with rfl | hq
  · exact e3
  exact e4 q hq
set_option hygiene false in
local macro_rules | `(tactic| walk_at "setAttr ref") => `(tactic| (k_here; k_dflt (refine' set_leap ?kA ?kh ?kd ?ku ?kB ?kF ?kX ?kN ?kT ?kk ?m1 ?U ?_; (case kA => rfl); (case kh => rfl); (case kd => exact Nat.le_of_ble_eq_true rfl); (case ku => exact Nat.le_of_ble_eq_true rfl); (case kB => k_asm); (case kF => k_asm); (case kX => k_asm); (case kN => k_asm); (case kT => k_asm); (case kk => rfl); (case m1 => k_mem); (case U => exact Upd.tail (ne_news (by assumption) (.head _) (.tail _ (.tail _ (.tail _ (.head _)))) (by intro h; cases h)) (Upd.tail (ne_news (by assumption) (.tail _ (.head _)) (.tail _ (.tail _ (.tail _ (.head _)))) (by intro h; cases h)) (Upd.tail e1 (Upd.head (head_rest e2 e3 e4))))); k_whole; intro h' tk' F' N')))
theorem holds_some : ∀ (w : World) (mean : ExcName → Option Value) (mg mb : Str → Option Value) (y : Str) (ty : Tok) (n : Nat) (b : Bool), y.length ≤ 20 → (reprText y).length ≤ 1000 → lread y.cps.toList = some (n, b) → n < 10 ^ 11 →
    ∀ (gd : Option (List Code)) (cn : Str) (cs : Scope) (a : Addr) (ccd : Value) (A₀ : Around) (base h₀ : Heap) (L : Addr) (m : Str → Option Value) (news : List (Addr × Obj)) (s : Shared) (Q E : Value → Shared → Prop),
    Below A₀ base [] h₀ → Fr h₀ L s.heap m → (hd.heap_39 w.params).In h₀ → News h₀ L s.heap news → Top hd.view_39 (looseW hd.view_39 [Str.ofString "SEQUENCE_TYPES", Str.ofString "to_unicode", Str.ofString "CaselessDict", Str.ofString "NAME", Str.ofString "param_value", Str.ofString "UNSAFE_CHAR", Str.ofString "QUNSAFE_CHAR", Str.ofString "validate_param_value", Str.ofString "QUOTABLE", Str.ofString "dquote", Str.ofString "q_split", Str.ofString "q_join", Str.ofString "Parameters", Str.ofString "vMonth"]) mean mg mb h₀ → cs.kind = .function → (hd.heap_39 w.params).In base → Top hd.view_39 (looseW hd.view_39 [Str.ofString "SEQUENCE_TYPES", Str.ofString "to_unicode", Str.ofString "CaselessDict", Str.ofString "NAME", Str.ofString "param_value", Str.ofString "UNSAFE_CHAR", Str.ofString "QUNSAFE_CHAR", Str.ofString "validate_param_value", Str.ofString "QUOTABLE", Str.ofString "dquote", Str.ofString "q_split", Str.ofString "q_join", Str.ofString "Parameters", Str.ofString "vMonth"]) mean mg mb base →
    (∀ h' tk', Fr h₀ L h' m → News h₀ L h' news → Q (.bool true) { s with heap := h', toks := tk' }) →
    codeAny (model (RowW.prog (OpenRow.toRowW (OpenLaw.row PySem.Challenge.rw_fc0076_01))) w) (ktrTop 303 8 gd cn cs L a ccd [] []) (.call (.ref 403) ⟨[.str y ty], []⟩) (fun r s' => match r with | .ok (.ret v) => Q v s' | .ok _ => False | .error e => E e s') s := by
  k_fill
  intro w mean mg mb y ty n b hy hrep hr hn gd cn cs a ccd A₀ base h₀ L m news s Q E B F X N T hk XB TB hret
  have hg : Good y n b := ⟨hy, hrep, hr⟩
  cases b
  case false =>
    have hg2 : Good (Str.ofString (toString (n : Int)) ++ Str.ofString "") n false := good_shown (b := false) hn
    have he2 : Enc (Str.ofString (toString (n : Int)) ++ Str.ofString "") := enc_shown (b := false) hn
    k_dflt (refine' code_defS0 ?k1 ?k2 ?k3 ?k4 ?k5 ?kA ?k6 ?k7 ?k8 ?k9 ?kB ?_ ?cK ?c2 ?c3 ?c4 ?c5; (case kA => exact rfl); (case k2 => k_asm); (case k1 => k_asm); (case k3 => k_asm); (case k4 => k_asm); (case k5 => k_asm); (case k6 => k_is); (case k7 => k_is); (case k8 => ktr_room); (case k9 => exact BindsTo.of_eq rfl); (case kB => exact locs rfl); (case cK => assumption); (case c2 => exact rfl); (case c3 => exact rfl); (case c4 => exact rfl); (case c5 => decide); k_whole; intro g' L' h' FG' F' N' B' X' T' D'; (try dsimp only); (try k_lift B'); (try k_fold))
    k_steps
    all_goals first | exact hret _ _ (by assumption) (News.sub (by assumption) (by intro q hq; repeat (first | exact hq | apply List.Mem.tail)))
  case true =>
    have hg2 : Good (Str.ofString (toString (n : Int)) ++ Str.ofString "L") n true := good_shown (b := true) hn
    have he2 : Enc (Str.ofString (toString (n : Int)) ++ Str.ofString "L") := enc_shown (b := true) hn
    k_dflt (refine' code_defS0 ?k1 ?k2 ?k3 ?k4 ?k5 ?kA ?k6 ?k7 ?k8 ?k9 ?kB ?_ ?cK ?c2 ?c3 ?c4 ?c5; (case kA => exact rfl); (case k2 => k_asm); (case k1 => k_asm); (case k3 => k_asm); (case k4 => k_asm); (case k5 => k_asm); (case k6 => k_is); (case k7 => k_is); (case k8 => ktr_room); (case k9 => exact BindsTo.of_eq rfl); (case kB => exact locs rfl); (case cK => assumption); (case c2 => exact rfl); (case c3 => exact rfl); (case c4 => exact rfl); (case c5 => decide); k_whole; intro g' L' h' FG' F' N' B' X' T' D'; (try dsimp only); (try k_lift B'); (try k_fold))
    k_steps
    all_goals first | exact hret _ _ (by assumption) (News.sub (by assumption) (by intro q hq; repeat (first | exact hq | apply List.Mem.tail)))
end Mine
end

section
open PySem PySem.W PyProof.Rows PySem.Calls
set_option maxRecDepth 100000
set_option maxHeartbeats 4000000
namespace Mine
theorem fresh_H3 : True := by
  w_top off
  trivial
/-- a text that the law may hand on -/
structure Fit (y : Str) : Prop where
  len : y.length ≤ 11
  low : ∀ c ∈ y.cps.toList, c < 16 ^ 8
theorem Fit.rep {y : Str} (h : Fit y) : (reprText y).length ≤ 1000 := by
  have := StrLaws.reprText_len y h.low
  have := h.len
  omega
theorem ctr_holds : ∀ (w : World) (mean : ExcName → Option Value) (mg mb : Str → Option Value) (y : Str) (ty : Tok), Fit y →
    ∀ (gd : Option (List Code)) (cn : Str) (cs : Scope) (a : Addr) (ccd : Value) (A₀ : Around) (base h₀ : Heap) (L : Addr) (m : Str → Option Value) (news : List (Addr × Obj)) (s : Shared) (Q E : Value → Shared → Prop),
    Below A₀ base [] h₀ → Fr h₀ L s.heap m → (hd.heap_39 w.params).In h₀ → News h₀ L s.heap news → Top hd.view_39 (looseW hd.view_39 [Str.ofString "SEQUENCE_TYPES", Str.ofString "to_unicode", Str.ofString "CaselessDict", Str.ofString "NAME", Str.ofString "param_value", Str.ofString "UNSAFE_CHAR", Str.ofString "QUNSAFE_CHAR", Str.ofString "validate_param_value", Str.ofString "QUOTABLE", Str.ofString "dquote", Str.ofString "q_split", Str.ofString "q_join", Str.ofString "Parameters", Str.ofString "vMonth"]) mean mg mb h₀ → cs.kind = .function → (hd.heap_39 w.params).In base → Top hd.view_39 (looseW hd.view_39 [Str.ofString "SEQUENCE_TYPES", Str.ofString "to_unicode", Str.ofString "CaselessDict", Str.ofString "NAME", Str.ofString "param_value", Str.ofString "UNSAFE_CHAR", Str.ofString "QUNSAFE_CHAR", Str.ofString "validate_param_value", Str.ofString "QUOTABLE", Str.ofString "dquote", Str.ofString "q_split", Str.ofString "q_join", Str.ofString "Parameters", Str.ofString "vMonth"]) mean mg mb base →
    (∀ h' tk', Fr h₀ L h' m → News h₀ L h' news → Q (.bool true) { s with heap := h', toks := tk' }) →
    codeAny (model (RowW.prog (OpenRow.toRowW (OpenLaw.row PySem.Challenge.rw_fc0076_01))) w) (ktrTop 303 8 gd cn cs L a ccd [] []) (.call (.ref 403) ⟨[.str y ty], []⟩) (fun r s' => match r with | .ok (.ret v) => Q v s' | .ok _ => False | .error e => E e s') s := by
  intro w mean mg mb y ty g gd cn cs a ccd A₀ base h₀ L m news s Q E B F X N T hk XB TB hret
  have hl := g.len
  cases hr : lread y.cps.toList with
  | none => exact holds_none w mean mg mb y ty (by omega) g.rep hr gd cn cs a ccd A₀ base h₀ L m news s Q E B F X N T hk XB TB hret
  | some q =>
    obtain ⟨n, b⟩ := q
    have hlen : y.cps.toList.length = y.length := Array.length_toList
    have hn : n < 10 ^ 11 := lread_lt (by omega) hr
    exact holds_some w mean mg mb y ty n b (by omega) g.rep hr hn gd cn cs a ccd A₀ base h₀ L m news s Q E B F X N T hk XB TB hret
theorem call_holds {w : World} {mean : ExcName → Option Value} {mg mb : Str → Option Value} {y : Str} {ty : Tok} (g : Fit y) {A : Around} {cn : Str} {cs : Scope} {a : Addr} {ccd : Value} {A₀ : Around} {base h₀ : Heap} {L : Addr} {m : Str → Option Value} {news : List (Addr × Obj)} {s : Shared} {Q E : Value → Shared → Prop}
    (hA : A.frames = some [envOf cn cs L a ccd]) (hh : A.handled = none) (hd : A.depth ≤ 303) (hu : A.units ≤ 8) (B : Below A₀ base [] h₀) (F : Fr h₀ L s.heap m) (X : (Mine.hd.heap_39 w.params).In h₀) (N : News h₀ L s.heap news) (T : Top Mine.hd.view_39 (looseW Mine.hd.view_39 [Str.ofString "SEQUENCE_TYPES", Str.ofString "to_unicode", Str.ofString "CaselessDict", Str.ofString "NAME", Str.ofString "param_value", Str.ofString "UNSAFE_CHAR", Str.ofString "QUNSAFE_CHAR", Str.ofString "validate_param_value", Str.ofString "QUOTABLE", Str.ofString "dquote", Str.ofString "q_split", Str.ofString "q_join", Str.ofString "Parameters", Str.ofString "vMonth"]) mean mg mb h₀) (hk : cs.kind = .function) (XB : (Mine.hd.heap_39 w.params).In base) (TB : Top Mine.hd.view_39 (looseW Mine.hd.view_39 [Str.ofString "SEQUENCE_TYPES", Str.ofString "to_unicode", Str.ofString "CaselessDict", Str.ofString "NAME", Str.ofString "param_value", Str.ofString "UNSAFE_CHAR", Str.ofString "QUNSAFE_CHAR", Str.ofString "validate_param_value", Str.ofString "QUOTABLE", Str.ofString "dquote", Str.ofString "q_split", Str.ofString "q_join", Str.ofString "Parameters", Str.ofString "vMonth"]) mean mg mb base)
    (hret : ∀ h' tk', Fr h₀ L h' m → News h₀ L h' news → Q (.bool true) { s with heap := h', toks := tk' }) :
    wpAny (model (RowW.prog (OpenRow.toRowW (OpenLaw.row PySem.Challenge.rw_fc0076_01))) w) A (call (.ref 403) [.str y ty]) Q E s := by
  refine wpAny_call ?_
  intro Γ q e hΓ
  exact ctr_holds w mean mg mb y ty g A.guards cn cs a ccd A₀ base h₀ L m news s Q E B F X N T hk XB TB hret Γ q e ⟨hΓ.1.trans hh, Nat.le_trans hΓ.2.1 hd, fun l z => hΓ.2.2.1 l (hA.trans z), fun l z => hΓ.2.2.2.1 l z, Nat.le_trans hΓ.2.2.2.2 hu⟩
end Mine
end

section
open PySem PySem.W PyProof.Rows PySem.Calls PySem.NumText
set_option maxRecDepth 100000
set_option maxHeartbeats 4000000
namespace Mine
theorem fresh_X1 : True := by
  w_top off
  trivial
/-- a short text of signs that are no wonder -/
structure Small (k : Nat) (z : Str) : Prop where
  len : z.length ≤ k
  low : ∀ c ∈ z.cps.toList, c < 16 ^ 8
theorem Small.mono {j k : Nat} {z : Str} (h : Small j z) (e : j ≤ k) : Small k z := ⟨Nat.le_trans h.len e, h.low⟩
theorem Small.fit {k : Nat} {z : Str} (h : Small k z) (e : k ≤ 11) : Fit z := ⟨Nat.le_trans h.len e, h.low⟩
theorem Small.add {j k : Nat} {x y : Str} (h : Small j x) (g : Small k y) : Small (j + k) (x ++ y) := by
  refine ⟨?_, fun c hc => ?_⟩
  · show (x.cps ++ y.cps).size ≤ j + k
    have := h.len; have := g.len
    rw [Array.size_append]
    have : x.cps.size ≤ j := h.len
    have : y.cps.size ≤ k := g.len
    omega
  · have : c ∈ (x.cps ++ y.cps).toList := hc
    rw [Array.toList_append] at this
    rcases List.mem_append.mp this with q | q
    · exact h.low c q
    · exact g.low c q
theorem Small.slice {k : Nat} {x : Str} {l u : Option Int} (h : Small k x) : Small k (Txt.slice x l u) := by
  refine ⟨Nat.le_trans (Txt.slice_le x l u) h.len, fun c hc => ?_⟩
  unfold Txt.slice at hc
  split at hc
  · exact h.low c hc
  · have : c ∈ (Builtin.Str.strSliceIndices l u 1 x.length).filterMap (x.cps[·]?) := hc
    obtain ⟨i, _, hi⟩ := List.mem_filterMap.mp this
    exact h.low c (by simpa using Array.mem_of_getElem? hi)
theorem small_num {n : Int} (h0 : 0 ≤ n) (h : n < 10 ^ 10) : Small 10 (Str.ofString (toString n)) := by
  refine ⟨KT.len_num h0 h, fun c hc => ?_⟩
  obtain ⟨m, rfl⟩ := Int.eq_ofNat_of_zero_le h0
  rw [KIN.signs_num] at hc
  have := toDigits_digits m c hc
  omega
theorem small_digit {n : Int} (h0 : 0 ≤ n) (h : n < 10) : Small 1 (Str.ofString (toString n)) := by
  refine ⟨?_, (small_num h0 (by omega)).low⟩
  obtain ⟨m, rfl⟩ := Int.eq_ofNat_of_zero_le h0
  have hl : (Str.ofString (toString ((m : Nat) : Int))).cps.toList.length = (Str.ofString (toString ((m : Nat) : Int))).length := Array.length_toList
  rw [KIN.signs_num, List.length_map, Nat.toDigits_of_lt_base (by omega)] at hl
  rw [← hl]
  exact Nat.le_refl 1
theorem small_mod {e : Int} : Small 1 (Str.ofString (toString (e.fmod 10))) := small_digit (by rw [Int.fmod_eq_emod_of_nonneg e (by decide)]; omega) (by rw [Int.fmod_eq_emod_of_nonneg e (by decide)]; omega)
theorem small_two {n : Int} (h0 : 0 ≤ n) (h : n < 14) : Small 2 (Str.ofString (toString n)) := by
  refine ⟨?_, (small_num h0 (by omega)).low⟩
  have : ∀ m : Nat, m < 14 → (Str.ofString (toString ((m : Nat) : Int))).length ≤ 2 := by decide +kernel
  obtain ⟨m, rfl⟩ := Int.eq_ofNat_of_zero_le h0
  exact this m (by omega)
theorem item_low {i : Int} : ∀ c ∈ (Txt.item (Str.ofString "0123456789") i).cps.toList, c < 16 ^ 8 := by
  intro c hc
  have : c = (Txt.charAt (Str.ofString "0123456789") i).getD 0 := by
    have : c ∈ [(Txt.charAt (Str.ofString "0123456789") i).getD 0] := hc
    simpa using this
  rw [this]
  cases h : Txt.charAt (Str.ofString "0123456789") i with
  | none => show 0 < _; decide
  | some d =>
    show d < _
    unfold Txt.charAt at h
    obtain ⟨j, _, hj⟩ := Option.bind_eq_some_iff.mp h
    have hm : d ∈ (Str.ofString "0123456789").cps.toList := by simpa using Array.mem_of_getElem? hj
    rw [digits_str'] at hm
    simp only [List.mem_cons, List.not_mem_nil, or_false] at hm
    omega
where digits_str' : (Str.ofString "0123456789").cps.toList = [48, 49, 50, 51, 52, 53, 54, 55, 56, 57] := by decide +kernel
theorem glued_low {g : Int → Str} (hg : ∀ a, ∀ c ∈ (g a).cps.toList, c < 16 ^ 8) : ∀ (l : List Int) (acc : Array Nat), (∀ c ∈ acc.toList, c < 16 ^ 8) → ∀ c ∈ ((l.map g).foldl (fun acc p => acc ++ (Str.ofString "").cps ++ p.cps) acc).toList, c < 16 ^ 8
  | [], _, ha => ha
  | a :: l, acc, ha => by
    rw [List.map_cons, List.foldl_cons]
    refine glued_low hg l _ fun c hc => ?_
    have e : (Str.ofString "").cps = #[] := by decide +kernel
    rw [e, Array.append_empty, Array.toList_append] at hc
    rcases List.mem_append.mp hc with q | q
    · exact ha c q
    · exact hg a c q
theorem small_join {k : Nat} {g : Int → Str} {l : List Int} (hg : ∀ a, ∀ c ∈ (g a).cps.toList, c < 16 ^ 8) (hl : (Txt.join (Str.ofString "") (l.map g)).length = l.length) (hk : l.length ≤ k) : Small k (Txt.join (Str.ofString "") (l.map g)) := by
  refine ⟨by rw [hl]; exact hk, ?_⟩
  show ∀ c ∈ (((l.map g).drop 1).foldl (fun acc p => acc ++ (Str.ofString "").cps ++ p.cps) ((l.map g).headD Str.empty).cps).toList, c < 16 ^ 8
  cases l with
  | nil => intro c hc; cases hc
  | cons a l => exact glued_low hg l _ (hg a)
/-- two short texts on end: all that is kept is that the whole is short -/
theorem add_small {prog : Program} {w : World} {A : Around} {E : Value → Shared → Prop} {s : Shared} {x y : Str} {t u : Tok} {j k : Nat} {Q : Value → Shared → Prop} (hx : Small j x) (hy : Small k y) (e : j + k ≤ 100)
    (h : ∀ z t' tk, Small (j + k) z → Q (.str z t') { s with toks := tk }) : wpAny (model prog w) A (binaryOp .Add (.str x t) (.str y u)) Q E s := by
  have := hx.len
  have := hy.len
  exact PyProof.Rows.add_str (fun t' tk => h _ t' tk (hx.add hy)) (by rw [sizeLine_eq]; omega)
theorem small_all {ws : List Str} (h : (ws.all fun z => decide (z.length ≤ 1) && z.cps.toList.all fun c => decide (c < 16 ^ 8)) = true) : ∀ z ∈ ws, Small 1 z := by
  rw [List.all_eq_true] at h
  intro z hz
  have := h z hz
  rw [Bool.and_eq_true, decide_eq_true_eq, List.all_eq_true] at this
  exact ⟨this.1, fun c hc => of_decide_eq_true (this.2 c hc)⟩
/-- a written list of short texts at some place: all that is kept is that the text is short -/
theorem item_small {prog : Program} {w : World} {A : Around} {E : Value → Shared → Prop} {s : Shared} {value slice : PySem.Expr} {l : Addr} {vs : List Value} {ws : List Str} {e d : Int} {u : Tok} {Q : Value → Shared → Prop}
    (hl : s.heap.IsList l vs.toArray) (hw : StrsAre vs ws) (h1 : d ≤ (ws.length : Int)) (h0 : 0 < d) (hd : d < 100) (hz : (ws.all fun z => decide (z.length ≤ 1) && z.cps.toList.all fun c => decide (c < 16 ^ 8)) = true) (h : ∀ z t', Small 1 z → Q (.str z t') s)
    (hs : subscripted slice false (.ref l) (.int (e.fmod d) u) = operate [.ref l, .int (e.fmod d) u] (getItem (.ref l) (.int (e.fmod d) u)) := by with_unfolding_all rfl) :
    wpAny (model prog w) A (subscriptTail value slice (.ref l) (.int (e.fmod d) u)) Q E s := by
  have a : 0 ≤ e.fmod d := Int.fmod_nonneg_of_pos e h0
  have b : e.fmod d < d := Int.fmod_lt_of_pos e h0
  refine KTb.item_list hl hw a (by omega) (by omega) (fun t' hlt => h _ t' (small_all hz _ ?_)) hs
  rw [List.getD_eq_getElem?_getD, List.getElem?_eq_getElem hlt]
  exact List.getElem_mem _
theorem len_small {prog : Program} {w : World} {A : Around} {E : Value → Shared → Prop} {s : Shared} {k : Nat} {z : Str} {t : Tok} {Q : Value → Shared → Prop} (hz : Small k z) (hk : k ≤ 100) (h : ∀ t' tk, Q (.int z.length t') { s with toks := tk }) :
    wpAny (model prog w) A (call (.builtin "len") [.str z t]) Q E s := by
  have := hz.len
  exact PySem.P.len_str (by omega) (h _ _)
theorem ten_ne (k : Nat) : (10 : Int) ^ k ≠ 0 := by
  induction k with
  | zero => decide
  | succ k ih => rw [Int.pow_succ]; omega
end Mine
end

section
open PySem PySem.W PyProof.Rows PySem.Calls
set_option maxRecDepth 100000
set_option maxHeartbeats 8000000
namespace Mine
theorem fresh_C2 : True := by
  w_top off
  trivial
set_option hygiene false in
local macro_rules | `(tactic| walk_at "CompSrc") => `(tactic| (k_here; (try k_fmods); k_dflt (refine LCg.CompSrc.range (by rfl) (by k_asm) (by k_asm) (by assumption) (by first | decide | exact small_one (by l_bnd) (by l_bnd) (by l_bnd) (by l_bnd)) (by first | exact rangeSize_nat _ _ | rfl) (by first | exact Nat.le_of_ble_eq_true rfl | (rw [PySem.sizeLine_eq]; first | omega | ((have hb9 := len_ints_list (by lay_of)); omega)) | size_fits) ?_; intro g'; (refine' kct_range (fun k => Txt.item (Str.ofString "0123456789") ((e.fdiv (10 ^ (k + 1).toNat)).fmod 10)) (fun k' t' I' oI' C' oC' D' m' ys' h' tk' E' hlo' hhi' hC' hx' F' N' off' ne' => ?_) ?_); (all_goals (try (simp only [LCg.Off3, and_true] at off'))); (all_goals (try ((show KPfMark → _); intro hMark'))); kcf_last)))
local macro_rules | `(tactic| walk_at "CompEnd") => `(tactic| (k_here; k_dflt (refine' LCg.CompEnd.intro ?F ?N _ ?sub ?off ?S (kct_el ?e rfl rfl); (case F => assumption); (case N => assumption); (case sub => exact fun p hp => hp); (case off => first | assumption | (simp only [LCg.Off3, and_true]; assumption)); (case S => first | lcg_src | assumption); (case e => rfl))))
set_option hygiene false in
local macro_rules | `(tactic| walk_at "binaryOp Add str str") => `(tactic| (k_here; k_dflt (refine' add_small ?a ?b ?c ?_; (case a => first | assumption | exact small_mod | exact Small.slice (by assumption) | exact (Small.mk (k := 1) (by decide +kernel) (by decide +kernel))); (case b => first | assumption | exact small_join (k := 3) (fun a => item_low) (by assumption) (by rw [rangeKs_length]; omega) | exact Small.slice (by assumption) | exact (Small.mk (k := 1) (by decide +kernel) (by decide +kernel))); (case c => decide); intro z' t' tk' hz'; have hl' := Small.len hz')))
set_option hygiene false in
local macro_rules | `(tactic| walk_at "subscriptTail") => `(tactic| (k_here; (with_reducible show wpAny _ _ (subscriptTail _ _ (Value.ref _) (Value.int _ _)) _ _ _); k_dflt (refine' item_small ?hl ?hw ?h1 ?h0 ?hd ?hz ?_ (by with_unfolding_all rfl); (case hl => first | assumption | is_list | exact News.isList (by k_asm) (by k_mem)); (case hw => first | exact (PyProof.Rows.StrsAre.cons _ _ (PyProof.Rows.StrsAre.cons _ _ PyProof.Rows.StrsAre.nil)) | exact (PyProof.Rows.StrsAre.cons _ _ (PyProof.Rows.StrsAre.cons _ _ (PyProof.Rows.StrsAre.cons _ _ (PyProof.Rows.StrsAre.cons _ _ (PyProof.Rows.StrsAre.cons _ _ (PyProof.Rows.StrsAre.cons _ _ (PyProof.Rows.StrsAre.cons _ _ (PyProof.Rows.StrsAre.cons _ _ (PyProof.Rows.StrsAre.cons _ _ (PyProof.Rows.StrsAre.cons _ _ PyProof.Rows.StrsAre.nil))))))))))); (case h1 => decide); (case h0 => decide); (case hd => decide); (case hz => decide +kernel); intro z' t' hz'; have hl' := Small.len hz')))
local macro_rules | `(tactic| walk_at "call builtin:len") => `(tactic| (k_here; k_dflt (refine' len_small ?h1 ?h2 ?_; (case h1 => assumption); (case h2 => decide); intro t' tk')))
theorem ctr_text : ∀ (w : World) (mean : ExcName → Option Value) (mg mb : Str → Option Value) (e : Int) (tk : Tok), 0 ≤ e →
    Claim (hd.heap_39 w.params) hd.view_39 (looseW hd.view_39 [Str.ofString "SEQUENCE_TYPES", Str.ofString "to_unicode", Str.ofString "CaselessDict", Str.ofString "NAME", Str.ofString "param_value", Str.ofString "UNSAFE_CHAR", Str.ofString "QUNSAFE_CHAR", Str.ofString "validate_param_value", Str.ofString "QUOTABLE", Str.ofString "dquote", Str.ofString "q_split", Str.ofString "q_join", Str.ofString "Parameters", Str.ofString "vMonth"]) w mean mg mb 310 60 (.ref 382) [.int e tk] noPre
      (fun h₀ L m news s Q => ∀ x t h' tk', Fr h₀ L h' m → News h₀ L h' news → Fit x → Q (.str x t) { s with heap := h', toks := tk' }) noErr := by
  delta Claim
  k_fill
  intro w mean mg mb e tk he gd cn cs a ccd cl outer A₀ base h₀ L m news s Q E B F X N T hk _ hret _
  k_dflt (refine' code_defC ?k1 ?k2 ?k3 ?k4 ?k5 ?kA ?kF ?kK ?k6 ?k7 ?k8 ?k9 ?kB ?kD ?_ ?c2 ?c3 ?c4; (case kA => exact rfl); (case kF => exact rfl); (case kK => assumption); (case k1 => k_asm); (case k2 => k_asm); (case k3 => k_asm); (case k4 => k_asm); (case k5 => k_asm); (case k6 => k_is); (case k7 => k_is); (case k8 => ktr_room); (case k9 => first | exact BindsTo.of_eq rfl | exact binds_K (by k_in) rfl (by k_is) rfl rfl rfl | fail "k_enter: no rule for these arguments"); (case kB => exact rfl); (case kD => decide +kernel); (case c2 => exact rfl); (case c3 => exact rfl); (case c4 => exact rfl); k_whole; intro g' L' h' tk' cells' FG' F' N' Y' B' X' T' l1; (try k_lt l1); k_cells Y'; (try simp only [List.cons_append, List.nil_append] at N'); (try dsimp only); (try k_lift B'); (try k_fold))
  k_steps
  all_goals first | exact absurd (show (10 : Int) ^ (k' + 1).toNat = 0 by assumption) (ten_ne _) | (exfalso; omega) | exact hret _ _ _ _ (by assumption) (News.sub (by assumption) (by intro q hq; repeat (first | exact hq | apply List.Mem.tail))) (Small.fit hz' (by decide))
end Mine
end

section
open PySem PySem.W PyProof.Rows PySem.Calls PySem.NumText
set_option maxRecDepth 100000
set_option maxHeartbeats 4000000
namespace Mine
theorem fresh_X2 : True := by
  w_top off
  trivial
section
variable {prog : Program} {w : World} {A : Around} {E : Value → Shared → Prop} {s : Shared} {Q : Value → Shared → Prop}
abbrev absl (ns : List Int) : List Int := List.map (fun k' => if k' < 0 then -k' else k') (ns ++ [12, 345, 30])
theorem absl_pos (ns : List Int) : 0 < (((absl ns).length : Nat) : Int) := by simp [absl]; omega
theorem absl_nn {ns : List Int} {x : Int} (h : x ∈ absl ns) : 0 ≤ x := by
  obtain ⟨y, _, rfl⟩ := List.mem_map.mp h
  split <;> omega
theorem floor_gen {a b : Int} {t u : Tok} (ha : 0 ≤ a) (hb : 0 < b) (h : ∀ y t' tk, 0 ≤ y → Q (.int y t') { s with toks := tk })
    (hp : Builtin.divisionGoesByPylong a b = false ∨ PySem.PylongRoom (model prog w) A s) : wpAny (model prog w) A (binaryOp .FloorDiv (.int a t) (.int b u)) Q E s :=
  floordiv_int (by omega) (h _ _ _ (Int.fdiv_nonneg ha (Int.le_of_lt hb))) hp
theorem item_gen {value slice : PySem.Expr} {l : Addr} {vs : List Value} {ns : List Int} {a : Int} {u : Tok} (hl : s.heap.IsList l vs.toArray) (hi : IntsAre vs (absl ns)) (hn : ns.length ≤ 2 ^ 20) (h : ∀ x t', 0 ≤ x → Q (.int x t') s)
    (hs : subscripted slice false (.ref l) (.int (a.fmod (((absl ns).length : Nat) : Int)) u) = operate [.ref l, .int (a.fmod (((absl ns).length : Nat) : Int)) u] (getItem (.ref l) (.int (a.fmod (((absl ns).length : Nat) : Int)) u)) := by with_unfolding_all rfl) :
    wpAny (model prog w) A (subscriptTail value slice (.ref l) (.int (a.fmod (((absl ns).length : Nat) : Int)) u)) Q E s := by
  have p := absl_pos ns
  have h0 : 0 ≤ a.fmod (((absl ns).length : Nat) : Int) := Int.fmod_nonneg_of_pos a p
  have h1 : a.fmod (((absl ns).length : Nat) : Int) < (((absl ns).length : Nat) : Int) := Int.fmod_lt_of_pos a p
  have hlen : (absl ns).length = ns.length + 3 := by simp [absl]
  have hlt : (a.fmod (((absl ns).length : Nat) : Int)).toNat < (absl ns).length := by omega
  obtain ⟨t', e⟩ := hi.get _ _ (List.getElem?_eq_getElem hlt)
  exact tail_any hl.typeIs slot_list_getitem.lookup (wpAny_getItem_list hl h0 (by omega) (x := .int _ t') (by simpa using e) (h _ t' (absl_nn (List.getElem_mem hlt)))) hs
end
end Mine
end

section
open PySem PySem.W PyProof.Rows PySem.Calls PySem.NumText
set_option maxRecDepth 100000
set_option maxHeartbeats 4000000
namespace Mine
theorem fresh_X3 : True := by
  w_top off
  trivial
section
variable {prog : Program} {w : World} {A : Around} {E : Value → Shared → Prop} {s : Shared} {Q : Value → Shared → Prop}
theorem fmod_nn {a d : Int} (h : 0 < d) : 0 ≤ a.fmod d := Int.fmod_nonneg_of_pos a h
theorem fmod_up {a d : Int} (h : 0 < d) : a.fmod d < d := Int.fmod_lt_of_pos a h
theorem shown_asciiI {v : Int} (h : 0 ≤ v) (b : Bool) : ∀ c ∈ (shown v b).cps.toList, c < 128 := by
  obtain ⟨m, rfl⟩ := Int.eq_ofNat_of_zero_le h
  exact shown_ascii m b
theorem shown_lenI {v : Int} (h : 0 ≤ v) (h1 : v < 10 ^ 11) (b : Bool) : (shown v b).length ≤ 12 := by
  obtain ⟨m, rfl⟩ := Int.eq_ofNat_of_zero_le h
  exact shown_len (by omega)
theorem append_nil (x : Str) : x ++ Str.ofString "" = x := by
  have e : (Str.ofString "").cps = #[] := by decide +kernel
  have : (x ++ Str.ofString "").cps = x.cps ++ (Str.ofString "").cps := rfl
  apply Str.ext'
  rw [this, e, Array.append_empty]
theorem shown_false (v : Int) : shown v false = Str.ofString (toString v) := append_nil _
theorem call_encode_num {v : Int} {t u : Tok} (h0 : 0 ≤ v) (h1 : v < 10 ^ 11) (h : Q (.bytes (u8 (shown v false)) s.toks) { s with toks := s.toks + 1 }) :
    wpAny (model prog w) A (call (.builtin "str.encode") [.str (Str.ofString (toString v)) t, .str (Str.ofString "utf-8") u]) Q E s := by
  rw [← shown_false]
  exact call_encode (ascii_clean (shown_asciiI h0 false)) (by rw [u8_size (shown_asciiI h0 false), sizeLine_eq]; have := shown_lenI h0 h1 false; omega) h
theorem mul_small {a : Int} {t u : Tok} (h : ∀ z t' tk, Small 2 z → Q (.str z t') { s with toks := tk }) : wpAny (model prog w) A (binaryOp .Mult (.str (Str.ofString "0") t) (.int (a.fmod 3) u)) Q E s := by
  have a0 : 0 ≤ a.fmod 3 := fmod_nn (by decide)
  have a1 : a.fmod 3 < 3 := fmod_up (by decide)
  generalize a.fmod 3 = i at a0 a1
  have hl : (Str.ofString "0").length = 1 := by decide +kernel
  refine SB.mul (mulOk_of 16 1048576 (by omega) (by omega) (by omega) (by decide) (by decide)) fun t' k => h _ t' k ?_
  have : i = 0 ∨ i = 1 ∨ i = 2 := by omega
  rcases this with rfl | rfl | rfl <;> exact ⟨by decide +kernel, by decide +kernel⟩
end
end Mine
end

section
open PySem PySem.W PyProof.Rows PySem.Calls
set_option maxRecDepth 100000
set_option maxHeartbeats 8000000
open Mine
local macro_rules | `(tactic| k_mem) => `(tactic| (show (_ : Addr × Obj) ∈ (_ : List (Addr × Obj)); ktr_member))
local macro_rules | `(tactic| k_inst) => `(tactic| (refine' InstAt.ofNewsAny ?N ?h1 ?h2 ?h3; (case N => k_asm); (case h1 => k_mem); (case h2 => k_mem); (case h3 => rfl)))
set_option hygiene false in
local macro_rules | `(tactic| walk_at "call ref") => `(tactic| (k_here; k_dflt (refine' call_holds ?g ?kA ?kh ?kd ?ku ?kB ?kF ?kX ?kN ?kT ?kk ?XB ?TB ?_; (case g => first | with_reducible assumption | exact Small.fit (by with_reducible assumption) (by decide) | exact Small.fit (Small.slice (by with_reducible assumption)) (by decide) | exact Small.fit (Small.mk (k := 2) (by decide +kernel) (by decide +kernel)) (by decide)); (case kA => rfl); (case kh => rfl); (case kd => exact Nat.le_of_ble_eq_true rfl); (case ku => exact Nat.le_of_ble_eq_true rfl); (case kB => k_asm); (case kF => k_asm); (case kX => k_asm); (case kN => k_asm); (case kT => k_asm); (case kk => rfl); (case XB => assumption); (case TB => assumption); k_whole; intro h' tk' F' N')))
set_option hygiene false in
local macro_rules | `(tactic| walk_at "call ref") => `(tactic| (k_here; k_dflt (refine' wpAny_call (Claim.use (ctr_text _ _ _ _ _ _ ?he) ?kA ?kh ?kd ?ku ?kB ?kF ?kX ?kN2 ?kT ?kk trivial ?_ trivial); (case kA => rfl); (case kh => rfl); (case kd => exact Nat.le_of_ble_eq_true rfl); (case ku => exact Nat.le_of_ble_eq_true rfl); (case kB => k_asm); (case kF => k_asm); (case kX => k_asm); (case kN2 => k_asm); (case kT => k_asm); (case kk => rfl); (case he => omega); k_whole; intro x' t' h' tk' F' N' hfit')))
set_option hygiene false in
local macro_rules | `(tactic| walk_at "binaryOp FloorDiv int int") => `(tactic| (k_here; k_dflt (refine' floor_gen ?fga ?fgb ?_ ?fgp; (case fga => omega); (case fgb => first | omega | exact absl_pos _); (case fgp => exact Or.inr (PySem.PylongRoom.of (by first | exact PyProof.Rows.Top.nolimit (by assumption) | (refine PySem.Heap.NoLimit.keeps ?_ (PyProof.Rows.Fr.keep (by assumption)); exact PyProof.Rows.Top.nolimit (by assumption))) (of_decide_eq_true (by with_unfolding_all rfl)))); intro y' t' tk' hy')))
set_option hygiene false in
local macro_rules | `(tactic| walk_at "subscriptTail Name BinOp ref int") => `(tactic| (k_here; (with_reducible show wpAny _ _ (subscriptTail _ _ (Value.ref _) (Value.int (Int.fmod _ _) _)) _ _ _); k_dflt (refine' item_gen ?sgl ?sgi ?sgn ?_ (by with_unfolding_all rfl); (case sgl => first | assumption | is_list | exact News.isList (by k_asm) (by k_mem)); (case sgi => assumption); (case sgn => assumption); intro x' t' hx')))
local macro_rules | `(tactic| walk_at "binaryOp Mod int int") => `(tactic| (k_here; (with_reducible show wpAny _ _ (binaryOp _ _ (Value.int ((List.length _ : Nat) : Int) _)) _ _ _); k_dflt (refine' PyProof.Rows.mod_int (Int.ne_of_gt (absl_pos _)) ?_)))
local macro_rules | `(tactic| walk_at "StrBack") => `(tactic| (dsimp only [StrBack]))
local macro_rules | `(tactic| walk_at "compareOp NotEq int int") => `(tactic| k_dflt (refine ne_int_same ?_))
local macro_rules | `(tactic| walk_at "compareOp NotEq bytes bytes") => `(tactic| k_dflt (refine ne_bytes_same ?_))
local macro_rules | `(tactic| walk_at "call type:int") => `(tactic| (k_here; k_dflt (refine' int_of ?k1 ?k2 ?k3 ?k4 ?k5 ?k6 ?k7 ?_; (case k1 => rfl); (case k2 => exact Nat.le_of_ble_eq_true rfl); (case k3 => exact Nat.le_of_ble_eq_true rfl); (case k4 => k_asm); (case k5 => k_asm); (case k6 => k_asm); (case k7 => k_mem); k_whole; intro tk')))
local macro_rules | `(tactic| walk_at "getAttr ref") => `(tactic| (k_here; (with_reducible show wpAny _ _ (getAttr (Value.ref _) (PySem.Str.ofString "leap") _) _ _ _); k_dflt (refine' leap_of ?k1 ?k2 ?k3 ?k4 ?k5 ?k6 ?k7 ?k8 ?k9 ?k10 ?_; (case k1 => rfl); (case k2 => exact Nat.le_of_ble_eq_true rfl); (case k3 => exact Nat.le_of_ble_eq_true rfl); (case k4 => k_asm); (case k5 => k_asm); (case k6 => k_asm); (case k7 => k_mem); (case k8 => k_mem); (case k9 => k_is); (case k10 => k_is); k_whole; intro h' tk' F' N')))
local macro_rules | `(tactic| walk_at "getMethod ref") => `(tactic| (k_here; k_dflt (refine' method_fnI ?k1 ?k2 ?k3 ?k4 ?k5 ?k6 ?k7 ?k8 ?_; (case k1 => exact Frag.In.keeps (by k_asm) (Fr.keep (by k_asm))); (case k2 => k_inst); (case k3 => k_is); (case k4 => decide +kernel); (case k5 => k_is); (case k6 => k_is); (case k7 => k_is); (case k8 => k_get); k_whole)))
local macro_rules | `(tactic| walk_at "getMethod str") => `(tactic| (k_here; k_dflt (refine method_encode ?_)))
set_option hygiene false in
local macro_rules | `(tactic| walk_at "call ref") => `(tactic| (k_here; k_dflt (refine' wpAny_call (Claim.use (ctr_ical _ _ _ _ _ _ _ _ _ _ _ _ _ ?h0 ?h1 ?h2 ?h3) ?kA ?kh ?kd ?ku ?kB ?kF ?kX ?kN2 ?kT ?kk ?kp ?_ trivial); (case kA => rfl); (case kh => rfl); (case kd => exact Nat.le_of_ble_eq_true rfl); (case ku => exact Nat.le_of_ble_eq_true rfl); (case kB => k_asm); (case kF => k_asm); (case kX => k_asm); (case kN2 => k_asm); (case kT => k_asm); (case kk => rfl); (case kp => exact ⟨by k_mem, by k_mem⟩); (case h0 => exact fmod_nn (by decide)); (case h1 => exact Int.lt_trans (fmod_up (by decide)) (by decide)); (case h2 => exact ascii_clean (shown_asciiI (fmod_nn (by decide)) _)); (case h3 => exact Nat.le_trans (Nat.le_of_eq (u8_size (shown_asciiI (fmod_nn (by decide)) _))) (Nat.le_trans (shown_lenI (fmod_nn (by decide)) (Int.lt_trans (fmod_up (by decide)) (by decide)) _) (by rw [sizeLine_eq]; decide))); k_whole; intro tk' h' tk'' F' N')))
set_option hygiene false in
local macro_rules | `(tactic| walk_at "call ref") => `(tactic| (k_here; k_dflt (refine' call_monthi ?kA ?kh ?kd ?ku ?kB ?kF ?kX ?kN ?kT ?kk ?_; (case kA => rfl); (case kh => rfl); (case kd => exact Nat.le_of_ble_eq_true rfl); (case ku => exact Nat.le_of_ble_eq_true rfl); (case kB => k_asm); (case kF => k_asm); (case kX => k_asm); (case kN => k_asm); (case kT => k_asm); (case kk => rfl); k_whole; intro x' dx' p' dp' t' t1' t2' k' h' tk' e1 e2 e3 e4 F' N')))
local macro_rules | `(tactic| walk_at "call builtin:str.encode") => `(tactic| (k_here; k_dflt (refine call_encode_num (fmod_nn (by decide)) (Int.lt_trans (fmod_up (by decide)) (by decide)) ?_)))
set_option hygiene false in
local macro_rules | `(tactic| walk_at "binaryOp Mult str int") => `(tactic| (k_here; k_dflt (refine mul_small ?_); intro z' t' tk' hz'; have hl' := Small.len hz'))
set_option hygiene false in
local macro_rules | `(tactic| walk_at "binaryOp Add str str") => `(tactic| (k_here; k_dflt (refine' add_small ?sma ?smb ?smc ?_; (case sma => first | assumption | exact small_two (fmod_nn (by decide)) (fmod_up (by decide)) | exact Small.slice (by assumption) | exact (Small.mk (k := 1) (by decide +kernel) (by decide +kernel))); (case smb => first | assumption | exact small_two (fmod_nn (by decide)) (fmod_up (by decide)) | exact small_join (k := 3) (fun a => item_low) (by assumption) (by rw [rangeKs_length]; omega) | exact Small.slice (by assumption) | exact (Small.mk (k := 1) (by decide +kernel) (by decide +kernel))); (case smc => decide); intro z' t' tk' hz'; have hl' := Small.len hz')))
local macro_rules | `(tactic| walk_at "execs nil") => `(tactic| (refine wpAny_execs_nil ?_))
theorem PySem.Challenge.cw_fc0076_01_holds : PySem.Challenge.rw_fc0076_01.Holds := by
  w_on
  o_law
  x_head
  (case hw => w_witness2)
  k_fill
  intro w s₀ s₁ mg mb G Y fa o pm cd doc dV kV ho hd hcd hD hmg hg args vals as hpre hlay hrd hwl hlo
  have KX0 := kIn_of Y
  have eK : PySem.Challenge.cw_fc0076_01_holds.heap_39 = Mine.hd.heap_39 := by kernel_rfl
  have eV : PySem.Challenge.cw_fc0076_01_holds.view_39 = Mine.hd.view_39 := by kernel_rfl
  have KX : (Mine.hd.heap_39 w.params).In s₁.heap := by rw [← eK]; exact KX0
  clear KX0 eK
  have X := (Ground.X G).1
  have V := (Ground.X G).2
  refine Ground.open G ?_
  rw [eV]
  clear eV
  intro T B D TE TW
  try (refine guard_noD D (by decide +kernel) ?_; clear D)
  obtain ⟨_, _, M⟩ := bmod_of_top T
  have TA := at_of_top T
  try (obtain ⟨_, _, he, B0⟩ := based_of_top T rfl hmg ho hd; have he' : cd = _ := he; subst he'; clear he)
  clear hmg
  wrow_args hpre hlay hrd hwl hlo
  all_goals (
    first | refine callC_kw (enter_call ?_) | refine enter_call ?_ | refine callC_kw (enter_callW ?_) | refine enter_callW ?_ | w_how
    w_top on
    try refine codeAny_mono ?_ (fun _ _ g => GoodW.toG g)
    have K0 := below_caller (Top.heap T)
    w_call any ho hd hcd hD T F
    clear hd TA
    k_drop
    skip)
  (all_goals try k_fold)
  k_steps
end
