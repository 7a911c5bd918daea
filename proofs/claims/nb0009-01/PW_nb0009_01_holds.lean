import PyProof.Rows.All
import Wide.All
import OpenK.AllK
import Wide.FinOn
import PySem.Challenge.RW_nb0009_01
set_option Elab.async false
set_option maxRecDepth 100000
set_option maxHeartbeats 8000000
set_option linter.unusedVariables false
set_option linter.unusedSimpArgs false
namespace Mine
open PySem PySem.W PyProof.Rows
open_top hd for PySem.Challenge.rw_nb0009_01
end Mine
namespace Mine
open PySem PySem.W PyProof.Rows PySem.Spec PySem.Calls
abbrev Led := List (Addr × Obj)
abbrev tupO (vs : List Value) (e : Nat) : Obj := { cls := .type "tuple", data := .seq vs.toArray e }
def Con (w : World) (mean : ExcName → Option Value) (mg mb : Str → Option Value) (f : Addr) (news : Led) (vs : List Value) (Out : Value → Led → Prop) : Prop :=
  ∀ (dp un : Nat) (gd : Option (List Code)) (cn : Str) (cs : Scope) (a : Addr) (ccd : Value) (cl : List (Str × Addr)) (outer : List Env) (A₀ : Around) (base h₀ : Heap) (L : Addr) (m : Str → Option Value) (s : Shared) (Q E : Value → Shared → Prop),
    Below A₀ base outer h₀ → Fr h₀ L s.heap m → (hd.heap_39 w.params).In h₀ → News h₀ L s.heap news → Top hd.view_39 (looseW hd.view_39 []) mean mg mb h₀ → cs.kind = .function →
    dp + 20 < recursionLimit → un + 200 < cLine →
    (∀ (r : Value) (tl : Led) (h' : Heap) (tk' : Nat), Fr h₀ L h' m → News h₀ L h' (tl ++ news) → Out r tl → Q r { s with heap := h', toks := tk' }) →
    wpAny (model PySem.Challenge.rw_nb0009_01.row.prog w) (ktrTop dp un gd cn cs L a ccd cl outer) (call (.ref f) vs) Q E s
theorem news_more {h₀ h : Heap} {L : Addr} {news : Led} {x : Addr × Obj} (N : News h₀ L h news) (hx : x ∈ news) : News h₀ L h (x :: news) := fun p hp => by
  rcases List.mem_cons.mp hp with rfl | hp
  · exact N _ hx
  · exact N p hp
theorem ints3 {vs : List Value} {ns : List Int} {a b c : Int} (h : IntsAre vs ns) (e : ns = [a, b, c]) : ∃ t u v, vs = [.int a t, .int b u, .int c v] := by
  subst e
  cases h with
  | cons _ t h => cases h with
    | cons _ u h => cases h with
      | cons _ v h => cases h; exact ⟨t, u, v, rfl⟩
theorem drop_head {h₀ h : Heap} {L : Addr} {x : Addr × Obj} {news news' : Led} (N : News h₀ L h (x :: news')) (hs : ∀ p ∈ news, p ∈ news') : News h₀ L h (x :: news) := fun p hp => by
  rcases List.mem_cons.mp hp with rfl | hp
  · exact N _ (List.mem_cons_self ..)
  · exact N p (List.mem_cons_of_mem _ (hs p hp))
def hbit (x y : Int) : Int := (Builtin.Int.intBits (Builtin.bitXor x y) : Int) - 1
def idx3 (a b c m : Int) : Int := if a = m then 0 else if b = m then 1 else 2
end Mine
namespace Mine
open PySem PySem.W PyProof.Rows PySem.Spec PySem.Calls
/-- what a loop hands on that neither ends nor breaks -/
def OnlyRet (Q : Flow → Shared → Prop) (f : Flow) (s : Shared) : Prop := match f with
  | .ret v => Q (.ret v) s
  | _ => False
theorem onlyRet_ret {Q : Flow → Shared → Prop} {v : Value} {s : Shared} (h : Q (.ret v) s) : OnlyRet Q (.ret v) s := h
section
variable {prog : Program} {w : World} {A : Around} {E : Value → Shared → Prop} {s : Shared} {env : Env} {h₀ : Heap} {target : Expr} {body orelse : List Stmt} {Q : Flow → Shared → Prop}
theorem for_else {iter : Expr} {pos : Pos} {m : Str → Option Value} (_F : Fr h₀ env.locals s.heap m)
    (h : wpAny (model prog w) A (eval iter env) (fun xv s₁ => wpAny (model prog w) A (pyIter xv) (fun it s₂ => TurnsAt prog w A h₀ env target body (OnlyRet Q) E it s₂) E s₁) E s)
    (hs : ∀ x, foldedSetIterable iter env x = pure x := by intro _; rfl)
    (hE : PassesOwn (model prog w) A env E := by passes_own) :
    wpAny (model prog w) A (exec (.For target iter body orelse pos) env) Q E s := by
  refine wpAny_For (wpAny_mono h (fun xv s₁ h₁ => wpAny_mono h₁ (fun it s₂ h₂ => ?_) fun _ _ e => e) fun _ _ e => e) hs
  obtain ⟨I, fp, wr, n, P, Md, St, m, news, J, rfl, W, hLf, hwr, hnw, hst, F, N, h0, step, hQ⟩ := h₂
  have hLw : env.locals ∉ wr := fun h => hLf (W.sub _ h)
  refine codeAny_forLoop_any
    (fun k s' => ∃ h' tk m' news' i, s' = { s₂ with heap := h', toks := tk } ∧ St i h' ∧ Fr h₀ env.locals h' m' ∧ News h₀ env.locals h' news' ∧ (∀ p ∈ news', p.1 ∉ wr) ∧ J i m' news' ∧ i ≤ n ∧ k = n + 1 - i) ?_ (n + 1)
    ⟨s₂.heap, s₂.toks, m, news, 0, rfl, hst, F, N, hnw, h0, Nat.zero_le _, rfl⟩
  rintro k s' ⟨h', tk, m', news', i, rfl, hst', F', N', hnw', hJ, hi, rfl⟩
  have keep : ∀ hn : Heap, (∀ b o, b ∉ wr → h'.get? b = some o → hn.get? b = some o) → Fr h₀ env.locals hn m' ∧ News h₀ env.locals hn news' := fun hn hk => by
    refine ⟨⟨F'.ns.at' fun o e => hk _ o hLw e, fun b o e => hk b o (fun hb => ?_) (F'.keep b o e), F'.above⟩, fun p hp => ⟨hk _ _ (hnw' p hp) (N' p hp).1, (N' p hp).2⟩⟩
    rw [hwr b hb] at e
    cases e
  rcases Nat.lt_or_ge i n with hlt | hge
  · refine W.item i _ _ _ hlt hst' fun v hA tkA hMd hkA => W.go i v _ _ _ hMd fun hB hP hstB hkB => ?_
    obtain ⟨FB, NB⟩ := keep hB fun b o hb x => hkB b o hb (hkA b o hb x)
    have NO : News h₀ env.locals hB (PyProof.Rows.ownOf h₀ fp hB) := news_ownOf hLf
    have turn := step i v m' news' hB tkA (PyProof.Rows.ownOf h₀ fp hB) hlt hP hJ hnw' ownOf_sub (fun p hp => (NO p hp).1) (fun b hb hn o e => mem_ownOf hb hn e) hstB FB (NO.append NB)
    refine wpAny_mono (wpAny_mono turn (fun _ _ x => wpAny_passesOwn hE x) hE) (fun _ s₃ hb => wpAny_mono hb (fun f s₄ hf => ?_) fun _ _ e => e) fun _ _ e => e
    have again : LoopStepU h₀ env.locals wr (PyProof.Rows.ownOf h₀ fp hB) (J (i + 1)) { s₂ with heap := hB, toks := tkA } .next s₄ →
        ∃ k', k' < n + 1 - i ∧ ∃ h' tk m' news' i', s₄ = { s₂ with heap := h', toks := tk } ∧ St i' h' ∧ Fr h₀ env.locals h' m' ∧ News h₀ env.locals h' news' ∧ (∀ p ∈ news', p.1 ∉ wr) ∧ J i' m' news' ∧ i' ≤ n ∧ k' = n + 1 - i' := by
      rintro ⟨_, hC, tkC, mC, newsC, rfl, FC, NC, haC, hJC⟩
      refine ⟨n + 1 - (i + 1), by omega, hC, tkC, mC, newsC, i + 1, rfl, W.frame _ _ _ hstB fun b hb o e => ?_, FC, NC.right, haC, hJC, hlt, rfl⟩
      cases hn : h₀.get? b with
      | some o₀ =>
        have q := FB.keep b o₀ hn
        rw [e] at q
        cases q
        exact FC.keep b o hn
      | none => exact (NC _ (List.mem_append_left _ (mem_ownOf hb hn e))).1
    cases f with
    | ret v => exact hf
    | brk => exact (show False from hf).elim
    | cont => exact again hf
    | next => exact again hf
  · obtain rfl : i = n := by omega
    refine W.done _ _ _ hst' fun hA tkA hkA => ?_
    obtain ⟨FA, NA⟩ := keep hA hkA
    exact (show False from hQ hA tkA m' news' FA NA hnw' hJ).elim
end
end Mine
namespace Mine
open PySem PySem.W PyProof.Rows PySem.Spec PySem.Calls
/-- what the caller's whole ledger `news` is behind a call that was handed the part `wr` alone: it lies in the ground -/
def Rcv (h₀ : Heap) (L : Addr) (g : Heap) (wr news : Led) : Prop := ∀ p ∈ news, p ∈ wr ∨ (g.get? p.1 = some p.2 ∧ p.1 ≠ L ∧ h₀.get? p.1 = none)
theorem Rcv.of {h₀ h : Heap} {L : Addr} {wr news : Led} (N : News h₀ L h news) (hs : ∀ p ∈ wr, p ∈ news) : Rcv h₀ L (hideAll h (wr.map (·.1))) wr news := by
  intro p hp
  by_cases hm : p.1 ∈ wr.map (·.1)
  · obtain ⟨q, hq, e⟩ := List.mem_map.mp hm
    refine .inl ?_
    have h1 := (N q (hs q hq)).1
    have h2 := (N p hp).1
    rw [e, h2] at h1
    obtain ⟨pa, po⟩ := p
    obtain ⟨qa, qo⟩ := q
    cases h1
    cases e
    exact hq
  · exact .inr ⟨hideAll_get _ (N p hp).1 hm, (N p hp).2⟩
theorem Rcv.back {h₀ g h : Heap} {L L' : Addr} {wr news xs : Led} {m' : Str → Option Value} (R : Rcv h₀ L g wr news) (F : Fr g L' h m') (N : News h₀ L h xs) (hs : ∀ p ∈ wr, p ∈ xs) : News h₀ L h news := fun p hp => by
  rcases R p hp with h1 | ⟨h1, h2, h3⟩
  · exact N p (hs p h1)
  · exact ⟨F.keep _ _ h1, h2, h3⟩
theorem Rcv.back1 {h₀ g h : Heap} {L L' : Addr} {wr news xs : Led} {x : Addr × Obj} {m' : Str → Option Value} (R : Rcv h₀ L g wr news) (F : Fr g L' h m') (N : News h₀ L h xs) (hx : x ∈ xs) (hs : ∀ p ∈ wr, p ∈ xs) : News h₀ L h (x :: news) := fun p hp => by
  rcases List.mem_cons.mp hp with rfl | hp
  · exact N _ hx
  · exact R.back F N hs p hp
section
variable {prog : Program} {w : World} {A A₀ : Around} {s : Shared} {K : Frag} {L : Addr} {h₀ base : Heap} {m mg mb : Str → Option Value} {news : Led} {p : Program} {loose : List Str} {mean : ExcName → Option Value}
variable {env : Env} {outer : List Env} {R : Result → Shared → Prop} {name qual : Str} {params : Arguments} {body : List Stmt} {scope : Scope} {dV kV doc pm cdv ct oc : Value} {an od : Option Addr} {osl : Array (Option Value)} {f : Addr} {args : Args} {binds : List (Str × Value)}
theorem enterR (wr : Led) (hsub : ∀ q ∈ wr, q ∈ news) (B : Below A₀ base outer h₀) (F : Fr h₀ L s.heap m) (X₀ : K.In h₀) (N : News h₀ L s.heap news) (T : Top p loose mean mg mb h₀) (hA : A.frames = some (env :: outer)) (hf : env.frame = some L) (hke : env.scope.kind = .function)
    (ho : K.lookup f = some ⟨oc, od, .func (fnOf name qual params body scope dV kV doc pm an cdv ct), osl⟩) (hcd : codeIn K cdv qual = true) (hroom : A.depth < recursionLimit)
    (hbind : BindsTo s (fnOf name qual params body scope dV kV doc pm an cdv ct) args binds) (hloc : ∀ y ∈ binds, scope.names.lookup y.1 = some .local)
    (h : ∀ g L' h₁, Fr h₀ L g m → Fr g L' h₁ (fun y => binds.reverse.lookup y) → News g L' h₁ wr → Below A base (env :: outer) g → K.In g → Top p loose mean mg mb g → Rcv h₀ L g wr news → (∀ q ∈ wr, q.1 < L') →
      wpAny (model prog w) (A.deeper (envOf qual scope L' f cdv)) (execs body (envOf qual scope L' f cdv))
        (fun fl s' => LeaveK h₀ L m g R (match fl with | .ret v => v | _ => .none) s')
        (fun e s' => wpAny (model prog w) (A.deeper (envOf qual scope L' f cdv)) (leaving (envOf qual scope L' f cdv) e) (fun _ s'' => R (.error e) s'') (fun e' s'' => R (.error e') s'') s')
        { s with heap := h₁, toks := s.toks + binds.length })
    (hco : scope.isCoroutine = false) (hgen : scope.isGenerator = false) (hk : scope.kind = .function)
    (hcell : ∀ x ∈ scope.names, x.2 ≠ .cell) : codeAny (model prog w) A (.call (.ref f) args) R s := by
  have N' : News h₀ L s.heap wr := fun q hq => N q (hsub q hq)
  obtain ⟨FG, BG, st, lv⟩ := groundX (R := R) B F N' hA hf hke
  refine codeAny_call_def (fd := fnX name qual params body scope [] dV kV doc pm an cdv ct) (body := body) (binds := binds) hroom ((X₀.keeps F.keep) _ _ ho) rfl (T.nolimit.keeps F.keep) (codeRec_of (X₀.keeps F.keep) hcd) rfl hbind hcell hloc (fun h₁ hns hk₁ => ?_) hco hgen hk
  exact wpAny_mono (h _ s.heap.objs.size h₁ FG ⟨hns, fun b o e => hk₁ b o (of_hideAll _ e), Nat.le_of_eq (hideAll_size _ _)⟩
    (fun q hq => ⟨hk₁ _ _ (N' q hq).1, Nat.ne_of_lt (Heap.lt_size (N' q hq).1), hideAll_none _ (List.mem_map_of_mem hq)⟩) BG (X₀.keeps st) (T.keeps st) (Rcv.of N hsub) (fun q hq => Heap.lt_size (N' q hq).1)) (fun fl s' hl => lv _ _ hl) fun _ _ y => y
theorem enterRC (wr : Led) (hsub : ∀ q ∈ wr, q ∈ news) (B : Below A₀ base outer h₀) (F : Fr h₀ L s.heap m) (X₀ : K.In h₀) (N : News h₀ L s.heap news) (T : Top p loose mean mg mb h₀) (hA : A.frames = some (env :: outer)) (hf : env.frame = some L) (hke : env.scope.kind = .function)
    (ho : K.lookup f = some ⟨oc, od, .func (fnOf name qual params body scope dV kV doc pm an cdv ct), osl⟩) (hcd : codeIn K cdv qual = true) (hroom : A.depth < recursionLimit)
    (hbind : BindsTo s (fnOf name qual params body scope dV kV doc pm an cdv ct) args binds) (hkind : (binds.all fun y => scope.names.lookup y.1 == some .local || scope.names.lookup y.1 == some .cell) = true)
    (hnd : ((cellsFrom 0 scope.names []).map (·.1)).Nodup)
    (h : ∀ g L' h₁ tk cells, Fr h₀ L g m → Fr g L' h₁ (bindL (envOfC qual scope L' f cdv).kindOf binds fun _ => none) → News g L' h₁ (cells ++ wr) →
      CellsAre (bindC (envOfC qual scope L' f cdv).kindOf binds fun _ => none) (cellsFrom (L' + 1) scope.names []) cells → Below A base (env :: outer) g → K.In g → Top p loose mean mg mb g → Rcv h₀ L g wr news → (∀ q ∈ wr, q.1 < L') →
      wpAny (model prog w) (A.deeper (envOfC qual scope L' f cdv)) (execs body (envOfC qual scope L' f cdv))
        (fun fl s' => LeaveK h₀ L m g R (match fl with | .ret v => v | _ => .none) s')
        (fun e s' => wpAny (model prog w) (A.deeper (envOfC qual scope L' f cdv)) (leaving (envOfC qual scope L' f cdv) e) (fun _ s'' => R (.error e) s'') (fun e' s'' => R (.error e') s'') s')
        { s with heap := h₁, toks := tk })
    (hco : scope.isCoroutine = false) (hgen : scope.isGenerator = false) (hk : scope.kind = .function) : codeAny (model prog w) A (.call (.ref f) args) R s := by
  have N' : News h₀ L s.heap wr := fun q hq => N q (hsub q hq)
  obtain ⟨FG, BG, st, lv⟩ := groundX (R := R) B F N' hA hf hke
  have hbind' : BindsTo s (fnX name qual params body scope [] dV kV doc pm an cdv ct) args binds := hbind
  refine codeAny_call_function (fd := fnX name qual params body scope [] dV kV doc pm an cdv ct) hroom ((X₀.keeps F.keep) _ _ ho) rfl hco hgen rfl (codeRec_of (X₀.keeps F.keep) hcd) (hbind' _ _ _ _ ?_)
  refine wpAny_newFunctionEnv_cells hk (kindsX hkind _) fun env' he s' x => ?_
  subst he
  refine ⟨(T.nolimit.keeps F.keep).keeps x.toInCall.keep, codeAny_func ?_⟩
  obtain ⟨h₁, tk, rfl, _⟩ := x.done
  have hk₁ := x.toInCall.keep
  obtain ⟨cells, NC, Y⟩ := Cl.news (h₀ := s.heap) (Nat.le_refl _) fun n c hm => ⟨x.cell n c (lookup_of_mem_nodup (cellsFrom_names scope.names 0 (s.heap.objs.size + 1) [] [] rfl ▸ hnd) hm), x.above n c hm⟩
  refine wpAny_mono (h _ s.heap.objs.size h₁ tk cells FG ⟨x.toInCall.ns, fun b o e => hk₁ b o (of_hideAll _ e), Nat.le_of_eq (hideAll_size _ _)⟩ (fun q hq => ?_) Y BG (X₀.keeps st) (T.keeps st) (Rcv.of N hsub) (fun q hq => Heap.lt_size (N' q hq).1)) (fun fl s' hl => lv _ _ hl) fun _ _ y => y
  rcases List.mem_append.mp hq with hq | hq
  · refine ⟨(NC q hq).1, (NC q hq).2.1, ?_⟩
    cases e : (hideAll s.heap (wr.map (·.1))).get? q.1 with
    | none => rfl
    | some o => have := of_hideAll _ e; rw [(NC q hq).2.2] at this; cases this
  · exact ⟨hk₁ _ _ (N' q hq).1, Nat.ne_of_lt (Heap.lt_size (N' q hq).1), hideAll_none _ (List.mem_map_of_mem hq)⟩
end
end Mine
namespace Mine
open PySem PySem.W PyProof.Rows PySem.Spec PySem.Calls
section
variable {prog : Program} {w : World} {A : Around} {E : Value → Shared → Prop} {s : Shared} {h₀ : Heap} {L : Addr} {m : Str → Option Value} {env : Env} {news : Led}
/-- max of a list of ints hands back one of its items, token and all -/
theorem max_item {l : Addr} {vs : List Value} {ns : List Int} {Q : Value → Shared → Prop} (hh : A.handled = none) (F : Fr h₀ L s.heap m) (N : News h₀ L s.heap news)
    (hl : s.heap.IsList l vs.toArray) (hi : IntsAre vs ns) (hne : 0 < ns.length)
    (h : ∀ h' M (t : Tok) tk, Fr h₀ L h' m → News h₀ L h' news → .int M t ∈ vs → (∀ a, a ∈ ns → a ≤ M) → Q (.int M t) { s with heap := h', toks := tk }) :
    wpAny (model prog w) A (call (.builtin "max") [.ref l]) Q E s := by
  obtain ⟨xs, e⟩ := hi.allInts.items
  have hns : ns = xs.toList.map (·.1) := by
    rw [← hi.numsOf, ← nums_intItems, ← e]
  have hsz : 0 < xs.size := by
    have h3 := hne; rw [hns, List.length_map, Array.length_toList] at h3; exact h3
  have hl' := hl
  rw [e] at hl'
  refine max_intList hh hl' hsz fun v h' tk hv hk => ?_
  have hin : v ∈ vs := by
    have h5 : vs.toArray[argBest (fun i j => decide (numAt xs i > numAt xs j)) (xs.size - 1)]? = some v := by rw [e]; exact hv
    have h6 : vs[argBest (fun i j => decide (numAt xs i > numAt xs j)) (xs.size - 1)]? = some v := by simpa using h5
    exact List.mem_of_getElem? h6
  obtain ⟨t, rfl⟩ := intItems_at hv
  obtain ⟨_, h2⟩ := argBest_gt (numAt xs) (xs.size - 1)
  refine h _ _ t tk (F.grownK hk) (N.grown hk) hin fun a ha => ?_
  rw [hns] at ha
  obtain ⟨j, hj, rfl⟩ := mem_getD ha
  rw [List.length_map, Array.length_toList] at hj
  rw [← numAt_eq]; exact h2 j (by omega)
/-- `is` of two ints, the first a small one -/
theorem is_int {M : Model} {p q : Int} {t u : Nat} {Q : Value → Shared → Prop} (hs : -5 ≤ p ∧ p ≤ 256) (ht : t ≠ 0) (hu : u ≠ 0) (hne : p ≠ q → t ≠ u) (h : Q (.bool (decide (p = q))) s) :
    wpAny M A (compareOp .Is (.int p t) (.int q u)) Q E s := by
  show wpAny M A (do return .bool (← (if p == q && smallInt p then isSame.cachedInt t u else isSame.created (p == q) t u))) Q E s
  have h0 : (t == 0 || u == 0) = false := by simp [ht, hu]
  refine wpAny_bind ?_
  by_cases e : p = q
  · have e1 : (p == q && smallInt p) = true := by simp [e, smallInt]; omega
    rw [if_pos e1]
    unfold isSame.cachedInt
    rw [h0]
    simp only [Bool.false_eq_true, if_false]
    refine wpAny_bind (wpAny_rule (wpAny_pure (wpAny_pure ?_)))
    simpa [e] using h
  · have e1 : (p == q && smallInt p) = false := by simp [e]
    have e2 : (p == q) = false := by simp [e]
    have e3 : (t == u) = false := by simp [hne e]
    rw [e1, e2]
    simp only [Bool.false_eq_true, if_false]
    unfold isSame.created
    rw [h0, e3]
    simp only [Bool.false_eq_true, if_false, Bool.not_false, if_true]
    refine wpAny_pure (wpAny_pure ?_)
    simpa [e] using h
/-- a turn's end, the token counter told -/
def EndT (h₀ : Heap) (L : Addr) (m : Str → Option Value) (s : Shared) (led : Led) (rest : Nat → Value → Prop) (y : Value) (s₂ : Shared) : Prop :=
  ∃ h' tk', s₂ = { s with heap := h', toks := tk' } ∧ Fr h₀ L h' m ∧ News h₀ L h' led ∧ rest tk' y
theorem EndT.intro {rest : Nat → Value → Prop} {y : Value} {h' : Heap} {tk' : Nat} (F : Fr h₀ L h' m) (N : News h₀ L h' news) (r : rest tk' y) : EndT h₀ L m s news rest y { s with heap := h', toks := tk' } := ⟨h', tk', rfl, F, N, r⟩
/-- what is left of a comprehension's turns, the tokens told -/
def RestT (prog : Program) (w : World) (A : Around) (h₀ : Heap) (L : Addr) (m : Str → Option Value) (env : Env) (elt : Expr) (x : Str) (scope : Scope) (cl : List (Str × Addr)) (s : Shared) (news : Led) (P : Nat → Value → Prop)
    (Fin : Nat → List Value → Prop) : Nat → Nat → Nat → List Value → Prop
  | 0, _, lo, ys => Fin lo ys
  | k + 1, i, lo, ys => ∀ v I oI C oC D m₂ h tk (E' : Value → Shared → Prop), P i v → LCg.NsObj oC m₂ → m₂ x = some v → lo ≤ tk → Fr h₀ L h m → News h₀ L h ((I, oI) :: (C, oC) :: (D, LCg.lst ys) :: news) → LCg.Off3 I C D news → ((@Ne Nat I C) ∧ (@Ne Nat I D) ∧ (@Ne Nat C D)) →
      wpAny (model prog w) A (eval elt (compEnvC scope cl C env)) (EndT h₀ L m s ((I, oI) :: (C, oC) :: (D, LCg.lst ys) :: news) fun tk' y =>
        RestT prog w A h₀ L m env elt x scope cl s news P Fin k (i + 1) tk' (ys ++ [y])) E' { s with heap := h, toks := tk }
def SrcT (prog : Program) (w : World) (A : Around) (h₀ : Heap) (L : Addr) (m : Str → Option Value) (env : Env) (elt : Expr) (x : Str) (scope : Scope) (cl : List (Str × Addr)) (Q : Value → Shared → Prop) (xv : Value) (s₁ : Shared) : Prop :=
  ∃ (ax : Addr) (its : Array Value) (k : Nat) (news : Led), xv = .ref ax ∧ A.handled = none ∧ Fr h₀ L s₁.heap m ∧ News h₀ L s₁.heap news ∧ (ax, ({ cls := .type "list", data := .seq its k } : Obj)) ∈ news ∧ its.size ≤ sizeLine ∧
    ∀ g, RestT prog w A h₀ L m env elt x scope cl { s₁ with heap := g } news (fun i v => its[i]? = some v)
      (fun _ ys => ∀ D h tk, Fr h₀ L h m → News h₀ L h ((D, LCg.lst ys) :: news) → LCg.Off1 D news → Q (.ref D) { s₁ with heap := h, toks := tk }) its.size 0 s₁.toks []
theorem listComp_T {elt iter : Expr} {x : Str} {px : Pos} {scope : Scope} {cl : List (Str × Addr)} {pos : Pos} {Q : Value → Shared → Prop} (_F₀ : Fr h₀ L s.heap m)
    (hclos : closureFor scope env = pure cl) (hcell : ∀ y ∈ scope.names, y.2 ≠ .cell) (hkind : scope.kind = .function)
    (hnames : ∀ y ∈ scope.names, y.2 = .local → scope.names.lookup y.1 = some .local) (hx : scope.names.lookup x = some .local)
    (h : wpAny (model prog w) A (eval iter env) (SrcT prog w A h₀ L m env elt x scope cl Q) E s)
    (hs : ∀ x, foldedSetIterable iter env x = pure x := by intro _; rfl) :
    wpAny (model prog w) A (eval (.ListComp elt [⟨.Name x px, iter, [], 0⟩] scope pos) env) Q E s := by
  rw [eval_ListComp]
  refine wpAny_comprehension_free (use := none) rfl hs hclos hkind hnames (wpAny_mono h (fun xv s₁ h₁ => ?_) fun _ _ e => e)
  obtain ⟨ax, its, kk, news, rfl, hh, F, N, hm, hsz, R⟩ := h₁
  have S : LCg.SrcAt h₀ ax its news := .inr ⟨_, hm, rfl, _, rfl⟩
  have hl : s₁.heap.IsList ax its := S.list F.keep N
  have haxI : @LT.lt Nat _ ax s₁.heap.objs.size := Heap.lt_size (N _ hm).1
  refine wpAny_pyIter_list hl ?_
  have up : ∀ b o, s₁.heap.get? b = some o → (s₁.heap.push { cls := .type "list_iterator", data := .fields #[.ref ax, .int 0 0] }).get? b = some o := fun b o e => Heap.get?_push_of_some _ e
  have W := Walks.list (prog := prog) (w := w) hh s₁.heap.objs.size ax (Nat.ne_of_lt haxI) its
  have R₀ := R (s₁.heap.push { cls := .type "list_iterator", data := .fields #[.ref ax, .int 0 0] })
  have F₀ := F.keeps up
  have N₀ := N.grown up
  have hst : (s₁.heap.push { cls := .type "list_iterator", data := .fields #[.ref ax, .int 0 0] }).IsListIter s₁.heap.objs.size ax 0 ∧ (s₁.heap.push { cls := .type "list_iterator", data := .fields #[.ref ax, .int 0 0] }).IsList ax its := ⟨⟨_, Heap.get?_push_size _ rfl, rfl, rfl⟩, hl.push _⟩
  have hIL : L ≠ s₁.heap.objs.size := Nat.ne_of_lt F.ns.lt
  have hI₀ : h₀.get? s₁.heap.objs.size = none := next_is_new F
  have offI : ∀ p ∈ news, p.1 ≠ s₁.heap.objs.size := fun p hp => Nat.ne_of_lt (Heap.lt_size (N p hp).1)
  have hszI : (s₁.heap.push { cls := .type "list_iterator", data := .fields #[.ref ax, .int 0 0] }).objs.size = s₁.heap.objs.size + 1 := Heap.size_push ..
  generalize hI : s₁.heap.objs.size = I at *
  generalize hH1 : s₁.heap.push { cls := .type "list_iterator", data := .fields #[.ref ax, .int 0 0] } = H1 at *
  refine wpAny_newObj_type (wpAny_newFunctionEnv hcell (by intro y hy; simp at hy) (fun h₁ hns₁ hsb₁ => ?_) hkind)
  dsimp only at hns₁ hsb₁ ⊢
  generalize hH2 : H1.push { cls := .type "list", dict := none, data := .seq ([] : List Value).toArray } = H2 at hns₁ hsb₁ ⊢
  have hC : H2.objs.size = H1.objs.size + 1 := by rw [← hH2, Heap.size_push]
  generalize hCe : H2.objs.size = C at *
  have old : ∀ b o, H1.get? b = some o → h₁.get? b = some o := fun b o e => hsb₁.extBut b o (Nat.ne_of_lt (by have h9 : @LT.lt Nat _ b H1.objs.size := Heap.lt_size e; rw [hC]; exact Nat.lt_succ_of_lt h9)) (Heap.get?_push_of_some _ (hH2 ▸ Heap.get?_push_of_some _ e))
  have hacc : h₁.get? H1.objs.size = some (LCg.lst []) := hsb₁.extBut _ _ (Nat.ne_of_lt (by omega)) (Heap.get?_push_of_some _ (hH2 ▸ Heap.get?_push_size _ rfl))
  generalize hDe : H1.objs.size = D at *
  have fresh₀ : ∀ a, D ≤ a → h₀.get? a = none := fun a ha => by
    cases e : h₀.get? a with
    | none => rfl
    | some o' => exact absurd (Heap.lt_size (F₀.keep a o' e)) (by rw [hDe]; exact Nat.not_lt.mpr ha)
  have hD₀ : h₀.get? D = none := fresh₀ _ (Nat.le_refl _)
  have hC₀ : h₀.get? C = none := fresh₀ _ (by omega)
  have hLlt : @LT.lt Nat _ L D := hDe ▸ F₀.ns.lt
  have hDC : D ≠ C := Nat.ne_of_lt (by omega)
  have hDL : D ≠ L := Nat.ne_of_gt hLlt
  have hCL : C ≠ L := Nat.ne_of_gt (Nat.lt_trans hLlt (by omega))
  have hCI : I ≠ C := Nat.ne_of_lt (by omega)
  have hDI : I ≠ D := Nat.ne_of_lt (by omega)
  have nlt : ∀ p ∈ news, @LT.lt Nat _ p.1 I := fun p hp => hI ▸ Heap.lt_size (N p hp).1
  have off₀ : LCg.Off3 I C D news := LCg.Off3.of fun p hp => by have h9 := nlt p hp; exact ⟨Nat.ne_of_lt h9, Nat.ne_of_lt (Nat.lt_trans h9 (by omega)), Nat.ne_of_lt (Nat.lt_trans h9 (by omega))⟩
  have off3 := off₀.mem
  have hst₁ : h₁.IsListIter I ax 0 ∧ h₁.IsList ax its := W.frame _ _ _ hst fun b _ o e => old b o e
  have loop : ∀ (RR : Result → Shared → Prop), (∀ (h : Heap) (tk : Nat) (m' : Str → Option Value), h.Ns C m' → (∀ h'', Heap.SameBut C h h'' → Q (.ref D) { s₁ with heap := h'', toks := tk }) → RR (.ok .next) { s₁ with heap := h, toks := tk }) → ∀ s₃ : Shared, s₃ = { s₁ with heap := h₁, toks := s₁.toks + ([] : List (Str × Value)).length } →
      codeAny (model prog w) A (.compLoop (.ListComp elt [⟨.Name x px, iter, [], 0⟩] scope pos) 0 (.ref I) (.ref D) (compEnvC scope cl C env)) RR s₃ := by
    rintro RR hRR s₃ rfl
    refine codeAny_compLoop_tests
      (fun k s' => ∃ h' tk i ys m', s' = { s₁ with heap := h', toks := tk } ∧ i ≤ its.size ∧ k = its.size + 1 - i ∧ ys.length = i ∧ (h'.IsListIter I ax i ∧ h'.IsList ax its) ∧ Fr h₀ L h' m ∧ h'.Ns C m' ∧ News h₀ L h' ((D, LCg.lst ys) :: news) ∧
        ∃ lo, lo ≤ tk ∧ RestT prog w A h₀ L m env elt x scope cl { s₁ with heap := H1 } news (fun i v => its[i]? = some v)
          (fun _ ys => ∀ D h tk, Fr h₀ L h m → News h₀ L h ((D, LCg.lst ys) :: news) → LCg.Off1 D news → Q (.ref D) { s₁ with heap := h, toks := tk }) (its.size - i) i lo ys) ?_ (its.size + 1)
      ⟨h₁, _, 0, [], _, rfl, Nat.zero_le _, rfl, rfl, hst₁, F₀.keeps old, hns₁, fun p hp => ?_, s₁.toks, Nat.le_refl _, R₀⟩
    · rintro k s' ⟨h', tk, i, ys, m', rfl, hi, rfl, hyl, hst', F', hn', N', lo, hlo, R'⟩
      by_cases hlt : i < its.size
      · obtain ⟨j, hj⟩ : ∃ j, its.size - i = j + 1 := ⟨its.size - i - 1, by omega⟩
        rw [hj] at R'
        refine wpAny_with_toks (n := tk) (Nat.le_refl _) (W.item i _ _ _ hlt hst' fun v h₂ tk₂ hPv hst₂ hk₂ => fun (hle : tk ≤ tk₂) => ?_)
        refine wpAny_assign_Name (wpAny_storeName_local (lookup_relabel_local hx) (hn'.at' fun o e => hk₂ _ o (by simpa using Ne.symm hCI) e) (fun h₃ hn₃ hs₃ => ?_) (by simp [compEnvC, relabel, hkind]))
        refine wpAny_tests_nil ?_
        simp only [if_true]
        have hst₃ : h₃.IsListIter I ax (i + 1) ∧ h₃.IsList ax its := W.frame _ _ _ hst₂ fun b hb o e => hs₃.extBut b o (fun q => by
          have q' : b = C := q
          rcases List.mem_cons.mp hb with rfl | hb
          · exact hCI q'
          · exact absurd ((List.mem_singleton.mp hb).symm.trans q') (Nat.ne_of_lt (Nat.lt_trans haxI (by omega)))) e
        obtain ⟨oI, heI⟩ : ∃ o, h₃.get? I = some o := by obtain ⟨o, e, _⟩ := hst₃.1; exact ⟨o, e⟩
        obtain ⟨oC, heC, hoC⟩ := LCg.ns_obj hn₃
        have F₃ : Fr h₀ L h₃ m := (LCg.fr_but F' hk₂ hIL hI₀).change hs₃ hCL hC₀
        have N₂ : News h₀ L h₂ ((D, LCg.lst ys) :: news) := LCg.news_but N' hk₂ fun p hp => by
          rcases List.mem_cons.mp hp with rfl | hp
          · exact Ne.symm hDI
          · exact (off3 p hp).1
        have N₃ : News h₀ L h₃ ((I, oI) :: (C, oC) :: (D, LCg.lst ys) :: news) := fun p hp => by
          rcases List.mem_cons.mp hp with rfl | hp
          · exact ⟨heI, Ne.symm hIL, hI₀⟩
          · rcases List.mem_cons.mp hp with rfl | hp
            · exact ⟨heC, hCL, hC₀⟩
            · have z := N₂ p hp
              refine ⟨hs₃.extBut _ _ ?_ z.1, z.2⟩
              rcases List.mem_cons.mp hp with rfl | hp
              · exact hDC
              · exact (off3 p hp).2.1
        refine wpAny_mono (R' v I oI C oC D _ h₃ _ _ hPv hoC (by simp) (by show lo ≤ tk₂ + 1; omega) F₃ N₃ off₀ ⟨hCI, hDI, Ne.symm hDC⟩) (fun y s₄ h₄ => ?_) fun _ _ e => e
        obtain ⟨h₄, tk₄, rfl, F₄, N₄, R₄⟩ := h₄
        have zI := (N₄ (I, oI) List.mem_cons_self).1
        have zC := (N₄ (C, oC) (List.mem_cons_of_mem _ List.mem_cons_self)).1
        have zD := (N₄ (D, LCg.lst ys) (List.mem_cons_of_mem _ (List.mem_cons_of_mem _ List.mem_cons_self))).1
        have N₄' : News h₀ L h₄ news := fun p hp => N₄ p (List.mem_cons_of_mem _ (List.mem_cons_of_mem _ (List.mem_cons_of_mem _ hp)))
        have hst₄ : h₄.IsListIter I ax (i + 1) ∧ h₄.IsList ax its := LCg.list_st _ _ _ _ _ hst₃ heI zI F₄.keep N₄' S
        refine append_at (hsz := by show ys.toArray.size ≤ sizeLine; rw [List.size_toArray, hyl]; exact Nat.le_trans hi hsz) zD fun h₅ hs₅ hD₅ => ?_
        refine ⟨its.size + 1 - (i + 1), by omega, h₅, tk₄, i + 1, ys ++ [y], _, rfl, hlt, rfl, by rw [List.length_append, List.length_singleton, hyl], W.frame _ _ _ hst₄ fun b hb o e => hs₅.extBut b o (fun q => by
            have q' : b = D := q
            rcases List.mem_cons.mp hb with rfl | hb
            · exact hDI q'
            · exact absurd ((List.mem_singleton.mp hb).symm.trans q') (Nat.ne_of_lt (Nat.lt_trans haxI (by omega)))) e, F₄.change hs₅ hDL hD₀,
          (hoC.ns zC).sameBut hs₅ (Ne.symm hDC), fun p hp => ?_, tk₄, Nat.le_refl _, ?_⟩
        · rcases List.mem_cons.mp hp with rfl | hp
          · exact ⟨hD₅.trans (congrArg some (LCg.lst_snoc ys y)), hDL, hD₀⟩
          · exact ⟨hs₅.extBut _ _ (off3 p hp).2.2 (N₄' p hp).1, (N₄' p hp).2⟩
        · rw [show its.size - (i + 1) = j by omega]
          exact R₄
      · obtain rfl : i = its.size := Nat.le_antisymm hi (Nat.not_lt.mp hlt)
        rw [Nat.sub_self] at R'
        refine W.done _ _ _ hst' fun h₂ tk₂ hk₂ => ?_
        have N₂ : News h₀ L h₂ ((D, LCg.lst ys) :: news) := LCg.news_but N' hk₂ fun p hp => by
          rcases List.mem_cons.mp hp with rfl | hp
          · exact Ne.symm hDI
          · exact (off3 p hp).1
        have F₂ := LCg.fr_but F' hk₂ hIL hI₀
        refine hRR h₂ tk₂ m' (hn'.at' fun o e => hk₂ _ o (by simpa using Ne.symm hCI) e) fun h'' hs'' => R' D h'' tk₂ (F₂.change hs'' hCL hC₀) (fun p hp => ?_) off₀.one
        refine ⟨hs''.extBut _ _ ?_ (N₂ p hp).1, (N₂ p hp).2⟩
        rcases List.mem_cons.mp hp with rfl | hp
        · exact hDC
        · exact (off3 p hp).2.1
    · rcases List.mem_cons.mp hp with rfl | hp
      · exact ⟨hacc, hDL, hD₀⟩
      · exact ⟨old _ _ (N₀ p hp).1, (N₀ p hp).2⟩
  exact codeAny_compStart_list (loop _ (fun h tk m' hn hq => ⟨m', hn, hq⟩) _ rfl) (W.self 0 _ _ _ hst₁ (loop _ (fun h tk m' hn hq => ⟨m', hn, hq⟩) _ rfl))
end
end Mine
namespace Mine
open PySem PySem.W PyProof.Rows PySem.Spec PySem.Calls
local macro_rules | `(tactic| k_room) => `(tactic| ktr_room)
theorem gaps_use {w : World} {mean : ExcName → Option Value} {mg mb : Str → Option Value} {dp un : Nat} {gd : Option (List Code)} {cn : Str} {cs : Scope} {a : Addr} {ccd : Value} {cl : List (Str × Addr)} {outer : List Env} {A₀ : Around} {base h₀ : Heap} {L : Addr} {m : Str → Option Value} {s : Shared} {Q E : Value → Shared → Prop} {news : Led} {p : Addr} {p1 p2 p3 p4 : Int} {tp1 tp2 tp3 tp4 : Tok} {ep : Nat} {q : Addr} {q1 q2 q3 q4 : Int} {tq1 tq2 tq3 tq4 : Tok} {eq : Nat}
    (B : Below A₀ base outer h₀) (F : Fr h₀ L s.heap m) (X : (hd.heap_39 w.params).In h₀) (N : News h₀ L s.heap news) (T : Top hd.view_39 (looseW hd.view_39 []) mean mg mb h₀) (hk : cs.kind = .function) (hp : (p, ({ cls := .type "tuple", data := .seq #[.int p1 tp1, .int p2 tp2, .int p3 tp3, .int p4 tp4] ep } : Obj)) ∈ news) (hq : (q, ({ cls := .type "tuple", data := .seq #[.int q1 tq1, .int q2 tq2, .int q3 tq3, .int q4 tq4] eq } : Obj)) ∈ news) (hd : dp + 4 < recursionLimit) (hu : un + 60 < cLine)
    (ret : ∀ (D : Addr) (a1 a2 a3 : Nat) (e : Nat) (h' : Heap) (tk' : Nat), Fr h₀ L h' m → News h₀ L h' ((D, ({ cls := .type "list", data := .seq #[.int (Builtin.bitXor p1 q1) a1, .int (Builtin.bitXor p2 q2) a2, .int (Builtin.bitXor p3 q3) a3] e } : Obj)) :: news) → Q (.ref D) { s with heap := h', toks := tk' }) :
    wpAny (model PySem.Challenge.rw_nb0009_01.row.prog w) (ktrTop dp un gd cn cs L a ccd cl outer) (call (.ref 59) [.ref p, .ref q]) Q E s := by
  revert X; k_fill; intro X
  refine wpAny_call ?_
  k_dflt (refine' enterRC [(p, ({ cls := .type "tuple", data := .seq #[.int p1 tp1, .int p2 tp2, .int p3 tp3, .int p4 tp4] ep } : Obj)), (q, ({ cls := .type "tuple", data := .seq #[.int q1 tq1, .int q2 tq2, .int q3 tq3, .int q4 tq4] eq } : Obj))] ?ks ?k1 ?k2 ?k3 ?k4 ?k5 ?kA ?kF ?kK ?k6 ?k7 ?k8 ?k9 ?kB ?kD ?_ ?c2 ?c3 ?c4; (case ks => repeat' (first | exact List.forall_mem_nil _ | refine List.forall_mem_cons.mpr ⟨by assumption, ?_⟩)); (case kA => exact rfl); (case kF => exact rfl); (case kK => assumption); (case k1 => k_asm); (case k2 => k_asm); (case k3 => k_asm); (case k4 => k_asm); (case k5 => k_asm); (case k6 => k_is); (case k7 => k_is); (case k8 => ktr_room); (case k9 => exact BindsTo.of_eq rfl); (case kB => exact rfl); (case kD => decide +kernel); (case c2 => exact rfl); (case c3 => exact rfl); (case c4 => exact rfl); k_whole; intro g' L' h' tk' cells' FG' F' N' Y' B' X' T' hRc l1; (try k_lt l1); k_cells Y'; (try simp only [List.cons_append, List.nil_append] at N'); (try dsimp only); (try k_fold))
  k_steps
  rename IntsAre _ _ => hI
  obtain ⟨b1, b2, b3, hys⟩ := ints3 (a := Builtin.bitXor p1 q1) (b := Builtin.bitXor p2 q2) (c := Builtin.bitXor p3 q3) hI rfl
  subst hys
  rename News _ _ _ _ => kN
  exact ret _ b1 b2 b3 _ _ _ (by k_asm) (hRc.back1 (by assumption) kN List.mem_cons_self (by simp))

end Mine
namespace Mine
open PySem PySem.W PyProof.Rows PySem.Spec PySem.Calls
local macro_rules | `(tactic| k_room) => `(tactic| ktr_room)
local macro_rules | `(tactic| walk_at "execs cons") => `(tactic| ((with_reducible refine wpAny_execs_cons ?_); try dsimp only))
local macro_rules | `(tactic| walk_at "eval ListComp") => `(tactic| (k_here; k_dflt (refine listComp_T (by k_asm) (by rfl) (by decide) (by rfl) (by decide) (by rfl) ?_)))
theorem heights_use {w : World} {mean : ExcName → Option Value} {mg mb : Str → Option Value} {dp un : Nat} {gd : Option (List Code)} {cn : Str} {cs : Scope} {a : Addr} {ccd : Value} {cl : List (Str × Addr)} {outer : List Env} {A₀ : Around} {base h₀ : Heap} {L : Addr} {m : Str → Option Value} {s : Shared} {Q E : Value → Shared → Prop} {news : Led} {p : Addr} {p1 p2 p3 p4 : Int} {tp1 tp2 tp3 tp4 : Tok} {ep : Nat} {q : Addr} {q1 q2 q3 q4 : Int} {tq1 tq2 tq3 tq4 : Tok} {eq : Nat}
    (B : Below A₀ base outer h₀) (F : Fr h₀ L s.heap m) (X : (hd.heap_39 w.params).In h₀) (N : News h₀ L s.heap news) (T : Top hd.view_39 (looseW hd.view_39 []) mean mg mb h₀) (hk : cs.kind = .function) (hp : (p, ({ cls := .type "tuple", data := .seq #[.int p1 tp1, .int p2 tp2, .int p3 tp3, .int p4 tp4] ep } : Obj)) ∈ news) (hq : (q, ({ cls := .type "tuple", data := .seq #[.int q1 tq1, .int q2 tq2, .int q3 tq3, .int q4 tq4] eq } : Obj)) ∈ news) (hd : dp + 6 < recursionLimit) (hu : un + 100 < cLine)
    (ret : ∀ (D : Addr) (a1 a2 a3 : Nat) (e : Nat) (h' : Heap) (tk' : Nat), 0 < a1 → a1 < a2 → a2 < a3 → Fr h₀ L h' m → News h₀ L h' ((D, ({ cls := .type "list", data := .seq #[.int (hbit p1 q1) a1, .int (hbit p2 q2) a2, .int (hbit p3 q3) a3] e } : Obj)) :: news) → Q (.ref D) { s with heap := h', toks := tk' }) :
    wpAny (model PySem.Challenge.rw_nb0009_01.row.prog w) (ktrTop dp un gd cn cs L a ccd cl outer) (call (.ref 64) [.ref p, .ref q]) Q E s := by
  revert X; k_fill; intro X
  refine wpAny_call ?_
  k_dflt (refine' enterR [(p, ({ cls := .type "tuple", data := .seq #[.int p1 tp1, .int p2 tp2, .int p3 tp3, .int p4 tp4] ep } : Obj)), (q, ({ cls := .type "tuple", data := .seq #[.int q1 tq1, .int q2 tq2, .int q3 tq3, .int q4 tq4] eq } : Obj))] ?ks ?k1 ?k2 ?k3 ?k4 ?k5 ?kA ?kF ?kK ?k6 ?k7 ?k8 ?k9 ?kB ?_ ?c2 ?c3 ?c4 ?c5; (case ks => repeat' (first | exact List.forall_mem_nil _ | refine List.forall_mem_cons.mpr ⟨by assumption, ?_⟩)); (case kA => exact rfl); (case kF => exact rfl); (case kK => assumption); (case k1 => k_asm); (case k2 => k_asm); (case k3 => k_asm); (case k4 => k_asm); (case k5 => k_asm); (case k6 => k_is); (case k7 => k_is); (case k8 => ktr_room); (case k9 => exact BindsTo.of_eq rfl); (case kB => exact locs rfl); (case c2 => exact rfl); (case c3 => exact rfl); (case c4 => exact rfl); (case c5 => decide); k_whole; intro g' L' h' FG' F' N' B' X' T' hRc l1; (try k_lt l1); (try dsimp only); (try k_fold))
  repeat' (first | (k_unfold; (try dsimp only)) | (k_end; wrow_close) | with_reducible (k_here; (with_reducible show wpAny _ _ (PySem.call (Value.ref 59) _) _ _ _); k_dflt (refine' gaps_use (by k_asm) (by k_asm) (by k_asm) (by k_asm) (by k_asm) (by first | exact rfl | assumption) (by k_mem) (by k_mem) (by ktr_room) (by ktr_units) ?_); intro D9 a91 a92 a93 e9 h9 tk9 F9 N9; (try dsimp only); (try k_fold)) | walk1 | (dsimp only; walk1) | (leave1; try dsimp only))
  refine ⟨_, _, _, _, rfl, rfl, by k_asm, by k_asm, List.mem_cons_self, by size_fits, ?_⟩
  intro g'
  intro v I oI C oC D m₂ h tk E' hv hC hx hlo F9 N9 off ne
  have hv' : v = Value.int (Builtin.bitXor p1 q1) _ := (Option.some.inj hv).symm
  subst hv'
  simp only [LCg.Off3, and_true] at off
  (try dsimp only)
  (try k_fold)
  repeat' (first | (k_unfold; (try dsimp only)) | (k_end; wrow_close) | with_reducible (k_here; (with_reducible show wpAny _ _ (PySem.call (Value.ref 59) _) _ _ _); k_dflt (refine' gaps_use (by k_asm) (by k_asm) (by k_asm) (by k_asm) (by k_asm) (by first | exact rfl | assumption) (by k_mem) (by k_mem) (by ktr_room) (by ktr_units) ?_); intro D9 a91 a92 a93 e9 h9 tk9 F9 N9; (try dsimp only); (try k_fold)) | walk1 | (dsimp only; walk1) | (leave1; try dsimp only))
  refine EndT.intro (by k_asm) (by k_asm) ?_
  intro v I oI C oC D m₂ h tk E' hv hC hx hlo F9 N9 off ne
  have hv' : v = Value.int (Builtin.bitXor p2 q2) _ := (Option.some.inj hv).symm
  subst hv'
  simp only [LCg.Off3, and_true] at off
  (try dsimp only)
  (try k_fold)
  repeat' (first | (k_unfold; (try dsimp only)) | (k_end; wrow_close) | with_reducible (k_here; (with_reducible show wpAny _ _ (PySem.call (Value.ref 59) _) _ _ _); k_dflt (refine' gaps_use (by k_asm) (by k_asm) (by k_asm) (by k_asm) (by k_asm) (by first | exact rfl | assumption) (by k_mem) (by k_mem) (by ktr_room) (by ktr_units) ?_); intro D9 a91 a92 a93 e9 h9 tk9 F9 N9; (try dsimp only); (try k_fold)) | walk1 | (dsimp only; walk1) | (leave1; try dsimp only))
  refine EndT.intro (by k_asm) (by k_asm) ?_
  intro v I oI C oC D m₂ h tk E' hv hC hx hlo F9 N9 off ne
  have hv' : v = Value.int (Builtin.bitXor p3 q3) _ := (Option.some.inj hv).symm
  subst hv'
  simp only [LCg.Off3, and_true] at off
  (try dsimp only)
  (try k_fold)
  repeat' (first | (k_unfold; (try dsimp only)) | (k_end; wrow_close) | with_reducible (k_here; (with_reducible show wpAny _ _ (PySem.call (Value.ref 59) _) _ _ _); k_dflt (refine' gaps_use (by k_asm) (by k_asm) (by k_asm) (by k_asm) (by k_asm) (by first | exact rfl | assumption) (by k_mem) (by k_mem) (by ktr_room) (by ktr_units) ?_); intro D9 a91 a92 a93 e9 h9 tk9 F9 N9; (try dsimp only); (try k_fold)) | walk1 | (dsimp only; walk1) | (leave1; try dsimp only))
  refine EndT.intro (by k_asm) (by k_asm) ?_

  intro D h tk F9 N9 o1
  (try dsimp only at F9 N9)
  (try simp only [List.nil_append, List.cons_append] at N9)
  repeat' (first | (k_unfold; (try dsimp only)) | (k_end; wrow_close) | with_reducible (k_here; (with_reducible show wpAny _ _ (PySem.call (Value.ref 59) _) _ _ _); k_dflt (refine' gaps_use (by k_asm) (by k_asm) (by k_asm) (by k_asm) (by k_asm) (by first | exact rfl | assumption) (by k_mem) (by k_mem) (by ktr_room) (by ktr_units) ?_); intro D9 a91 a92 a93 e9 h9 tk9 F9 N9; (try dsimp only); (try k_fold)) | walk1 | (dsimp only; walk1) | (leave1; try dsimp only))
  rename News _ _ _ _ => kN
  refine ret _ _ _ _ _ _ _ ?o1 ?o2 ?o3 (by k_asm) (hRc.back1 (by assumption) kN List.mem_cons_self (by simp))
  all_goals (try dsimp only at *)
  all_goals (try simp only [List.length_cons, List.length_nil] at *)
  all_goals (first | omega)

end Mine
namespace Mine
open PySem PySem.W PyProof.Rows PySem.Spec PySem.Calls
local macro_rules | `(tactic| walk_at "mine nowhere") => `(tactic| fail)
local macro_rules | `(tactic| k_room) => `(tactic| ktr_room)
local macro_rules | `(tactic| walk_at "exec For Tuple Call") => `(tactic| (k_here; (rename Fr _ _ _ _ => lF'); (with_unfolding_all refine' for_else lF' ?_; k_whole)))
local macro_rules | `(tactic| walk_at "OnlyRet") => `(tactic| (refine onlyRet_ret ?_))
theorem index_use {w : World} {mean : ExcName → Option Value} {mg mb : Str → Option Value} {dp un : Nat} {gd : Option (List Code)} {cn : Str} {cs : Scope} {a : Addr} {ccd : Value} {cl : List (Str × Addr)} {outer : List Env} {A₀ : Around} {base h₀ : Heap} {L : Addr} {m : Str → Option Value} {s : Shared} {Q E : Value → Shared → Prop} {news : Led} {l : Addr} {x1 x2 x3 b : Int} {t1 t2 t3 tb : Nat} {e : Nat}
    (B : Below A₀ base outer h₀) (F : Fr h₀ L s.heap m) (X : (hd.heap_39 w.params).In h₀) (N : News h₀ L s.heap news) (T : Top hd.view_39 (looseW hd.view_39 []) mean mg mb h₀) (hk : cs.kind = .function) (hl : (l, ({ cls := .type "list", data := .seq #[Value.int x1 t1, Value.int x2 t2, Value.int x3 t3] e } : Obj)) ∈ news) (hb : (b = x1 ∧ tb = t1) ∨ (b = x2 ∧ tb = t2) ∨ (b = x3 ∧ tb = t3)) (ht : 0 < t1 ∧ t1 < t2 ∧ t2 < t3) (hx : (-5 ≤ x1 ∧ x1 ≤ 256) ∧ (-5 ≤ x2 ∧ x2 ≤ 256) ∧ (-5 ≤ x3 ∧ x3 ≤ 256)) (hd : dp + 6 < recursionLimit) (hu : un + 100 < cLine)
    (ret : ∀ (i : Int) (t : Tok) (h' : Heap) (tk' : Nat), i = idx3 x1 x2 x3 b → 0 ≤ i → i ≤ 2 → Fr h₀ L h' m → News h₀ L h' news → Q (.int i t) { s with heap := h', toks := tk' }) :
    wpAny (model PySem.Challenge.rw_nb0009_01.row.prog w) (ktrTop dp un gd cn cs L a ccd cl outer) (call (.ref 49) [.ref l, .int b tb]) Q E s := by
  revert X; k_fill; intro X
  refine wpAny_call ?_
  k_dflt (refine' enterR [(l, ({ cls := .type "list", data := .seq #[Value.int x1 t1, Value.int x2 t2, Value.int x3 t3] e } : Obj))] ?ks ?k1 ?k2 ?k3 ?k4 ?k5 ?kA ?kF ?kK ?k6 ?k7 ?k8 ?k9 ?kB ?_ ?c2 ?c3 ?c4 ?c5; (case ks => repeat' (first | exact List.forall_mem_nil _ | refine List.forall_mem_cons.mpr ⟨by assumption, ?_⟩)); (case kA => exact rfl); (case kF => exact rfl); (case kK => assumption); (case k1 => k_asm); (case k2 => k_asm); (case k3 => k_asm); (case k4 => k_asm); (case k5 => k_asm); (case k6 => k_is); (case k7 => k_is); (case k8 => ktr_room); (case k9 => exact BindsTo.of_eq rfl); (case kB => exact locs rfl); (case c2 => exact rfl); (case c3 => exact rfl); (case c4 => exact rfl); (case c5 => decide); k_whole; intro g' L' h' FG' F' N' B' X' T' hRc l1; (try k_lt l1); (try dsimp only); (try k_fold))
  repeat' (first | (k_unfold; (try dsimp only)) | (k_end; wrow_close) | with_reducible (k_here; (with_reducible show wpAny _ _ (compareOp CmpOp.Is (Value.int _ _) (Value.int _ _)) _ _ _); refine is_int ⟨by omega, by omega⟩ (by omega) (by omega) (fun h9 => by omega) ?_) | walk1 | (dsimp only; walk1) | (leave1; try dsimp only))
  all_goals (
    rename News _ _ _ _ => kN
    refine ret _ _ _ _ ?_ (by decide) (by decide) (by k_asm) (hRc.back (by assumption) kN (by simp))
    unfold idx3
    (try simp only [decide_eq_true_eq, decide_eq_false_iff_not, Bool.not_eq_true] at *)
    (repeat' split) <;> omega)

end Mine
namespace Mine
open PySem PySem.W PyProof.Rows PySem.Spec PySem.Calls
def I16 (x : Int) : Prop := 0 ≤ x ∧ x < 65536
/-- how many binary places a number has -/
def bits (n : Nat) : Nat := if n = 0 then 0 else n.log2 + 1
theorem bits_le {n t : Nat} : bits n ≤ t ↔ n < 2 ^ t := by
  unfold bits
  by_cases h : n = 0
  · subst h
    simp [Nat.two_pow_pos]
  · rw [if_neg h, ← Nat.log2_lt h]
    omega
theorem xor_add (n : Nat) : ∀ a b : Nat, a < n → (a ^^^ b) + 2 * (a &&& b) = a + b := by
  induction n with
  | zero => intro a b h; omega
  | succ n ih =>
    intro a b h
    by_cases ha : a = 0
    · subst ha; simp
    · have i := ih (a / 2) (b / 2) (by omega)
      have x1 : (a ^^^ b) / 2 = a / 2 ^^^ b / 2 := Nat.xor_div_two
      have a1 : (a &&& b) / 2 = a / 2 &&& b / 2 := Nat.and_div_two
      have x2 := Nat.xor_mod_two_eq_one (a := a) (b := b)
      have a2 := Nat.and_mod_two_eq_one (a := a) (b := b)
      rcases Nat.mod_two_eq_zero_or_one a with p | p <;> rcases Nat.mod_two_eq_zero_or_one b with q | q <;> omega
theorem xor_zero {a b : Nat} : a ^^^ b = 0 ↔ a = b := by
  constructor
  · intro h
    have e : (a ^^^ b) ^^^ b = a := by rw [Nat.xor_assoc, Nat.xor_self, Nat.xor_zero]
    rw [h, Nat.zero_xor] at e
    exact e.symm
  · intro h; rw [h, Nat.xor_self]
theorem xor_int {x y : Int} (hx : 0 ≤ x) (hy : 0 ≤ y) : Builtin.bitXor x y = ((x.toNat ^^^ y.toNat : Nat) : Int) := by
  rw [bitXor_and, bitAnd_pp hx hy]
  have := xor_add (x.toNat + 1) x.toNat y.toNat (by omega)
  omega
theorem intBits_nat (n : Nat) : Builtin.Int.intBits (n : Int) = bits n := by
  unfold Builtin.Int.intBits bits
  by_cases h : n = 0
  · subst h; rfl
  · have h2 : ((n : Int) == 0) = false := by simp [h]
    rw [h2, if_neg h]
    simp
theorem hbit_eq {x y : Int} (hx : 0 ≤ x) (hy : 0 ≤ y) : hbit x y = (bits (x.toNat ^^^ y.toNat) : Int) - 1 := by
  unfold hbit
  rw [xor_int hx hy, intBits_nat]
theorem xor_lt {a b t : Nat} : a ^^^ b < 2 ^ t ↔ a / 2 ^ t = b / 2 ^ t := by
  have h1 : (a ^^^ b) / 2 ^ t = a / 2 ^ t ^^^ b / 2 ^ t := by
    rw [← Nat.shiftRight_eq_div_pow, ← Nat.shiftRight_eq_div_pow, ← Nat.shiftRight_eq_div_pow, Nat.shiftRight_xor_distrib]
  rw [← Nat.div_eq_zero_iff_lt (Nat.two_pow_pos t), h1, xor_zero]
theorem bits_xor {a b t : Nat} : bits (a ^^^ b) ≤ t ↔ a / 2 ^ t = b / 2 ^ t := bits_le.trans xor_lt
theorem hbit_in {x y : Int} (hx : I16 x) (hy : I16 y) : -5 ≤ hbit x y ∧ hbit x y ≤ 256 := by
  rw [hbit_eq hx.1 hy.1]
  have : bits (x.toNat ^^^ y.toNat) ≤ 16 := by
    rw [bits_xor, Nat.div_eq_of_lt (by have := hx.2; omega), Nat.div_eq_of_lt (by have := hy.2; omega)]
  omega
/-- Chan's test -/
theorem chan {a b : Nat} : bits a < bits b ↔ a < b ∧ a < a ^^^ b := by
  constructor
  · intro h
    have h1 : a < 2 ^ (bits b - 1) := bits_le.mp (by omega)
    have h2 : ¬ b < 2 ^ (bits b - 1) := fun q => by have := bits_le.mpr q; omega
    refine ⟨by omega, ?_⟩
    have h3 : ¬ a ^^^ b < 2 ^ (bits b - 1) := fun q => by
      have := xor_lt.mp q
      rw [Nat.div_eq_of_lt h1] at this
      have := (Nat.div_eq_zero_iff_lt (Nat.two_pow_pos _)).mp this.symm
      omega
    omega
  · rintro ⟨h1, h2⟩
    have mono : bits a ≤ bits b := bits_le.mpr (Nat.lt_trans h1 (bits_le.mp (Nat.le_refl _)))
    rcases Nat.lt_or_ge (bits a) (bits b) with h | h
    · exact h
    · exfalso
      have e : bits a = bits b := by omega
      by_cases hz : bits b = 0
      · have := bits_le.mp (Nat.le_of_eq hz); omega
      · have ha : ¬ a < 2 ^ (bits b - 1) := fun q => by have := bits_le.mpr q; omega
        have hb : ¬ b < 2 ^ (bits b - 1) := fun q => by have := bits_le.mpr q; omega
        have ua : a < 2 ^ (bits b) := bits_le.mp (by omega)
        have ub : b < 2 ^ (bits b) := bits_le.mp (by omega)
        have hp : 2 ^ (bits b) = 2 * 2 ^ (bits b - 1) := by
          have : bits b = bits b - 1 + 1 := by omega
          rw [this, Nat.pow_succ, Nat.mul_comm]; simp
        have da : a / 2 ^ (bits b - 1) = 1 := Nat.div_eq_of_lt_le (by omega) (by omega)
        have db : b / 2 ^ (bits b - 1) = 1 := Nat.div_eq_of_lt_le (by omega) (by omega)
        have q := (xor_lt (a := a) (b := b) (t := bits b - 1)).mpr (by rw [da, db])
        omega
end Mine
namespace Mine
open PySem PySem.W PyProof.Rows PySem.Spec PySem.Calls
local macro_rules | `(tactic| k_room) => `(tactic| ktr_room)
theorem mem3 {a b c : Int} {t u v : Nat} {M : Int} {w : Nat} (h : Value.int M w ∈ [Value.int a t, Value.int b u, Value.int c v]) : (M = a ∧ w = t) ∨ (M = b ∧ w = u) ∨ (M = c ∧ w = v) := by
  simpa using h
/-- the first place where a, b, c are greatest -/
def top3 (a b c : Int) : Int := if b ≤ a ∧ c ≤ a then 0 else if a ≤ b ∧ c ≤ b then 1 else 2
def befB (x1 x2 x3 y1 y2 y3 : Int) : Bool := match top3 (hbit x1 y1) (hbit x2 y2) (hbit x3 y3) with
  | 0 => decide (x1 < y1)
  | 1 => decide (x2 < y2)
  | _ => decide (x3 < y3)
theorem before_eq {p1 p2 p3 p4 q1 q2 q3 q4 i M : Int} {w t u v : Nat} (hi : i = idx3 (hbit p1 q1) (hbit p2 q2) (hbit p3 q3) M) (hm : (M = hbit p1 q1 ∧ w = t) ∨ (M = hbit p2 q2 ∧ w = u) ∨ (M = hbit p3 q3 ∧ w = v))
    (hM : hbit p1 q1 ≤ M ∧ hbit p2 q2 ≤ M ∧ hbit p3 q3 ≤ M) : decide ([p1, p2, p3, p4].getD i.toNat 0 < [q1, q2, q3, q4].getD i.toNat 0) = befB p1 p2 p3 q1 q2 q3 := by
  have e : i = top3 (hbit p1 q1) (hbit p2 q2) (hbit p3 q3) := by
    rw [hi]; unfold idx3 top3; (repeat' split) <;> omega
  unfold befB
  rw [← e]
  have h3 : i = 0 ∨ i = 1 ∨ i = 2 := by rw [e]; unfold top3; (repeat' split) <;> simp
  rcases h3 with h | h | h <;> subst h <;> rfl
theorem before_use {w : World} {mean : ExcName → Option Value} {mg mb : Str → Option Value} {dp un : Nat} {gd : Option (List Code)} {cn : Str} {cs : Scope} {a : Addr} {ccd : Value} {cl : List (Str × Addr)} {outer : List Env} {A₀ : Around} {base h₀ : Heap} {L : Addr} {m : Str → Option Value} {s : Shared} {Q E : Value → Shared → Prop} {news : Led} {p : Addr} {p1 p2 p3 p4 : Int} {tp1 tp2 tp3 tp4 : Tok} {ep : Nat} {q : Addr} {q1 q2 q3 q4 : Int} {tq1 tq2 tq3 tq4 : Tok} {eq : Nat}
    (B : Below A₀ base outer h₀) (F : Fr h₀ L s.heap m) (X : (hd.heap_39 w.params).In h₀) (N : News h₀ L s.heap news) (T : Top hd.view_39 (looseW hd.view_39 []) mean mg mb h₀) (hk : cs.kind = .function) (hp : (p, ({ cls := .type "tuple", data := .seq #[.int p1 tp1, .int p2 tp2, .int p3 tp3, .int p4 tp4] ep } : Obj)) ∈ news) (hq : (q, ({ cls := .type "tuple", data := .seq #[.int q1 tq1, .int q2 tq2, .int q3 tq3, .int q4 tq4] eq } : Obj)) ∈ news) (b1 : I16 p1) (b2 : I16 p2) (b3 : I16 p3) (c1 : I16 q1) (c2 : I16 q2) (c3 : I16 q3) (hd : dp + 10 < recursionLimit) (hu : un + 150 < cLine)
    (ret : ∀ (h' : Heap) (tk' : Nat), Fr h₀ L h' m → News h₀ L h' news → Q (.bool (befB p1 p2 p3 q1 q2 q3)) { s with heap := h', toks := tk' }) :
    wpAny (model PySem.Challenge.rw_nb0009_01.row.prog w) (ktrTop dp un gd cn cs L a ccd cl outer) (call (.ref 71) [.ref p, .ref q]) Q E s := by
  revert X; k_fill; intro X
  refine wpAny_call ?_
  k_dflt (refine' enterR [(p, ({ cls := .type "tuple", data := .seq #[.int p1 tp1, .int p2 tp2, .int p3 tp3, .int p4 tp4] ep } : Obj)), (q, ({ cls := .type "tuple", data := .seq #[.int q1 tq1, .int q2 tq2, .int q3 tq3, .int q4 tq4] eq } : Obj))] ?ks ?k1 ?k2 ?k3 ?k4 ?k5 ?kA ?kF ?kK ?k6 ?k7 ?k8 ?k9 ?kB ?_ ?c2 ?c3 ?c4 ?c5; (case ks => repeat' (first | exact List.forall_mem_nil _ | refine List.forall_mem_cons.mpr ⟨by assumption, ?_⟩)); (case kA => exact rfl); (case kF => exact rfl); (case kK => assumption); (case k1 => k_asm); (case k2 => k_asm); (case k3 => k_asm); (case k4 => k_asm); (case k5 => k_asm); (case k6 => k_is); (case k7 => k_is); (case k8 => ktr_room); (case k9 => exact BindsTo.of_eq rfl); (case kB => exact locs rfl); (case c2 => exact rfl); (case c3 => exact rfl); (case c4 => exact rfl); (case c5 => decide); k_whole; intro g' L' h' FG' F' N' B' X' T' hRc l1; (try k_lt l1); (try dsimp only); (try k_fold))
  repeat' (first | (k_unfold; (try dsimp only)) | (k_end; wrow_close) | with_reducible (k_here; (with_reducible show wpAny _ _ (call (Value.builtin _) [Value.ref _]) _ _ _); (with_unfolding_all refine' max_item ?k6 ?k1 ?k2 ?k3 ?k4 ?k5 ?_; (case k1 => k_asm); (case k2 => k_asm); (case k3 => kso_list); (case k4 => l_ints); (case k5 => kso_len); (case k6 => with_unfolding_all rfl); k_whole); intro h' M' t' k' F' N' a' b'; (try kso_open b'); replace a' := mem3 a'; (try k_sweep)) | with_reducible (k_here; (with_reducible show wpAny _ _ (PySem.call (Value.ref 49) _) _ _ _); k_dflt (refine' index_use (by k_asm) (by k_asm) (by k_asm) (by k_asm) (by k_asm) (by first | exact rfl | assumption) (by k_mem) (by assumption) (by exact ⟨by assumption, by assumption, by assumption⟩) (by exact ⟨hbit_in (by assumption) (by assumption), hbit_in (by assumption) (by assumption), hbit_in (by assumption) (by assumption)⟩) (by ktr_room) (by ktr_units) ?_); intro i9 t9 h9 tk9 hi9 lo9 up9 F9 N9; (try dsimp only); (try k_fold)) | with_reducible (k_here; (with_reducible show wpAny _ _ (PySem.call (Value.ref 64) _) _ _ _); k_dflt (refine' heights_use (by k_asm) (by k_asm) (by k_asm) (by k_asm) (by k_asm) (by first | exact rfl | assumption) (by k_mem) (by k_mem) (by ktr_room) (by ktr_units) ?_); intro D9 a91 a92 a93 e9 h9 tk9 o91 o92 o93 F9 N9; (try dsimp only); (try k_fold)) | walk1 | (dsimp only; walk1) | (leave1; try dsimp only))
  rename News _ _ _ _ => kN
  refine cb_retB (Q := Q) (s := s) (fun _ h' tk' F' N' => ret h' tk' F' N') ?_ (by k_asm) (hRc.back (by assumption) kN (by simp))
  exact before_eq (by assumption) (by assumption) (by assumption)

end Mine
namespace Mine
open PySem PySem.W PyProof.Rows PySem.Spec PySem.Calls
/-- a point: its three numbers, its place, their tokens -/
structure Pt where
  x : Int
  y : Int
  z : Int
  k : Int
  tx : Nat
  ty : Nat
  tz : Nat
  tk : Nat
  e : Nat
abbrev Pt.o (P : Pt) : Obj := { cls := .type "tuple", data := .seq #[.int P.x P.tx, .int P.y P.ty, .int P.z P.tz, .int P.k P.tk] P.e }
structure Pt.ok (P : Pt) : Prop where
  x : I16 P.x
  y : I16 P.y
  z : I16 P.z
abbrev APt := Addr × Pt
def bef (p a : APt) : Bool := befB p.2.x p.2.y p.2.z a.2.x a.2.y a.2.z
def ins : List APt → APt → List APt
  | [], p => [p]
  | a :: r, p => if bef p a then p :: a :: r else a :: ins r p
abbrev refs (r : List APt) : List Value := r.map fun a => Value.ref a.1
theorem ins_length (r : List APt) (p : APt) : (ins r p).length = r.length + 1 := by
  induction r with
  | nil => rfl
  | cons a r ih => unfold ins; split <;> simp [ih]
theorem mem_ins {r : List APt} {p a : APt} (h : a ∈ ins r p) : a = p ∨ a ∈ r := by
  induction r with
  | nil => simpa [ins] using h
  | cons b r ih =>
    unfold ins at h
    split at h
    · simpa using h
    · rcases List.mem_cons.mp h with rfl | h
      · simp
      · rcases ih h with h | h <;> simp [h]
end Mine
namespace Mine
open PySem PySem.W PyProof.Rows PySem.Spec PySem.Calls
theorem I16x {P : Pt} (h : Pt.ok P) : I16 P.x := h.x
theorem I16y {P : Pt} (h : Pt.ok P) : I16 P.y := h.y
theorem I16z {P : Pt} (h : Pt.ok P) : I16 P.z := h.z
abbrev listO (vs : List Value) (e : Nat) : Obj := { cls := .type "list", data := .seq vs.toArray e }
section
variable {prog : Program} {w : World} {A : Around} {E : Value → Shared → Prop} {s : Shared} {h₀ : Heap} {L l : Addr} {m : Str → Option Value} {led led₀ : Led} {r : List APt} {e e2 : Nat} {Q : Value → Shared → Prop}
theorem list_at {vs : List Value} (N : News h₀ L s.heap led) (hm : (l, listO vs e) ∈ led) : s.heap.IsList l vs.toArray := ⟨_, (N _ hm).1, rfl, e, rfl⟩
theorem len_row (N : News h₀ L s.heap led) (hm : (l, listO (refs r) e) ∈ led) (h7 : r.length ≤ 100) (h : Q (.int r.length (s.toks + 1)) { s with toks := s.toks + 1 + 1 }) : wpAny (model prog w) A (call (.builtin "len") [.ref l]) Q E s := by
  have hz : (refs r).toArray.size = r.length := by simp
  refine len_list (list_at N hm) (by rw [hz]; omega) ?_
  rw [hz]; exact h
theorem item_row {value slice : PySem.Expr} {k : Int} {u : Tok} (N : News h₀ L s.heap led) (hm : (l, listO (refs r) e) ∈ led) (h7 : r.length ≤ 100) (h0 : 0 ≤ k) (h1 : k < r.length)
    (hr : ∀ a ∈ r, (a.1, ({ cls := .type "tuple", data := .seq #[.int a.2.x a.2.tx, .int a.2.y a.2.ty, .int a.2.z a.2.tz, .int a.2.k a.2.tk] a.2.e } : Obj)) ∈ led₀ ∧ Pt.ok a.2)
    (h : ∀ a : APt, r[k.toNat]? = some a → (a.1, ({ cls := .type "tuple", data := .seq #[.int a.2.x a.2.tx, .int a.2.y a.2.ty, .int a.2.z a.2.tz, .int a.2.k a.2.tk] a.2.e } : Obj)) ∈ led₀ → Pt.ok a.2 → Q (.ref a.1) s)
    (hs : subscripted slice false (.ref l) (.int k u) = operate [.ref l, .int k u] (getItem (.ref l) (.int k u)) := by with_unfolding_all rfl) (hg : ∀ r, letTemporaryGo value (.ref l) r = pure () := by intro _; with_unfolding_all rfl) :
    wpAny (model prog w) A (subscriptTail value slice (.ref l) (.int k u)) Q E s := by
  have hk : k.toNat < r.length := by omega
  have hx : r[k.toNat]? = some r[k.toNat] := List.getElem?_eq_getElem hk
  have ha := hr _ (List.getElem_mem hk)
  exact item_listL (list_at N hm) h0 (by omega) (by rw [List.getElem?_map, hx]; rfl) (h _ hx ha.1 ha.2) hs hg
theorem add_rows {vs ws : List Value} {b : Addr} (F : Fr h₀ L s.heap m) (N : News h₀ L s.heap led) (hl : (l, listO vs e) ∈ led) (hb : (b, listO ws e2) ∈ led) (hz : vs.length + ws.length ≤ 1000)
    (h : ∀ D h', Fr h₀ L h' m → News h₀ L h' ((D, listO (vs ++ ws) 0) :: led) → Q (.ref D) { s with heap := h' }) :
    wpAny (model prog w) A (binaryOp .Add (.ref l) (.ref b)) Q E s := by
  refine add_arrays F N (list_at N hl) (list_at N hb) (fun h' F' N' => h _ h' F' ?_) (by rw [sizeLine_eq]; simp only [List.size_toArray]; omega)
  simpa using N'
theorem pick_upto {k : Int} (h0 : 0 ≤ k) : kms_pick (refs r) none (some k) = refs (r.take k.toNat) := by
  unfold kms_pick kms_lo kms_hi
  simp only [if_neg (Int.not_lt.mpr h0), List.drop_zero, Nat.sub_zero, List.map_take]
  rw [kmk_take_min]
theorem pick_from {k : Int} (h0 : 0 ≤ k) : kms_pick (refs r) (some k) none = refs (r.drop k.toNat) := by
  unfold kms_pick kms_lo kms_hi
  simp only [if_neg (Int.not_lt.mpr h0), List.map_drop]
  rw [kmk_drop_min, List.take_of_length_le]
  rw [List.length_drop]
  omega
theorem slice_upto {value slice : PySem.Expr} {k : Int} {u : Tok} (F : Fr h₀ L s.heap m) (N : News h₀ L s.heap led) (hm : (l, listO (refs r) e) ∈ led) (h7 : r.length ≤ 100) (h0 : 0 ≤ k)
    (h : ∀ D h', Fr h₀ L h' m → News h₀ L h' ((D, listO (refs (r.take k.toNat)) 0) :: led) → Q (.ref D) { s with heap := h' })
    (hs : subscripted slice false (.ref l) (.ref s.heap.objs.size) = operate [.ref s.heap.objs.size, .ref l] (getItem (.ref l) (.ref s.heap.objs.size)) := by with_unfolding_all rfl) (ht : ∀ r, letTemporaryGo value (.ref l) r = pure () := by intro _; with_unfolding_all rfl) :
    wpAny (model prog w) A (subscriptTail value slice (.ref l) (.ref s.heap.objs.size)) Q E { s with heap := s.heap.push { cls := .type "slice", data := .fields #[.none, .int k u, .none] } } :=
  kms_slice_lit F N (list_at N hm) .none (.int _ _) (pick_upto h0) (fun D h' F' N' _ => h D h' F' N') hs ht (by rw [sizeLine_eq, List.size_toArray, List.length_map]; omega)
theorem slice_from {value slice : PySem.Expr} {k : Int} {u : Tok} (F : Fr h₀ L s.heap m) (N : News h₀ L s.heap led) (hm : (l, listO (refs r) e) ∈ led) (h7 : r.length ≤ 100) (h0 : 0 ≤ k)
    (h : ∀ D h', Fr h₀ L h' m → News h₀ L h' ((D, listO (refs (r.drop k.toNat)) 0) :: led) → Q (.ref D) { s with heap := h' })
    (hs : subscripted slice false (.ref l) (.ref s.heap.objs.size) = operate [.ref s.heap.objs.size, .ref l] (getItem (.ref l) (.ref s.heap.objs.size)) := by with_unfolding_all rfl) (ht : ∀ r, letTemporaryGo value (.ref l) r = pure () := by intro _; with_unfolding_all rfl) :
    wpAny (model prog w) A (subscriptTail value slice (.ref l) (.ref s.heap.objs.size)) Q E { s with heap := s.heap.push { cls := .type "slice", data := .fields #[.int k u, .none, .none] } } :=
  kms_slice_lit F N (list_at N hm) (.int _ _) .none (pick_from h0) (fun D h' F' N' _ => h D h' F' N') hs ht (by rw [sizeLine_eq, List.size_toArray, List.length_map]; omega)
end
theorem search_step {r : List APt} {p a : APt} {pre : List Int} {n : Int} (h : ∀ (i : Nat) (a : APt), i < pre.length → r[i]? = some a → bef p a = false) (hn : n = 0 + (pre.length : Int)) (ha : r[n.toNat]? = some a)
    (hb : befB p.2.x p.2.y p.2.z a.2.x a.2.y a.2.z = false) : ∀ (i : Nat) (a : APt), i < (pre ++ [n]).length → r[i]? = some a → bef p a = false := by
  intro i b hi hb'
  rw [List.length_append, List.length_singleton] at hi
  rcases Nat.lt_or_ge i pre.length with h1 | h1
  · exact h i b h1 hb'
  · have e : i = n.toNat := by omega
    rw [e, ha] at hb'
    cases hb'
    exact hb
theorem ins_at {p : APt} : ∀ {r : List APt} {k : Nat} {a : APt}, (∀ (i : Nat) (b : APt), i < k → r[i]? = some b → bef p b = false) → r[k]? = some a → bef p a = true → ins r p = r.take k ++ p :: r.drop k
  | [], k, a, _, ha, _ => by simp at ha
  | b :: r, 0, a, _, ha, hb => by
    have e : b = a := by simpa using ha
    subst e
    simp [ins, hb]
  | b :: r, k + 1, a, h, ha, hb => by
    have h0 : bef p b = false := h 0 b (Nat.succ_pos _) rfl
    have ih := ins_at (p := p) (r := r) (k := k) (a := a) (fun i c hi hc => h (i + 1) c (Nat.succ_lt_succ hi) (by simpa using hc)) (by simpa using ha) hb
    simp [ins, h0, ih]
theorem ins_end {p : APt} : ∀ {r : List APt}, (∀ (i : Nat) (b : APt), i < r.length → r[i]? = some b → bef p b = false) → ins r p = r ++ [p]
  | [], _ => rfl
  | b :: r, h => by
    have h0 : bef p b = false := h 0 b (by simp) rfl
    have ih := ins_end (p := p) (r := r) (fun i c hi hc => h (i + 1) c (by simpa using hi) (by simpa using hc))
    simp [ins, h0, ih]
theorem put_at {r : List APt} {p a : APt} {pre : List Int} {n : Int} (h : ∀ (i : Nat) (a : APt), i < pre.length → r[i]? = some a → bef p a = false) (hn : n = 0 + (pre.length : Int)) (ha : r[n.toNat]? = some a)
    (hb : befB p.2.x p.2.y p.2.z a.2.x a.2.y a.2.z = true) : refs (r.take n.toNat) ++ [Value.ref p.1] ++ refs (r.drop n.toNat) = refs (ins r p) := by
  have e : n.toNat = pre.length := by omega
  rw [e] at ha ⊢
  rw [ins_at (p := p) h ha hb]
  simp [refs]
theorem put_end {r : List APt} {p : APt} (h : ∀ (i : Nat) (a : APt), i < (rangeKs 0 ((r.length : Int) - 0).toNat).length → r[i]? = some a → bef p a = false) : refs r ++ [Value.ref p.1] = refs (ins r p) := by
  rw [rangeKs_length] at h
  rw [ins_end (p := p) (fun i b hi hb => h i b (by omega) hb)]
  simp [refs]
end Mine
namespace Mine
open PySem PySem.W PyProof.Rows PySem.Spec PySem.Calls
local macro_rules | `(tactic| walk_at "mine nowhere") => `(tactic| fail)
local macro_rules | `(tactic| k_room) => `(tactic| ktr_room)
theorem before_pt {w : World} {mean : ExcName → Option Value} {mg mb : Str → Option Value} {dp un : Nat} {gd : Option (List Code)} {cn : Str} {cs : Scope} {a : Addr} {ccd : Value} {cl : List (Str × Addr)} {outer : List Env} {A₀ : Around} {base h₀ : Heap} {L : Addr} {m : Str → Option Value} {s : Shared} {Q E : Value → Shared → Prop} {news : Led} {P R : APt}
    (B : Below A₀ base outer h₀) (F : Fr h₀ L s.heap m) (X : (hd.heap_39 w.params).In h₀) (N : News h₀ L s.heap news) (T : Top hd.view_39 (looseW hd.view_39 []) mean mg mb h₀) (hk : cs.kind = .function) (hp : (P.1, ({ cls := .type "tuple", data := .seq #[.int P.2.x P.2.tx, .int P.2.y P.2.ty, .int P.2.z P.2.tz, .int P.2.k P.2.tk] P.2.e } : Obj)) ∈ news) (hq : (R.1, ({ cls := .type "tuple", data := .seq #[.int R.2.x R.2.tx, .int R.2.y R.2.ty, .int R.2.z R.2.tz, .int R.2.k R.2.tk] R.2.e } : Obj)) ∈ news) (oP : Pt.ok P.2) (oR : Pt.ok R.2) (hd : dp + 10 < recursionLimit) (hu : un + 150 < cLine)
    (ret : ∀ (h' : Heap) (tk' : Nat), Fr h₀ L h' m → News h₀ L h' news → Q (.bool (befB P.2.x P.2.y P.2.z R.2.x R.2.y R.2.z)) { s with heap := h', toks := tk' }) :
    wpAny (model PySem.Challenge.rw_nb0009_01.row.prog w) (ktrTop dp un gd cn cs L a ccd cl outer) (call (.ref 71) [.ref P.1, .ref R.1]) Q E s :=
  before_use B F X N T hk hp hq oP.x oP.y oP.z oR.x oR.y oR.z hd hu ret
theorem put_use {w : World} {mean : ExcName → Option Value} {mg mb : Str → Option Value} {dp un : Nat} {gd : Option (List Code)} {cn : Str} {cs : Scope} {a : Addr} {ccd : Value} {cl : List (Str × Addr)} {outer : List Env} {A₀ : Around} {base h₀ : Heap} {L : Addr} {m : Str → Option Value} {s : Shared} {Q E : Value → Shared → Prop} {news : Led} {l : Addr} {e : Nat} {p : APt} {r : List APt}
    (B : Below A₀ base outer h₀) (F : Fr h₀ L s.heap m) (X : (hd.heap_39 w.params).In h₀) (N : News h₀ L s.heap news) (T : Top hd.view_39 (looseW hd.view_39 []) mean mg mb h₀) (hk : cs.kind = .function) (hl : (l, ({ cls := .type "list", data := .seq (refs r).toArray e } : Obj)) ∈ news) (hp : (p.1, ({ cls := .type "tuple", data := .seq #[.int p.2.x p.2.tx, .int p.2.y p.2.ty, .int p.2.z p.2.tz, .int p.2.k p.2.tk] p.2.e } : Obj)) ∈ news) (op : Pt.ok p.2) (hr : ∀ a ∈ r, (a.1, ({ cls := .type "tuple", data := .seq #[.int a.2.x a.2.tx, .int a.2.y a.2.ty, .int a.2.z a.2.tz, .int a.2.k a.2.tk] a.2.e } : Obj)) ∈ news ∧ Pt.ok a.2) (h6 : r.length ≤ 90) (hd : dp + 14 < recursionLimit) (hu : un + 200 < cLine)
    (ret : ∀ (D : Addr) (e' : Nat) (h' : Heap) (tk' : Nat), Fr h₀ L h' m → News h₀ L h' ((D, ({ cls := .type "list", data := .seq (refs (ins r p)).toArray e' } : Obj)) :: news) → Q (.ref D) { s with heap := h', toks := tk' }) :
    wpAny (model PySem.Challenge.rw_nb0009_01.row.prog w) (ktrTop dp un gd cn cs L a ccd cl outer) (call (.ref 78) [.ref l, .ref p.1]) Q E s := by
  revert X; k_fill; intro X
  refine wpAny_call ?_
  k_dflt (refine' enterR news ?ks ?k1 ?k2 ?k3 ?k4 ?k5 ?kA ?kF ?kK ?k6 ?k7 ?k8 ?k9 ?kB ?_ ?c2 ?c3 ?c4 ?c5; (case ks => exact fun _ h => h); (case kA => exact rfl); (case kF => exact rfl); (case kK => assumption); (case k1 => k_asm); (case k2 => k_asm); (case k3 => k_asm); (case k4 => k_asm); (case k5 => k_asm); (case k6 => k_is); (case k7 => k_is); (case k8 => ktr_room); (case k9 => exact BindsTo.of_eq rfl); (case kB => exact locs rfl); (case c2 => exact rfl); (case c3 => exact rfl); (case c4 => exact rfl); (case c5 => decide); k_whole; intro g' L' h' FG' F' N' B' X' T' hRc l1; (try dsimp only); (try k_fold))
  k_with "pyIter ref" => k_search (fun pre => ∀ (i : Nat) (a : APt), i < pre.length → r[i]? = some a → bef p a = false)
  k_with "state" => first | exact search_step (by assumption) (by assumption) (by assumption) (by assumption) | exact fun i a h => absurd h (Nat.not_lt_zero _)
  repeat' (first | (k_unfold; (try dsimp only)) | (k_end; wrow_close) | with_reducible (k_here; (with_reducible show wpAny _ _ (PySem.call (Value.ref 71) _) _ _ _); k_dflt (refine' before_pt (by k_asm) (by k_asm) (by k_asm) (by k_asm) (by k_asm) (by first | exact rfl | assumption) (by k_mem) (by k_mem) (by assumption) (by assumption) (by ktr_room) (by ktr_units) ?_); intro h9 tk9 F9 N9; (try dsimp only); (try k_fold)) | with_reducible (k_here; (with_reducible show wpAny _ _ (binaryOp Operator.Add (Value.ref _) (Value.ref _)) _ _ _); k_dflt (refine' add_rows ?F ?N ?m ?m2 ?z ?_; (case F => k_asm); (case N => k_asm); (case m => first | kcf_m | k_mem); (case m2 => first | kcf_m | k_mem); (case z => simp only [List.length_append, List.length_map, List.length_take, List.length_drop, List.length_cons, List.length_nil]; omega)); intro D9 h9 F9 N9) | with_reducible (k_here; (with_reducible show wpAny _ _ (subscriptTail _ (PySem.Expr.Slice _ _ none _) (Value.ref _) (Value.ref _)) _ _ _); k_dflt (first | (refine' slice_upto ?F ?N ?m ?z ?a ?_ ?s ?t; (case F => k_asm); (case N => k_asm); (case m => first | kcf_m | k_mem); (case z => omega); (case a => omega); (case s => with_unfolding_all rfl); (case t => intro _; with_unfolding_all rfl)) | (refine' slice_from ?F ?N ?m ?z ?a ?_ ?s ?t; (case F => k_asm); (case N => k_asm); (case m => first | kcf_m | k_mem); (case z => omega); (case a => omega); (case s => with_unfolding_all rfl); (case t => intro _; with_unfolding_all rfl))); intro D9 h9 F9 N9) | with_reducible (k_here; (with_reducible show wpAny _ _ (subscriptTail _ _ (Value.ref _) (Value.int _ _)) _ _ _); k_dflt (refine' item_row ?N ?m ?z ?a ?b ?r ?_ ?s ?t; (case N => k_asm); (case m => first | kcf_m | k_mem); (case z => omega); (case r => assumption); (case a => omega); (case b => omega); (case s => with_unfolding_all rfl); (case t => intro _; with_unfolding_all rfl)); intro a9 ha9 hm9 ho9) | with_reducible (k_here; (with_reducible show wpAny _ _ (call (Value.builtin "len") [Value.ref _]) _ _ _); k_dflt (refine' len_row ?N ?m ?z ?_; (case N => k_asm); (case m => first | kcf_m | k_mem); (case z => omega))) | walk1 | (dsimp only; walk1) | (leave1; try dsimp only))
  · rename News _ _ _ _ => nN
    rw [put_at (p := p) (r := r) kInv kEq (by assumption) (by assumption)] at nN
    exact ret _ _ _ _ (by k_asm) (hRc.back1 (by assumption) nN List.mem_cons_self (fun x hx => by simp [hx]))
  · rename News _ _ _ _ => nN
    rw [put_end (p := p) (r := r) kInv] at nN
    exact ret _ _ _ _ (by k_asm) (hRc.back1 (by assumption) nN List.mem_cons_self (fun x hx => by simp [hx]))

end Mine
namespace Mine
open PySem PySem.W PyProof.Rows PySem.Spec PySem.Calls
structure Among (r pts : List APt) (n : Nat) : Prop where
  sub : ∀ a ∈ r, a ∈ pts
  len : r.length = n
theorem Among.nil (pts : List APt) : Among [] pts 0 := ⟨fun _ h => (by cases h), rfl⟩
theorem Among.ins {r pts : List APt} {n : Nat} {p : APt} (h : Among r pts n) (hp : p ∈ pts) : Among (ins r p) pts (n + 1) :=
  ⟨fun a ha => (mem_ins ha).elim (fun e => e ▸ hp) (h.sub a), by rw [ins_length, h.len]⟩
theorem put_row {w : World} {mean : ExcName → Option Value} {mg mb : Str → Option Value} {dp un : Nat} {gd : Option (List Code)} {cn : Str} {cs : Scope} {a : Addr} {ccd : Value} {cl : List (Str × Addr)} {outer : List Env} {A₀ : Around} {base h₀ : Heap} {L : Addr} {m : Str → Option Value} {s : Shared} {Q E : Value → Shared → Prop} {news : Led} {l : Addr} {e : Nat} {p : APt} {r pts : List APt} {n : Nat}
    (B : Below A₀ base outer h₀) (F : Fr h₀ L s.heap m) (X : (hd.heap_39 w.params).In h₀) (N : News h₀ L s.heap news) (T : Top hd.view_39 (looseW hd.view_39 []) mean mg mb h₀) (hk : cs.kind = .function)
    (hA : Among r pts n) (hn : n ≤ 90) (hpp : p ∈ pts) (hl : (l, listO (refs r) e) ∈ news)
    (hpts : ∀ a ∈ pts, (a.1, ({ cls := .type "tuple", data := .seq #[.int a.2.x a.2.tx, .int a.2.y a.2.ty, .int a.2.z a.2.tz, .int a.2.k a.2.tk] a.2.e } : Obj)) ∈ news ∧ Pt.ok a.2) (hd : dp + 14 < recursionLimit) (hu : un + 200 < cLine)
    (ret : ∀ (D : Addr) (e' : Nat) (h' : Heap) (tk' : Nat), Among (ins r p) pts (n + 1) → Fr h₀ L h' m → News h₀ L h' ((D, listO (refs (ins r p)) e') :: news) → Q (.ref D) { s with heap := h', toks := tk' }) :
    wpAny (model PySem.Challenge.rw_nb0009_01.row.prog w) (ktrTop dp un gd cn cs L a ccd cl outer) (call (.ref 78) [.ref l, .ref p.1]) Q E s :=
  put_use B F X N T hk hl (hpts p hpp).1 (hpts p hpp).2 (fun a ha => hpts a (hA.sub a ha)) (by rw [hA.len]; exact hn) hd hu fun D e' h' tk' F' N' => ret D e' h' tk' (hA.ins hpp) F' N'
end Mine
namespace Mine
open PySem PySem.W PyProof.Rows PySem.Spec PySem.Calls
local macro_rules | `(tactic| k_room) => `(tactic| ktr_room)
theorem row_use {w : World} {mean : ExcName → Option Value} {mg mb : Str → Option Value} {dp un : Nat} {gd : Option (List Code)} {cn : Str} {cs : Scope} {a : Addr} {ccd : Value} {cl : List (Str × Addr)} {outer : List Env} {A₀ : Around} {base h₀ : Heap} {L : Addr} {m : Str → Option Value} {s : Shared} {Q E : Value → Shared → Prop} {news : Led} {l : Addr} {e : Nat} {P1 P2 P3 P4 P5 P6 P7 : APt}
    (B : Below A₀ base outer h₀) (F : Fr h₀ L s.heap m) (X : (hd.heap_39 w.params).In h₀) (N : News h₀ L s.heap news) (T : Top hd.view_39 (looseW hd.view_39 []) mean mg mb h₀) (hk : cs.kind = .function) (hl : (l, ({ cls := .type "list", data := .seq #[Value.ref P1.1, Value.ref P2.1, Value.ref P3.1, Value.ref P4.1, Value.ref P5.1, Value.ref P6.1, Value.ref P7.1] e } : Obj)) ∈ news) (hP1 : (P1.1, ({ cls := .type "tuple", data := .seq #[.int P1.2.x P1.2.tx, .int P1.2.y P1.2.ty, .int P1.2.z P1.2.tz, .int P1.2.k P1.2.tk] P1.2.e } : Obj)) ∈ news) (oP1 : Pt.ok P1.2) (hP2 : (P2.1, ({ cls := .type "tuple", data := .seq #[.int P2.2.x P2.2.tx, .int P2.2.y P2.2.ty, .int P2.2.z P2.2.tz, .int P2.2.k P2.2.tk] P2.2.e } : Obj)) ∈ news) (oP2 : Pt.ok P2.2) (hP3 : (P3.1, ({ cls := .type "tuple", data := .seq #[.int P3.2.x P3.2.tx, .int P3.2.y P3.2.ty, .int P3.2.z P3.2.tz, .int P3.2.k P3.2.tk] P3.2.e } : Obj)) ∈ news) (oP3 : Pt.ok P3.2) (hP4 : (P4.1, ({ cls := .type "tuple", data := .seq #[.int P4.2.x P4.2.tx, .int P4.2.y P4.2.ty, .int P4.2.z P4.2.tz, .int P4.2.k P4.2.tk] P4.2.e } : Obj)) ∈ news) (oP4 : Pt.ok P4.2) (hP5 : (P5.1, ({ cls := .type "tuple", data := .seq #[.int P5.2.x P5.2.tx, .int P5.2.y P5.2.ty, .int P5.2.z P5.2.tz, .int P5.2.k P5.2.tk] P5.2.e } : Obj)) ∈ news) (oP5 : Pt.ok P5.2) (hP6 : (P6.1, ({ cls := .type "tuple", data := .seq #[.int P6.2.x P6.2.tx, .int P6.2.y P6.2.ty, .int P6.2.z P6.2.tz, .int P6.2.k P6.2.tk] P6.2.e } : Obj)) ∈ news) (oP6 : Pt.ok P6.2) (hP7 : (P7.1, ({ cls := .type "tuple", data := .seq #[.int P7.2.x P7.2.tx, .int P7.2.y P7.2.ty, .int P7.2.z P7.2.tz, .int P7.2.k P7.2.tk] P7.2.e } : Obj)) ∈ news) (oP7 : Pt.ok P7.2) (hd : dp + 20 < recursionLimit) (hu : un + 300 < cLine)
    (ret : ∀ (D : Addr) (e' : Nat) (h' : Heap) (tk' : Nat), Among ([P1, P2, P3, P4, P5, P6, P7].foldl ins []) [P1, P2, P3, P4, P5, P6, P7] 7 → Fr h₀ L h' m → News h₀ L h' ((D, listO (refs ([P1, P2, P3, P4, P5, P6, P7].foldl ins [])) e') :: news) → Q (.ref D) { s with heap := h', toks := tk' }) :
    wpAny (model PySem.Challenge.rw_nb0009_01.row.prog w) (ktrTop dp un gd cn cs L a ccd cl outer) (call (.ref 85) [.ref l]) Q E s := by
  revert X; k_fill; intro X
  refine wpAny_call ?_
  k_dflt (refine' enterR [(l, ({ cls := .type "list", data := .seq #[Value.ref P1.1, Value.ref P2.1, Value.ref P3.1, Value.ref P4.1, Value.ref P5.1, Value.ref P6.1, Value.ref P7.1] e } : Obj)), (P1.1, ({ cls := .type "tuple", data := .seq #[.int P1.2.x P1.2.tx, .int P1.2.y P1.2.ty, .int P1.2.z P1.2.tz, .int P1.2.k P1.2.tk] P1.2.e } : Obj)), (P2.1, ({ cls := .type "tuple", data := .seq #[.int P2.2.x P2.2.tx, .int P2.2.y P2.2.ty, .int P2.2.z P2.2.tz, .int P2.2.k P2.2.tk] P2.2.e } : Obj)), (P3.1, ({ cls := .type "tuple", data := .seq #[.int P3.2.x P3.2.tx, .int P3.2.y P3.2.ty, .int P3.2.z P3.2.tz, .int P3.2.k P3.2.tk] P3.2.e } : Obj)), (P4.1, ({ cls := .type "tuple", data := .seq #[.int P4.2.x P4.2.tx, .int P4.2.y P4.2.ty, .int P4.2.z P4.2.tz, .int P4.2.k P4.2.tk] P4.2.e } : Obj)), (P5.1, ({ cls := .type "tuple", data := .seq #[.int P5.2.x P5.2.tx, .int P5.2.y P5.2.ty, .int P5.2.z P5.2.tz, .int P5.2.k P5.2.tk] P5.2.e } : Obj)), (P6.1, ({ cls := .type "tuple", data := .seq #[.int P6.2.x P6.2.tx, .int P6.2.y P6.2.ty, .int P6.2.z P6.2.tz, .int P6.2.k P6.2.tk] P6.2.e } : Obj)), (P7.1, ({ cls := .type "tuple", data := .seq #[.int P7.2.x P7.2.tx, .int P7.2.y P7.2.ty, .int P7.2.z P7.2.tz, .int P7.2.k P7.2.tk] P7.2.e } : Obj))] ?ks ?k1 ?k2 ?k3 ?k4 ?k5 ?kA ?kF ?kK ?k6 ?k7 ?k8 ?k9 ?kB ?_ ?c2 ?c3 ?c4 ?c5; (case ks => repeat' (first | exact List.forall_mem_nil _ | refine List.forall_mem_cons.mpr ⟨by assumption, ?_⟩)); (case kA => exact rfl); (case kF => exact rfl); (case kK => assumption); (case k1 => k_asm); (case k2 => k_asm); (case k3 => k_asm); (case k4 => k_asm); (case k5 => k_asm); (case k6 => k_is); (case k7 => k_is); (case k8 => ktr_room); (case k9 => exact BindsTo.of_eq rfl); (case kB => exact locs rfl); (case c2 => exact rfl); (case c3 => exact rfl); (case c4 => exact rfl); (case c5 => decide); k_whole; intro g' L' h' FG' F' N' B' X' T' hRc l1; (try k_lt l1); (try dsimp only); (try k_fold))
  have hA0 : Among [] [P1, P2, P3, P4, P5, P6, P7] 0 := Among.nil _
  repeat' (first | (k_unfold; (try dsimp only)) | (k_end; wrow_close) | with_reducible (k_here; (with_reducible show wpAny _ _ (PySem.call (Value.ref 78) _) _ _ _); k_dflt (refine' put_row (by k_asm) (by k_asm) (by k_asm) (by k_asm) (by k_asm) (by first | exact rfl | assumption) (by assumption) (by decide) (by kcf_m) (by first | kcf_m | k_mem) (by repeat' (first | exact List.forall_mem_nil _ | refine List.forall_mem_cons.mpr ⟨⟨by kcf_m, by assumption⟩, ?_⟩)) (by ktr_room) (by ktr_units) ?_); intro D9 e9 h9 tk9 hA9 F9 N9; (try dsimp only); (try k_fold)) | walk1 | (dsimp only; walk1) | (leave1; try dsimp only))
  rename News _ _ _ _ => nN
  rename Among _ _ _ => hAl
  exact ret _ _ _ _ hAl (by k_asm) (hRc.back1 (by assumption) nN (by kcf_m) (by kcf_all))

end Mine
namespace Mine
open PySem PySem.W PyProof.Rows PySem.Spec PySem.Calls
section
variable {prog : Program} {w : World} {A : Around} {E : Value → Shared → Prop} {s : Shared} {h₀ : Heap} {L : Addr} {m : Str → Option Value} {led : Led}
theorem sliceApplied_three {sl : Addr} {u : Tok} {Q : Int × Int × Nat → Shared → Prop} (hs : s.heap.IsSliceOf sl .none (.int 3 u) .none) (h : Q (0, 1, 3) s) :
    wpAny (model prog w) A (Builtin.Slice.sliceApplied (.ref sl) (pure (4 : Int))) Q E s := by
  obtain ⟨os, hos, hcs, hds⟩ := id hs
  unfold Builtin.Slice.sliceApplied Builtin.Slice.sliceFields
  refine wpAny_bind (wpAny_bind (wpAny_field hos hds (x := .none) rfl (wpAny_bind (wpAny_field hos hds (x := .int 3 u) rfl (wpAny_bind (wpAny_field hos hds (x := .none) rfl (wpAny_pure ?_)))))))
  refine wpAny_bind (slicePart_none ?_)
  show wpAny _ _ (if ((1 : Int) == 0) = true then _ else _) _ _ s
  rw [if_neg (by decide)]
  refine wpAny_bind (slicePart_none (wpAny_bind (slicePart_int (wpAny_bind (wpAny_pure ?_)))))
  exact wpAny_pure h
theorem getItem_three {t sl : Addr} {a b c d : Value} {u : Tok} {Q : Value → Shared → Prop} (ht : IsTup s.heap t #[a, b, c, d]) (hs : s.heap.IsSliceOf sl .none (.int 3 u) .none)
    (h : Q (.ref s.heap.objs.size) { s with heap := s.heap.push { cls := .type "tuple", data := .seq #[a, b, c] } }) : wpAny (model prog w) A (getItem (.ref t) (.ref sl)) Q E s := by
  have hsz : sizeOk (.seq #[a, b, c]) := by
    show 3 ≤ sizeLine
    rw [sizeLine_eq]; decide
  obtain ⟨os, hos, hcs, hds⟩ := id hs
  have hTs : s.TypeIs (.ref sl) "slice" := ⟨os, hos, hcs⟩
  unfold getItem
  try with_reducible refine wpAny_holding ?_
  first | refine wpAny_bind (wpAny_pure ?_) | skip
  refine wpAny_bind (wpAny_sequenceKey ht.typeIs (by decide) ?_)
  refine wpAny_bind (wpAny_callSpecial?_slot (name := Str.ofString "__getitem__") ht.typeIs slot_tuple_getitem
    (wpAny_call_entry slot_tuple_getitem ht.typeIs entry_tuple_getitem ?_ (args_tuple_getitem _ _)))
  show wpAny _ _ (Builtin.Tuple.tupleItemsOf (.ref t) >>= _) _ _ s
  refine wpAny_bind (tupleItemsOf_ ht ?_)
  refine wpAny_bind (wpAny_typeOf hTs ?_)
  rw [if_pos (by decide)]
  refine wpAny_bind (sliceApplied_three hs ?_)
  show wpAny _ _ (if ((0 : Int) == 0 && (1 : Int) == 1 && (3 : Nat) == 4) = true then _ else _) _ _ s
  rw [if_neg (by decide)]
  have hp : ((List.range 3).filterMap fun (k : Nat) => #[a, b, c, d][((0 : Int) + (k : Int) * 1).toNat]?).toArray = #[a, b, c] := rfl
  rw [hp]
  first
    | exact wpAny_bind (m := Builtin.Tuple.tupleExact _) (wpAny_newObj_type (wpAny_pure ⟨_, rfl, wpAny_pure h⟩) hsz)
    | exact wpAny_bind (m := Builtin.Tuple.tupleExact _) (wpAny_newObj_type (wpAny_bind (wpAny_pure (wpAny_pure ⟨_, rfl, wpAny_pure h⟩))) hsz)
    | exact wpAny_bind (wpAny_bind (m := Builtin.Tuple.tupleExact _) (wpAny_newObj_type (wpAny_pure (wpAny_pure ⟨_, rfl, wpAny_pure h⟩)) hsz))
    | exact wpAny_bind (wpAny_bind (m := Builtin.Tuple.tupleExact _) (wpAny_newObj_type (wpAny_pure ⟨_, rfl, wpAny_pure h⟩) hsz))
theorem slice_three {value slice : PySem.Expr} {t : Addr} {a b c d : Value} {e : Nat} {u : Tok} {Q : Value → Shared → Prop}
    (F : Fr h₀ L s.heap m) (N : News h₀ L s.heap led) (hm : (t, ({ cls := .type "tuple", data := .seq #[a, b, c, d] e } : Obj)) ∈ led)
    (h : ∀ D h', Fr h₀ L h' m → News h₀ L h' ((D, ({ cls := .type "tuple", data := .seq #[a, b, c] 0 } : Obj)) :: led) → (∀ p ∈ led, p.1 < D) → Q (.ref D) { s with heap := h' })
    (hs : subscripted slice false (.ref t) (.ref s.heap.objs.size) = operate [.ref s.heap.objs.size, .ref t] (getItem (.ref t) (.ref s.heap.objs.size)) := by with_unfolding_all rfl)
    (hg : ∀ r, letTemporaryGo value (.ref t) r = pure () := by intro _; with_unfolding_all rfl) :
    wpAny (model prog w) A (subscriptTail value slice (.ref t) (.ref s.heap.objs.size)) Q E { s with heap := s.heap.push { cls := .type "slice", data := .fields #[.none, .int 3 u, .none] } } := by
  have ht : IsTup s.heap t #[a, b, c, d] := News.isTup N hm
  have ht' : IsTup (s.heap.push { cls := .type "slice", data := .fields #[.none, .int 3 u, .none] }) t #[a, b, c, d] := ht.keeps fun _ _ e => Heap.get?_push_of_some _ e
  refine subscriptTail_ops (s := { s with heap := s.heap.push { cls := .type "slice", data := .fields #[.none, .int 3 u, .none] } }) ht'.typeIs slot_tuple_getitem.lookup
    (getItem_three ht' (Heap.IsSliceOf.new ..) ?_) hs hg
  have N1 := News.push (F.push { cls := .type "slice", data := .fields #[.none, .int 3 u, .none] }) (N.grown fun _ _ e => Heap.get?_push_of_some _ e) { cls := .type "tuple", data := .seq #[a, b, c] }
  rw [Heap.size_push] at N1
  show Q (.ref (s.heap.push _).objs.size) _
  rw [Heap.size_push]
  exact h _ _ ((F.push _).push _) N1 (fun p hp => Nat.lt_succ_of_lt (Heap.lt_size (N p hp).1))
end
end Mine
namespace Mine
open PySem PySem.W PyProof.Rows PySem.Spec PySem.Calls
theorem subL_of : ∀ {l all : Led}, (∀ p ∈ l, p ∈ all) → SubL l all
  | [], _, _ => trivial
  | _ :: _, _, h => ⟨h _ List.mem_cons_self, subL_of fun p hp => h p (List.mem_cons_of_mem _ hp)⟩
section
variable {prog : Program} {w : World} {A : Around} {E : Value → Shared → Prop} {s : Shared} {env : Env} {h₀ : Heap} {L : Addr} {m : Str → Option Value} {led keep : Led} {target : PySem.Expr} {body : List Stmt} {Q : Flow → Shared → Prop}
theorem unr_same {I : Addr} {o : Obj} {s₁ : Shared} {rest : (Str → Option Value) → Led → Prop} {h' : Heap} {tk : Nat} {m' : Str → Option Value} (F : Fr h₀ L h' m') (N : News h₀ L h' ((I, o) :: led)) (hlt : ∀ p ∈ led, p.1 < I) (hk : ∀ p ∈ keep, p ∈ led) (r : rest m' led) :
    UnrEndW h₀ L s₁ [(I, o)] (fun m' n' => SubL keep n' ∧ rest m' n') { s₁ with heap := h', toks := tk } :=
  ⟨h', tk, m', led, rfl, F, N, fun p hp q hq => by rw [List.mem_singleton.mp hq]; exact Nat.ne_of_lt (hlt p hp), subL_of hk, r⟩
theorem iter_three {ax : Addr} {a b c : Value} {e : Nat} (hh : A.handled = none) (F : Fr h₀ env.locals s.heap m) (N : News h₀ env.locals s.heap led) (hm : (ax, ({ cls := .type "tuple", data := .seq #[a, b, c] e } : Obj)) ∈ led)
    (rest : ∀ I : Addr, (∀ p ∈ led, p.1 < I) → ItemsRest prog w A E h₀ env target body Q s [(I, "tuple_iterator")] [(ax, ({ cls := .type "tuple", data := .seq #[a, b, c] e } : Obj))] [.val a, .val b, .val c] m led) :
    wpAny (model prog w) A (pyIter (.ref ax)) (fun it s₂ => TurnsAt prog w A h₀ env target body Q E it s₂) E s :=
  iter_tupTurns (vs := [a, b, c]) hh F N hm rfl rfl rest
end
end Mine
namespace Mine
open PySem PySem.W PyProof.Rows PySem.Spec PySem.Calls
local macro_rules | `(tactic| k_room) => `(tactic| ktr_room)
local macro_rules | `(tactic| walk_at "exec For Name Subscript cons nil") => `(tactic| (k_here; (rename Fr _ _ _ _ => lF'); (with_unfolding_all refine' For_turns lF' ?_; k_whole)))
local macro_rules | `(tactic| walk_at "UnrEndW") => `(tactic| (refine unr_same (by k_asm) (by k_asm) (by assumption) (by kcf_all) ?_))
def stp (x w pl : Int) : Int := 2 * w + (Int.fdiv x (2 ^ pl.toNat)).fmod 2
theorem stp_in {x w pl : Int} {n : Int} (h0 : 0 ≤ w) (h1 : w < n) : 0 ≤ stp x w pl ∧ stp x w pl < 2 * n := by
  unfold stp
  have h2 : 0 ≤ (Int.fdiv x (2 ^ pl.toNat)).fmod 2 := Int.fmod_nonneg_of_pos _ (by decide)
  have h3 : (Int.fdiv x (2 ^ pl.toNat)).fmod 2 < 2 := Int.fmod_lt_of_pos _ (by decide)
  omega
def wov (x y z : Int) (pre : List Int) : Int := pre.foldl (fun w pl => stp z (stp y (stp x w pl) pl) pl) 0
theorem wov_step {x y z w k : Int} {pre : List Int} (h : w = wov x y z pre ∧ 0 ≤ w ∧ w < 8 ^ pre.length) :
    2 * (2 * (2 * w + (x.fdiv (2 ^ k.toNat)).fmod 2) + (y.fdiv (2 ^ k.toNat)).fmod 2) + (z.fdiv (2 ^ k.toNat)).fmod 2 = wov x y z (pre ++ [k]) ∧
    0 ≤ 2 * (2 * (2 * w + (x.fdiv (2 ^ k.toNat)).fmod 2) + (y.fdiv (2 ^ k.toNat)).fmod 2) + (z.fdiv (2 ^ k.toNat)).fmod 2 ∧
    2 * (2 * (2 * w + (x.fdiv (2 ^ k.toNat)).fmod 2) + (y.fdiv (2 ^ k.toNat)).fmod 2) + (z.fdiv (2 ^ k.toNat)).fmod 2 < 8 ^ (pre ++ [k]).length := by
  obtain ⟨e, h0, h1⟩ := h
  obtain ⟨a1, b1⟩ := stp_in (x := x) (pl := k) h0 h1
  obtain ⟨a2, b2⟩ := stp_in (x := y) (pl := k) a1 b1
  obtain ⟨a3, b3⟩ := stp_in (x := z) (pl := k) a2 b2
  refine ⟨?_, a3, ?_⟩
  · rw [wov, List.foldl_append, ← wov, ← e]; rfl
  · rw [List.length_append, List.length_singleton, Int.pow_succ]
    have : stp z (stp y (stp x w k) k) k < 8 ^ pre.length * 8 := by omega
    exact this
theorem wov_start {x y z : Int} : (0 : Int) = wov x y z [] ∧ (0 : Int) ≤ 0 ∧ (0 : Int) < 8 ^ ([] : List Int).length := ⟨rfl, by decide, by decide⟩
theorem woven_use {w : World} {mean : ExcName → Option Value} {mg mb : Str → Option Value} {dp un : Nat} {gd : Option (List Code)} {cn : Str} {cs : Scope} {a : Addr} {ccd : Value} {cl : List (Str × Addr)} {outer : List Env} {A₀ : Around} {base h₀ : Heap} {L : Addr} {m : Str → Option Value} {s : Shared} {Q E : Value → Shared → Prop} {news : Led} {p : Addr} {p1 p2 p3 p4 : Int} {tp1 tp2 tp3 tp4 : Tok} {ep : Nat}
    (B : Below A₀ base outer h₀) (F : Fr h₀ L s.heap m) (X : (hd.heap_39 w.params).In h₀) (N : News h₀ L s.heap news) (T : Top hd.view_39 (looseW hd.view_39 []) mean mg mb h₀) (hk : cs.kind = .function) (hp : (p, ({ cls := .type "tuple", data := .seq #[.int p1 tp1, .int p2 tp2, .int p3 tp3, .int p4 tp4] ep } : Obj)) ∈ news) (b1 : I16 p1) (b2 : I16 p2) (b3 : I16 p3) (hd : dp + 6 < recursionLimit) (hu : un + 60 < cLine)
    (ret : ∀ (t : Tok) (h' : Heap) (tk' : Nat), Fr h₀ L h' m → News h₀ L h' news → Q (.int (wov p1 p2 p3 [15, 14, 13, 12, 11, 10, 9, 8, 7, 6, 5, 4, 3, 2, 1, 0]) t) { s with heap := h', toks := tk' }) :
    wpAny (model PySem.Challenge.rw_nb0009_01.row.prog w) (ktrTop dp un gd cn cs L a ccd cl outer) (call (.ref 92) [.ref p]) Q E s := by
  revert X; k_fill; intro X
  refine wpAny_call ?_
  k_dflt (refine' enterR [(p, ({ cls := .type "tuple", data := .seq #[.int p1 tp1, .int p2 tp2, .int p3 tp3, .int p4 tp4] ep } : Obj))] ?ks ?k1 ?k2 ?k3 ?k4 ?k5 ?kA ?kF ?kK ?k6 ?k7 ?k8 ?k9 ?kB ?_ ?c2 ?c3 ?c4 ?c5; (case ks => repeat' (first | exact List.forall_mem_nil _ | refine List.forall_mem_cons.mpr ⟨by assumption, ?_⟩)); (case kA => exact rfl); (case kF => exact rfl); (case kK => assumption); (case k1 => k_asm); (case k2 => k_asm); (case k3 => k_asm); (case k4 => k_asm); (case k5 => k_asm); (case k6 => k_is); (case k7 => k_is); (case k8 => ktr_room); (case k9 => exact BindsTo.of_eq rfl); (case kB => exact locs rfl); (case c2 => exact rfl); (case c3 => exact rfl); (case c4 => exact rfl); (case c5 => decide); k_whole; intro g' L' h' FG' F' N' B' X' T' hRc l1; (try k_lt l1); (try dsimp only); (try k_fold))
  k_with "pyIter ref" => (k_of "place" => k_state (fun pre w => w = wov p1 p2 p3 pre ∧ 0 ≤ w ∧ w < 8 ^ pre.length) "woven")
  k_with "state" => first | exact wov_step ⟨by assumption, by assumption, by assumption⟩ | exact wov_start
  repeat' (first | (k_unfold; (try dsimp only)) | (k_end; wrow_close) | with_reducible (k_here; (with_reducible show wpAny _ _ (pyIter (Value.ref _)) (fun it s₂ => TurnsAt _ _ _ _ _ _ _ _ _ it s₂) _ _); k_dflt (refine' iter_three ?h ?F ?N ?m ?_; (case h => rfl); (case F => k_asm); (case N => k_asm); (case m => first | kcf_m | k_mem)); intro i' hlt') | with_reducible (k_here; (with_reducible show wpAny _ _ (subscriptTail _ (PySem.Expr.Slice _ _ none _) (Value.ref _) (Value.ref _)) _ _ _); k_dflt (refine' slice_three ?F ?N ?m ?_ ?s ?t; (case F => k_asm); (case N => k_asm); (case m => first | kcf_m | k_mem); (case s => with_unfolding_all rfl); (case t => intro _; with_unfolding_all rfl)); intro D9 h9 F9 N9 l9; (try k_lt l9)) | walk1 | (dsimp only; walk1) | (leave1; try dsimp only))
  rename News _ _ _ _ => nN
  rename (_ = wov _ _ _ _) => hw
  refine cb_retI (Q := Q) (s := s) ret ?_ (by k_asm) (hRc.back (by assumption) nN (by kcf_all))
  exact hw

end Mine
namespace Mine
open PySem PySem.W PyProof.Rows PySem.Spec PySem.Calls
section
variable {prog : Program} {w : World} {A : Around} {E : Value → Shared → Prop} {s : Shared} {env : Env} {test : PySem.Expr} {body orelse : List Stmt} {Q : Flow → Shared → Prop} {σ : Type}
/-- a while that stands before its test -/
def WhHere (prog : Program) (w : World) (A : Around) (E : Value → Shared → Prop) (env : Env) (test : PySem.Expr) (body orelse : List Stmt) (Q : Flow → Shared → Prop) (s : Shared) : Prop := WhlRest prog w A E env test body orelse Q 0 s
/-- a turn's end: a lesser state -/
def WhEnd (s : Shared) (μ : σ → Nat) (I : σ → Heap → Prop) (c : σ) (Q : Flow → Shared → Prop) (f : Flow) (s₃ : Shared) : Prop := match f with
  | .ret v => Q (.ret v) s₃
  | .brk => Q .next s₃
  | _ => ∃ c' h' tk', s₃ = { s with heap := h', toks := tk' } ∧ μ c' < μ c ∧ I c' h'
theorem WhEnd.next {μ : σ → Nat} {I : σ → Heap → Prop} {c : σ} (c' : σ) {h' : Heap} {tk' : Nat} (hm : μ c' < μ c) (hI : I c' h') : WhEnd s μ I c Q .next { s with heap := h', toks := tk' } := ⟨c', h', tk', rfl, hm, hI⟩
theorem while_start {pos : Pos} (h : WhHere prog w A E env test body orelse Q s) : wpAny (model prog w) A (exec (.While test body orelse pos) env) Q E s := wpAny_While h
theorem while_ind (μ : σ → Nat) (I : σ → Heap → Prop) (hE : PassesOwn (model prog w) A env E)
    (turn : ∀ c h tk, I c h → wpAny (model prog w) A (isTrue test env (eval test env)) (fun b s₂ => WhlIf b (wpAny (model prog w) A (execs body env) (WhEnd s μ I c Q) E s₂) (wpAny (model prog w) A (execs orelse env) Q E s₂)) E { s with heap := h, toks := tk })
    (c : σ) {h : Heap} {tk : Nat} (hI : I c h) : WhHere prog w A E env test body orelse Q { s with heap := h, toks := tk } := by
  have all : ∀ n (c : σ) (h : Heap) (tk : Nat), μ c < n → I c h → WhHere prog w A E env test body orelse Q { s with heap := h, toks := tk } := by
    intro n
    induction n with
    | zero => intro c h tk hn; exact absurd hn (Nat.not_lt_zero _)
    | succ n ih =>
      intro c h tk hn hI
      refine whl_turn (k := 0) hE (wpAny_mono (turn c h tk hI) (fun b s₂ hb => ?_) fun _ _ e => e)
      unfold WhlIf at hb ⊢
      split at hb
      · rw [if_pos (by assumption)]
        refine wpAny_mono hb (fun f s₃ hf => ?_) fun _ _ e => e
        cases f with
        | ret v => exact hf
        | brk => exact hf
        | next => obtain ⟨c', h', tk', rfl, hm, hI'⟩ := hf; exact ih c' h' tk' (by omega) hI'
        | cont => obtain ⟨c', h', tk', rfl, hm, hI'⟩ := hf; exact ih c' h' tk' (by omega) hI'
      · rw [if_neg (by assumption)]
        exact hb
  exact all _ c h tk (Nat.lt_succ_self _) hI
end
/-- three names' values, told at the head of the map -/
theorem fr_three {g h : Heap} {L : Addr} {m : Str → Option Value} {a b c : Str} {va vb vc : Value} (F : Fr g L h m) (ha : m a = some va) (hb : m b = some vb) (hc : m c = some vc) :
    Fr g L h (fun y => if y = a then some va else if y = b then some vb else if y = c then some vc else m y) := by
  have e : (fun y => if y = a then some va else if y = b then some vb else if y = c then some vc else m y) = m := by
    funext y
    split
    · rename_i h; rw [h, ha]
    · split
      · rename_i h; rw [h, hb]
      · split
        · rename_i h; rw [h, hc]
        · rfl
  rw [e]; exact F
structure HS where
  n : Nat
  x1 : Int
  x2 : Int
  x3 : Int
  y1 : Int
  y2 : Int
  y3 : Int
  ht : Int
def hlv : Nat → Int → Int → Int → Int → Int → Int → Int → Int
  | 0, _, _, _, _, _, _, ht => ht
  | n + 1, x1, x2, x3, y1, y2, y3, ht => if [x1, x2, x3] = [y1, y2, y3] then ht else hlv n (x1.fdiv 2) (x2.fdiv 2) (x3.fdiv 2) (y1.fdiv 2) (y2.fdiv 2) (y3.fdiv 2) (ht + 1)
def Below2 (n : Nat) (x : Int) : Prop := 0 ≤ x ∧ x < 2 ^ n
structure HS.ok (c : HS) (R : Int) : Prop where
  a1 : Below2 c.n c.x1
  a2 : Below2 c.n c.x2
  a3 : Below2 c.n c.x3
  b1 : Below2 c.n c.y1
  b2 : Below2 c.n c.y2
  b3 : Below2 c.n c.y3
  r : hlv (c.n + 1) c.x1 c.x2 c.x3 c.y1 c.y2 c.y3 c.ht = R
theorem Below2.half {n : Nat} {x : Int} (h : Below2 (n + 1) x) : Below2 n (x.fdiv 2) := by
  obtain ⟨h0, h1⟩ := h
  rw [Int.pow_succ] at h1
  rw [Int.fdiv_eq_ediv_of_nonneg _ (by decide)]
  exact ⟨by omega, by omega⟩
theorem HS.ok.step {c : HS} {R : Int} (h : c.ok R) (hne : ¬ [c.x1, c.x2, c.x3] = [c.y1, c.y2, c.y3]) :
    ∃ c' : HS, c'.n < c.n ∧ c'.ok R ∧ c'.x1 = c.x1.fdiv 2 ∧ c'.x2 = c.x2.fdiv 2 ∧ c'.x3 = c.x3.fdiv 2 ∧ c'.y1 = c.y1.fdiv 2 ∧ c'.y2 = c.y2.fdiv 2 ∧ c'.y3 = c.y3.fdiv 2 ∧ c'.ht = c.ht + 1 := by
  obtain ⟨n, x1, x2, x3, y1, y2, y3, ht⟩ := c
  obtain ⟨a1, a2, a3, b1, b2, b3, r⟩ := h
  cases n with
  | zero =>
    exfalso
    simp only [Below2, Int.pow_zero] at a1 a2 a3 b1 b2 b3
    apply hne
    simp only [List.cons.injEq, and_true]
    omega
  | succ n =>
    refine ⟨⟨n, x1.fdiv 2, x2.fdiv 2, x3.fdiv 2, y1.fdiv 2, y2.fdiv 2, y3.fdiv 2, ht + 1⟩, Nat.lt_succ_self _, ⟨a1.half, a2.half, a3.half, b1.half, b2.half, b3.half, ?_⟩, rfl, rfl, rfl, rfl, rfl, rfl, rfl⟩
    rw [← r]
    show hlv (n + 1) _ _ _ _ _ _ _ = hlv (n + 1 + 1) x1 x2 x3 y1 y2 y3 ht
    conv => rhs; unfold hlv
    rw [if_neg hne]
theorem HS.ok.done {c : HS} {R : Int} (h : c.ok R) (he : [c.x1, c.x2, c.x3] = [c.y1, c.y2, c.y3]) : c.ht = R := by
  rw [← h.r]; unfold hlv; rw [if_pos he]
end Mine
namespace Mine
open PySem PySem.W PyProof.Rows PySem.Spec PySem.Calls
local macro_rules | `(tactic| k_room) => `(tactic| ktr_room)
local macro_rules | `(tactic| walk_at "CompSrc") => `(tactic| (k_here; k_dflt (refine LCg.CompSrc.ledger (by rfl) (by k_asm) (by k_asm) (by k_mem) (by first | exact Nat.le_of_ble_eq_true rfl | size_fits) ?_; intro g'; lcg_lit)))
local macro_rules | `(tactic| walk_at "CompEnd") => `(tactic| (refine LCg.CompEnd.intro (by assumption) (by assumption) _ (fun _ hp => hp) (by first | assumption | (simp only [LCg.Off3, and_true]; assumption)) (by first | lcg_src | assumption) ?_))
local macro_rules | `(tactic| walk_at "exec While Compare") => `(tactic| (k_here; refine while_start ?_))
theorem halved_use {w : World} {mean : ExcName → Option Value} {mg mb : Str → Option Value} {dp un : Nat} {gd : Option (List Code)} {cn : Str} {cs : Scope} {a : Addr} {ccd : Value} {cl : List (Str × Addr)} {outer : List Env} {A₀ : Around} {base h₀ : Heap} {L : Addr} {m : Str → Option Value} {s : Shared} {Q E : Value → Shared → Prop} {news : Led} {p : Addr} {p1 p2 p3 p4 : Int} {tp1 tp2 tp3 tp4 : Tok} {ep : Nat} {q : Addr} {q1 q2 q3 q4 : Int} {tq1 tq2 tq3 tq4 : Tok} {eq : Nat}
    (B : Below A₀ base outer h₀) (F : Fr h₀ L s.heap m) (X : (hd.heap_39 w.params).In h₀) (N : News h₀ L s.heap news) (T : Top hd.view_39 (looseW hd.view_39 []) mean mg mb h₀) (hk : cs.kind = .function) (hp : (p, ({ cls := .type "tuple", data := .seq #[.int p1 tp1, .int p2 tp2, .int p3 tp3, .int p4 tp4] ep } : Obj)) ∈ news) (hq : (q, ({ cls := .type "tuple", data := .seq #[.int q1 tq1, .int q2 tq2, .int q3 tq3, .int q4 tq4] eq } : Obj)) ∈ news) (b1 : I16 p1) (b2 : I16 p2) (b3 : I16 p3) (c1 : I16 q1) (c2 : I16 q2) (c3 : I16 q3) (hd : dp + 6 < recursionLimit) (hu : un + 200 < cLine)
    (ret : ∀ (t : Tok) (h' : Heap) (tk' : Nat), Fr h₀ L h' m → News h₀ L h' news → Q (.int (hlv 17 p1 p2 p3 q1 q2 q3 (-1)) t) { s with heap := h', toks := tk' }) :
    wpAny (model PySem.Challenge.rw_nb0009_01.row.prog w) (ktrTop dp un gd cn cs L a ccd cl outer) (call (.ref 97) [.ref p, .ref q]) Q E s := by
  revert X; k_fill; intro X
  refine wpAny_call ?_
  k_dflt (refine' enterR [(p, ({ cls := .type "tuple", data := .seq #[.int p1 tp1, .int p2 tp2, .int p3 tp3, .int p4 tp4] ep } : Obj)), (q, ({ cls := .type "tuple", data := .seq #[.int q1 tq1, .int q2 tq2, .int q3 tq3, .int q4 tq4] eq } : Obj))] ?ks ?k1 ?k2 ?k3 ?k4 ?k5 ?kA ?kF ?kK ?k6 ?k7 ?k8 ?k9 ?kB ?_ ?c2 ?c3 ?c4 ?c5; (case ks => repeat' (first | exact List.forall_mem_nil _ | refine List.forall_mem_cons.mpr ⟨by assumption, ?_⟩)); (case kA => exact rfl); (case kF => exact rfl); (case kK => assumption); (case k1 => k_asm); (case k2 => k_asm); (case k3 => k_asm); (case k4 => k_asm); (case k5 => k_asm); (case k6 => k_is); (case k7 => k_is); (case k8 => ktr_room); (case k9 => exact BindsTo.of_eq rfl); (case kB => exact locs rfl); (case c2 => exact rfl); (case c3 => exact rfl); (case c4 => exact rfl); (case c5 => decide); k_whole; intro g' L' h' FG' F' N' B' X' T' hRc l1; (try k_lt l1); (try dsimp only); (try k_fold))
  repeat' (first | (k_unfold; (try dsimp only)) | (k_end; wrow_close) | with_reducible (k_here; (with_reducible show wpAny _ _ (subscriptTail _ (PySem.Expr.Slice _ _ none _) (Value.ref _) (Value.ref _)) _ _ _); k_dflt (refine' slice_three ?F ?N ?m ?_ ?s ?t; (case F => k_asm); (case N => k_asm); (case m => first | kcf_m | k_mem); (case s => with_unfolding_all rfl); (case t => intro _; with_unfolding_all rfl)); intro D9 h9 F9 N9 l9; (try k_lt l9)) | walk1 | (dsimp only; walk1) | (leave1; try dsimp only))
  refine while_ind (fun c : HS => c.n) (fun c h => ∃ (D1 D2 : Addr) (t1 t2 t3 u1 u2 u3 th : Tok) (e1 e2 : Nat) (m' : Str → Option Value), c.ok (hlv 17 p1 p2 p3 q1 q2 q3 (-1)) ∧ m' (Str.ofString "one") = some (.ref D1) ∧ m' (Str.ofString "two") = some (.ref D2) ∧ m' (Str.ofString "height") = some (.int c.ht th) ∧ Fr g' L' h m' ∧ News g' L' h [(D1, ({ cls := .type "list", data := .seq #[Value.int c.x1 t1, Value.int c.x2 t2, Value.int c.x3 t3] e1 } : Obj)), (D2, ({ cls := .type "list", data := .seq #[Value.int c.y1 u1, Value.int c.y2 u2, Value.int c.y3 u3] e2 } : Obj)), (p, ({ cls := .type "tuple", data := .seq #[.int p1 tp1, .int p2 tp2, .int p3 tp3, .int p4 tp4] ep } : Obj)), (q, ({ cls := .type "tuple", data := .seq #[.int q1 tq1, .int q2 tq2, .int q3 tq3, .int q4 tq4] eq } : Obj))]) (by passes_own) ?turn ⟨16, p1, p2, p3, q1, q2, q3, -1⟩ ?init
  case init =>
    refine ⟨_, _, _, _, _, _, _, _, _, _, _, _, ⟨b1, b2, b3, c1, c2, c3, rfl⟩, rfl, rfl, rfl, by k_asm, cb_drop (by assumption) (by kcf_all)⟩
  case turn =>
    intro c h tk hI
    obtain ⟨D1, D2, t1, t2, t3, u1, u2, u3, th, e1, e2, m', hok, h1, h2, h3, F9, N9⟩ := hI
    obtain ⟨n, x1, x2, x3, y1, y2, y3, ht⟩ := c
    dsimp only at h1 h2 h3 N9
    replace F9 := fr_three F9 h1 h2 h3
    (try k_fold)
    repeat' (first | (k_unfold; (try dsimp only)) | (k_end; wrow_close) | with_reducible (k_here; (with_reducible show wpAny _ _ (subscriptTail _ (PySem.Expr.Slice _ _ none _) (Value.ref _) (Value.ref _)) _ _ _); k_dflt (refine' slice_three ?F ?N ?m ?_ ?s ?t; (case F => k_asm); (case N => k_asm); (case m => first | kcf_m | k_mem); (case s => with_unfolding_all rfl); (case t => intro _; with_unfolding_all rfl)); intro D9 h9 F9 N9 l9; (try k_lt l9)) | walk1 | (dsimp only; walk1) | (leave1; try dsimp only))
    by_cases he : [x1, x2, x3] = [y1, y2, y3]
    · refine WhlIf.no (by simp [he]) ?_
      repeat' (first | (k_unfold; (try dsimp only)) | (k_end; wrow_close) | with_reducible (k_here; (with_reducible show wpAny _ _ (subscriptTail _ (PySem.Expr.Slice _ _ none _) (Value.ref _) (Value.ref _)) _ _ _); k_dflt (refine' slice_three ?F ?N ?m ?_ ?s ?t; (case F => k_asm); (case N => k_asm); (case m => first | kcf_m | k_mem); (case s => with_unfolding_all rfl); (case t => intro _; with_unfolding_all rfl)); intro D9 h9 F9 N9 l9; (try k_lt l9)) | walk1 | (dsimp only; walk1) | (leave1; try dsimp only))
      rename News _ _ _ _ => nN
      refine cb_retI (Q := Q) (s := s) ret (hok.done he) (by k_asm) (hRc.back (by assumption) nN (by kcf_all))
    · refine WhlIf.yes (by simp [he]) ?_
      repeat' (first | (k_unfold; (try dsimp only)) | (k_end; wrow_close) | with_reducible (k_here; (with_reducible show wpAny _ _ (subscriptTail _ (PySem.Expr.Slice _ _ none _) (Value.ref _) (Value.ref _)) _ _ _); k_dflt (refine' slice_three ?F ?N ?m ?_ ?s ?t; (case F => k_asm); (case N => k_asm); (case m => first | kcf_m | k_mem); (case s => with_unfolding_all rfl); (case t => intro _; with_unfolding_all rfl)); intro D9 h9 F9 N9 l9; (try k_lt l9)) | walk1 | (dsimp only; walk1) | (leave1; try dsimp only))
      obtain ⟨c', hlt, hok', k1, k2, k3, k4, k5, k6, k7⟩ := hok.step he
      dsimp only at k1 k2 k3 k4 k5 k6 k7
      rename Fr _ _ _ _ => kF
      rename News _ _ _ _ => nN
      refine' WhEnd.next c' hlt ⟨_, _, _, _, _, _, _, _, _, _, _, _, hok', ?ka, ?kb, ?kc, kF, ?kd⟩
      case ka => exact rfl
      case kb => exact rfl
      case kc => rw [k7]; exact rfl
      case kd =>
        rw [k1, k2, k3, k4, k5, k6]
        exact cb_drop nN (by kcf_all)

end Mine
namespace Mine
open PySem PySem.W PyProof.Rows PySem.Spec PySem.Calls
/-- a turn's end of a loop of which nothing is to be told: what it stores is forgotten, the ledger stands -/
def LoopSame (h₀ : Heap) (L : Addr) (x : Str) (stored : List Str) (m₀ : Str → Option Value) (led : Led) (s₁ : Shared) (Q : Flow → Shared → Prop) (f : Flow) (s₂ : Shared) : Prop := match f with
  | .ret v => Q (.ret v) s₂
  | .brk => Q .next s₂
  | _ => ∃ h' tk m', s₂ = { s₁ with heap := h', toks := tk } ∧ Fr h₀ L h' m' ∧ News h₀ L h' led ∧ ∀ z, z ≠ x → stored.contains z = false → m' z = m₀ z
section
variable {prog : Program} {w : World} {A : Around} {E : Value → Shared → Prop} {s : Shared} {env : Env} {h₀ : Heap} {x : Str} {body : List Stmt} {Q : Flow → Shared → Prop} {m₀ : Str → Option Value} {led : Led}
theorem LoopSame.next {L : Addr} {stored : List Str} {s₁ : Shared} {h' : Heap} {tk : Nat} {m' : Str → Option Value} {all : Led} (F : Fr h₀ L h' m') (N : News h₀ L h' all) (hs : ∀ p ∈ led, p ∈ all) (hm : ∀ z, z ≠ x → stored.contains z = false → m' z = m₀ z) :
    LoopSame h₀ L x stored m₀ led s₁ Q .next { s₁ with heap := h', toks := tk } := ⟨h', tk, m', rfl, F, fun p hp => N p (hs p hp), hm⟩
theorem LoopSame.ret9 {L : Addr} {stored : List Str} {s₁ s₂ : Shared} {v : Value} (h : Q (.ret v) s₂) : LoopSame h₀ L x stored m₀ led s₁ Q (.ret v) s₂ := h
/-- a for over a range, its turn walked once for any place -/
theorem iter_any {r : Addr} {a₀ b₀ : Int} {t₀ u₀ v₀ : Tok} {n : Nat} (stored : List Str) (hh : A.handled = none) (hr : IsRange s.heap r a₀ b₀ 1 t₀ u₀ v₀) (hsmall : Builtin.Range.small a₀ b₀ 1 = true) (hn : Builtin.Range.rangeSize a₀ b₀ 1 = (n : Int))
    (F : Fr h₀ env.locals s.heap m₀) (N : News h₀ env.locals s.heap led)
    (turn : ∀ (k : Int) t (u : Str → Option Value) h tk (own : Led), a₀ ≤ k → k < a₀ + (n : Int) → Fr h₀ env.locals h (fun y => if y = x then some (.int k t) else if stored.contains y then u y else m₀ y) → News h₀ env.locals h (led ++ own) →
      wpAny (model prog w) A (execs body env) (LoopSame h₀ env.locals x stored m₀ (led ++ own) { s with heap := h, toks := tk } Q) E { s with heap := h, toks := tk })
    (done : ∀ (u : Str → Option Value) h tk, Fr h₀ env.locals h (fun y => if y = x then u y else if stored.contains y then u y else m₀ y) → News h₀ env.locals h led → Q .next { s with heap := h, toks := tk }) :
    wpAny (model prog w) A (pyIter (.ref r)) (fun it s₂ => LoopAtV prog w A h₀ env x body Q E it s₂) E s := by
  refine kst_range (σ := Unit) (fun _ => led) (fun _ => []) (fun _ => True) stored (fun _ _ => True) () hh hr hsmall hn F N trivial (fun _ h => nomatch h) trivial ?_ ?_
  · intro c pre k t u h tk own hk hlt hoff _ _ F' N'
    refine wpAny_mono (turn k t u h tk own (by omega) (by omega) F' N') (fun f s₂ hf => ?_) fun _ _ e => e
    have fin : (∃ h' tk' m', s₂ = { ({ s with heap := h, toks := tk } : Shared) with heap := h', toks := tk' } ∧ Fr h₀ env.locals h' m' ∧ News h₀ env.locals h' (led ++ own) ∧ ∀ z, z ≠ x → stored.contains z = false → m' z = m₀ z) →
        InvEndN h₀ env.locals (KstS (fun _ : Unit => led) (fun _ => []) (fun _ => True) x stored m₀ (fun _ _ => True) (pre ++ [k])) own (led.map (·.1)) { s with heap := h, toks := tk } s₂ := by
      rintro ⟨h', tk', m', rfl, F'', N'', hm⟩
      exact kst_end () F'' N'' (fun p hp => List.mem_append_left _ hp) (fun p hp => List.mem_append_right _ hp) rfl trivial (fun _ h => nomatch h) (fun z hz _ hs => hm z hz hs) trivial
    cases f with
    | ret v => exact hf
    | brk => exact hf
    | next => exact fin hf
    | cont => exact fin hf
  · intro c u h tk _ _ F' N'
    exact done u h tk F' N'
/-- an item of a list of three ints at any place -/
theorem item_of3 {value slice : PySem.Expr} {l : Addr} {a b c : Int} {ta tb tc : Tok} {e : Nat} {k : Int} {u : Tok} {L : Addr} {Q : Value → Shared → Prop} (N : News h₀ L s.heap led) (hm : (l, ({ cls := .type "list", data := .seq #[.int a ta, .int b tb, .int c tc] e } : Obj)) ∈ led) (h0 : 0 ≤ k) (h3 : k < 3)
    (h : ∀ t, Q (.int ([a, b, c].getD k.toNat 0) t) s)
    (hs : subscripted slice false (.ref l) (.int k u) = operate [.ref l, .int k u] (getItem (.ref l) (.int k u)) := by with_unfolding_all rfl) (hg : ∀ r, letTemporaryGo value (.ref l) r = pure () := by intro _; with_unfolding_all rfl) :
    wpAny (model prog w) A (subscriptTail value slice (.ref l) (.int k u)) Q E s := by
  have hl : s.heap.IsList l [Value.int a ta, Value.int b tb, Value.int c tc].toArray := ⟨_, (N _ hm).1, rfl, e, rfl⟩
  have hk : k = 0 ∨ k = 1 ∨ k = 2 := by omega
  rcases hk with rfl | rfl | rfl
  · exact item_listL hl (by decide) (by decide) rfl (h ta) hs hg
  · exact item_listL hl (by decide) (by decide) rfl (h tb) hs hg
  · exact item_listL hl (by decide) (by decide) rfl (h tc) hs hg
end
end Mine
namespace Mine
open PySem PySem.W PyProof.Rows PySem.Spec PySem.Calls
local macro_rules | `(tactic| k_room) => `(tactic| ktr_room)
local macro_rules | `(tactic| walk_at "exec For Name Call cons nil") => `(tactic| (k_here; (rename Fr _ _ _ _ => lF'); (with_unfolding_all refine' For_invVF lF' ?k1 ?k2 ?_; (case k1 => exact rfl); (case k2 => exact rfl); k_whole)))
local macro_rules | `(tactic| walk_at "LoopSame") => `(tactic| (first | (refine LoopSame.next (by k_asm) (by k_asm) (by kcf_all) (by intro z h1 h2; simp only [List.contains_cons, List.contains_nil, Bool.or_eq_false_iff, beq_eq_false_iff_ne, ne_eq, Bool.or_false, and_true] at h2; simp [h1, h2])) | refine LoopSame.ret9 ?_))
theorem bs_bad1 {A B C : Prop} [Decidable A] [Decidable B] [Decidable C] (hc : A ↔ (B ∧ C)) (hb : B) (hn : (decide A != decide C) = true) : False := by
  by_cases hC : C <;> simp_all
theorem bs_bad2 {A B C : Prop} [Decidable A] [Decidable B] (hc : A ↔ (B ∧ C)) (hb : ¬ B) (hn : (decide A != decide B) = true) : False := by
  simp_all
theorem by_size_use {w : World} {mean : ExcName → Option Value} {mg mb : Str → Option Value} {dp un : Nat} {gd : Option (List Code)} {cn : Str} {cs : Scope} {a : Addr} {ccd : Value} {cl : List (Str × Addr)} {outer : List Env} {A₀ : Around} {base h₀ : Heap} {L : Addr} {m : Str → Option Value} {s : Shared} {Q E : Value → Shared → Prop} {news : Led} {l k : Addr} {g1 g2 g3 h1 h2 h3 : Int} {s1 s2 s3 t1 t2 t3 : Tok} {e1 e2 : Nat}
    (B : Below A₀ base outer h₀) (F : Fr h₀ L s.heap m) (X : (hd.heap_39 w.params).In h₀) (N : News h₀ L s.heap news) (T : Top hd.view_39 (looseW hd.view_39 []) mean mg mb h₀) (hk : cs.kind = .function) (hg : (l, ({ cls := .type "list", data := .seq #[Value.int g1 s1, Value.int g2 s2, Value.int g3 s3] e1 } : Obj)) ∈ news) (hh : (k, ({ cls := .type "list", data := .seq #[Value.int h1 t1, Value.int h2 t2, Value.int h3 t3] e2 } : Obj)) ∈ news) (hc : ∀ i j : Int, 0 ≤ i → i < 3 → 0 ≤ j → j < 3 → ([h1, h2, h3].getD i.toNat 0 < [h1, h2, h3].getD j.toNat 0 ↔ ([g1, g2, g3].getD i.toNat 0 < [g1, g2, g3].getD j.toNat 0 ∧ [g1, g2, g3].getD i.toNat 0 < Builtin.bitXor ([g1, g2, g3].getD i.toNat 0) ([g1, g2, g3].getD j.toNat 0)))) (hd : dp + 6 < recursionLimit) (hu : un + 200 < cLine)
    (ret : ∀ (h' : Heap) (tk' : Nat), Fr h₀ L h' m → News h₀ L h' news → Q (.bool true) { s with heap := h', toks := tk' }) :
    wpAny (model PySem.Challenge.rw_nb0009_01.row.prog w) (ktrTop dp un gd cn cs L a ccd cl outer) (call (.ref 109) [.ref l, .ref k]) Q E s := by
  revert X; k_fill; intro X
  refine wpAny_call ?_
  k_dflt (refine' enterR [(l, ({ cls := .type "list", data := .seq #[Value.int g1 s1, Value.int g2 s2, Value.int g3 s3] e1 } : Obj)), (k, ({ cls := .type "list", data := .seq #[Value.int h1 t1, Value.int h2 t2, Value.int h3 t3] e2 } : Obj))] ?ks ?k1 ?k2 ?k3 ?k4 ?k5 ?kA ?kF ?kK ?k6 ?k7 ?k8 ?k9 ?kB ?_ ?c2 ?c3 ?c4 ?c5; (case ks => repeat' (first | exact List.forall_mem_nil _ | refine List.forall_mem_cons.mpr ⟨by assumption, ?_⟩)); (case kA => exact rfl); (case kF => exact rfl); (case kK => assumption); (case k1 => k_asm); (case k2 => k_asm); (case k3 => k_asm); (case k4 => k_asm); (case k5 => k_asm); (case k6 => k_is); (case k7 => k_is); (case k8 => ktr_room); (case k9 => exact BindsTo.of_eq rfl); (case kB => exact locs rfl); (case c2 => exact rfl); (case c3 => exact rfl); (case c4 => exact rfl); (case c5 => decide); k_whole; intro g' L' h' FG' F' N' B' X' T' hRc l1; (try k_lt l1); (try dsimp only); (try k_fold))
  repeat' ((fail_if_success (with_reducible show wpAny _ _ (pyIter (Value.ref _)) _ _ _)); first | (k_unfold; (try dsimp only)) | (k_end; wrow_close) | with_reducible (k_here; (with_reducible show wpAny _ _ (subscriptTail _ _ (Value.ref _) (Value.int _ _)) _ _ _); k_dflt (refine' item_of3 ?N ?m ?a ?b ?_ ?s ?t; (case N => k_asm); (case m => kcf_m); (case a => omega); (case b => omega); (case s => with_unfolding_all rfl); (case t => intro _; with_unfolding_all rfl)); intro t9) | walk1 | (dsimp only; walk1) | (leave1; try dsimp only))
  rename IsRange _ _ _ _ _ _ _ _ => rgX
  (with_unfolding_all refine' iter_any [Str.ofString "j", Str.ofString "lesser"] (by rfl) rgX (by decide) (by exact rangeSize_nat _ _) ?F ?N (fun k9 t9 u9 h9 tk9 own9 lo9 hi9 F9 N9 => ?_) (fun u9 h9 tk9 F9 N9 => ?_)); (case F => k_asm); (case N => k_asm); (all_goals (try dsimp only)); (all_goals (try k_fold))
  · repeat' ((fail_if_success (with_reducible show wpAny _ _ (pyIter (Value.ref _)) _ _ _)); first | (k_unfold; (try dsimp only)) | (k_end; wrow_close) | with_reducible (k_here; (with_reducible show wpAny _ _ (subscriptTail _ _ (Value.ref _) (Value.int _ _)) _ _ _); k_dflt (refine' item_of3 ?N ?m ?a ?b ?_ ?s ?t; (case N => k_asm); (case m => kcf_m); (case a => omega); (case b => omega); (case s => with_unfolding_all rfl); (case t => intro _; with_unfolding_all rfl)); intro t9) | walk1 | (dsimp only; walk1) | (leave1; try dsimp only))
    rename IsRange _ _ _ _ _ _ _ _ => rgX
    (with_unfolding_all refine' iter_any [Str.ofString "lesser"] (by rfl) rgX (by decide) (by exact rangeSize_nat _ _) ?F ?N (fun k9 t9 u9 h9 tk9 own9 lo9 hi9 F9 N9 => ?_) (fun u9 h9 tk9 F9 N9 => ?_)); (case F => k_asm); (case N => k_asm); (all_goals (try dsimp only)); (all_goals (try k_fold))
    all_goals repeat' (first | (k_unfold; (try dsimp only)) | (k_end; wrow_close) | with_reducible (k_here; (with_reducible show wpAny _ _ (subscriptTail _ _ (Value.ref _) (Value.int _ _)) _ _ _); k_dflt (refine' item_of3 ?N ?m ?a ?b ?_ ?s ?t; (case N => k_asm); (case m => kcf_m); (case a => omega); (case b => omega); (case s => with_unfolding_all rfl); (case t => intro _; with_unfolding_all rfl)); intro t9) | walk1 | (dsimp only; walk1) | (leave1; try dsimp only))
    all_goals (first
      | (rename News _ _ _ _ => nN
         exact ret _ _ (by k_asm) (hRc.back (by assumption) nN (by kcf_all)))
      | (exfalso
         refine' bs_bad1 (hc ?_ ?_ ?_ ?_ ?_ ?_) ?hb ?hn
         case hn => assumption
         case hb => assumption
         all_goals omega)
      | (exfalso
         refine' bs_bad2 (hc ?_ ?_ ?_ ?_ ?_ ?_) ?hb ?hn
         case hn => assumption
         case hb => assumption
         all_goals omega))
  · repeat' (first | (k_unfold; (try dsimp only)) | (k_end; wrow_close) | with_reducible (k_here; (with_reducible show wpAny _ _ (subscriptTail _ _ (Value.ref _) (Value.int _ _)) _ _ _); k_dflt (refine' item_of3 ?N ?m ?a ?b ?_ ?s ?t; (case N => k_asm); (case m => kcf_m); (case a => omega); (case b => omega); (case s => with_unfolding_all rfl); (case t => intro _; with_unfolding_all rfl)); intro t9) | walk1 | (dsimp only; walk1) | (leave1; try dsimp only))
    all_goals (first
      | (rename News _ _ _ _ => nN
         exact ret _ _ (by k_asm) (hRc.back (by assumption) nN (by kcf_all)))
      | (exfalso
         refine' bs_bad1 (hc ?_ ?_ ?_ ?_ ?_ ?_) ?hb ?hn
         case hn => assumption
         case hb => assumption
         all_goals omega)
      | (exfalso
         refine' bs_bad2 (hc ?_ ?_ ?_ ?_ ?_ ?_) ?hb ?hn
         case hn => assumption
         case hb => assumption
         all_goals omega))

end Mine
namespace Mine
open PySem PySem.W PyProof.Rows PySem.Spec PySem.Calls
/-- the point at a place of a row -/
def atR (r : List APt) (k : Int) : APt := r.getD k.toNat (0, ⟨0, 0, 0, 0, 0, 0, 0, 0, 0⟩)
section
variable {prog : Program} {w : World} {A : Around} {E : Value → Shared → Prop} {s : Shared} {h₀ : Heap} {L l : Addr} {m : Str → Option Value} {led led₀ : Led} {r : List APt} {e e2 : Nat} {Q : Value → Shared → Prop}
theorem atR_mem {k : Int} (h0 : 0 ≤ k) (h1 : k < r.length) : atR r k ∈ r := by
  have hk : k.toNat < r.length := by omega
  unfold atR
  rw [List.getD_eq_getElem?_getD, List.getElem?_eq_getElem hk]
  exact List.getElem_mem hk
theorem item_at {value slice : PySem.Expr} {k : Int} {u : Tok} (N : News h₀ L s.heap led) (hm : (l, listO (refs r) e) ∈ led) (h7 : r.length ≤ 100) (h0 : 0 ≤ k) (h1 : k < r.length)
    (hr : ∀ a ∈ r, (a.1, ({ cls := .type "tuple", data := .seq #[.int a.2.x a.2.tx, .int a.2.y a.2.ty, .int a.2.z a.2.tz, .int a.2.k a.2.tk] a.2.e } : Obj)) ∈ led₀ ∧ Pt.ok a.2)
    (h : ((atR r k).1, ({ cls := .type "tuple", data := .seq #[.int (atR r k).2.x (atR r k).2.tx, .int (atR r k).2.y (atR r k).2.ty, .int (atR r k).2.z (atR r k).2.tz, .int (atR r k).2.k (atR r k).2.tk] (atR r k).2.e } : Obj)) ∈ led₀ → Pt.ok (atR r k).2 → Q (.ref (atR r k).1) s)
    (hs : subscripted slice false (.ref l) (.int k u) = operate [.ref l, .int k u] (getItem (.ref l) (.int k u)) := by with_unfolding_all rfl) (hg : ∀ r, letTemporaryGo value (.ref l) r = pure () := by intro _; with_unfolding_all rfl) :
    wpAny (model prog w) A (subscriptTail value slice (.ref l) (.int k u)) Q E s := by
  have hk : k.toNat < r.length := by omega
  have ha := hr _ (atR_mem h0 h1)
  refine item_listL (list_at N hm) h0 (by omega) ?_ (h ha.1 ha.2) hs hg
  unfold atR
  rw [List.getElem?_map, List.getD_eq_getElem?_getD, List.getElem?_eq_getElem hk]; rfl
end
theorem chan1 {x y u v : Int} (hx : 0 ≤ x) (hy : 0 ≤ y) (hu : 0 ≤ u) (hv : 0 ≤ v) : hbit x y < hbit u v ↔ (Builtin.bitXor x y < Builtin.bitXor u v ∧ Builtin.bitXor x y < Builtin.bitXor (Builtin.bitXor x y) (Builtin.bitXor u v)) := by
  rw [hbit_eq hx hy, hbit_eq hu hv, xor_int hx hy, xor_int hu hv, xor_int (by omega) (by omega), Int.toNat_natCast, Int.toNat_natCast]
  have := chan (a := x.toNat ^^^ y.toNat) (b := u.toNat ^^^ v.toNat)
  omega
theorem chan_hc {P R : Pt} (hP : Pt.ok P) (hR : Pt.ok R) : ∀ i j : Int, 0 ≤ i → i < 3 → 0 ≤ j → j < 3 →
    ([hbit P.x R.x, hbit P.y R.y, hbit P.z R.z].getD i.toNat 0 < [hbit P.x R.x, hbit P.y R.y, hbit P.z R.z].getD j.toNat 0 ↔
      ([Builtin.bitXor P.x R.x, Builtin.bitXor P.y R.y, Builtin.bitXor P.z R.z].getD i.toNat 0 < [Builtin.bitXor P.x R.x, Builtin.bitXor P.y R.y, Builtin.bitXor P.z R.z].getD j.toNat 0 ∧
        [Builtin.bitXor P.x R.x, Builtin.bitXor P.y R.y, Builtin.bitXor P.z R.z].getD i.toNat 0 < Builtin.bitXor ([Builtin.bitXor P.x R.x, Builtin.bitXor P.y R.y, Builtin.bitXor P.z R.z].getD i.toNat 0) ([Builtin.bitXor P.x R.x, Builtin.bitXor P.y R.y, Builtin.bitXor P.z R.z].getD j.toNat 0))) := by
  intro i j h0 h1 h2 h3
  have hi : i = 0 ∨ i = 1 ∨ i = 2 := by omega
  have hj : j = 0 ∨ j = 1 ∨ j = 2 := by omega
  rcases hi with rfl | rfl | rfl <;> rcases hj with rfl | rfl | rfl
  · exact chan1 hP.x.1 hR.x.1 hP.x.1 hR.x.1
  · exact chan1 hP.x.1 hR.x.1 hP.y.1 hR.y.1
  · exact chan1 hP.x.1 hR.x.1 hP.z.1 hR.z.1
  · exact chan1 hP.y.1 hR.y.1 hP.x.1 hR.x.1
  · exact chan1 hP.y.1 hR.y.1 hP.y.1 hR.y.1
  · exact chan1 hP.y.1 hR.y.1 hP.z.1 hR.z.1
  · exact chan1 hP.z.1 hR.z.1 hP.x.1 hR.x.1
  · exact chan1 hP.z.1 hR.z.1 hP.y.1 hR.y.1
  · exact chan1 hP.z.1 hR.z.1 hP.z.1 hR.z.1
end Mine
namespace Mine
open PySem PySem.W PyProof.Rows PySem.Spec PySem.Calls
local macro_rules | `(tactic| walk_at "mine nowhere") => `(tactic| fail)
local macro_rules | `(tactic| k_room) => `(tactic| ktr_room)
local macro_rules | `(tactic| walk_at "exec For Name Call cons nil") => `(tactic| (k_here; (rename Fr _ _ _ _ => lF'); (with_unfolding_all refine' For_invVF lF' ?k1 ?k2 ?_; (case k1 => exact rfl); (case k2 => exact rfl); k_whole)))
local macro_rules | `(tactic| walk_at "LoopSame") => `(tactic| (first | (refine LoopSame.next (by k_asm) (by k_asm) (by kcf_all) (by intro z h1 h2; simp only [List.contains_cons, List.contains_nil, Bool.or_eq_false_iff, beq_eq_false_iff_ne, ne_eq, Bool.or_false, and_true] at h2; simp [h1, h2])) | refine LoopSame.ret9 ?_))
theorem by_sizes_use {w : World} {mean : ExcName → Option Value} {mg mb : Str → Option Value} {dp un : Nat} {gd : Option (List Code)} {cn : Str} {cs : Scope} {a : Addr} {ccd : Value} {cl : List (Str × Addr)} {outer : List Env} {A₀ : Around} {base h₀ : Heap} {L : Addr} {m : Str → Option Value} {s : Shared} {Q E : Value → Shared → Prop} {news : Led} {l : Addr} {e : Nat} {r : List APt}
    (B : Below A₀ base outer h₀) (F : Fr h₀ L s.heap m) (X : (hd.heap_39 w.params).In h₀) (N : News h₀ L s.heap news) (T : Top hd.view_39 (looseW hd.view_39 []) mean mg mb h₀) (hk : cs.kind = .function) (hl : (l, ({ cls := .type "list", data := .seq (refs r).toArray e } : Obj)) ∈ news) (hr : ∀ a ∈ r, (a.1, ({ cls := .type "tuple", data := .seq #[.int a.2.x a.2.tx, .int a.2.y a.2.ty, .int a.2.z a.2.tz, .int a.2.k a.2.tk] a.2.e } : Obj)) ∈ news ∧ Pt.ok a.2) (h7 : r.length = 7) (hd : dp + 16 < recursionLimit) (hu : un + 400 < cLine)
    (ret : ∀ (h' : Heap) (tk' : Nat), Fr h₀ L h' m → News h₀ L h' news → Q (.bool true) { s with heap := h', toks := tk' }) :
    wpAny (model PySem.Challenge.rw_nb0009_01.row.prog w) (ktrTop dp un gd cn cs L a ccd cl outer) (call (.ref 116) [.ref l]) Q E s := by
  revert X; k_fill; intro X
  refine wpAny_call ?_
  k_dflt (refine' enterR news ?ks ?k1 ?k2 ?k3 ?k4 ?k5 ?kA ?kF ?kK ?k6 ?k7 ?k8 ?k9 ?kB ?_ ?c2 ?c3 ?c4 ?c5; (case ks => exact fun _ h => h); (case kA => exact rfl); (case kF => exact rfl); (case kK => assumption); (case k1 => k_asm); (case k2 => k_asm); (case k3 => k_asm); (case k4 => k_asm); (case k5 => k_asm); (case k6 => k_is); (case k7 => k_is); (case k8 => ktr_room); (case k9 => exact BindsTo.of_eq rfl); (case kB => exact locs rfl); (case c2 => exact rfl); (case c3 => exact rfl); (case c4 => exact rfl); (case c5 => decide); k_whole; intro g' L' h' FG' F' N' B' X' T' hRc l1; (try dsimp only); (try k_fold))
  repeat' ((fail_if_success (with_reducible show wpAny _ _ (pyIter (Value.ref _)) _ _ _)); first | (k_unfold; (try dsimp only)) | (k_end; wrow_close) | with_reducible (k_here; (with_reducible show wpAny _ _ (PySem.call (Value.ref 109) _) _ _ _); k_dflt (refine' by_size_use (by k_asm) (by k_asm) (by k_asm) (by k_asm) (by k_asm) (by first | exact rfl | assumption) (by kcf_m) (by kcf_m) (by exact chan_hc (by assumption) (by assumption)) (by ktr_room) (by ktr_units) ?_); intro h9 tk9 F9 N9; (try dsimp only); (try k_fold)) | with_reducible (k_here; (with_reducible show wpAny _ _ (PySem.call (Value.ref 64) _) _ _ _); k_dflt (refine' heights_use (by k_asm) (by k_asm) (by k_asm) (by k_asm) (by k_asm) (by first | exact rfl | assumption) (by kcf_m) (by kcf_m) (by ktr_room) (by ktr_units) ?_); intro D9 a91 a92 a93 e9 h9 tk9 o91 o92 o93 F9 N9; (try dsimp only); (try k_fold)) | with_reducible (k_here; (with_reducible show wpAny _ _ (PySem.call (Value.ref 59) _) _ _ _); k_dflt (refine' gaps_use (by k_asm) (by k_asm) (by k_asm) (by k_asm) (by k_asm) (by first | exact rfl | assumption) (by kcf_m) (by kcf_m) (by ktr_room) (by ktr_units) ?_); intro D9 a91 a92 a93 e9 h9 tk9 F9 N9; (try dsimp only); (try k_fold)) | with_reducible (k_here; (with_reducible show wpAny _ _ (subscriptTail _ _ (Value.ref _) (Value.int _ _)) _ _ _); k_dflt (refine' item_at ?N ?m ?z ?a ?b ?r ?_ ?s ?t; (case N => k_asm); (case r => assumption); (case m => kcf_m); (case z => omega); (case a => omega); (case b => omega); (case s => with_unfolding_all rfl); (case t => intro _; with_unfolding_all rfl)); intro hm9 ho9) | walk1 | (dsimp only; walk1) | (leave1; try dsimp only))
  rename IsRange _ _ _ _ _ _ _ _ => rgX
  (with_unfolding_all refine' iter_any [] (by rfl) rgX (by decide) (by exact rangeSize_nat _ _) ?F ?N (fun k9 t9 u9 h9 tk9 own9 lo9 hi9 F9 N9 => ?_) (fun u9 h9 tk9 F9 N9 => ?_)); (case F => k_asm); (case N => k_asm); (all_goals (try dsimp only)); (all_goals (try k_fold))
  all_goals repeat' (first | (k_unfold; (try dsimp only)) | (k_end; wrow_close) | with_reducible (k_here; (with_reducible show wpAny _ _ (PySem.call (Value.ref 109) _) _ _ _); k_dflt (refine' by_size_use (by k_asm) (by k_asm) (by k_asm) (by k_asm) (by k_asm) (by first | exact rfl | assumption) (by kcf_m) (by kcf_m) (by exact chan_hc (by assumption) (by assumption)) (by ktr_room) (by ktr_units) ?_); intro h9 tk9 F9 N9; (try dsimp only); (try k_fold)) | with_reducible (k_here; (with_reducible show wpAny _ _ (PySem.call (Value.ref 64) _) _ _ _); k_dflt (refine' heights_use (by k_asm) (by k_asm) (by k_asm) (by k_asm) (by k_asm) (by first | exact rfl | assumption) (by kcf_m) (by kcf_m) (by ktr_room) (by ktr_units) ?_); intro D9 a91 a92 a93 e9 h9 tk9 o91 o92 o93 F9 N9; (try dsimp only); (try k_fold)) | with_reducible (k_here; (with_reducible show wpAny _ _ (PySem.call (Value.ref 59) _) _ _ _); k_dflt (refine' gaps_use (by k_asm) (by k_asm) (by k_asm) (by k_asm) (by k_asm) (by first | exact rfl | assumption) (by kcf_m) (by kcf_m) (by ktr_room) (by ktr_units) ?_); intro D9 a91 a92 a93 e9 h9 tk9 F9 N9; (try dsimp only); (try k_fold)) | with_reducible (k_here; (with_reducible show wpAny _ _ (subscriptTail _ _ (Value.ref _) (Value.int _ _)) _ _ _); k_dflt (refine' item_at ?N ?m ?z ?a ?b ?r ?_ ?s ?t; (case N => k_asm); (case r => assumption); (case m => kcf_m); (case z => omega); (case a => omega); (case b => omega); (case s => with_unfolding_all rfl); (case t => intro _; with_unfolding_all rfl)); intro hm9 ho9) | walk1 | (dsimp only; walk1) | (leave1; try dsimp only))
  all_goals (first
    | (rename News _ _ _ _ => nN
       exact ret _ _ (by k_asm) (hRc.back (by assumption) nN (fun x hx => by simp [hx]))))

end Mine
namespace Mine
open PySem PySem.W PyProof.Rows PySem.Spec PySem.Calls
def mx3 (a b c : Int) : Int := max a (max b c)
abbrev hgt (P R : Pt) : Int := mx3 (hbit P.x R.x) (hbit P.y R.y) (hbit P.z R.z)
section
variable {prog : Program} {w : World} {A : Around} {E : Value → Shared → Prop} {s : Shared} {h₀ : Heap} {L l : Addr} {m : Str → Option Value} {led led₀ : Led} {r : List APt} {e e2 : Nat} {Q : Value → Shared → Prop}
theorem max3_use {a b c : Int} {ta tb tc : Tok} (hh : A.handled = none) (F : Fr h₀ L s.heap m) (N : News h₀ L s.heap led) (hm : (l, ({ cls := .type "list", data := .seq #[.int a ta, .int b tb, .int c tc] e } : Obj)) ∈ led)
    (h : ∀ h' (t : Tok) tk, Fr h₀ L h' m → News h₀ L h' led → Q (.int (mx3 a b c) t) { s with heap := h', toks := tk }) :
    wpAny (model prog w) A (call (.builtin "max") [.ref l]) Q E s := by
  refine max_item (vs := [.int a ta, .int b tb, .int c tc]) (ns := [a, b, c]) hh F N ⟨_, (N _ hm).1, rfl, e, rfl⟩ (.cons _ _ (.cons _ _ (.cons _ _ .nil))) (by simp) fun h' M t tk F' N' hM hle => ?_
  have e : M = mx3 a b c := by
    have h1 := hle a (by simp); have h2 := hle b (by simp); have h3 := hle c (by simp)
    unfold mx3
    rcases mem3 hM with ⟨q, _⟩ | ⟨q, _⟩ | ⟨q, _⟩ <;> omega
  rw [e]
  exact h h' t tk F' N'
theorem maxN_use {vs : List Value} {ns : List Int} (hh : A.handled = none) (F : Fr h₀ L s.heap m) (N : News h₀ L s.heap led) (hm : (l, listO vs e) ∈ led) (hi : IntsAre vs ns) (hne : 0 < ns.length)
    (h : ∀ h' M (t : Tok) tk, Fr h₀ L h' m → News h₀ L h' led → M ∈ ns → (∀ a, a ∈ ns → a ≤ M) → Q (.int M t) { s with heap := h', toks := tk }) :
    wpAny (model prog w) A (call (.builtin "max") [.ref l]) Q E s := by
  refine max_item hh F N (list_at N hm) hi hne fun h' M t tk F' N' hM hle => h h' M t tk F' N' ?_ hle
  clear hm N N' hle h hne
  induction hi with
  | nil => cases hM
  | cons n t hi ih =>
    rcases List.mem_cons.mp hM with q | q
    · cases q; exact List.mem_cons_self
    · exact List.mem_cons_of_mem _ (ih q)
/-- the part of a row of ints from one place to another -/
def part (ns : List Int) (i j : Int) : List Int := (ns.drop i.toNat).take (j.toNat - i.toNat)
theorem slice_part {value slice : PySem.Expr} {vs : List Value} {ns : List Int} {i j : Int} {u v : Tok} (F : Fr h₀ L s.heap m) (N : News h₀ L s.heap led) (hm : (l, listO vs e) ∈ led) (hi : IntsAre vs ns) (h6 : ns.length = 6) (h0 : 0 ≤ i) (h1 : i < j) (h2 : j ≤ 6)
    (h : ∀ D h' ws, IntsAre ws (part ns i j) → 0 < (part ns i j).length → Fr h₀ L h' m → News h₀ L h' ((D, listO ws 0) :: led) → Q (.ref D) { s with heap := h' })
    (hs : subscripted slice false (.ref l) (.ref s.heap.objs.size) = operate [.ref s.heap.objs.size, .ref l] (getItem (.ref l) (.ref s.heap.objs.size)) := by with_unfolding_all rfl) (ht : ∀ r, letTemporaryGo value (.ref l) r = pure () := by intro _; with_unfolding_all rfl) :
    wpAny (model prog w) A (subscriptTail value slice (.ref l) (.ref s.heap.objs.size)) Q E { s with heap := s.heap.push { cls := .type "slice", data := .fields #[.int i u, .int j v, .none] } } := by
  have hv : vs.length = 6 := by rw [← h6, hi.length]
  refine kms_slice_lit F N (list_at N hm) (.int _ _) (.int _ _) rfl (fun D h' F' N' _ => h D h' _ ?_ ?_ F' N') hs ht (by rw [sizeLine_eq, List.size_toArray]; omega)
  · unfold kms_pick kms_lo kms_hi part
    simp only [if_neg (Int.not_lt.mpr h0), if_neg (show ¬ j < 0 by omega), hv]
    rw [Nat.min_eq_left (by omega), Nat.min_eq_left (by omega)]
    exact (hi.drop _).take _
  · unfold part
    rw [List.length_take, List.length_drop]; omega
theorem small_in {a b : Int} (ha : -100 ≤ a) (ha2 : a ≤ 100) (hb : -100 ≤ b) (hb2 : b ≤ 100) : Builtin.Range.small a b 1 = true := small_one (by omega) (by omega) (by omega) (by omega)
end
abbrev stepsOf (r : List APt) : List Int := List.map (fun k => hgt (atR r k).2 (atR r (k + 1)).2) (rangeKs 0 (6 - 0 : Int).toNat)
end Mine
namespace Mine
open PySem PySem.W PyProof.Rows PySem.Spec PySem.Calls
local macro_rules | `(tactic| k_room) => `(tactic| ktr_room)
theorem halved_pt {w : World} {mean : ExcName → Option Value} {mg mb : Str → Option Value} {dp un : Nat} {gd : Option (List Code)} {cn : Str} {cs : Scope} {a : Addr} {ccd : Value} {cl : List (Str × Addr)} {outer : List Env} {A₀ : Around} {base h₀ : Heap} {L : Addr} {m : Str → Option Value} {s : Shared} {Q E : Value → Shared → Prop} {news : Led} {P R : APt}
    (B : Below A₀ base outer h₀) (F : Fr h₀ L s.heap m) (X : (hd.heap_39 w.params).In h₀) (N : News h₀ L s.heap news) (T : Top hd.view_39 (looseW hd.view_39 []) mean mg mb h₀) (hk : cs.kind = .function) (hp : (P.1, ({ cls := .type "tuple", data := .seq #[.int P.2.x P.2.tx, .int P.2.y P.2.ty, .int P.2.z P.2.tz, .int P.2.k P.2.tk] P.2.e } : Obj)) ∈ news) (hq : (R.1, ({ cls := .type "tuple", data := .seq #[.int R.2.x R.2.tx, .int R.2.y R.2.ty, .int R.2.z R.2.tz, .int R.2.k R.2.tk] R.2.e } : Obj)) ∈ news) (oP : Pt.ok P.2) (oR : Pt.ok R.2) (hd : dp + 6 < recursionLimit) (hu : un + 200 < cLine)
    (ret : ∀ (t : Tok) (h' : Heap) (tk' : Nat), Fr h₀ L h' m → News h₀ L h' news → Q (.int (hlv 17 P.2.x P.2.y P.2.z R.2.x R.2.y R.2.z (-1)) t) { s with heap := h', toks := tk' }) :
    wpAny (model PySem.Challenge.rw_nb0009_01.row.prog w) (ktrTop dp un gd cn cs L a ccd cl outer) (call (.ref 97) [.ref P.1, .ref R.1]) Q E s :=
  halved_use B F X N T hk hp hq oP.x oP.y oP.z oR.x oR.y oR.z hd hu ret
local macro_rules | `(tactic| walk_at "call type:range") => `(tactic| (k_here; (rename Fr _ _ _ _ => F'); (rename News _ _ _ _ => N'); first
  | (with_unfolding_all refine range2_rows F' N' ?_; intro _ _ _ _ _ _ _ _ _)
  | (with_unfolding_all refine range1_rows F' N' ?_; intro _ _ _ _ _ _ _ _ _)))
local macro_rules | `(tactic| walk_at "exec For Name Call cons nil") => `(tactic| (k_here; (rename Fr _ _ _ _ => lF'); (with_unfolding_all refine' For_invVF lF' ?k1 ?k2 ?_; (case k1 => exact rfl); (case k2 => exact rfl); k_whole)))
local macro_rules | `(tactic| walk_at "LoopSame") => `(tactic| (first | (refine LoopSame.next (by k_asm) (by k_asm) (by kcf_all) (by intro z h1 h2; simp only [List.contains_cons, List.contains_nil, Bool.or_eq_false_iff, beq_eq_false_iff_ne, ne_eq, Bool.or_false, and_true] at h2; simp [h1, h2])) | refine LoopSame.ret9 ?_))
local macro_rules | `(tactic| walk_at "CompEnd") => `(tactic| (refine LCg.CompEnd.intro (by assumption) (by assumption) _ (fun _ hp => hp) (by first | assumption | (simp only [LCg.Off3, and_true]; assumption)) (by first | lcg_src | assumption) ?_))
theorem nested_use {w : World} {mean : ExcName → Option Value} {mg mb : Str → Option Value} {dp un : Nat} {gd : Option (List Code)} {cn : Str} {cs : Scope} {a : Addr} {ccd : Value} {cl : List (Str × Addr)} {outer : List Env} {A₀ : Around} {base h₀ : Heap} {L : Addr} {m : Str → Option Value} {s : Shared} {Q E : Value → Shared → Prop} {news : Led} {l : Addr} {e : Nat} {r : List APt}
    (B : Below A₀ base outer h₀) (F : Fr h₀ L s.heap m) (X : (hd.heap_39 w.params).In h₀) (N : News h₀ L s.heap news) (T : Top hd.view_39 (looseW hd.view_39 []) mean mg mb h₀) (hk : cs.kind = .function) (hl : (l, ({ cls := .type "list", data := .seq (refs r).toArray e } : Obj)) ∈ news) (hr : ∀ a ∈ r, (a.1, ({ cls := .type "tuple", data := .seq #[.int a.2.x a.2.tx, .int a.2.y a.2.ty, .int a.2.z a.2.tz, .int a.2.k a.2.tk] a.2.e } : Obj)) ∈ news ∧ Pt.ok a.2) (h7 : r.length = 7) (hN : ∀ i j M : Int, 0 ≤ i → i < j → j < 7 → M ∈ part (stepsOf r) i j → (∀ x, x ∈ part (stepsOf r) i j → x ≤ M) → M = hlv 17 (atR r i).2.x (atR r i).2.y (atR r i).2.z (atR r j).2.x (atR r j).2.y (atR r j).2.z (-1)) (hd : dp + 16 < recursionLimit) (hu : un + 400 < cLine)
    (ret : ∀ (h' : Heap) (tk' : Nat), Fr h₀ L h' m → News h₀ L h' news → Q (.bool true) { s with heap := h', toks := tk' }) :
    wpAny (model PySem.Challenge.rw_nb0009_01.row.prog w) (ktrTop dp un gd cn cs L a ccd cl outer) (call (.ref 102) [.ref l]) Q E s := by
  revert X; k_fill; intro X
  refine wpAny_call ?_
  k_dflt (refine' enterRC news ?ks ?k1 ?k2 ?k3 ?k4 ?k5 ?kA ?kF ?kK ?k6 ?k7 ?k8 ?k9 ?kB ?kD ?_ ?c2 ?c3 ?c4; (case ks => exact fun _ h => h); (case kA => exact rfl); (case kF => exact rfl); (case kK => assumption); (case k1 => k_asm); (case k2 => k_asm); (case k3 => k_asm); (case k4 => k_asm); (case k5 => k_asm); (case k6 => k_is); (case k7 => k_is); (case k8 => ktr_room); (case k9 => exact BindsTo.of_eq rfl); (case kB => exact rfl); (case kD => decide +kernel); (case c2 => exact rfl); (case c3 => exact rfl); (case c4 => exact rfl); k_whole; intro g' L' h' tk' cells' FG' F' N' Y' B' X' T' hRc l1; k_cells Y'; (try simp only [List.cons_append, List.nil_append] at N'); (try dsimp only); (try k_fold))
  repeat' ((fail_if_success (with_reducible show wpAny _ _ (pyIter (Value.ref _)) _ _ _)); first | (k_unfold; (try dsimp only)) | (k_end; wrow_close) | with_reducible (k_here; (with_reducible show wpAny _ _ (PySem.call (Value.ref 97) _) _ _ _); k_dflt (refine' halved_pt (by k_asm) (by k_asm) (by k_asm) (by k_asm) (by k_asm) (by first | exact rfl | assumption) (by kcf_m) (by kcf_m) (by assumption) (by assumption) (by ktr_room) (by ktr_units) ?_); intro t9 h9 tk9 F9 N9; (try dsimp only); (try k_fold)) | with_reducible (k_here; (with_reducible show wpAny _ _ (subscriptTail _ (PySem.Expr.Slice _ _ none _) (Value.ref _) (Value.ref _)) _ _ _); k_dflt (refine' slice_part ?F ?N ?m ?i ?z ?a ?b ?c ?_ ?s ?t; (case F => k_asm); (case N => k_asm); (case i => assumption); (case m => kcf_m); (case z => rfl); (case a => omega); (case b => omega); (case c => omega); (case s => with_unfolding_all rfl); (case t => intro _; with_unfolding_all rfl)); intro D9 h9 ws9 ia9 ln9 F9 N9) | with_reducible (k_here; (with_reducible show wpAny _ _ (call (Value.builtin _) [Value.ref _]) _ _ _); (first | (k_dflt (refine' max3_use ?k6 ?k1 ?k2 ?k3 ?_; (case k1 => k_asm); (case k2 => k_asm); (case k3 => kcf_m); (case k6 => with_unfolding_all rfl)); intro h9 t9 tk9 F9 N9) | (k_dflt (refine' maxN_use ?k6 ?k1 ?k2 ?k3 ?k4 ?k5 ?_; (case k4 => assumption); (case k1 => k_asm); (case k2 => k_asm); (case k3 => kcf_m); (case k5 => assumption); (case k6 => with_unfolding_all rfl)); intro h9 M9 t9 tk9 F9 N9 q9 q8))) | with_reducible (k_here; (with_reducible show wpAny _ _ (PySem.call (Value.ref 64) _) _ _ _); k_dflt (refine' heights_use (by k_asm) (by k_asm) (by k_asm) (by k_asm) (by k_asm) (by first | exact rfl | assumption) (by kcf_m) (by kcf_m) (by ktr_room) (by ktr_units) ?_); intro D9 a91 a92 a93 e9 h9 tk9 o91 o92 o93 F9 N9; (try dsimp only); (try k_fold)) | with_reducible (k_here; (with_reducible show wpAny _ _ (subscriptTail _ _ (Value.ref _) (Value.int _ _)) _ _ _); k_dflt (refine' item_at ?N ?m ?z ?a ?b ?r ?_ ?s ?t; (case N => k_asm); (case r => assumption); (case m => kcf_m); (case z => omega); (case a => omega); (case b => omega); (case s => with_unfolding_all rfl); (case t => intro _; with_unfolding_all rfl)); intro hm9 ho9) | walk1 | (dsimp only; walk1) | (leave1; try dsimp only))
  rename IsRange _ _ _ _ _ _ _ _ => rgX
  (with_unfolding_all refine' iter_any [Str.ofString "j"] (by rfl) rgX (by decide) (by exact rangeSize_nat _ _) ?F ?N (fun k9 t9 u9 h9 tk9 own9 lo9 hi9 F9 N9 => ?_) (fun u9 h9 tk9 F9 N9 => ?_)); (case F => k_asm); (case N => k_asm); (all_goals (try dsimp only)); (all_goals (try k_fold))
  · repeat' ((fail_if_success (with_reducible show wpAny _ _ (pyIter (Value.ref _)) _ _ _)); first | (k_unfold; (try dsimp only)) | (k_end; wrow_close) | with_reducible (k_here; (with_reducible show wpAny _ _ (PySem.call (Value.ref 97) _) _ _ _); k_dflt (refine' halved_pt (by k_asm) (by k_asm) (by k_asm) (by k_asm) (by k_asm) (by first | exact rfl | assumption) (by kcf_m) (by kcf_m) (by assumption) (by assumption) (by ktr_room) (by ktr_units) ?_); intro t9 h9 tk9 F9 N9; (try dsimp only); (try k_fold)) | with_reducible (k_here; (with_reducible show wpAny _ _ (subscriptTail _ (PySem.Expr.Slice _ _ none _) (Value.ref _) (Value.ref _)) _ _ _); k_dflt (refine' slice_part ?F ?N ?m ?i ?z ?a ?b ?c ?_ ?s ?t; (case F => k_asm); (case N => k_asm); (case i => assumption); (case m => kcf_m); (case z => rfl); (case a => omega); (case b => omega); (case c => omega); (case s => with_unfolding_all rfl); (case t => intro _; with_unfolding_all rfl)); intro D9 h9 ws9 ia9 ln9 F9 N9) | with_reducible (k_here; (with_reducible show wpAny _ _ (call (Value.builtin _) [Value.ref _]) _ _ _); (first | (k_dflt (refine' max3_use ?k6 ?k1 ?k2 ?k3 ?_; (case k1 => k_asm); (case k2 => k_asm); (case k3 => kcf_m); (case k6 => with_unfolding_all rfl)); intro h9 t9 tk9 F9 N9) | (k_dflt (refine' maxN_use ?k6 ?k1 ?k2 ?k3 ?k4 ?k5 ?_; (case k4 => assumption); (case k1 => k_asm); (case k2 => k_asm); (case k3 => kcf_m); (case k5 => assumption); (case k6 => with_unfolding_all rfl)); intro h9 M9 t9 tk9 F9 N9 q9 q8))) | with_reducible (k_here; (with_reducible show wpAny _ _ (PySem.call (Value.ref 64) _) _ _ _); k_dflt (refine' heights_use (by k_asm) (by k_asm) (by k_asm) (by k_asm) (by k_asm) (by first | exact rfl | assumption) (by kcf_m) (by kcf_m) (by ktr_room) (by ktr_units) ?_); intro D9 a91 a92 a93 e9 h9 tk9 o91 o92 o93 F9 N9; (try dsimp only); (try k_fold)) | with_reducible (k_here; (with_reducible show wpAny _ _ (subscriptTail _ _ (Value.ref _) (Value.int _ _)) _ _ _); k_dflt (refine' item_at ?N ?m ?z ?a ?b ?r ?_ ?s ?t; (case N => k_asm); (case r => assumption); (case m => kcf_m); (case z => omega); (case a => omega); (case b => omega); (case s => with_unfolding_all rfl); (case t => intro _; with_unfolding_all rfl)); intro hm9 ho9) | walk1 | (dsimp only; walk1) | (leave1; try dsimp only))
    rename IsRange _ _ _ _ _ _ _ _ => rgX
    (with_unfolding_all refine' iter_any [] (by rfl) rgX (small_in (by omega) (by omega) (by omega) (by omega)) (by exact rangeSize_nat _ _) ?F ?N (fun k9 t9 u9 h9 tk9 own9 lo9 hi9 F9 N9 => ?_) (fun u9 h9 tk9 F9 N9 => ?_)); (case F => k_asm); (case N => k_asm); (all_goals (try dsimp only)); (all_goals (try k_fold))
    all_goals repeat' (first | (k_unfold; (try dsimp only)) | (k_end; wrow_close) | with_reducible (k_here; (with_reducible show wpAny _ _ (PySem.call (Value.ref 97) _) _ _ _); k_dflt (refine' halved_pt (by k_asm) (by k_asm) (by k_asm) (by k_asm) (by k_asm) (by first | exact rfl | assumption) (by kcf_m) (by kcf_m) (by assumption) (by assumption) (by ktr_room) (by ktr_units) ?_); intro t9 h9 tk9 F9 N9; (try dsimp only); (try k_fold)) | with_reducible (k_here; (with_reducible show wpAny _ _ (subscriptTail _ (PySem.Expr.Slice _ _ none _) (Value.ref _) (Value.ref _)) _ _ _); k_dflt (refine' slice_part ?F ?N ?m ?i ?z ?a ?b ?c ?_ ?s ?t; (case F => k_asm); (case N => k_asm); (case i => assumption); (case m => kcf_m); (case z => rfl); (case a => omega); (case b => omega); (case c => omega); (case s => with_unfolding_all rfl); (case t => intro _; with_unfolding_all rfl)); intro D9 h9 ws9 ia9 ln9 F9 N9) | with_reducible (k_here; (with_reducible show wpAny _ _ (call (Value.builtin _) [Value.ref _]) _ _ _); (first | (k_dflt (refine' max3_use ?k6 ?k1 ?k2 ?k3 ?_; (case k1 => k_asm); (case k2 => k_asm); (case k3 => kcf_m); (case k6 => with_unfolding_all rfl)); intro h9 t9 tk9 F9 N9) | (k_dflt (refine' maxN_use ?k6 ?k1 ?k2 ?k3 ?k4 ?k5 ?_; (case k4 => assumption); (case k1 => k_asm); (case k2 => k_asm); (case k3 => kcf_m); (case k5 => assumption); (case k6 => with_unfolding_all rfl)); intro h9 M9 t9 tk9 F9 N9 q9 q8))) | with_reducible (k_here; (with_reducible show wpAny _ _ (PySem.call (Value.ref 64) _) _ _ _); k_dflt (refine' heights_use (by k_asm) (by k_asm) (by k_asm) (by k_asm) (by k_asm) (by first | exact rfl | assumption) (by kcf_m) (by kcf_m) (by ktr_room) (by ktr_units) ?_); intro D9 a91 a92 a93 e9 h9 tk9 o91 o92 o93 F9 N9; (try dsimp only); (try k_fold)) | with_reducible (k_here; (with_reducible show wpAny _ _ (subscriptTail _ _ (Value.ref _) (Value.int _ _)) _ _ _); k_dflt (refine' item_at ?N ?m ?z ?a ?b ?r ?_ ?s ?t; (case N => k_asm); (case r => assumption); (case m => kcf_m); (case z => omega); (case a => omega); (case b => omega); (case s => with_unfolding_all rfl); (case t => intro _; with_unfolding_all rfl)); intro hm9 ho9) | walk1 | (dsimp only; walk1) | (leave1; try dsimp only))
    all_goals (first
      | (rename News _ _ _ _ => nN
         exact ret _ _ (by k_asm) (hRc.back (by assumption) nN (fun x hx => by simp [hx])))
      | (exfalso
         rename (_ ∈ part _ _ _) => qa
         rename (∀ a, a ∈ part _ _ _ → a ≤ _) => qb
         have qc := hN _ _ _ (by omega) (by omega) (by omega) qa qb
         revert qc
         simp_all))
  · repeat' (first | (k_unfold; (try dsimp only)) | (k_end; wrow_close) | with_reducible (k_here; (with_reducible show wpAny _ _ (PySem.call (Value.ref 97) _) _ _ _); k_dflt (refine' halved_pt (by k_asm) (by k_asm) (by k_asm) (by k_asm) (by k_asm) (by first | exact rfl | assumption) (by kcf_m) (by kcf_m) (by assumption) (by assumption) (by ktr_room) (by ktr_units) ?_); intro t9 h9 tk9 F9 N9; (try dsimp only); (try k_fold)) | with_reducible (k_here; (with_reducible show wpAny _ _ (subscriptTail _ (PySem.Expr.Slice _ _ none _) (Value.ref _) (Value.ref _)) _ _ _); k_dflt (refine' slice_part ?F ?N ?m ?i ?z ?a ?b ?c ?_ ?s ?t; (case F => k_asm); (case N => k_asm); (case i => assumption); (case m => kcf_m); (case z => rfl); (case a => omega); (case b => omega); (case c => omega); (case s => with_unfolding_all rfl); (case t => intro _; with_unfolding_all rfl)); intro D9 h9 ws9 ia9 ln9 F9 N9) | with_reducible (k_here; (with_reducible show wpAny _ _ (call (Value.builtin _) [Value.ref _]) _ _ _); (first | (k_dflt (refine' max3_use ?k6 ?k1 ?k2 ?k3 ?_; (case k1 => k_asm); (case k2 => k_asm); (case k3 => kcf_m); (case k6 => with_unfolding_all rfl)); intro h9 t9 tk9 F9 N9) | (k_dflt (refine' maxN_use ?k6 ?k1 ?k2 ?k3 ?k4 ?k5 ?_; (case k4 => assumption); (case k1 => k_asm); (case k2 => k_asm); (case k3 => kcf_m); (case k5 => assumption); (case k6 => with_unfolding_all rfl)); intro h9 M9 t9 tk9 F9 N9 q9 q8))) | with_reducible (k_here; (with_reducible show wpAny _ _ (PySem.call (Value.ref 64) _) _ _ _); k_dflt (refine' heights_use (by k_asm) (by k_asm) (by k_asm) (by k_asm) (by k_asm) (by first | exact rfl | assumption) (by kcf_m) (by kcf_m) (by ktr_room) (by ktr_units) ?_); intro D9 a91 a92 a93 e9 h9 tk9 o91 o92 o93 F9 N9; (try dsimp only); (try k_fold)) | with_reducible (k_here; (with_reducible show wpAny _ _ (subscriptTail _ _ (Value.ref _) (Value.int _ _)) _ _ _); k_dflt (refine' item_at ?N ?m ?z ?a ?b ?r ?_ ?s ?t; (case N => k_asm); (case r => assumption); (case m => kcf_m); (case z => omega); (case a => omega); (case b => omega); (case s => with_unfolding_all rfl); (case t => intro _; with_unfolding_all rfl)); intro hm9 ho9) | walk1 | (dsimp only; walk1) | (leave1; try dsimp only))
    all_goals (first
      | (rename News _ _ _ _ => nN
         exact ret _ _ (by k_asm) (hRc.back (by assumption) nN (fun x hx => by simp [hx])))
      | (exfalso
         rename (_ ∈ part _ _ _) => qa
         rename (∀ a, a ∈ part _ _ _ → a ≤ _) => qb
         have qc := hN _ _ _ (by omega) (by omega) (by omega) qa qb
         revert qc
         simp_all))

end Mine
namespace Mine
open PySem PySem.W PyProof.Rows PySem.Spec PySem.Calls
/-- the script's list, which lies in the ground -/
def Scr (h₀ : Heap) (l : Addr) (vs : List Value) (ns : List Int) : Prop := h₀.IsList l vs.toArray ∧ IntsAre vs ns ∧ vs.length ≤ 63
theorem Scr.at {h h' : Heap} {l : Addr} {vs : List Value} {ns : List Int} (x : Scr h l vs ns) (hk : ∀ b o, h.get? b = some o → h'.get? b = some o) : Scr h' l vs ns := ⟨x.1.at fun o e => hk _ o e, x.2⟩
section
variable {prog : Program} {w : World} {A : Around} {E : Value → Shared → Prop} {s : Shared} {h₀ : Heap} {L l : Addr} {m : Str → Option Value} {led led₀ : Led} {e e2 : Nat} {Q : Value → Shared → Prop}
theorem slice_script {value slice : PySem.Expr} {vs : List Value} {ns : List Int} {i : Int} {u v : Tok} {ops : List Value} (F : Fr h₀ L s.heap m) (N : News h₀ L s.heap led) (hS : Scr h₀ l vs ns)
    (h : ∀ D h' ws, IntsAre ws (pickNums ns (some i) none (some 21)) → Fr h₀ L h' m → News h₀ L h' ((D, listO ws 0) :: led) → Q (.ref D) { s with heap := h' })
    (hs : subscripted slice false (.ref l) (.ref s.heap.objs.size) = operate ops (getItem (.ref l) (.ref s.heap.objs.size)) := by with_unfolding_all rfl) (ht : ∀ r, letTemporaryGo value (.ref l) r = pure () := by intro _; with_unfolding_all rfl) :
    wpAny (model prog w) A (subscriptTail value slice (.ref l) (.ref s.heap.objs.size)) Q E { s with heap := s.heap.push { cls := .type "slice", data := .fields #[.int i u, .none, .int 21 v] } } :=
  kmk_slice3_lit F N (hS.1.at fun o e => F.keep _ o e) (.int _ _) .none (.int _ _) (by simp) rfl (fun D h' F' N' _ => h D h' _ (hS.2.1.pick _ _ _) F' N') hs ht (by rw [sizeLine_eq, List.size_toArray]; have := hS.2.2; omega)
theorem sum_use {vs : List Value} {ns : List Int} (hh : A.handled = none) (F : Fr h₀ L s.heap m) (N : News h₀ L s.heap led) (hm : (l, listO vs e) ∈ led) (hi : IntsAre vs ns)
    (h : ∀ h' tk t', Fr h₀ L h' m → News h₀ L h' led → Q (.int ns.sum t') { s with heap := h', toks := tk }) : wpAny (model prog w) A (call (.builtin "sum") [.ref l]) Q E s :=
  LSm.sum_ints F N hh (list_at N hm) hi h
theorem IntsAre.at9 : ∀ {vs : List Value} {ns : List Int}, IntsAre vs ns → ∀ i : Nat, i < ns.length → ∃ t, vs[i]? = some (.int (ns.getD i 0) t)
  | _, _, .nil, i, h => absurd h (Nat.not_lt_zero _)
  | _, _, .cons n t x, 0, _ => ⟨t, rfl⟩
  | _, _, .cons n t x, i + 1, h => by simpa using IntsAre.at9 x i (by simpa using h)
theorem item_ints {value slice : PySem.Expr} {vs : List Value} {ns : List Int} {k : Int} {u : Tok} (N : News h₀ L s.heap led) (hm : (l, listO vs e) ∈ led) (hi : IntsAre vs ns) (h0 : 0 ≤ k) (h1 : k < 21) (h21 : ns.length = 21)
    (h : ∀ t, Q (.int (ns.getD k.toNat 0) t) s)
    (hs : subscripted slice false (.ref l) (.int k u) = operate [.ref l, .int k u] (getItem (.ref l) (.int k u)) := by with_unfolding_all rfl) (hg : ∀ r, letTemporaryGo value (.ref l) r = pure () := by intro _; with_unfolding_all rfl) :
    wpAny (model prog w) A (subscriptTail value slice (.ref l) (.int k u)) Q E s := by
  have hk : k.toNat < ns.length := by omega
  obtain ⟨t, ht⟩ := IntsAre.at9 hi k.toNat hk
  exact item_listL (list_at N hm) h0 (by omega) ht (h t) hs hg
end
theorem News.drop2 {h₀ h : Heap} {L : Addr} {a b : Addr × Obj} {led : Led} (N : News h₀ L h (a :: b :: led)) : News h₀ L h (a :: led) := fun p hp => N p (by rcases List.mem_cons.mp hp with q | q <;> simp [q])
theorem Rcv.backN {h₀ g h : Heap} {L L' : Addr} {wr news xs : Led} {m' : Str → Option Value} (ys : Led) (R : Rcv h₀ L g wr news) (F : Fr g L' h m') (N : News h₀ L h xs) (hy : ∀ p ∈ ys, p ∈ xs) (hs : ∀ p ∈ wr, p ∈ xs) : News h₀ L h (ys ++ news) := fun p hp => by
  rcases List.mem_append.mp hp with q | q
  · exact N p (hy p q)
  · exact R.back F N hs p q
theorem and16 (x : Int) : I16 (Builtin.bitAnd x 65535) := by
  unfold I16 Builtin.bitAnd
  have h1 : ((65535 : Int).toNat) = 65535 := rfl
  by_cases hx : 0 ≤ x
  · simp only [hx, decide_true, show (0 : Int) ≤ 65535 by decide, h1]
    have := Nat.and_le_right (n := x.toNat) (m := 65535)
    omega
  · simp only [hx, decide_false, show (0 : Int) ≤ 65535 by decide, decide_true, h1]
    have := Nat.and_le_left (n := 65535) (m := (Builtin.bitNot x).toNat)
    omega
theorem num_all {ys : List Value} {f : Int → Int} (h : IntsAre ys (List.map (fun k => Builtin.bitAnd (f k) 65535) (rangeKs 0 (21 - 0 : Int).toNat))) : ∃ ms : List Int, IntsAre ys ms ∧ ms.length = 21 ∧ ∀ i : Nat, I16 (ms.getD i 0) := by
  refine ⟨_, h, by simp [rangeKs_length], fun i => ?_⟩
  rw [List.getD_eq_getElem?_getD, List.getElem?_map]
  cases (rangeKs 0 (21 - 0 : Int).toNat)[i]? with
  | none => exact (show I16 0 from ⟨by decide, by decide⟩)
  | some k => exact and16 _
/-- a comprehension's turn that made one object, at its end -/
theorem end_tup {h₀ : Heap} {L T I C D : Addr} {m : Str → Option Value} {s₁ : Shared} {oT oI oC oD : Obj} {S : List (Addr × Obj) → Prop} {rest : Value → List (Addr × Obj) → Prop} {y : Value} {h' : Heap} {tk : Nat} {news : List (Addr × Obj)} {X : Prop}
    (F : Fr h₀ L h' m) (N : News h₀ L h' ((T, oT) :: (I, oI) :: (C, oC) :: (D, oD) :: news)) (off : LCg.Off3 I C D news) (hl : I < T ∧ C < T ∧ D < T ∧ X) (hS : S ((T, oT) :: news)) (r : rest y ((T, oT) :: news)) :
    LCg.CompEnd h₀ L m s₁ I oI C oC D oD S rest y { s₁ with heap := h', toks := tk } := by
  refine LCg.CompEnd.intro F N ((T, oT) :: news) (fun p hp => ?_) ⟨⟨Nat.ne_of_gt hl.1, Nat.ne_of_gt hl.2.1, Nat.ne_of_gt hl.2.2.1⟩, off⟩ hS r
  simp only [List.mem_cons] at hp ⊢
  rcases hp with h | h | h | h | h <;> simp [h]
def firsts : List Int := [5, 2, 9, 4, 7, 8, 1, 3, 6, 12, 2, 9, 5, 2, 11, 3, 12, 0, 5, 2, 9]
end Mine
namespace Mine
open PySem PySem.W PyProof.Rows PySem.Spec PySem.Calls
local macro_rules | `(tactic| k_room) => `(tactic| ktr_room)
local macro_rules | `(tactic| walk_at "call type:range") => `(tactic| (k_here; (rename Fr _ _ _ _ => F'); (rename News _ _ _ _ => N'); first
  | (with_unfolding_all refine range2_rows F' N' ?_; intro _ _ _ _ _ _ _ _ _)
  | (with_unfolding_all refine range1_rows F' N' ?_; intro _ _ _ _ _ _ _ _ _)))
local macro_rules | `(tactic| walk_at "CompSrc") => `(tactic| (k_here; k_dflt (refine LCg.CompSrc.range (by rfl) (by k_asm) (by k_asm) (by assumption) (by first | decide | rfl) (by first | rfl | decide) (by first | size_fits | exact Nat.le_of_ble_eq_true rfl) ?_; intro g'; lcg_lit)))
local macro_rules | `(tactic| walk_at "CompEnd") => `(tactic| (refine end_tup (by assumption) (by assumption) (by first | assumption | (simp only [LCg.Off3, and_true]; assumption)) (by assumption) (by lcg_src) ?_))
theorem points_use {w : World} {mean : ExcName → Option Value} {mg mb : Str → Option Value} {dp un : Nat} {gd : Option (List Code)} {cn : Str} {cs : Scope} {a : Addr} {ccd : Value} {cl : List (Str × Addr)} {outer : List Env} {A₀ : Around} {base h₀ : Heap} {L : Addr} {m : Str → Option Value} {s : Shared} {Q E : Value → Shared → Prop} {news : Led} {l : Addr} {vs : List Value} {ns : List Int}
    (B : Below A₀ base outer h₀) (F : Fr h₀ L s.heap m) (X : (hd.heap_39 w.params).In h₀) (N : News h₀ L s.heap news) (T : Top hd.view_39 (looseW hd.view_39 []) mean mg mb h₀) (hk : cs.kind = .function) (hS : Scr h₀ l vs ns) (hd : dp + 6 < recursionLimit) (hu : un + 200 < cLine)
    (ret : ∀ (P1 P2 P3 P4 P5 P6 P7 : APt) (D : Addr) (e : Nat) (h' : Heap) (tk' : Nat), Pt.ok P1.2 → Pt.ok P2.2 → Pt.ok P3.2 → Pt.ok P4.2 → Pt.ok P5.2 → Pt.ok P6.2 → Pt.ok P7.2 → Fr h₀ L h' m → News h₀ L h' ([(D, ({ cls := .type "list", data := .seq #[Value.ref P1.1, Value.ref P2.1, Value.ref P3.1, Value.ref P4.1, Value.ref P5.1, Value.ref P6.1, Value.ref P7.1] e } : Obj)), (P1.1, ({ cls := .type "tuple", data := .seq #[.int P1.2.x P1.2.tx, .int P1.2.y P1.2.ty, .int P1.2.z P1.2.tz, .int P1.2.k P1.2.tk] P1.2.e } : Obj)), (P2.1, ({ cls := .type "tuple", data := .seq #[.int P2.2.x P2.2.tx, .int P2.2.y P2.2.ty, .int P2.2.z P2.2.tz, .int P2.2.k P2.2.tk] P2.2.e } : Obj)), (P3.1, ({ cls := .type "tuple", data := .seq #[.int P3.2.x P3.2.tx, .int P3.2.y P3.2.ty, .int P3.2.z P3.2.tz, .int P3.2.k P3.2.tk] P3.2.e } : Obj)), (P4.1, ({ cls := .type "tuple", data := .seq #[.int P4.2.x P4.2.tx, .int P4.2.y P4.2.ty, .int P4.2.z P4.2.tz, .int P4.2.k P4.2.tk] P4.2.e } : Obj)), (P5.1, ({ cls := .type "tuple", data := .seq #[.int P5.2.x P5.2.tx, .int P5.2.y P5.2.ty, .int P5.2.z P5.2.tz, .int P5.2.k P5.2.tk] P5.2.e } : Obj)), (P6.1, ({ cls := .type "tuple", data := .seq #[.int P6.2.x P6.2.tx, .int P6.2.y P6.2.ty, .int P6.2.z P6.2.tz, .int P6.2.k P6.2.tk] P6.2.e } : Obj)), (P7.1, ({ cls := .type "tuple", data := .seq #[.int P7.2.x P7.2.tx, .int P7.2.y P7.2.ty, .int P7.2.z P7.2.tz, .int P7.2.k P7.2.tk] P7.2.e } : Obj))] ++ news) → Q (.ref D) { s with heap := h', toks := tk' }) :
    wpAny (model PySem.Challenge.rw_nb0009_01.row.prog w) (ktrTop dp un gd cn cs L a ccd cl outer) (call (.ref 54) [.ref l]) Q E s := by
  revert X; k_fill; intro X
  refine wpAny_call ?_
  k_dflt (refine' enterRC [] ?ks ?k1 ?k2 ?k3 ?k4 ?k5 ?kA ?kF ?kK ?k6 ?k7 ?k8 ?k9 ?kB ?kD ?_ ?c2 ?c3 ?c4; (case ks => repeat' (first | exact List.forall_mem_nil _ | refine List.forall_mem_cons.mpr ⟨by assumption, ?_⟩)); (case kA => exact rfl); (case kF => exact rfl); (case kK => assumption); (case k1 => k_asm); (case k2 => k_asm); (case k3 => k_asm); (case k4 => k_asm); (case k5 => k_asm); (case k6 => k_is); (case k7 => k_is); (case k8 => ktr_room); (case k9 => exact BindsTo.of_eq rfl); (case kB => exact rfl); (case kD => decide +kernel); (case c2 => exact rfl); (case c3 => exact rfl); (case c4 => exact rfl); k_whole; intro g' L' h' tk' cells' FG' F' N' Y' B' X' T' hRc l1; (try k_lt l1); k_cells Y'; (try simp only [List.cons_append, List.nil_append] at N'); (try dsimp only); (try k_fold))
  replace hS := hS.at FG'.keep
  repeat' ((fail_if_success (with_reducible show wpAny _ _ (execs [Stmt.Return (some (PySem.Expr.ListComp _ _ _ _)) _] _) _ _ _)); first | (k_unfold; (try dsimp only)) | (k_end; wrow_close) | with_reducible (k_here; (with_reducible show wpAny _ _ (subscriptTail _ _ (Value.ref _) (Value.int _ _)) _ _ _); k_dflt (refine' item_ints ?N ?m ?i ?a ?b ?c ?_ ?s ?t; (case i => first | l_ints | assumption); (case N => k_asm); (case m => kcf_m); (case a => omega); (case b => omega); (case c => first | rfl | simp [rangeKs_length]); (case s => with_unfolding_all rfl); (case t => intro _; with_unfolding_all rfl)); intro t9) | with_reducible (k_here; (with_reducible show wpAny _ _ (subscriptTail _ _ (Value.ref _) (Value.int _ _)) _ _ _); k_dflt (refine' item_ints ?N ?m ?i ?a ?b ?c ?_ ?s ?t; (case i => first | l_ints | assumption); (case N => k_asm); (case m => kcf_m); (case a => omega); (case b => omega); (case c => first | rfl | simp [rangeKs_length]); (case s => with_unfolding_all rfl); (case t => intro _; with_unfolding_all rfl)); intro t9) | with_reducible (k_here; (with_reducible show wpAny _ _ (call (Value.builtin "sum") [Value.ref _]) _ _ _); k_dflt (refine' sum_use ?k6 ?k1 ?k2 ?k3 ?k4 ?_; (case k4 => assumption); (case k1 => k_asm); (case k2 => k_asm); (case k3 => kcf_m); (case k6 => with_unfolding_all rfl)); intro h9 tk9 t9 F9 N9) | with_reducible (k_here; (with_reducible show wpAny _ _ (subscriptTail _ (PySem.Expr.Slice _ _ _ _) (Value.ref _) (Value.ref _)) _ _ _); k_dflt (refine' slice_script ?F ?N ?m ?_ ?s ?t; (case F => k_asm); (case N => k_asm); (case m => assumption); (case s => with_unfolding_all rfl); (case t => intro _; with_unfolding_all rfl)); intro D9 h9 ws9 ia9 F9 N9) | walk1 | (dsimp only; walk1) | (leave1; try dsimp only))
  rename IntsAre _ _ => hI
  obtain ⟨ms, hJ, h21, h16⟩ := num_all hI
  clear hI
  rename News _ _ _ _ => nN
  replace nN := News.drop2 nN
  repeat' (first | (k_unfold; (try dsimp only)) | (k_end; wrow_close) | with_reducible (k_here; (with_reducible show wpAny _ _ (subscriptTail _ _ (Value.ref _) (Value.int _ _)) _ _ _); k_dflt (refine' item_ints ?N ?m ?i ?a ?b ?c ?_ ?s ?t; (case i => first | l_ints | assumption); (case N => k_asm); (case m => kcf_m); (case a => omega); (case b => omega); (case c => first | rfl | simp [rangeKs_length]); (case s => with_unfolding_all rfl); (case t => intro _; with_unfolding_all rfl)); intro t9) | with_reducible (k_here; (with_reducible show wpAny _ _ (subscriptTail _ _ (Value.ref _) (Value.int _ _)) _ _ _); k_dflt (refine' item_ints ?N ?m ?i ?a ?b ?c ?_ ?s ?t; (case i => first | l_ints | assumption); (case N => k_asm); (case m => kcf_m); (case a => omega); (case b => omega); (case c => first | rfl | simp [rangeKs_length]); (case s => with_unfolding_all rfl); (case t => intro _; with_unfolding_all rfl)); intro t9) | with_reducible (k_here; (with_reducible show wpAny _ _ (call (Value.builtin "sum") [Value.ref _]) _ _ _); k_dflt (refine' sum_use ?k6 ?k1 ?k2 ?k3 ?k4 ?_; (case k4 => assumption); (case k1 => k_asm); (case k2 => k_asm); (case k3 => kcf_m); (case k6 => with_unfolding_all rfl)); intro h9 tk9 t9 F9 N9) | with_reducible (k_here; (with_reducible show wpAny _ _ (subscriptTail _ (PySem.Expr.Slice _ _ _ _) (Value.ref _) (Value.ref _)) _ _ _); k_dflt (refine' slice_script ?F ?N ?m ?_ ?s ?t; (case F => k_asm); (case N => k_asm); (case m => assumption); (case s => with_unfolding_all rfl); (case t => intro _; with_unfolding_all rfl)); intro D9 h9 ws9 ia9 F9 N9) | walk1 | (dsimp only; walk1) | (leave1; try dsimp only))
  rename News _ _ _ _ => zN
  refine' ret (_, ⟨_, _, _, _, _, _, _, _, _⟩) (_, ⟨_, _, _, _, _, _, _, _, _⟩) (_, ⟨_, _, _, _, _, _, _, _, _⟩) (_, ⟨_, _, _, _, _, _, _, _, _⟩) (_, ⟨_, _, _, _, _, _, _, _, _⟩) (_, ⟨_, _, _, _, _, _, _, _, _⟩) (_, ⟨_, _, _, _, _, _, _, _, _⟩) _ _ _ _ ?o1 ?o2 ?o3 ?o4 ?o5 ?o6 ?o7 (by k_asm) (Rcv.backN _ hRc (by assumption) zN ?sub ?hs)
  case sub => repeat' (first | exact List.forall_mem_nil _ | refine List.forall_mem_cons.mpr ⟨by kcf_m, ?_⟩)
  case hs => exact List.forall_mem_nil _
  all_goals exact ⟨h16 _, h16 _, h16 _⟩

end Mine
namespace Mine
open PySem PySem.W PyProof.Rows PySem.Spec PySem.Calls
/-- the order by key, like ones by their first place -/
def lex (k : Nat → Int) (a b : Nat) : Prop := k a < k b ∨ (k a = k b ∧ a < b)
def gt (p : Array Nat) (i : Nat) : Nat := p.getD i 0
theorem gt_eq (p : Array Nat) (i : Nat) : gt p i = (p[i]?).getD 0 := by
  show p.getD i 0 = _
  rw [Array.getD_eq_getD_getElem?]
theorem gt_rev {p : Array Nat} {i j : Nat} (hj : j ≤ p.size) (x : Nat) : gt (kas_rev p i j) x = if i ≤ x ∧ x < j then gt p (i + j - 1 - x) else gt p x := by
  rw [gt_eq]
  show ((mirror p i j ((j - i) / 2))[x]?).getD 0 = _
  rw [getElem?_mirror_all hj]
  split <;> rw [gt_eq]
theorem gt_bub {p : Array Nat} {k l : Nat} (hk : k < p.size) (hl : l ≤ k) (x : Nat) : gt (bubble p k (k - l)) x = if x = l then gt p k else if l < x ∧ x ≤ k then gt p (x - 1) else gt p x := by
  have e : k - (k - l) = l := by omega
  rw [gt_eq, getElem?_bubble hk _ (by omega), e]
  repeat' split
  all_goals rw [gt_eq]
structure Inv (N : Nat) (k : Nat → Int) (p : Array Nat) (m : Nat) : Prop where
  perm : p.Perm (List.range N).toArray
  size : p.size = N
  low : ∀ i, i < m → gt p i < m
  ord : ∀ i j, i < j → j < m → lex k (gt p i) (gt p j)
  rest : ∀ i, m ≤ i → i < N → gt p i = i
theorem Inv.next {N m : Nat} {k : Nat → Int} {p : Array Nat} (h : Inv N k p m) (h1 : 1 ≤ m) (hm : m < N) (hk : k (gt p (m - 1)) ≤ k (gt p m)) : Inv N k p (m + 1) := by
  have e := h.rest m (Nat.le_refl _) hm
  refine ⟨h.perm, h.size, fun i hi => ?_, fun i j hij hj => ?_, fun i hi hN => h.rest i (by omega) hN⟩
  · rcases Nat.lt_or_ge i m with q | q
    · have := h.low i q; omega
    · have : i = m := by omega
      subst this; omega
  · rcases Nat.lt_or_ge j m with q | q
    · exact h.ord i j hij q
    · have : j = m := by omega
      subst this
      have l1 := h.low i hij
      have l2 : k (gt p i) ≤ k (gt p (j - 1)) := by
        rcases Nat.lt_or_ge i (j - 1) with q1 | q1
        · rcases h.ord i (j - 1) q1 (by omega) with q2 | q2 <;> omega
        · have : i = j - 1 := by omega
          subst this; omega
      unfold lex
      rw [e] at hk ⊢
      omega
theorem Inv.asc {N n : Nat} {k : Nat → Int} {p : Array Nat} (h1 : 1 ≤ n) : ∀ (d : Nat), n + d ≤ N → Inv N k p n → (∀ i, n ≤ i → i < n + d → k (gt p (i - 1)) ≤ k (gt p i)) → Inv N k p (n + d)
  | 0, _, h, _ => h
  | d + 1, hN, h, hk => by
    have h2 : Inv N k p (n + d) := Inv.asc h1 d (by omega) h fun i a b => hk i a (by omega)
    have h3 : Inv N k p (n + d + 1) := Inv.next (m := n + d) h2 (by omega) (by omega) (hk (n + d) (by omega) (by omega))
    exact h3
/-- a run that falls: its last ones alike, in their first order still -/
structure Dsc (N : Nat) (k : Nat → Int) (p : Array Nat) (n q : Nat) : Prop where
  perm : p.Perm (List.range N).toArray
  size : p.size = N
  qn : q < n
  nN : n ≤ N
  low : ∀ i, i < n - 1 - q → gt p i < n - 1 - q
  rest : ∀ i, n - 1 - q ≤ i → i < N → gt p i = i
  ord : ∀ i j, i < j → j < n → i < n - 1 - q → lex k (gt p j) (gt p i)
  like : ∀ i, n - 1 - q ≤ i → i < n → k i = k (n - 1)
theorem Dsc.rev {N n q : Nat} {k : Nat → Int} {p : Array Nat} (h : Dsc N k p n q) : ∀ i j, i < j → j < n → lex k (gt (kas_rev p (n - (q + 1)) n) j) (gt (kas_rev p (n - (q + 1)) n) i) := by
  intro i j hij hj
  have hs := h.size
  have hq := h.qn
  have hn := h.nN
  have ec : n - (q + 1) = n - 1 - q := by omega
  rw [ec, gt_rev (by omega), gt_rev (by omega)]
  by_cases hi : n - 1 - q ≤ i
  · rw [if_pos (by omega), if_pos (by omega)]
    have e1 := h.rest (n - 1 - q + n - 1 - i) (by omega) (by omega)
    have e2 := h.rest (n - 1 - q + n - 1 - j) (by omega) (by omega)
    have k1 := h.like (n - 1 - q + n - 1 - i) (by omega) (by omega)
    have k2 := h.like (n - 1 - q + n - 1 - j) (by omega) (by omega)
    rw [e1, e2]
    unfold lex
    omega
  · rw [if_neg (show ¬(n - 1 - q ≤ i ∧ i < n) by omega)]
    by_cases hj2 : n - 1 - q ≤ j
    · rw [if_pos (by omega)]
      exact h.ord i _ (by omega) (by omega) (by omega)
    · rw [if_neg (by omega)]
      exact h.ord i j hij hj (by omega)
theorem Dsc.rev0 {N n : Nat} {k : Nat → Int} {p : Array Nat} (h : Dsc N k p n 0) : ∀ i j, i < j → j < n → lex k (gt p j) (gt p i) := fun i j hij hj => h.ord i j hij hj (by omega)
/-- what falls, turned about, rises -/
theorem turned {N n : Nat} {k : Nat → Int} {p : Array Nat} (hp : p.Perm (List.range N).toArray) (hs : p.size = N) (hn : n ≤ N) (low : ∀ i, i < n → gt p i < n) (rest : ∀ i, n ≤ i → i < N → gt p i = i) (ord : ∀ i j, i < j → j < n → lex k (gt p j) (gt p i)) :
    Inv N k (kas_rev p 0 n) n := by
  refine ⟨(mirror_perm _ _ _ _).trans hp, by rw [kas_rev_size]; exact hs, fun i hi => ?_, fun i j hij hj => ?_, fun i hi hN => ?_⟩
  · rw [gt_rev (by omega), if_pos (by omega)]; exact low _ (by omega)
  · rw [gt_rev (by omega), if_pos (by omega), gt_rev (by omega), if_pos (by omega)]
    exact ord _ _ (by omega) (by omega)
  · rw [gt_rev (by omega), if_neg (by omega)]; exact rest i hi hN
section
variable {N : Nat} {k : Nat → Int} {cmp : Nat → Nat → (Bool → Shared → Prop) → Shared → Prop} {s : Shared}
/-- the answers are those of the keys -/
def Ans (N : Nat) (k : Nat → Int) (cmp : Nat → Nat → (Bool → Shared → Prop) → Shared → Prop) (s : Shared) : Prop := ∀ i j (C : Bool → Shared → Prop), i < N → j < N → C (decide (k i < k j)) s → cmp i j C s
theorem asc_wp (ha : Ans N k cmp s) {p : Array Nat} (hb : ∀ i, i < N → gt p i < N) {G : Nat → Shared → Prop} : ∀ (f n : Nat), 1 ≤ n → n + f ≤ N →
    (∀ m, n ≤ m → m ≤ n + f → (∀ i, n ≤ i → i < m → k (gt p (i - 1)) ≤ k (gt p i)) → (m < n + f → k (gt p m) < k (gt p (m - 1))) → G m s) → (kas_asc p f n).kasWp cmp G s
  | 0, n, _, _, h => h n (Nat.le_refl _) (by omega) (fun i a b => absurd a (by omega)) (fun q => absurd q (by omega))
  | f + 1, n, h1, hN, h => by
    refine ha _ _ _ (hb n (by omega)) (hb (n - 1) (by omega)) ?_
    by_cases q : k (gt p n) < k (gt p (n - 1))
    · rw [show decide (k (p.getD n 0) < k (p.getD (n - 1) 0)) = true from decide_eq_true q]
      exact h n (Nat.le_refl _) (by omega) (fun i a b => absurd a (by omega)) fun _ => q
    · rw [show decide (k (p.getD n 0) < k (p.getD (n - 1) 0)) = false from decide_eq_false q]
      refine asc_wp ha hb f (n + 1) (by omega) (by omega) fun m a b c d => h m (by omega) (by omega) (fun i x y => ?_) fun x => d (by omega)
      rcases Nat.lt_or_ge n i with z | z
      · exact c i z y
      · have : i = n := by omega
        subst this; omega
theorem Dsc.bound {p : Array Nat} {n q : Nat} (h : Dsc N k p n q) (i : Nat) (hi : i < N) : gt p i < N := by
  rcases Nat.lt_or_ge i (n - 1 - q) with z | z
  · have := h.low i z; have := h.nN; omega
  · rw [h.rest i z hi]; exact hi
theorem desc_wp (ha : Ans N k cmp s) {G : Array Nat × Nat × Nat → Shared → Prop} (hG : ∀ p n q, Dsc N k p n q → G (p, n, q) s) : ∀ (f : Nat) (p : Array Nat) (n q : Nat), n + f ≤ N → Dsc N k p n q → (kas_desc f p n q).kasWp cmp G s
  | 0, p, n, q, _, h => hG p n q h
  | f + 1, p, n, q, hN, h => by
    have hq := h.qn
    have e0 := h.rest n (by omega) (by omega)
    have e1 := h.rest (n - 1) (by omega) (by omega)
    refine ha _ _ _ (h.bound n (by omega)) (h.bound (n - 1) (by omega)) ?_
    have e0' : p.getD n 0 = n := e0
    have e1' : p.getD (n - 1) 0 = n - 1 := e1
    rw [e0', e1']
    by_cases c : k n < k (n - 1)
    · rw [decide_eq_true c]
      show (if q > 0 then kas_desc f (kas_rev p (n - (q + 1)) n) (n + 1) 0 else kas_desc f p (n + 1) 0).kasWp cmp G s
      by_cases hz : q > 0
      · rw [if_pos hz]
        refine desc_wp ha hG f _ (n + 1) 0 (by omega) ⟨(mirror_perm _ _ _ _).trans h.perm, by rw [kas_rev_size]; exact h.size, by omega, by omega, ?_, ?_, ?_, ?_⟩
        · intro i hi
          rw [gt_rev (by rw [h.size]; omega)]
          split
          · rw [h.rest _ (by omega) (by omega)]; omega
          · rcases Nat.lt_or_ge i (n - 1 - q) with z | z
            · have := h.low i z; omega
            · omega
        · intro i hi hiN
          rw [gt_rev (by rw [h.size]; omega), if_neg (by omega)]
          exact h.rest i (by omega) hiN
        · intro i j hij hj hi
          rcases Nat.lt_or_ge j n with z | z
          · exact h.rev i j hij z
          · have : j = n := by omega
            subst this
            have k1 : k (j - 1) ≤ k (gt (kas_rev p (j - (q + 1)) j) i) := by
              rw [gt_rev (by rw [h.size]; omega)]
              split
              · rw [h.rest _ (by omega) (by omega)]
                have := h.like (j - (q + 1) + j - 1 - i) (by omega) (by omega)
                omega
              · have := h.ord i (j - 1) (by omega) (by omega) (by omega)
                rw [e1] at this
                rcases this with z2 | z2 <;> omega
            have k2 : gt (kas_rev p (j - (q + 1)) j) j = j := by
              rw [gt_rev (by rw [h.size]; omega), if_neg (by omega)]; exact e0
            rw [k2]
            unfold lex
            omega
        · intro i hi hi2
          have : i = n := by omega
          subst this; simp
      · rw [if_neg hz]
        have hq0 : q = 0 := by omega
        subst hq0
        refine desc_wp ha hG f _ (n + 1) 0 (by omega) ⟨h.perm, h.size, by omega, by omega, ?_, ?_, ?_, ?_⟩
        · intro i hi
          rcases Nat.lt_or_ge i (n - 1 - 0) with z | z
          · have := h.low i z; omega
          · rw [h.rest i z (by omega)]; omega
        · intro i hi hiN; exact h.rest i (by omega) hiN
        · intro i j hij hj hi
          rcases Nat.lt_or_ge j n with z | z
          · exact h.rev0 i j hij z
          · have : j = n := by omega
            subst this
            have k1 : k (j - 1) ≤ k (gt p i) := by
              rcases Nat.lt_or_ge i (j - 1) with z | z
              · have := h.ord i (j - 1) (by omega) (by omega) (by omega)
                rw [e1] at this
                rcases this with z2 | z2 <;> omega
              · have : i = j - 1 := by omega
                subst this; rw [e1]; omega
            rw [e0]
            unfold lex
            omega
        · intro i hi hi2
          have : i = n := by omega
          subst this; simp
    · rw [decide_eq_false c]
      refine ha _ _ _ (by omega) (by omega) ?_
      by_cases d : k (n - 1) < k n
      · rw [decide_eq_true d]; exact hG p n q h
      · rw [decide_eq_false d]
        have ke : k n = k (n - 1) := by omega
        refine desc_wp ha hG f p (n + 1) (q + 1) (by omega) ⟨h.perm, h.size, by omega, by omega, ?_, ?_, ?_, ?_⟩
        · intro i hi; have := h.low i (by omega); omega
        · intro i hi hiN; exact h.rest i (by omega) hiN
        · intro i j hij hj hi
          rcases Nat.lt_or_ge j n with z | z
          · exact h.ord i j hij z (by omega)
          · have : j = n := by omega
            subst this
            have := h.ord i (j - 1) (by omega) (by omega) (by omega)
            have l := h.low i (by omega)
            rw [e1] at this
            rw [e0]
            unfold lex at this ⊢
            omega
        · intro i hi hi2
          rcases Nat.lt_or_ge i n with z | z
          · have := h.like i (by omega) z
            show k i = k n
            omega
          · have : i = n := by omega
            subst this; rfl
theorem tail3_wp (ha : Ans N k cmp s) {p : Array Nat} {n : Nat} {G : Nat × Array Nat → Shared → Prop} (h1 : 1 ≤ n) (hn : n ≤ N) (h : Inv N k (kas_rev p 0 n) n) (hG : ∀ m p', 1 ≤ m → m ≤ N → Inv N k p' m → G (m, p') s) : (kas_tail3 n N p).kasWp cmp G s := by
  unfold kas_tail3
  rw [KasT.kasWp_bind]
  refine asc_wp ha (fun i hi => ?_) (N - n) n h1 (by omega) fun m a b c _ => ?_
  · rcases Nat.lt_or_ge i n with z | z
    · have := h.low i z; omega
    · rw [h.rest i z hi]; exact hi
  · have := Inv.asc h1 (m - n) (by omega) h fun i x y => c i x (by omega)
    rw [show n + (m - n) = m by omega] at this
    exact hG m _ (by omega) (by omega) this
theorem descPart_wp (ha : Ans N k cmp s) {p : Array Nat} {n : Nat} {G : Nat × Array Nat → Shared → Prop} (hn : n + 1 ≤ N) (h : Dsc N k p (n + 1) 0) (hG : ∀ m p', 1 ≤ m → m ≤ N → Inv N k p' m → G (m, p') s) : (kas_descPart n N p).kasWp cmp G s := by
  unfold kas_descPart
  rw [KasT.kasWp_bind]
  refine desc_wp ha (fun p' m q hD => ?_) (N - (n + 1)) p (n + 1) 0 (by omega) h
  show (if q > 0 then kas_tail3 m N (kas_rev p' (m - (q + 1)) m) else kas_tail3 m N p').kasWp cmp G s
  have hq := hD.qn
  have hm := hD.nN
  have hs := hD.size
  by_cases hz : q > 0
  · rw [if_pos hz]
    refine tail3_wp ha (by omega) hm (turned ((mirror_perm _ _ _ _).trans hD.perm) (by rw [kas_rev_size]; exact hs) hm (fun i hi => ?_) (fun i hi hiN => ?_) hD.rev) hG
    · rw [gt_rev (by omega)]
      split
      · rw [hD.rest _ (by omega) (by omega)]; omega
      · have := hD.low i (by omega); omega
    · rw [gt_rev (by omega), if_neg (by omega)]; exact hD.rest i (by omega) hiN
  · rw [if_neg hz]
    have : q = 0 := by omega
    subst this
    refine tail3_wp ha (by omega) hm (turned hD.perm hs hm (fun i hi => ?_) (fun i hi hiN => hD.rest i (by omega) hiN) hD.rev0) hG
    rcases Nat.lt_or_ge i (m - 1 - 0) with z | z
    · have := hD.low i z; omega
    · rw [hD.rest i z (by omega)]; exact hi
theorem count_wp (ha : Ans N k cmp s) {G : Nat × Array Nat → Shared → Prop} (hN : 1 ≤ N) (hG : ∀ m p', 1 ≤ m → m ≤ N → Inv N k p' m → G (m, p') s) : (kas_count N (List.range N).toArray).kasWp cmp G s := by
  unfold kas_count
  rw [KasT.kasWp_bind]
  generalize hp : (List.range N).toArray = p
  have hs : p.size = N := by rw [← hp]; simp
  have hi : ∀ i, i < N → gt p i = i := fun i hi => by rw [gt_eq, ← hp]; simp [hi]
  have I1 : Inv N k p 1 := ⟨by rw [← hp], hs, fun i h => by have := hi i (by omega); omega, fun i j a b => absurd a (by omega), fun i _ b => hi i b⟩
  refine asc_wp ha (fun i h => by rw [hi i h]; exact h) (N - 1) 1 (Nat.le_refl _) (by omega) fun m a b c d => ?_
  have Im : Inv N k p m := by
    have := Inv.asc (Nat.le_refl 1) (m - 1) (by omega) I1 fun i x y => c i x (by omega)
    rwa [show 1 + (m - 1) = m by omega] at this
  show (if (m == N) = true then KasT.ret (m, p) else if m > 1 then KasT.ask (p.getD 0 0) (p.getD (m - 1) 0) fun c => if c = true then KasT.ret (m, p) else kas_descPart m N (kas_rev p 0 m) else kas_descPart m N p).kasWp cmp G s
  by_cases e1 : m = N
  · rw [if_pos (by simp [e1])]; exact hG m p a (by omega) Im
  · rw [if_neg (by simpa using e1)]
    have hd := d (by omega)
    rw [hi m (by omega), hi (m - 1) (by omega)] at hd
    have asc : ∀ i, i < m → k i ≤ k (m - 1) := fun i x => by
      rcases Nat.lt_or_ge i (m - 1) with z | z
      · have := Im.ord i (m - 1) z (by omega)
        rw [hi i (by omega), hi (m - 1) (by omega)] at this
        rcases this with q | q <;> omega
      · have : i = m - 1 := by omega
        subst this; omega
    have asc0 : ∀ i, i < m → k 0 ≤ k i := fun i x => by
      rcases Nat.lt_or_ge 0 i with z | z
      · have := Im.ord 0 i z x
        rw [hi 0 (by omega), hi i (by omega)] at this
        rcases this with q | q <;> omega
      · have : i = 0 := by omega
        subst this; omega
    by_cases e2 : m > 1
    · rw [if_pos e2]
      have q0 : p.getD 0 0 = 0 := hi 0 (by omega)
      have q1 : p.getD (m - 1) 0 = m - 1 := hi (m - 1) (by omega)
      rw [q0, q1]
      refine ha _ _ _ (by omega) (by omega) ?_
      by_cases e3 : k 0 < k (m - 1)
      · rw [decide_eq_true e3]; exact hG m p a (by omega) Im
      · rw [decide_eq_false e3]
        refine descPart_wp ha (by omega) ⟨(mirror_perm _ _ _ _).trans Im.perm, by rw [kas_rev_size]; exact hs, by omega, by omega, ?_, ?_, ?_, ?_⟩ hG
        · intro i x
          rw [gt_rev (by omega), if_pos (by omega), hi _ (by omega)]; omega
        · intro i x y
          rw [gt_rev (by omega), if_neg (by omega), hi _ y]
        · intro i j hij hj hx
          rw [gt_rev (by omega), gt_rev (by omega), if_pos (show 0 ≤ i ∧ i < m by omega), hi (0 + m - 1 - i) (by omega)]
          have a1 := asc (0 + m - 1 - i) (by omega)
          have a2 := asc0 (0 + m - 1 - i) (by omega)
          rcases Nat.lt_or_ge j m with z | z
          · rw [if_pos (by omega), hi (0 + m - 1 - j) (by omega)]
            have a3 := asc (0 + m - 1 - j) (by omega)
            have a4 := asc0 (0 + m - 1 - j) (by omega)
            unfold lex
            omega
          · have : j = m := by omega
            subst this
            rw [if_neg (by omega), hi j (by omega)]
            unfold lex
            omega
        · intro i x y
          have : i = m := by omega
          subst this; simp
    · rw [if_neg e2]
      have : m = 1 := by omega
      subst this
      refine descPart_wp ha (by omega) ⟨Im.perm, hs, by omega, by omega, ?_, ?_, ?_, ?_⟩ hG
      · intro i x; rw [hi i (by omega)]; exact x
      · intro i _ y; exact hi i y
      · intro i j hij hj hx
        have z1 : i = 0 := by omega
        have z2 : j = 1 := by omega
        subst z1 z2
        rw [hi 0 (by omega), hi 1 (by omega)]
        exact .inl hd
      · intro i x y
        have : i = 1 := by omega
        subst this; simp
theorem place_wp (ha : Ans N k cmp s) {p : Array Nat} {m : Nat} (hm : m < N) (h : Inv N k p m) {G : Nat → Shared → Prop}
    (hG : ∀ l, l ≤ m → (∀ i, i < l → k (gt p i) ≤ k m) → (∀ i, l ≤ i → i < m → k m < k (gt p i)) → G l s) : ∀ (f l r : Nat), r - l ≤ f → l ≤ r → r ≤ m → (∀ i, i < l → k (gt p i) ≤ k m) → (∀ i, r ≤ i → i < m → k m < k (gt p i)) → (kas_place p m f l r).kasWp cmp G s
  | 0, l, r, hf, hlr, hr, a, b => hG l (by omega) a fun i x y => b i (by omega) y
  | f + 1, l, r, hf, hlr, hr, a, b => by
    unfold kas_place
    by_cases q : l ≥ r
    · rw [if_pos q]; exact hG l (by omega) a fun i x y => b i (by omega) y
    · rw [if_neg q]
      have e : p.getD m 0 = m := h.rest m (Nat.le_refl _) hm
      have low := h.low ((l + r) / 2) (by omega)
      have mono : ∀ i j, i ≤ j → j < m → k (gt p i) ≤ k (gt p j) := fun i j x y => by
        rcases Nat.lt_or_ge i j with z | z
        · rcases h.ord i j z y with w | w <;> omega
        · have : i = j := by omega
          subst this; omega
      rw [e]
      refine ha _ _ _ hm (by have : gt p ((l + r) / 2) < m := low; show gt p ((l + r) / 2) < N; omega) ?_
      by_cases c : k m < k (gt p ((l + r) / 2))
      · rw [show decide (k m < k (p.getD ((l + r) / 2) 0)) = true from decide_eq_true c]
        refine place_wp ha hm h hG f l ((l + r) / 2) (by omega) (by omega) (by omega) a fun i x y => ?_
        have := mono _ i x y; omega
      · rw [show decide (k m < k (p.getD ((l + r) / 2) 0)) = false from decide_eq_false c]
        refine place_wp ha hm h hG f ((l + r) / 2 + 1) r (by omega) (by omega) hr (fun i x => ?_) b
        have := mono i ((l + r) / 2) (by omega) (by omega); omega
theorem Inv.put {p : Array Nat} {m l : Nat} (hm : m < N) (h : Inv N k p m) (hl : l ≤ m) (a : ∀ i, i < l → k (gt p i) ≤ k m) (b : ∀ i, l ≤ i → i < m → k m < k (gt p i)) : Inv N k (bubble p m (m - l)) (m + 1) := by
  have hs : m < p.size := by rw [h.size]; exact hm
  have e := h.rest m (Nat.le_refl _) hm
  refine ⟨(bubble_perm _ _ _).trans h.perm, (bubble_size _ _ _).trans h.size, fun i hi => ?_, fun i j hij hj => ?_, fun i hi hN => ?_⟩
  · rw [gt_bub hs hl]
    split
    · omega
    · split
      · have := h.low (i - 1) (by omega); omega
      · have := h.low i (by omega); omega
  · rw [gt_bub hs hl, gt_bub hs hl]
    by_cases i1 : i = l
    · subst i1
      rw [if_pos rfl, if_neg (by omega), if_pos (by omega), e]
      exact .inl (b (j - 1) (by omega) (by omega))
    · rw [if_neg i1]
      by_cases i2 : l < i
      · rw [if_pos (by omega), if_neg (by omega), if_pos (by omega)]
        exact h.ord _ _ (by omega) (by omega)
      · rw [if_neg (by omega)]
        have l1 := h.low i (by omega)
        by_cases j1 : j = l
        · rw [if_pos j1, e]
          have := a i (by omega)
          unfold lex
          omega
        · rw [if_neg j1]
          by_cases j2 : l < j
          · rw [if_pos (by omega)]; exact h.ord _ _ (by omega) (by omega)
          · rw [if_neg (by omega)]; exact h.ord _ _ hij (by omega)
  · rw [gt_bub hs hl, if_neg (by omega), if_neg (by omega)]
    exact h.rest i (by omega) hN
theorem bin_wp (ha : Ans N k cmp s) {G : Array Nat → Shared → Prop} (hG : ∀ p, Inv N k p N → G p s) : ∀ (f : Nat) (p : Array Nat) (m : Nat), m + f = N → Inv N k p m → (kas_bin f p m).kasWp cmp G s
  | 0, p, m, hm, h => hG p (by have e : m = N := by omega
                               rw [e] at h; exact h)
  | f + 1, p, m, hm, h => by
    show ((kas_place p m m 0 m).bind fun l => kas_bin f (bubble p m (m - l)) (m + 1)).kasWp cmp G s
    rw [KasT.kasWp_bind]
    exact place_wp ha (by omega) h (fun l hl a b => bin_wp ha hG f _ (m + 1) (by omega) (h.put (by omega) hl a b)) m 0 m (by omega) (by omega) (Nat.le_refl _) (fun i x => absurd x (by omega)) fun i x y => absurd x (by omega)
theorem sort_wp (ha : Ans N k cmp s) {G : Array Nat → Shared → Prop} (hN : 1 ≤ N) (hG : ∀ p, Inv N k p N → G p s) : (kas_sort N).kasWp cmp G s := by
  unfold kas_sort
  rw [KasT.kasWp_bind]
  refine count_wp ha hN fun m p a b I => ?_
  show (if m < N then kas_bin (N - max m 1) p (max m 1) else KasT.ret p).kasWp cmp G s
  rw [Nat.max_eq_left a]
  by_cases q : m < N
  · rw [if_pos q]; exact bin_wp ha hG _ _ _ (by omega) I
  · rw [if_neg q]
    have e : m = N := by omega
    rw [e] at I
    exact hG p I
end
end Mine
namespace Mine
open PySem PySem.W PyProof.Rows PySem.Spec PySem.Calls
section
variable {prog : Program} {w : World} {A : Around} {E : Value → Shared → Prop} {s : Shared} {h₀ : Heap} {L : Addr} {m : Str → Option Value} {news : List (Addr × Obj)} {a kS : Addr} {vs : List Value} {kz : List Int} {keys : Array Value} {e e1 : Nat} {P : PySem.Fin → Shared → Prop}
theorem srt_tail {st : SortSt} (F : Fr h₀ L s.heap m) (N : News h₀ L s.heap (news ++ [(kS, seqObj "list" keys e), (a, seqObj "list" #[] e1)])) (hka : kS ≠ a) (hnk : ∀ p ∈ news, p.1 ≠ kS) (hna : ∀ p ∈ news, p.1 ≠ a)
    (hks : keys.size ≤ 1000) (hou : (arrOf st).size ≤ 1000) (hfl : failedOf st = none)
    (h : ∀ h' tk c, Fr h₀ L h' m → News h₀ L h' ((a, seqObj "list" ((arrOf st).map (·.2)) c) :: news) → P (.done (.ret .none)) { s with heap := h', toks := tk }) :
    wpAny (model prog w) A (ksk_tail a false e1 (.ref kS) st) P E s := by
  have nk := N (kS, seqObj "list" keys e) (List.mem_append_right _ (.head _))
  have na := N (a, seqObj "list" #[] e1) (List.mem_append_right _ (.tail _ (.head _)))
  have Nn : News h₀ L s.heap news := fun p hp => N p (List.mem_append_left _ hp)
  have s1 := Heap.SameBut.update s.heap kS (Obj.mapSeq fun _ => (#[] : Array Value))
  have na1 : (s.heap.update kS (Obj.mapSeq fun _ => (#[] : Array Value))).get? a = some (seqObj "list" #[] e1) := (s1.2 a hka.symm).trans na.1
  have s2 := Heap.SameBut.update (s.heap.update kS (Obj.mapSeq fun _ => (#[] : Array Value))) a (Obj.mapSeq fun _ => (arrOf st).map (·.2))
  obtain ⟨c2, hc2⟩ : ∃ c2, ((s.heap.update kS (Obj.mapSeq fun _ => (#[] : Array Value))).update a (Obj.mapSeq fun _ => (arrOf st).map (·.2))).get? a = some (seqObj "list" ((arrOf st).map (·.2)) c2) := ⟨_, get?_update_seq na1 fun _ => (arrOf st).map (·.2)⟩
  have N2 := ksk_news (ksk_news Nn s1 hnk) s2 hna
  unfold ksk_tail
  try dsimp only
  refine wpAny_bind (listUpdate_at nk.1 rfl ?_ (by rw [sizeLine_eq]; omega) (Nat.zero_le _))
  refine wpAny_bind (wpAny_letGo (wpAny_bind (seqEpoch_at na1 rfl ?_)))
  simp only [Bool.false_eq_true, if_false]
  refine wpAny_bind (listUpdate_at na1 rfl ?_ (Nat.zero_le _) (by rw [sizeLine_eq, Array.size_map]; omega))
  rw [hfl]
  simp only [bne_self_eq_false, Bool.false_eq_true, if_false]
  refine wpAny_pure (h _ _ c2 (ksk_fr (ksk_fr F s1 nk.2.1 nk.2.2) s2 na.2.1 na.2.2) fun p hp => ?_)
  rcases List.mem_cons.mp hp with rfl | hp
  · exact ⟨hc2, na.2⟩
  · exact N2 p hp
theorem srt_keys : ∀ {vs : List Value} {ns : List Int}, IntsAre vs ns → ∀ i : Nat, i < ns.length → ∃ t, vs[i]? = some (.int (ns.getD i 0) t)
  | _, _, .nil, i, h => absurd h (Nat.not_lt_zero _)
  | _, _, .cons n t x, 0, _ => ⟨t, rfl⟩
  | _, _, .cons n t x, i + 1, h => by simpa using srt_keys x i (by simpa using h)
theorem srt_item (hk : IntsAre keys.toList kz) (hlen : kz.length = vs.length) {i : Nat} (hi : i < vs.length) : ∃ t, kas_item (keys.zip vs.toArray) i = (.int (kz.getD i 0) t, vs.getD i .none) := by
  obtain ⟨t, ht⟩ := srt_keys hk i (by omega)
  have ht' : keys[i]? = some (.int (kz.getD i 0) t) := by simpa using ht
  refine ⟨t, ?_⟩
  have hv : vs.toArray[i]? = some (vs.getD i .none) := by simp [List.getD_eq_getElem?_getD, List.getElem?_eq_getElem hi]
  have hz : (keys.zip vs.toArray)[i]? = some (.int (kz.getD i 0) t, vs.getD i .none) := by
    rw [← Array.getElem?_toList, Array.toList_zip, List.getElem?_zip_eq_some]
    exact ⟨by simpa using ht', by simpa using hv⟩
  show (keys.zip vs.toArray).getD i _ = _
  rw [Array.getD_eq_getD_getElem?, hz]
  rfl
theorem srt_end (F : Fr h₀ L s.heap m) (N : News h₀ L s.heap (news ++ [(kS, seqObj "list" keys e), (a, seqObj "list" #[] e1)])) (hka : kS ≠ a) (hnk : ∀ p ∈ news, p.1 ≠ kS) (hna : ∀ p ∈ news, p.1 ≠ a)
    (hk : IntsAre keys.toList kz) (hlen : kz.length = vs.length) (h2 : 2 ≤ vs.length) (h64 : vs.length < 64)
    (h : ∀ h' tk p c, Inv vs.length (fun i => kz.getD i 0) p vs.length → Fr h₀ L h' m → News h₀ L h' ((a, seqObj "list" (p.map fun i => vs.getD i .none) c) :: news) → P (.done (.ret .none)) { s with heap := h', toks := tk }) :
    wpAny (model prog w) A (ksk_end a false vs.toArray e1 (.ref kS) keys) P E s := by
  have hsz : keys.size = vs.length := by
    have h1 := hk.length
    rw [Array.length_toList] at h1
    omega
  have hzs : (keys.zip vs.toArray).size = vs.length := by rw [Array.size_zip, hsz, List.size_toArray, Nat.min_self]
  have hs2 : ¬ vs.toArray.size < 2 := by rw [List.size_toArray]; omega
  unfold ksk_end
  dsimp only
  simp only [Bool.false_eq_true, if_false]
  rw [if_neg hs2, if_neg hs2, ksk_kind hk (by rw [hsz]; omega)]
  refine wpAny_bind (wpAny_pure ?_)
  have hst : SortSt.mk' oneType' (keys.zip vs.toArray) #[] 7 none = kas_st oneType' (keys.zip vs.toArray) (List.toArray (List.range vs.length)) := by
    have := kas_range (keys.zip vs.toArray)
    rw [hzs] at this
    show _ = SortSt.mk' oneType' ((List.toArray (List.range vs.length)).map (kas_item (keys.zip vs.toArray))) #[] 7 none
    rw [this]
  rw [hst]
  have run : kasC (model prog w) A E sortRuns' (fun _ st' s' => s' = s ∧ ∃ p, Inv vs.length (fun i => kz.getD i 0) p vs.length ∧ arrOf st' = p.map (kas_item (keys.zip vs.toArray)) ∧ failedOf st' = none) (kas_st oneType' (keys.zip vs.toArray) (List.toArray (List.range vs.length))) s := by
    refine kas_runs (G := fun p s' => s' = s ∧ Inv vs.length (fun i => kz.getD i 0) p vs.length) h2 h64 (fun p st' s' _ e2 e3 hg => ⟨hg.1, p, hg.2, e2, e3⟩) ?_
    refine sort_wp (k := fun i => kz.getD i 0) (fun i j C hi hj hC => ?_) (by omega) fun p hp => ⟨rfl, hp⟩
    obtain ⟨t, et⟩ := srt_item hk hlen hi
    obtain ⟨u, eu⟩ := srt_item hk hlen hj
    unfold kas_cmp
    rw [et, eu, keyLt'_oneType]
    exact oneLt_int hC
  refine wpAny_bind (wpAny_mono run ?_ fun _ _ e => e)
  rintro ⟨⟨⟩, st'⟩ s' ⟨rfl, p, hp, ha, hf⟩
  dsimp only at ha hf ⊢
  refine srt_tail F N hka hnk hna (by omega) (by rw [ha, Array.size_map, hp.size]; omega) hf fun h' tk c F' N' => h h' tk p c hp F' ?_
  have ea : (arrOf st').map (·.2) = p.map fun i => vs.getD i .none := by
    rw [ha, Array.map_map]
    refine Array.map_congr_left fun i hi => ?_
    have hlt : i < vs.length := by
      have := (hp.perm.mem_iff (a := i)).mp hi
      simpa using this
    obtain ⟨t, et⟩ := srt_item hk hlen hlt
    show (kas_item _ i).2 = _
    rw [et]
  rw [← ea]
  exact N'
end
end Mine
namespace Mine
open PySem PySem.W PyProof.Rows PySem.Spec PySem.Calls
section
variable {prog : Program} {w : World} {A : Around} {E : Value → Shared → Prop} {s : Shared} {h₀ : Heap} {L : Addr} {m : Str → Option Value} {news : List (Addr × Obj)} {a kS : Addr} {vs : List Value} {kz : List Int} {keys : Array Value} {e e1 : Nat} {P : PySem.Fin → Shared → Prop} {f : Value}
/-- the keys of the items, as the call by item says them -/
def KeyAt (prog : Program) (w : World) (A : Around) (h₀ : Heap) (L : Addr) (m : Str → Option Value) (news : List (Addr × Obj)) (f : Value) (vs : List Value) (kz : List Int) (s : Shared) : Prop :=
  ∀ (i : Nat) (v : Value) (k : Int), vs[i]? = some v → kz[i]? = some k → ∀ (h : Heap) (tk : Nat) (own : List (Addr × Obj)), Fr h₀ L h m → News h₀ L h (news ++ own) →
    wpAny (model prog w) A (call f [v]) (KskEnd h₀ L m (news ++ own) k { s with heap := h, toks := tk }) (fun _ _ => False) { s with heap := h, toks := tk }
theorem srt_rest (F : Fr h₀ L s.heap m) (N : News h₀ L s.heap (news ++ [(kS, seqObj "list" #[] 0), (a, seqObj "list" #[] e1)])) (hka : kS ≠ a) (hnk : ∀ p ∈ news, p.1 ≠ kS) (hna : ∀ p ∈ news, p.1 ≠ a)
    (hlen : kz.length = vs.length) (h2 : 2 ≤ vs.length) (h64 : vs.length < 64) (turn : KeyAt prog w A h₀ L m news f vs kz s)
    (h : ∀ h' tk p c, Inv vs.length (fun i => kz.getD i 0) p vs.length → Fr h₀ L h' m → News h₀ L h' ((a, seqObj "list" (p.map fun i => vs.getD i .none) c) :: news) → P (.done (.ret .none)) { s with heap := h', toks := tk }) :
    wpAny (model prog w) A (ksk_rest a f false vs.toArray e1 (.ref kS)) P E s := by
  unfold ksk_rest
  refine wpAny_bind (wpAny_rule ?_)
  rw [List.forIn_toArray]
  refine wpAny_bind (ksk_fold (fun i s' => ∃ h' tk kA c, s' = { s with heap := h', toks := tk } ∧ Fr h₀ L h' m ∧ News h₀ L h' (news ++ [(kS, seqObj "list" kA c), (a, seqObj "list" #[] e1)]) ∧ IntsAre kA.toList (kz.take i)) vs 0 s
    ⟨s.heap, s.toks, #[], 0, rfl, F, N, by simpa using IntsAre.nil⟩ ?step ?done)
  case step =>
    rintro j x s' hx ⟨h', tk, kA, c, rfl, F', N', hk⟩
    simp only [Nat.zero_add] at hk ⊢
    have hj : j < vs.length := (List.getElem?_eq_some_iff.mp hx).1
    have hkj : kz[j]? = some kz[j] := List.getElem?_eq_getElem (by omega)
    have hz : kA.size ≤ vs.length := by
      have h1 := hk.length
      rw [Array.length_toList, List.length_take] at h1
      omega
    refine wpAny_bind (wpAny_attempt (wpAny_mono (turn j x _ hx hkj h' tk _ F' N') (fun v s'' he => ?_) fun _ _ hF => hF.elim))
    obtain ⟨g, tk2, t2, rfl, rfl, F2, N2⟩ := he
    dsimp only
    have nk := N2 (kS, seqObj "list" kA c) (List.mem_append_right _ (.head _))
    have na := N2 (a, seqObj "list" #[] e1) (List.mem_append_right _ (.tail _ (.head _)))
    have s1 := Heap.SameBut.update g kS (Obj.mapSeq (·.push (.int kz[j] t2)))
    obtain ⟨c2, hc2⟩ : ∃ c2, (g.update kS (Obj.mapSeq (·.push (.int kz[j] t2)))).get? kS = some (seqObj "list" (kA.push (.int kz[j] t2)) c2) := ⟨_, get?_update_seq nk.1 (·.push (.int kz[j] t2))⟩
    have ek : kz.take (j + 1) = kz.take j ++ [kz[j]] := by rw [List.take_add_one, hkj]; simp
    refine wpAny_bind (listUpdate_at nk.1 rfl ?_ (by rw [sizeLine_eq]; omega) (Nat.le_trans (Nat.le_of_eq (Array.size_push ..)) (by rw [sizeLine_eq]; omega)))
    refine wpAny_pure ⟨rfl, _, _, kA.push (.int kz[j] t2), c2, rfl, ksk_fr F2 s1 nk.2.1 nk.2.2, fun p hp => ?_, by rw [Array.toList_push, ek]; exact ksk_snoc hk⟩
    rcases List.mem_append.mp hp with hp | hp
    · exact ksk_news (fun q hq => N2 q (List.mem_append_left _ hq)) s1 hnk p hp
    · rcases List.mem_cons.mp hp with rfl | hp
      · exact ⟨hc2, nk.2⟩
      · rw [List.mem_singleton.mp hp]
        exact ⟨(s1.2 a hka.symm).trans na.1, na.2⟩
  case done =>
    rintro s' ⟨h', tk, kA, c, rfl, F', N', hk⟩
    rw [List.take_of_length_le (show kz.length ≤ 0 + vs.length by omega)] at hk
    have nk := N' (kS, seqObj "list" kA c) (List.mem_append_right _ (.head _))
    refine wpAny_bind (listItems_at nk.1 rfl ?_)
    exact srt_end F' N' hka hnk hna hk hlen h2 h64 fun h3 tk3 p c3 I3 F3 N3 => h h3 tk3 p c3 I3 F3 N3
theorem srt_sort {n : Nat} (F : Fr h₀ L s.heap m) (N : News h₀ L s.heap news) (ho : s.heap.get? a = some (seqObj "list" vs.toArray n)) (haL : a ≠ L) (ha0 : h₀.get? a = none) (hna : ∀ p ∈ news, p.1 ≠ a)
    (hlen : kz.length = vs.length) (h2 : 2 ≤ vs.length) (h64 : vs.length < 64) (turn : KeyAt prog w A h₀ L m news f vs kz s)
    (h : ∀ h' tk p c, Inv vs.length (fun i => kz.getD i 0) p vs.length → Fr h₀ L h' m → News h₀ L h' ((a, seqObj "list" (p.map fun i => vs.getD i .none) c) :: news) → P (.done (.ret .none)) { s with heap := h', toks := tk }) :
    wpAny (model prog w) A (ksk_tree a f false) P E s := by
  have ha : a < s.heap.objs.size := Heap.lt_size ho
  have s1 := Heap.SameBut.update s.heap a (Obj.mapSeq fun _ => (#[] : Array Value))
  obtain ⟨e1, ho1⟩ : ∃ e1, (s.heap.update a (Obj.mapSeq fun _ => (#[] : Array Value))).get? a = some (seqObj "list" #[] e1) := ⟨_, get?_update_seq ho fun _ => #[]⟩
  have F1 := ksk_fr F s1 haL ha0
  have N1 := ksk_news N s1 hna
  have z1 : (s.heap.update a (Obj.mapSeq fun _ => (#[] : Array Value))).objs.size = s.heap.objs.size := Heap.size_update ..
  generalize hH : s.heap.update a (Obj.mapSeq fun _ => (#[] : Array Value)) = H at *
  have hkS : (H.push (seqObj "tuple" vs.toArray 0)).objs.size = s.heap.objs.size + 1 := by rw [size_push', z1]
  have hLk : L < (H.push (seqObj "tuple" vs.toArray 0)).objs.size := (F1.push _).ns.lt
  unfold ksk_tree
  refine wpAny_bind (listItems_at ho rfl ?_)
  refine wpAny_bind (listUpdate_at ho rfl ?_ (by rw [List.size_toArray, sizeLine_eq]; omega) (Nat.zero_le _))
  rw [hH]
  refine wpAny_bind (seqEpoch_at ho1 rfl ?_)
  refine wpAny_bind (wpAny_newTuple ?_ (by show vs.length ≤ _; rw [sizeLine_eq]; omega))
  refine wpAny_bind (wpAny_newList ?_ (Nat.zero_le _))
  refine wpAny_holding ?_
  refine srt_rest (s := { s with heap := (H.push (seqObj "tuple" vs.toArray 0)).push (seqObj "list" #[] 0) }) (kS := (H.push (seqObj "tuple" vs.toArray 0)).objs.size)
    ((F1.push _).push _) (fun p hp => ?_) (by rw [hkS]; exact Nat.ne_of_gt (Nat.lt_succ_of_lt ha)) (fun p hp => by rw [hkS]; exact Nat.ne_of_lt (Nat.lt_succ_of_lt (Heap.lt_size (N p hp).1))) hna hlen h2 h64 turn h
  rcases List.mem_append.mp hp with hp | hp
  · exact ⟨Heap.get?_push_of_some _ (Heap.get?_push_of_some _ (N1 p hp).1), (N1 p hp).2⟩
  · rcases List.mem_cons.mp hp with rfl | hp
    · exact ⟨Heap.get?_push_size _ rfl, Nat.ne_of_gt hLk, Heap.get?_none_of_le (Nat.le_trans F.above (Nat.le_of_lt hLk))⟩
    · rw [List.mem_singleton.mp hp]
      exact ⟨Heap.get?_push_of_some _ (Heap.get?_push_of_some _ ho1), haL, ha0⟩
theorem srt_sorted {l q : Addr} {Q : Value → Shared → Prop} (F : Fr h₀ L s.heap m) (N : News h₀ L s.heap news) (hl : s.heap.IsList l vs.toArray) (hlen : kz.length = vs.length) (h2 : 2 ≤ vs.length) (h64 : vs.length < 64)
    (turn : KeyAt prog w A.in1.in1 h₀ L m news (.ref q) vs kz s)
    (h : ∀ D h' tk p c, Inv vs.length (fun i => kz.getD i 0) p vs.length → Fr h₀ L h' m → News h₀ L h' ((D, seqObj "list" (p.map fun i => vs.getD i .none) c) :: news) → Q (.ref D) { s with heap := h', toks := tk }) :
    wpAny (model prog w) A (call (.builtin "sorted") [.ref l] [(Str.ofString "key", .ref q)]) Q E s := by
  refine call_function_entry_kw kind_sorted plain_sorted entry_sorted (ksk_s1 _ _) ?_
  unfold Builtin.«sorted»
  refine wpAny_bind (m := checkCount "sorted" 1 1 _) (wpAny_pure ?_)
  refine wpAny_bind (collect_list hl ?_ (by rw [sizeLine_eq]; omega))
  refine wpAny_bind (wpAny_newList ?_ (by rw [sizeLine_eq]; omega))
  have hsz : ((s.heap.push (seqObj "list" #[] 0)).update s.heap.objs.size (Obj.mapSeq (· ++ vs.toArray))).objs.size = s.heap.objs.size + 1 := by
    rw [Heap.size_update, size_push']
  have up1 : ∀ b o, s.heap.get? b = some o → ((s.heap.push (seqObj "list" #[] 0)).update s.heap.objs.size (Obj.mapSeq (· ++ vs.toArray))).get? b = some o := fun b o x => by
    have hlt : b < s.heap.objs.size := Heap.lt_size x
    rw [Heap.get?_update_ne _ _ _ _ (Nat.ne_of_lt hlt), Heap.get?_push_ne _ _ _ (Nat.ne_of_lt hlt)]
    exact x
  generalize (s.heap.push (seqObj "list" #[] 0)).update s.heap.objs.size (Obj.mapSeq (· ++ vs.toArray)) = H at *
  have hoL : (H.push (seqObj "list" vs.toArray 0)).get? (s.heap.objs.size + 1) = some (seqObj "list" vs.toArray 0) := by
    rw [← hsz]; exact Heap.get?_push_size _ rfl
  have keep : ∀ b o, s.heap.get? b = some o → (H.push (seqObj "list" vs.toArray 0)).get? b = some o := fun b o x => Heap.get?_push_of_some _ (up1 b o x)
  have hL : L < s.heap.objs.size := F.ns.lt
  show wpAny _ _ _ _ _ { s with heap := H.push (seqObj "list" vs.toArray 0) }
  rw [hsz]
  refine wpAny_bind (wpAny_holding (wpAny_call_entry_kw slot_list_sort ⟨_, hoL, rfl⟩ entry_list_sort ?body (ksk_l1 _ _)))
  show wpAny (model prog w) A.in1.in1 (Builtin.«list.sort» ⟨[.ref (s.heap.objs.size + 1)], [(Str.ofString "key", .ref q)]⟩) _ _ _
  rw [ksk_t1]
  refine srt_sort (s := { s with heap := H.push (seqObj "list" vs.toArray 0) }) (F.kept keep) (N.grown keep) hoL (Nat.ne_of_gt (Nat.lt_succ_of_lt hL)) (Heap.get?_none_of_le (Nat.le_trans F.above (Nat.le_succ_of_le (Nat.le_of_lt hL))))
    (fun p hp => Nat.ne_of_lt (Nat.lt_succ_of_lt (Heap.lt_size (N p hp).1))) hlen h2 h64 turn fun h' tk p c I' F' N' => ⟨_, rfl, ?_⟩
  exact wpAny_pure ⟨_, rfl, h _ h' tk p c I' F' N'⟩
end
end Mine
namespace Mine
open PySem PySem.W PyProof.Rows PySem.Spec PySem.Calls
def ptD (P : Pt) : PyData := .tuple [.int P.x, .int P.y, .int P.z, .int P.k]
def rowD (r : List APt) : PyData := .list (r.map fun a => ptD a.2)
theorem row_lay : ∀ r : List APt, PyData.canLayAll0 (r.map fun a => ptD a.2) = true
  | [] => rfl
  | _ :: r => by
    have := row_lay r
    simp only [ptD] at this
    simp [PyData.canLayAll0, PyData.canLay0, ptD, this]
theorem row_depth : ∀ r : List APt, PyData.depthAll (r.map fun a => ptD a.2) ≤ 2
  | [] => by decide
  | _ :: r => by
    have := row_depth r
    simp only [List.map_cons, PyData.depthAll, ptD, PyData.depth]
    simp only [ptD] at this
    omega
theorem row_shaped (r : List APt) : SeqAt.shaped (rowD r) = true := by
  have h1 := row_depth r
  have h2 : PyData.depth (rowD r) ≤ 64 := by simp only [rowD, PyData.depth]; omega
  show (PyData.canLay0 (rowD r) && decide (PyData.depth (rowD r) ≤ 64)) = true
  rw [Bool.and_eq_true]
  exact ⟨by simp only [rowD, PyData.canLay0]; exact row_lay r, decide_eq_true h2⟩
theorem row_noMix : ∀ r : List APt, SeqAt.noMixAll (r.map fun a => ptD a.2) (r.map fun a => ptD a.2) = true
  | [] => by simp [SeqAt.noMixAll]
  | _ :: r => by
    have := row_noMix r
    simp only [ptD] at this
    simp [SeqAt.noMixAll, SeqAt.noMix, ptD, this]
section
variable {prog : Program} {w : World} {A : Around} {E : Value → Shared → Prop} {s : Shared} {h₀ : Heap} {L l b : Addr} {m : Str → Option Value} {led : Led} {r : List APt} {e e2 : Nat} {Q : Value → Shared → Prop}
theorem row_reads (N : News h₀ L s.heap led) : ∀ (r : List APt), (∀ a ∈ r, (a.1, ({ cls := .type "tuple", data := .seq #[.int a.2.x a.2.tx, .int a.2.y a.2.ty, .int a.2.z a.2.tz, .int a.2.k a.2.tk] a.2.e } : Obj)) ∈ led) →
    ∃ as, ReadsAll s.heap (refs r) (r.map fun a => ptD a.2) as
  | [], _ => ⟨_, .nil⟩
  | a :: r, h => by
    obtain ⟨as, ih⟩ := row_reads N r fun b hb => h b (List.mem_cons_of_mem _ hb)
    exact ⟨_, .cons (reads_tuple_at (N _ (h a List.mem_cons_self)).1 rfl rfl (.cons (.int _ _) (.cons (.int _ _) (.cons (.int _ _) (.cons (.int _ _) .nil))))) ih⟩
theorem eq_rows (N : News h₀ L s.heap led) (hl : (l, listO (refs r) e) ∈ led) (hb : (b, listO (refs r) e2) ∈ led)
    (hr : ∀ a ∈ r, (a.1, ({ cls := .type "tuple", data := .seq #[.int a.2.x a.2.tx, .int a.2.y a.2.ty, .int a.2.z a.2.tz, .int a.2.k a.2.tk] a.2.e } : Obj)) ∈ led) (hu : A.units + 64 < cLine) (h : Q (.bool true) s) :
    wpAny (model prog w) A (compareOp .Eq (.ref l) (.ref b)) Q E s := by
  obtain ⟨as, R⟩ := row_reads N r hr
  refine eq_dataH_same (da := rowD r) (db := rowD r) (reads_list_at (N _ hl).1 rfl rfl (by simpa using R)) (reads_list_at (N _ hb).1 rfl rfl (by simpa using R)) (row_shaped r) (row_shaped r) hu ?_ ?_
  · simp only [rowD, SeqAt.noMix]; exact row_noMix r
  · rw [Spec.same_self]; exact h
end
abbrev wv (a : APt) : Int := wov a.2.x a.2.y a.2.z [15, 14, 13, 12, 11, 10, 9, 8, 7, 6, 5, 4, 3, 2, 1, 0]
theorem sorted_use {w : World} {mean : ExcName → Option Value} {mg mb : Str → Option Value} {dp un : Nat} {gd : Option (List Code)} {cn : Str} {cs : Scope} {a : Addr} {ccd : Value} {cl : List (Str × Addr)} {outer : List Env} {A₀ : Around} {base h₀ : Heap} {L : Addr} {m : Str → Option Value} {s : Shared} {Q E : Value → Shared → Prop} {news : Led} {l : Addr} {e : Nat} {pts : List APt}
    (B : Below A₀ base outer h₀) (F : Fr h₀ L s.heap m) (X : (hd.heap_39 w.params).In h₀) (N : News h₀ L s.heap news) (T : Top hd.view_39 (looseW hd.view_39 []) mean mg mb h₀) (hk : cs.kind = .function)
    (hl : (l, listO (refs pts) e) ∈ news) (h2 : 2 ≤ pts.length) (h64 : pts.length < 64)
    (hpts : ∀ a ∈ pts, (a.1, ({ cls := .type "tuple", data := .seq #[.int a.2.x a.2.tx, .int a.2.y a.2.ty, .int a.2.z a.2.tz, .int a.2.k a.2.tk] a.2.e } : Obj)) ∈ news ∧ Pt.ok a.2) (hd : dp + 14 < recursionLimit) (hu : un + 200 < cLine)
    (ret : ∀ (D : Addr) (c : Nat) (p : Array Nat) (h' : Heap) (tk' : Nat), Inv pts.length (fun i => (pts.map wv).getD i 0) p pts.length → Fr h₀ L h' m → News h₀ L h' ((D, ({ cls := .type "list", data := .seq (p.map fun i => (refs pts).getD i .none) c } : Obj)) :: news) → Q (.ref D) { s with heap := h', toks := tk' }) :
    wpAny (model PySem.Challenge.rw_nb0009_01.row.prog w) (ktrTop dp un gd cn cs L a ccd cl outer) (call (.builtin "sorted") [.ref l] [(Str.ofString "key", .ref 92)]) Q E s := by
  have hz : (refs pts).length = pts.length := by simp
  refine srt_sorted (vs := refs pts) (kz := pts.map wv) F N (list_at N hl) (by simp) (by rw [hz]; exact h2) (by rw [hz]; exact h64) (fun i v k hv hkz h tk own F' N' => ?_) (fun D h' tk p c I' F' N' => ret D c p h' tk (by rw [← hz]; exact I') F' N')
  rw [List.getElem?_map] at hv hkz
  cases q : pts[i]? with
  | none => rw [q] at hv; cases hv
  | some P =>
    rw [q] at hv hkz
    cases hv
    cases hkz
    have hP := hpts P (List.mem_of_getElem? q)
    exact woven_use (w := w) (dp := dp) (un := un + 1 + 1) (s := { s with heap := h, toks := tk }) B F' X N' T hk (List.mem_append_left _ hP.1) hP.2.x hP.2.y hP.2.z (by omega) (by omega) fun t h' tk' F'' N'' => KskEnd.intro F'' N'' fun _ hp => hp
end Mine
namespace Mine
open PySem PySem.W PyProof.Rows PySem.Spec PySem.Calls
/-- a place put in ahead of the first one with a greater key -/
def insI (k : Nat → Int) : List Nat → Nat → List Nat
  | [], i => [i]
  | a :: r, i => if k i < k a then i :: a :: r else a :: insI k r i
theorem insI_perm {k : Nat → Int} (i : Nat) : ∀ r : List Nat, (insI k r i).Perm (i :: r)
  | [] => List.Perm.refl _
  | a :: r => by
    unfold insI
    split
    · exact List.Perm.refl _
    · exact ((insI_perm i r).cons a).trans (List.Perm.swap _ _ _)
theorem insI_pair {k : Nat → Int} {i : Nat} : ∀ {r : List Nat}, r.Pairwise (lex k) → (∀ a ∈ r, a < i) → (insI k r i).Pairwise (lex k)
  | [], _, _ => List.pairwise_singleton _ _
  | a :: r, h, hl => by
    obtain ⟨h1, h2⟩ := List.pairwise_cons.mp h
    unfold insI
    split
    · rename_i q
      refine List.pairwise_cons.mpr ⟨fun b hb => ?_, h⟩
      rcases List.mem_cons.mp hb with rfl | hb
      · exact .inl q
      · have := h1 b hb
        unfold lex at this ⊢
        omega
    · rename_i q
      refine List.pairwise_cons.mpr ⟨fun b hb => ?_, insI_pair h2 fun c hc => hl c (List.mem_cons_of_mem _ hc)⟩
      rcases List.mem_cons.mp ((insI_perm i r).mem_iff.mp hb) with rfl | hb
      · have := hl a List.mem_cons_self
        unfold lex
        omega
      · exact h1 b hb
theorem insI_all {k : Nat → Int} : ∀ n : Nat, ((List.range n).foldl (insI k) []).Pairwise (lex k) ∧ ((List.range n).foldl (insI k) []).Perm (List.range n)
  | 0 => ⟨List.Pairwise.nil, List.Perm.refl _⟩
  | n + 1 => by
    obtain ⟨h1, h2⟩ := insI_all (k := k) n
    rw [List.range_succ, List.foldl_append]
    refine ⟨insI_pair h1 fun a ha => ?_, ?_⟩
    · have := h2.mem_iff.mp ha
      simpa using this
    · exact (insI_perm n _).trans ((h2.cons n).trans (List.perm_append_singleton n _).symm)
theorem Inv.pair {N : Nat} {k : Nat → Int} {p : Array Nat} (h : Inv N k p N) : p.toList.Pairwise (lex k) := by
  rw [List.pairwise_iff_getElem]
  intro i j hi hj hij
  have hs := h.size
  rw [Array.length_toList] at hi hj
  have := h.ord i j hij (by omega)
  rw [gt_eq, gt_eq, Array.getElem?_eq_getElem hi, Array.getElem?_eq_getElem hj] at this
  simpa using this
/-- what is sorted so is what was put in so -/
theorem Inv.is {N : Nat} {k : Nat → Int} {p : Array Nat} (h : Inv N k p N) : p.toList = (List.range N).foldl (insI k) [] := by
  obtain ⟨h1, h2⟩ := insI_all (k := k) N
  refine List.Perm.eq_of_pairwise (le := lex k) (fun a b _ _ x y => ?_) h.pair h1 ((Array.perm_iff_toList_perm.mp h.perm).trans h2.symm)
  unfold lex at x y
  omega
end Mine
namespace Mine
open PySem PySem.W PyProof.Rows PySem.Spec PySem.Calls
/-- three numbers -/
structure T3 where
  a : Nat
  b : Nat
  c : Nat
structure T3.ok (P : T3) : Prop where
  a : P.a < 2 ^ 16
  b : P.b < 2 ^ 16
  c : P.c < 2 ^ 16
/-- the same from place t on -/
def eqv (t : Nat) (P R : T3) : Prop := P.a / 2 ^ t = R.a / 2 ^ t ∧ P.b / 2 ^ t = R.b / 2 ^ t ∧ P.c / 2 ^ t = R.c / 2 ^ t
theorem eqv.symm {t : Nat} {P R : T3} (h : eqv t P R) : eqv t R P := ⟨h.1.symm, h.2.1.symm, h.2.2.symm⟩
theorem eqv.trans {t : Nat} {P R S : T3} (h : eqv t P R) (g : eqv t R S) : eqv t P S := ⟨h.1.trans g.1, h.2.1.trans g.2.1, h.2.2.trans g.2.2⟩
/-- how often to halve until they are one -/
def dd (P R : T3) : Nat := max (bits (P.a ^^^ R.a)) (max (bits (P.b ^^^ R.b)) (bits (P.c ^^^ R.c)))
theorem dd_le {t : Nat} {P R : T3} : dd P R ≤ t ↔ eqv t P R := by
  unfold dd eqv
  rw [← bits_xor, ← bits_xor, ← bits_xor]
  omega
theorem dd_16 {P R : T3} (hP : P.ok) (hR : R.ok) : dd P R ≤ 16 := by
  rw [dd_le]
  unfold eqv
  rw [Nat.div_eq_of_lt hP.a, Nat.div_eq_of_lt hP.b, Nat.div_eq_of_lt hP.c, Nat.div_eq_of_lt hR.a, Nat.div_eq_of_lt hR.b, Nat.div_eq_of_lt hR.c]
  exact ⟨rfl, rfl, rfl⟩
/-- the woven number's first n threes of figures -/
def mrt (P : T3) : Nat → Nat
  | 0 => 0
  | n + 1 => 8 * mrt P n + (4 * (P.a / 2 ^ (15 - n) % 2) + 2 * (P.b / 2 ^ (15 - n) % 2) + P.c / 2 ^ (15 - n) % 2)
theorem half_pow (a s : Nat) : a / 2 ^ (s + 1) = a / 2 ^ s / 2 := by rw [Nat.pow_succ, Nat.div_div_eq_div_mul]
theorem dig0 {m m' x y z x' y' z' : Nat} (hx : x < 2) (hy : y < 2) (hz : z < 2) (hx' : x' < 2) (hy' : y' < 2) (hz' : z' < 2) : 8 * m + (4 * x + 2 * y + z) = 8 * m' + (4 * x' + 2 * y' + z') ↔ m = m' ∧ x = x' ∧ y = y' ∧ z = z' := by
  constructor
  · intro h
    have e0 : m = m' := by omega
    have e1 : x = x' := by omega
    have e2 : y = y' := by omega
    exact ⟨e0, e1, e2, by omega⟩
  · rintro ⟨rfl, rfl, rfl, rfl⟩; rfl
theorem dig1 {x y z x' y' z' : Nat} (hy : y < 2) (hz : z < 2) (hy' : y' < 2) (hz' : z' < 2) (ne : x ≠ x') : x < x' ↔ 4 * x + 2 * y + z < 4 * x' + 2 * y' + z' := by omega
theorem half_eq (u v : Nat) : u = v ↔ u / 2 = v / 2 ∧ u % 2 = v % 2 := by omega
theorem half_lt {u v : Nat} (h : u / 2 = v / 2) : u < v ↔ u % 2 < v % 2 := by omega
theorem lt2 (n : Nat) : n % 2 < 2 := Nat.mod_lt _ (by decide)
theorem mrt_eq {P R : T3} (hP : P.ok) (hR : R.ok) : ∀ n, n ≤ 16 → (mrt P n = mrt R n ↔ eqv (16 - n) P R)
  | 0, _ => by
    have := (dd_le (P := P) (R := R)).mp (dd_16 hP hR)
    exact ⟨fun _ => this, fun _ => rfl⟩
  | n + 1, hn => by
    have ih := mrt_eq hP hR n (by omega)
    obtain ⟨s, hs⟩ : ∃ s, s = 15 - n := ⟨_, rfl⟩
    have e1 : 16 - n = s + 1 := by omega
    have e2 : 16 - (n + 1) = s := by omega
    rw [e1] at ih
    unfold eqv at ih ⊢
    rw [half_pow, half_pow, half_pow, half_pow, half_pow, half_pow] at ih
    unfold mrt
    rw [e2, ← hs]
    generalize P.a / 2 ^ s = pa at *
    generalize P.b / 2 ^ s = pb at *
    generalize P.c / 2 ^ s = pc at *
    generalize R.a / 2 ^ s = ra at *
    generalize R.b / 2 ^ s = rb at *
    generalize R.c / 2 ^ s = rc at *
    rw [dig0 (lt2 _) (lt2 _) (lt2 _) (lt2 _) (lt2 _) (lt2 _), ih, half_eq pa ra, half_eq pb rb, half_eq pc rc]
    constructor
    · rintro ⟨⟨a, b, c⟩, x, y, z⟩; exact ⟨⟨a, x⟩, ⟨b, y⟩, c, z⟩
    · rintro ⟨⟨a, x⟩, ⟨b, y⟩, c, z⟩; exact ⟨⟨a, b, c⟩, x, y, z⟩
theorem mrt_down {P R : T3} {n : Nat} : ∀ k, mrt P (n + k) ≤ mrt R (n + k) → mrt P n ≤ mrt R n
  | 0, h => h
  | k + 1, h => by
    refine mrt_down k ?_
    have h' : mrt P (n + k + 1) ≤ mrt R (n + k + 1) := h
    unfold mrt at h'
    omega
/-- between two that are the same from place t on lie such ones alone -/
theorem between {P R S : T3} (hP : P.ok) (hR : R.ok) (hS : S.ok) {t : Nat} (h : eqv t P S) (h1 : mrt P 16 ≤ mrt R 16) (h2 : mrt R 16 ≤ mrt S 16) : eqv t P R := by
  rcases Nat.lt_or_ge 16 t with q | q
  · exact dd_le.mp (Nat.le_trans (dd_16 hP hR) (by omega))
  · have e : 16 - (16 - t) = t := by omega
    have m1 := mrt_eq hP hS (16 - t) (by omega)
    have m2 := mrt_eq hP hR (16 - t) (by omega)
    rw [e] at m1 m2
    have d1 := mrt_down (P := P) (R := R) (n := 16 - t) t (by rw [show 16 - t + t = 16 by omega]; exact h1)
    have d2 := mrt_down (P := R) (R := S) (n := 16 - t) t (by rw [show 16 - t + t = 16 by omega]; exact h2)
    have := m1.mpr h
    exact m2.mp (by omega)
/-- which one is first, by the first place of the greatest height -/
def fst3 (P R : T3) : Bool := match (if bits (P.b ^^^ R.b) ≤ bits (P.a ^^^ R.a) ∧ bits (P.c ^^^ R.c) ≤ bits (P.a ^^^ R.a) then 0 else if bits (P.a ^^^ R.a) ≤ bits (P.b ^^^ R.b) ∧ bits (P.c ^^^ R.c) ≤ bits (P.b ^^^ R.b) then 1 else 2 : Nat) with
  | 0 => decide (P.a < R.a)
  | 1 => decide (P.b < R.b)
  | _ => decide (P.c < R.c)
theorem lt_of_div {x y t : Nat} (h : x / t < y / t) : x < y := by
  rcases Nat.lt_or_ge x y with q | q
  · exact q
  · have := Nat.div_le_div_right (c := t) q; omega
theorem lt_iff_div {x y s : Nat} (h : x / 2 ^ s ≠ y / 2 ^ s) : x < y ↔ x / 2 ^ s < y / 2 ^ s := by
  constructor
  · intro q
    have := Nat.div_le_div_right (c := 2 ^ s) (Nat.le_of_lt q); omega
  · exact lt_of_div
theorem max3 {n A B C : Nat} (h : n = max A (max B C)) : A ≤ n ∧ B ≤ n ∧ C ≤ n ∧ (A = n ∨ B = n ∨ C = n) := by omega
theorem mrt_lt {P R : T3} (hP : P.ok) (hR : R.ok) : fst3 P R = decide (mrt P 16 < mrt R 16) := by
  have a1 := fun t => bits_xor (a := P.a) (b := R.a) (t := t)
  have b1 := fun t => bits_xor (a := P.b) (b := R.b) (t := t)
  have c1 := fun t => bits_xor (a := P.c) (b := R.c) (t := t)
  have d16 := dd_16 hP hR
  have dl : ∀ t, dd P R ≤ t ↔ eqv t P R := fun t => dd_le
  have hdd : dd P R = max (bits (P.a ^^^ R.a)) (max (bits (P.b ^^^ R.b)) (bits (P.c ^^^ R.c))) := rfl
  generalize hA : bits (P.a ^^^ R.a) = A at *
  generalize hB : bits (P.b ^^^ R.b) = B at *
  generalize hC : bits (P.c ^^^ R.c) = C at *
  by_cases hz : dd P R = 0
  · have e := (dl 0).mp (by omega)
    have m := (mrt_eq hP hR 16 (Nat.le_refl _)).mpr e
    unfold eqv at e
    simp only [Nat.pow_zero, Nat.div_one] at e
    unfold fst3
    rw [hA, hB, hC, if_pos (by omega), e.1, m]
    simp
  · obtain ⟨s, hs⟩ : ∃ s, s + 1 = dd P R := ⟨dd P R - 1, by omega⟩
    have u1 := (mrt_eq hP hR (16 - (s + 1)) (by omega))
    rw [show 16 - (16 - (s + 1)) = s + 1 by omega] at u1
    have u2 := u1.mpr ((dl (s + 1)).mp (by omega))
    have v1 := (mrt_eq hP hR (16 - (s + 1) + 1) (by omega))
    rw [show 16 - (16 - (s + 1) + 1) = s by omega] at v1
    have v2 : ¬ mrt P (16 - (s + 1) + 1) = mrt R (16 - (s + 1) + 1) := fun q => by
      have := (dl s).mpr (v1.mp q); omega
    have up : mrt P 16 < mrt R 16 ↔ mrt P (16 - (s + 1) + 1) < mrt R (16 - (s + 1) + 1) := by
      have e : 16 - (s + 1) + 1 + s = 16 := by omega
      have d1 := mrt_down (P := P) (R := R) (n := 16 - (s + 1) + 1) s
      have d2 := mrt_down (P := R) (R := P) (n := 16 - (s + 1) + 1) s
      rw [e] at d1 d2
      constructor
      · intro q; have := d1 (by omega); omega
      · intro q
        rcases Nat.lt_or_ge (mrt P 16) (mrt R 16) with z | z
        · exact z
        · have := d2 z; omega
    have step : mrt P (16 - (s + 1) + 1) < mrt R (16 - (s + 1) + 1) ↔ 4 * (P.a / 2 ^ s % 2) + 2 * (P.b / 2 ^ s % 2) + P.c / 2 ^ s % 2 < 4 * (R.a / 2 ^ s % 2) + 2 * (R.b / 2 ^ s % 2) + R.c / 2 ^ s % 2 := by
      unfold mrt
      rw [show 15 - (16 - (s + 1)) = s by omega, u2]
      omega
    obtain ⟨mA, mB, mC, mx⟩ := max3 (hs.trans hdd)
    have ea := (a1 (s + 1)).mp mA
    have eb := (b1 (s + 1)).mp mB
    have ec := (c1 (s + 1)).mp mC
    rw [half_pow, half_pow] at ea eb ec
    have ea' := a1 s
    have eb' := b1 s
    have ec' := c1 s
    have la := lt_iff_div (x := P.a) (y := R.a) (s := s)
    have lb := lt_iff_div (x := P.b) (y := R.b) (s := s)
    have lc := lt_iff_div (x := P.c) (y := R.c) (s := s)
    rw [Bool.eq_iff_iff, decide_eq_true_iff, up, step]
    unfold fst3
    rw [hA, hB, hC]
    generalize P.a / 2 ^ s = pa at *
    generalize P.b / 2 ^ s = pb at *
    generalize P.c / 2 ^ s = pc at *
    generalize R.a / 2 ^ s = ra at *
    generalize R.b / 2 ^ s = rb at *
    generalize R.c / 2 ^ s = rc at *
    clear up step u1 u2 v1 v2 dl a1 b1 c1 hA hB hC hP hR hdd d16 hz hs
    rcases Decidable.em (B ≤ A ∧ C ≤ A) with z | z
    · rw [if_pos z]
      show decide (P.a < R.a) = true ↔ _
      have ne : pa ≠ ra := fun q => by have := ea'.mpr q; clear la lb lc eb ec ea ea' eb' ec'; omega
      rw [decide_eq_true_iff, la ne, half_lt ea]
      exact dig1 (lt2 _) (lt2 _) (lt2 _) (lt2 _) fun q => ne ((half_eq _ _).mpr ⟨ea, q⟩)
    · rw [if_neg z]
      rcases Decidable.em (A ≤ B ∧ C ≤ B) with z2 | z2
      · rw [if_pos z2]
        show decide (P.b < R.b) = true ↔ _
        have ne : pb ≠ rb := fun q => by have := eb'.mpr q; clear la lb lc eb ec ea ea' eb' ec'; omega
        have e1 : pa = ra := ea'.mp (by clear la lb lc eb ec ea ea' eb' ec'; omega)
        have ne2 : pb % 2 ≠ rb % 2 := fun q => ne ((half_eq _ _).mpr ⟨eb, q⟩)
        rw [decide_eq_true_iff, lb ne, half_lt eb, e1]
        have := lt2 pc
        have := lt2 rc
        clear la lb lc ea' eb' ec' z z2 mA mB mC mx eb ec ea
        omega
      · rw [if_neg z2]
        show decide (P.c < R.c) = true ↔ _
        have ne : pc ≠ rc := fun q => by have := ec'.mpr q; clear la lb lc eb ec ea ea' eb' ec'; omega
        have e1 : pa = ra := ea'.mp (by clear la lb lc eb ec ea ea' eb' ec'; omega)
        have e2 : pb = rb := eb'.mp (by clear la lb lc eb ec ea ea' eb' ec'; omega)
        rw [decide_eq_true_iff, lc ne, half_lt ec, e1, e2]
        exact (Nat.add_lt_add_iff_left).symm
end Mine
namespace Mine
open PySem PySem.W PyProof.Rows PySem.Spec PySem.Calls
def t3 (P : Pt) : T3 := ⟨P.x.toNat, P.y.toNat, P.z.toNat⟩
theorem t3_ok {P : Pt} (h : Pt.ok P) : (t3 P).ok := ⟨by have := h.x.1; have := h.x.2; show P.x.toNat < 65536; omega, by have := h.y.1; have := h.y.2; show P.y.toNat < 65536; omega, by have := h.z.1; have := h.z.2; show P.z.toNat < 65536; omega⟩
theorem bef_fst {P R : APt} (hP : Pt.ok P.2) (hR : Pt.ok R.2) : bef P R = fst3 (t3 P.2) (t3 R.2) := by
  unfold bef befB top3 fst3
  rw [hbit_eq hP.x.1 hR.x.1, hbit_eq hP.y.1 hR.y.1, hbit_eq hP.z.1 hR.z.1]
  have x1 := hP.x.1
  have x2 := hP.y.1
  have x3 := hP.z.1
  have y1 := hR.x.1
  have y2 := hR.y.1
  have y3 := hR.z.1
  show _ = match (if bits (P.2.y.toNat ^^^ R.2.y.toNat) ≤ bits (P.2.x.toNat ^^^ R.2.x.toNat) ∧ bits (P.2.z.toNat ^^^ R.2.z.toNat) ≤ bits (P.2.x.toNat ^^^ R.2.x.toNat) then 0 else if bits (P.2.x.toNat ^^^ R.2.x.toNat) ≤ bits (P.2.y.toNat ^^^ R.2.y.toNat) ∧ bits (P.2.z.toNat ^^^ R.2.z.toNat) ≤ bits (P.2.y.toNat ^^^ R.2.y.toNat) then 1 else 2 : Nat) with
    | 0 => decide (P.2.x.toNat < R.2.x.toNat)
    | 1 => decide (P.2.y.toNat < R.2.y.toNat)
    | _ => decide (P.2.z.toNat < R.2.z.toNat)
  generalize bits (P.2.x.toNat ^^^ R.2.x.toNat) = A
  generalize bits (P.2.y.toNat ^^^ R.2.y.toNat) = B
  generalize bits (P.2.z.toNat ^^^ R.2.z.toNat) = C
  by_cases z : B ≤ A ∧ C ≤ A
  · rw [if_pos z, if_pos (by omega)]
    exact decide_eq_decide.mpr (by omega)
  · rw [if_neg z, if_neg (by omega)]
    by_cases z2 : A ≤ B ∧ C ≤ B
    · rw [if_pos z2, if_pos (by omega)]
      exact decide_eq_decide.mpr (by omega)
    · rw [if_neg z2, if_neg (by omega)]
      exact decide_eq_decide.mpr (by omega)
theorem stp_nat {x : Int} (hx : 0 ≤ x) (w p : Nat) : stp x (w : Int) (p : Int) = ((2 * w + x.toNat / 2 ^ p % 2 : Nat) : Int) := by
  unfold stp
  obtain ⟨n, rfl⟩ : ∃ n : Nat, x = n := ⟨x.toNat, by omega⟩
  have e1 : ((2 : Int) ^ (p : Int).toNat) = ((2 ^ p : Nat) : Int) := by simp
  have e2 : (n : Int).fdiv ((2 ^ p : Nat) : Int) = ((n / 2 ^ p : Nat) : Int) := by
    rw [Int.fdiv_eq_ediv_of_nonneg _ (Int.natCast_nonneg _)]; simp
  rw [e1, e2, Int.fmod_eq_emod_of_nonneg _ (by decide), Int.toNat_natCast]
  omega
theorem wov_nat {P : Pt} (h : Pt.ok P) : ∀ n, wov P.x P.y P.z ((List.range n).map fun i => ((15 - i : Nat) : Int)) = (mrt (t3 P) n : Int)
  | 0 => rfl
  | n + 1 => by
    have ih := wov_nat h n
    rw [List.range_succ, List.map_append]
    unfold wov at ih ⊢
    rw [List.foldl_append, ih]
    show stp P.z (stp P.y (stp P.x (mrt (t3 P) n : Int) ((15 - n : Nat) : Int)) ((15 - n : Nat) : Int)) ((15 - n : Nat) : Int) = _
    rw [stp_nat h.x.1, stp_nat h.y.1, stp_nat h.z.1]
    conv => rhs; unfold mrt
    show _ = ((8 * mrt (t3 P) n + (4 * (P.x.toNat / 2 ^ (15 - n) % 2) + 2 * (P.y.toNat / 2 ^ (15 - n) % 2) + P.z.toNat / 2 ^ (15 - n) % 2) : Nat) : Int)
    omega
theorem wv_nat {a : APt} (h : Pt.ok a.2) : wv a = (mrt (t3 a.2) 16 : Int) := by
  rw [← wov_nat h 16]; rfl
theorem bef_wv {P R : APt} (hP : Pt.ok P.2) (hR : Pt.ok R.2) : bef P R = decide (wv P < wv R) := by
  rw [bef_fst hP hR, mrt_lt (t3_ok hP) (t3_ok hR), wv_nat hP, wv_nat hR]
  exact decide_eq_decide.mpr (by omega)
/-- the point of a place -/
def ptAt (pts : List APt) (i : Nat) : APt := pts.getD i (0, ⟨0, 0, 0, 0, 0, 0, 0, 0, 0⟩)
theorem ptAt_ok {pts : List APt} (hok : ∀ a ∈ pts, Pt.ok a.2) (i : Nat) : Pt.ok (ptAt pts i).2 := by
  unfold ptAt
  rw [List.getD_eq_getElem?_getD]
  cases h : pts[i]? with
  | none => exact ⟨⟨by decide, by decide⟩, ⟨by decide, by decide⟩, ⟨by decide, by decide⟩⟩
  | some a => exact hok a (List.mem_of_getElem? h)
theorem ins_map {pts : List APt} (hok : ∀ a ∈ pts, Pt.ok a.2) (i : Nat) : ∀ q : List Nat, ins (q.map (ptAt pts)) (ptAt pts i) = (insI (fun i => wv (ptAt pts i)) q i).map (ptAt pts)
  | [] => rfl
  | j :: q => by
    have ih := ins_map hok i q
    show (if bef (ptAt pts i) (ptAt pts j) then ptAt pts i :: ptAt pts j :: q.map (ptAt pts) else ptAt pts j :: ins (q.map (ptAt pts)) (ptAt pts i)) = _
    unfold insI
    rw [bef_wv (ptAt_ok hok i) (ptAt_ok hok j), ih]
    by_cases h : wv (ptAt pts i) < wv (ptAt pts j)
    · rw [if_pos (by simpa using h), if_pos h]; rfl
    · rw [if_neg (by simpa using h), if_neg h]; rfl
theorem fold_map {pts : List APt} (hok : ∀ a ∈ pts, Pt.ok a.2) : ∀ (l q : List Nat), (l.map (ptAt pts)).foldl ins (q.map (ptAt pts)) = (l.foldl (insI (fun i => wv (ptAt pts i))) q).map (ptAt pts)
  | [], _ => rfl
  | i :: l, q => by
    show (l.map (ptAt pts)).foldl ins (ins (q.map (ptAt pts)) (ptAt pts i)) = _
    rw [ins_map hok, fold_map hok l]; rfl
theorem pts_map (pts : List APt) : (List.range pts.length).map (ptAt pts) = pts := by
  apply List.ext_getElem
  · simp
  · intro i h1 h2
    rw [List.getElem_map, List.getElem_range]
    unfold ptAt
    rw [List.getD_eq_getElem?_getD, List.getElem?_eq_getElem h2]; rfl
theorem row_is {pts : List APt} (hok : ∀ a ∈ pts, Pt.ok a.2) : pts.foldl ins [] = ((List.range pts.length).foldl (insI (fun i => wv (ptAt pts i))) []).map (ptAt pts) := by
  have := fold_map hok (List.range pts.length) []
  rw [pts_map] at this
  exact this
theorem sort_eq {pts : List APt} {p : Array Nat} (hok : ∀ a ∈ pts, Pt.ok a.2) (h : Inv pts.length (fun i => (pts.map wv).getD i 0) p pts.length) : p.map (fun i => (refs pts).getD i .none) = (refs (pts.foldl ins [])).toArray := by
  have hlt : ∀ i ∈ p.toList, i < pts.length := fun i hi => by
    have := (Array.perm_iff_toList_perm.mp h.perm).mem_iff.mp hi
    simpa using this
  have hkey : ∀ i, i < pts.length → (pts.map wv).getD i 0 = wv (ptAt pts i) := fun i hi => by
    unfold ptAt
    rw [List.getD_eq_getElem?_getD, List.getD_eq_getElem?_getD, List.getElem?_map, List.getElem?_eq_getElem hi, Option.map_some, Option.getD_some, Option.getD_some]
  have h' : Inv pts.length (fun i => wv (ptAt pts i)) p pts.length := by
    refine ⟨h.perm, h.size, h.low, fun i j hij hj => ?_, h.rest⟩
    have o := h.ord i j hij hj
    unfold lex at o ⊢
    dsimp only at o ⊢
    rw [hkey _ (h.low i (by omega)), hkey _ (h.low j hj)] at o
    exact o
  apply Array.ext'
  rw [Array.toList_map, row_is hok, ← h'.is]
  show _ = (p.toList.map (ptAt pts)).map fun a => Value.ref a.1
  rw [List.map_map]
  refine List.map_congr_left fun i hi => ?_
  have hi' := hlt i hi
  show (refs pts).getD i .none = Value.ref (ptAt pts i).1
  unfold ptAt
  rw [List.getD_eq_getElem?_getD, List.getD_eq_getElem?_getD, List.getElem?_map, List.getElem?_eq_getElem hi', Option.map_some, Option.getD_some, Option.getD_some]
theorem row_pair {pts : List APt} (hok : ∀ a ∈ pts, Pt.ok a.2) : (pts.foldl ins []).Pairwise fun a b => wv a ≤ wv b := by
  rw [row_is hok, List.pairwise_map]
  refine (insI_all pts.length).1.imp fun {i j} h => ?_
  unfold lex at h
  dsimp only at h
  omega
theorem row_ok {pts : List APt} (hok : ∀ a ∈ pts, Pt.ok a.2) : ∀ a ∈ pts.foldl ins [], Pt.ok a.2 := by
  rw [row_is hok]
  intro a ha
  obtain ⟨i, _, rfl⟩ := List.mem_map.mp ha
  exact ptAt_ok hok i
theorem row_len {pts : List APt} (hok : ∀ a ∈ pts, Pt.ok a.2) : (pts.foldl ins []).length = pts.length := by
  rw [row_is hok, List.length_map, (insI_all pts.length).2.length_eq, List.length_range]
theorem hgt_dd {P R : Pt} (hP : Pt.ok P) (hR : Pt.ok R) : hgt P R = (dd (t3 P) (t3 R) : Int) - 1 := by
  show mx3 (hbit P.x R.x) (hbit P.y R.y) (hbit P.z R.z) = _
  rw [hbit_eq hP.x.1 hR.x.1, hbit_eq hP.y.1 hR.y.1, hbit_eq hP.z.1 hR.z.1]
  unfold mx3 dd t3
  dsimp only
  omega
theorem dd_half (a b c a' b' c' : Nat) (t : Nat) : dd ⟨a / 2, b / 2, c / 2⟩ ⟨a' / 2, b' / 2, c' / 2⟩ ≤ t ↔ dd ⟨a, b, c⟩ ⟨a', b', c'⟩ ≤ t + 1 := by
  have h : ∀ n : Nat, n / 2 / 2 ^ t = n / 2 ^ (t + 1) := fun n => by rw [Nat.div_div_eq_div_mul, Nat.pow_succ, Nat.mul_comm]
  rw [dd_le, dd_le]
  unfold eqv
  dsimp only
  rw [h, h, h, h, h, h]
theorem dd_zero {a b c a' b' c' : Nat} : dd ⟨a, b, c⟩ ⟨a', b', c'⟩ ≤ 0 ↔ a = a' ∧ b = b' ∧ c = c' := by
  rw [dd_le]
  unfold eqv
  simp
theorem hlv_nat : ∀ (n a b c a' b' c' : Nat) (ht : Int), dd ⟨a, b, c⟩ ⟨a', b', c'⟩ < n → hlv n (a : Int) b c a' b' c' ht = ht + (dd ⟨a, b, c⟩ ⟨a', b', c'⟩ : Int)
  | 0, _, _, _, _, _, _, _, h => absurd h (Nat.not_lt_zero _)
  | n + 1, a, b, c, a', b', c', ht, h => by
    have z := dd_zero (a := a) (b := b) (c := c) (a' := a') (b' := b') (c' := c')
    have hf := fun t => dd_half a b c a' b' c' t
    have fd : ∀ m : Nat, (m : Int).fdiv 2 = ((m / 2 : Nat) : Int) := fun m => by
      rw [Int.fdiv_eq_ediv_of_nonneg _ (by decide)]; omega
    unfold hlv
    by_cases e : [(a : Int), b, c] = [(a' : Int), b', c']
    · rw [if_pos e]
      have := z.mpr (by simp only [List.cons.injEq, and_true] at e; omega)
      omega
    · rw [if_neg e]
      have ne : ¬ dd ⟨a, b, c⟩ ⟨a', b', c'⟩ ≤ 0 := fun q => e (by have := z.mp q; simp only [List.cons.injEq, and_true]; omega)
      have h1 := hf (dd ⟨a / 2, b / 2, c / 2⟩ ⟨a' / 2, b' / 2, c' / 2⟩)
      have h2 := hf (dd ⟨a, b, c⟩ ⟨a', b', c'⟩ - 1)
      rw [fd, fd, fd, fd, fd, fd, hlv_nat n _ _ _ _ _ _ _ (by omega)]
      omega
theorem hlv_dd {P R : Pt} (hP : Pt.ok P) (hR : Pt.ok R) : hlv 17 P.x P.y P.z R.x R.y R.z (-1) = (dd (t3 P) (t3 R) : Int) - 1 := by
  have h := hlv_nat 17 P.x.toNat P.y.toNat P.z.toNat R.x.toNat R.y.toNat R.z.toNat (-1) (Nat.lt_succ_of_le (dd_16 (t3_ok hP) (t3_ok hR)))
  rw [Int.toNat_of_nonneg hP.x.1, Int.toNat_of_nonneg hP.y.1, Int.toNat_of_nonneg hP.z.1, Int.toNat_of_nonneg hR.x.1, Int.toNat_of_nonneg hR.y.1, Int.toNat_of_nonneg hR.z.1] at h
  rw [h]
  show -1 + (dd (t3 P) (t3 R) : Int) = _
  omega
theorem steps_at (r : List APt) : stepsOf r = (List.range 6).map fun n => hgt (ptAt r n).2 (ptAt r (n + 1)).2 := by
  unfold stepsOf rangeKs
  rw [List.map_map]
  refine List.map_congr_left fun n _ => ?_
  have e1 : atR r (0 + (n : Int)) = ptAt r n := by unfold atR ptAt; rw [show (0 + (n : Int)).toNat = n by omega]
  have e2 : atR r (0 + (n : Int) + 1) = ptAt r (n + 1) := by unfold atR ptAt; rw [show (0 + (n : Int) + 1).toNat = n + 1 by omega]
  show hgt (atR r (0 + (n : Int))).2 (atR r (0 + (n : Int) + 1)).2 = _
  rw [e1, e2]
theorem mem_part {r : List APt} {i j x : Int} (h0 : 0 ≤ i) (h1 : i < j) (h2 : j < 7) : x ∈ part (stepsOf r) i j ↔ ∃ n : Nat, i.toNat ≤ n ∧ n < j.toNat ∧ x = hgt (ptAt r n).2 (ptAt r (n + 1)).2 := by
  rw [steps_at]
  unfold part
  constructor
  · intro h
    obtain ⟨k, hk⟩ := List.getElem?_of_mem h
    rw [List.getElem?_take] at hk
    split at hk
    · rw [List.getElem?_drop, List.getElem?_map] at hk
      cases q : (List.range 6)[i.toNat + k]? with
      | none => rw [q] at hk; cases hk
      | some n =>
        rw [q] at hk
        obtain ⟨_, e⟩ := List.getElem?_eq_some_iff.mp q
        rw [List.getElem_range] at e
        exact ⟨n, by omega, by omega, (Option.some.inj hk).symm⟩
    · cases hk
  · rintro ⟨n, a, b, rfl⟩
    refine List.mem_of_getElem? (i := n - i.toNat) ?_
    rw [List.getElem?_take, if_pos (by omega), List.getElem?_drop, List.getElem?_map, show i.toNat + (n - i.toNat) = n by omega, List.getElem?_eq_getElem (by rw [List.length_range]; omega), List.getElem_range]
    rfl
theorem nest_eq {pts : List APt} (hok : ∀ a ∈ pts, Pt.ok a.2) (h7 : pts.length = 7) : ∀ i j M : Int, 0 ≤ i → i < j → j < 7 → M ∈ part (stepsOf (pts.foldl ins [])) i j → (∀ x, x ∈ part (stepsOf (pts.foldl ins [])) i j → x ≤ M) →
    M = hlv 17 (atR (pts.foldl ins []) i).2.x (atR (pts.foldl ins []) i).2.y (atR (pts.foldl ins []) i).2.z (atR (pts.foldl ins []) j).2.x (atR (pts.foldl ins []) j).2.y (atR (pts.foldl ins []) j).2.z (-1) := by
  intro i j M h0 h1 h2 hM hle
  have hr := row_ok hok
  have hl := row_len hok
  have hp := row_pair hok
  generalize pts.foldl ins [] = r at *
  have ok : ∀ n, Pt.ok (ptAt r n).2 := ptAt_ok hr
  have mono : ∀ a b, a ≤ b → b < 7 → mrt (t3 (ptAt r a).2) 16 ≤ mrt (t3 (ptAt r b).2) 16 := fun a b hab hb => by
    rcases Nat.lt_or_ge a b with q | q
    · have := List.pairwise_iff_getElem.mp hp a b (by omega) (by omega) q
      have ea : ptAt r a = r[a]'(by omega) := by unfold ptAt; rw [List.getD_eq_getElem?_getD, List.getElem?_eq_getElem (by omega)]; rfl
      have eb : ptAt r b = r[b]'(by omega) := by unfold ptAt; rw [List.getD_eq_getElem?_getD, List.getElem?_eq_getElem (by omega)]; rfl
      rw [← ea, ← eb, wv_nat (ok a), wv_nat (ok b)] at this
      omega
    · have : a = b := by omega
      subst this; omega
  show M = hlv 17 (ptAt r i.toNat).2.x (ptAt r i.toNat).2.y (ptAt r i.toNat).2.z (ptAt r j.toNat).2.x (ptAt r j.toNat).2.y (ptAt r j.toNat).2.z (-1)
  rw [hlv_dd (ok _) (ok _)]
  obtain ⟨n, a, b, e⟩ := (mem_part h0 h1 h2).mp hM
  have hM2 : M = (dd (t3 (ptAt r n).2) (t3 (ptAt r (n + 1)).2) : Int) - 1 := by rw [e, hgt_dd (ok _) (ok _)]
  have lo : dd (t3 (ptAt r n).2) (t3 (ptAt r (n + 1)).2) ≤ dd (t3 (ptAt r i.toNat).2) (t3 (ptAt r j.toNat).2) := by
    rw [dd_le]
    have g := dd_le.mp (Nat.le_refl (dd (t3 (ptAt r i.toNat).2) (t3 (ptAt r j.toNat).2)))
    have g1 := between (R := t3 (ptAt r n).2) (t3_ok (ok _)) (t3_ok (ok _)) (t3_ok (ok _)) g (mono _ _ a (by omega)) (mono _ _ (by omega) (by omega))
    have g2 := between (R := t3 (ptAt r (n + 1)).2) (t3_ok (ok _)) (t3_ok (ok _)) (t3_ok (ok _)) g (mono _ _ (by omega) (by omega)) (mono _ _ (by omega) (by omega))
    exact g1.symm.trans g2
  have hi : dd (t3 (ptAt r i.toNat).2) (t3 (ptAt r j.toNat).2) ≤ dd (t3 (ptAt r n).2) (t3 (ptAt r (n + 1)).2) := by
    rw [dd_le]
    have chain : ∀ d, i.toNat + d ≤ j.toNat → eqv (dd (t3 (ptAt r n).2) (t3 (ptAt r (n + 1)).2)) (t3 (ptAt r i.toNat).2) (t3 (ptAt r (i.toNat + d)).2) := by
      intro d
      induction d with
      | zero => intro _; exact ⟨rfl, rfl, rfl⟩
      | succ d ih =>
        intro hd
        refine (ih (by omega)).trans (dd_le.mp ?_)
        have := hle _ ((mem_part h0 h1 h2).mpr ⟨i.toNat + d, by omega, by omega, rfl⟩)
        rw [hgt_dd (ok _) (ok _)] at this
        have e3 : i.toNat + (d + 1) = i.toNat + d + 1 := by omega
        rw [e3]
        omega
    have := chain (j.toNat - i.toNat) (by omega)
    rw [show i.toNat + (j.toNat - i.toNat) = j.toNat by omega] at this
    exact this
  omega
end Mine
namespace Mine
open PySem PySem.W PyProof.Rows PySem.Spec PySem.Calls
theorem Scr.of {h : Heap} {l : Addr} {vs : List Value} {ns : List Int} (hl : h.IsList l vs.toArray) (hi : IntsAre vs ns) (h63 : ¬ ((63 : Nat) : Int) < (ns.length : Int)) : Scr h l vs ns := ⟨hl, hi, by rw [hi.length]; omega⟩
theorem Among.pts {r pts : List APt} {n : Nat} {X : APt → Prop} (hA : Among r pts n) (h : ∀ a ∈ pts, X a) : ∀ a ∈ r, X a := fun a ha => h a (hA.sub a ha)
theorem mem_refs7 {l : Addr} {e : Nat} {led : Led} {P1 P2 P3 P4 P5 P6 P7 : APt} (h : (l, ({ cls := .type "list", data := .seq #[Value.ref P1.1, Value.ref P2.1, Value.ref P3.1, Value.ref P4.1, Value.ref P5.1, Value.ref P6.1, Value.ref P7.1] e } : Obj)) ∈ led) : (l, listO (refs [P1, P2, P3, P4, P5, P6, P7]) e) ∈ led := h
theorem sorted_row {w : World} {mean : ExcName → Option Value} {mg mb : Str → Option Value} {dp un : Nat} {gd : Option (List Code)} {cn : Str} {cs : Scope} {a : Addr} {ccd : Value} {cl : List (Str × Addr)} {outer : List Env} {A₀ : Around} {base h₀ : Heap} {L : Addr} {m : Str → Option Value} {s : Shared} {Q E : Value → Shared → Prop} {news : Led} {l : Addr} {e : Nat} {r pts : List APt} {n : Nat}
    (B : Below A₀ base outer h₀) (F : Fr h₀ L s.heap m) (X : (hd.heap_39 w.params).In h₀) (N : News h₀ L s.heap news) (T : Top hd.view_39 (looseW hd.view_39 []) mean mg mb h₀) (hk : cs.kind = .function)
    (hA : Among r pts n) (hl : (l, listO (refs pts) e) ∈ news) (h7 : pts.length = 7)
    (hpts : ∀ a ∈ pts, (a.1, ({ cls := .type "tuple", data := .seq #[.int a.2.x a.2.tx, .int a.2.y a.2.ty, .int a.2.z a.2.tz, .int a.2.k a.2.tk] a.2.e } : Obj)) ∈ news ∧ Pt.ok a.2) (hd : dp + 14 < recursionLimit) (hu : un + 200 < cLine)
    (ret : ∀ (D : Addr) (c : Nat) (h' : Heap) (tk' : Nat), Fr h₀ L h' m → News h₀ L h' ((D, listO (refs (pts.foldl ins [])) c) :: news) → Q (.ref D) { s with heap := h', toks := tk' }) :
    wpAny (model PySem.Challenge.rw_nb0009_01.row.prog w) (ktrTop dp un gd cn cs L a ccd cl outer) (call (.builtin "sorted") [.ref l] [(Str.ofString "key", .ref 92)]) Q E s :=
  sorted_use B F X N T hk hl (by omega) (by omega) hpts hd hu fun D c p h' tk' I' F' N' => ret D c h' tk' F' (by rw [sort_eq (fun a ha => (hpts a ha).2) I'] at N'; exact N')
end Mine
namespace Mine
open PySem PySem.W PyProof.Rows PySem.Spec PySem.Calls

theorem law_holds : PySem.Challenge.rw_nb0009_01.Holds := by
  refine hd ?_
  k_go0
  (all_goals try k_fold)
  repeat' ((fail_if_success (with_reducible show wpAny _ _ (PySem.call (Value.ref 54) _) _ _ _)); first | (k_unfold; (try dsimp only)) | (k_end; wrow_close) | walk1 | (dsimp only; walk1) | (leave1; try dsimp only))
  k_dflt (refine' points_use (by k_asm) (by k_asm) (by k_asm) (by k_asm) (by k_asm) (by first | exact rfl | assumption) (by exact Scr.of (by assumption) (by assumption) (by assumption)) (by ktr_room) (by ktr_units) ?_)
  intro P1 P2 P3 P4 P5 P6 P7 D9 e9 h9 tk9 oP1 oP2 oP3 oP4 oP5 oP6 oP7 F9 N9
  (try simp only [List.cons_append, List.nil_append] at N9)
  (try dsimp only)
  (try k_fold)
  repeat' ((fail_if_success (with_reducible show wpAny _ _ (PySem.call (Value.ref 85) _) _ _ _)); first | (k_unfold; (try dsimp only)) | (k_end; wrow_close) | walk1 | (dsimp only; walk1) | (leave1; try dsimp only))
  k_dflt (refine' row_use (by k_asm) (by k_asm) (by k_asm) (by k_asm) (by k_asm) (by first | exact rfl | assumption) (by kcf_m) (by kcf_m) (by assumption) (by kcf_m) (by assumption) (by kcf_m) (by assumption) (by kcf_m) (by assumption) (by kcf_m) (by assumption) (by kcf_m) (by assumption) (by kcf_m) (by assumption) (by ktr_room) (by ktr_units) ?_)
  intro D8 e8 h8 tk8 hA9 F8 N8
  (try dsimp only)
  (try k_fold)
  repeat' ((fail_if_success (with_reducible show wpAny _ _ (PySem.call (Value.builtin "sorted") _ _) _ _ _)); first | (k_unfold; (try dsimp only)) | (k_end; wrow_close) | walk1 | (dsimp only; walk1) | (leave1; try dsimp only))
  k_dflt (refine' sorted_row (by k_asm) (by k_asm) (by k_asm) (by k_asm) (by k_asm) (by first | exact rfl | assumption) (by exact hA9) (by exact mem_refs7 (by kcf_m)) (by rfl) (by repeat' (first | exact List.forall_mem_nil _ | refine List.forall_mem_cons.mpr ⟨⟨by kcf_m, by assumption⟩, ?_⟩)) (by ktr_room) (by ktr_units) ?_)
  intro D7 e7 h7 tk7 F7 N7
  (try dsimp only)
  (try k_fold)
  repeat' ((fail_if_success (with_reducible show wpAny _ _ (compareOp CmpOp.Eq (Value.ref _) (Value.ref _)) _ _ _)); first | (k_unfold; (try dsimp only)) | (k_end; wrow_close) | walk1 | (dsimp only; walk1) | (leave1; try dsimp only))
  k_dflt (refine' eq_rows (by k_asm) (by kcf_m) (by kcf_m) (by refine Among.pts hA9 ?_; repeat' (first | exact List.forall_mem_nil _ | refine List.forall_mem_cons.mpr ⟨by kcf_m, ?_⟩)) (by ktr_units) ?_)
  repeat' ((fail_if_success (with_reducible show wpAny _ _ (PySem.call (Value.ref 102) _) _ _ _)); first | (k_unfold; (try dsimp only)) | (k_end; wrow_close) | walk1 | (dsimp only; walk1) | (leave1; try dsimp only))
  k_dflt (refine' nested_use (by k_asm) (by k_asm) (by k_asm) (by k_asm) (by k_asm) (by first | exact rfl | assumption) (by kcf_m) (by refine Among.pts hA9 ?_; repeat' (first | exact List.forall_mem_nil _ | refine List.forall_mem_cons.mpr ⟨⟨by kcf_m, by assumption⟩, ?_⟩)) (by exact hA9.len) (by refine nest_eq ?_ rfl; repeat' (first | exact List.forall_mem_nil _ | refine List.forall_mem_cons.mpr ⟨by assumption, ?_⟩)) (by ktr_room) (by ktr_units) ?_)
  intro h6 tk6 F6 N6
  (try dsimp only)
  (try k_fold)
  repeat' ((fail_if_success (with_reducible show wpAny _ _ (PySem.call (Value.ref 116) _) _ _ _)); first | (k_unfold; (try dsimp only)) | (k_end; wrow_close) | walk1 | (dsimp only; walk1) | (leave1; try dsimp only))
  k_dflt (refine' by_sizes_use (by k_asm) (by k_asm) (by k_asm) (by k_asm) (by k_asm) (by first | exact rfl | assumption) (by kcf_m) (by refine Among.pts hA9 ?_; repeat' (first | exact List.forall_mem_nil _ | refine List.forall_mem_cons.mpr ⟨⟨by kcf_m, by assumption⟩, ?_⟩)) (by exact hA9.len) (by ktr_room) (by ktr_units) ?_)
  intro h5 tk5 F5 N5
  (try dsimp only)
  (try k_fold)
  k_steps
end Mine
theorem PySem.Challenge.cw_nb0009_01_holds : PySem.Challenge.rw_nb0009_01.Holds := by
  exact Mine.law_holds
